import PyProof.Rows.All
import Wide.All
import OpenK.AllK
import Wide.FinOn
import Lean
import PySem.Challenge.RW_kl0418_01
set_option Elab.async false
set_option linter.unusedVariables false
set_option linter.unusedSimpArgs false
set_option maxRecDepth 100000
set_option maxHeartbeats 8000000
set_option genInjectivity false
set_option genSizeOfSpec false
set_option bootstrap.genMatcherCode false
noncomputable section
open Nat renaming le_trans→zrn,lt_of_le_of_lt→zrt,le_refl→zrv,succ_pos→zrw,lt_of_lt_of_le→zry,lt_succ_self→zrD,le_add_right→zrI,le_of_lt→zrP,ne_of_gt→zrV,add_le_add→zrY,lt_trans→zrZ,zero_le→zr2,lt_or_ge→zr4,ne_of_lt→zr5,add_le_add_left→zr9,le_of_lt_succ→zsb,le_succ_of_le→zsc,min_eq_left→zse,mul_le_mul_left→zsg,lt_succ_of_lt→zsi,le_succ→zsl,le_of_eq→zss,add_comm→zst,le_of_not_lt→zsv,add_le_add_right→zsw,succ_pred_eq_of_pos→zsx,succ_le_succ→zsE,add_sub_cancel_left→zsN,add_assoc→zsO,not_lt→zsQ,pos_of_ne_zero→zsS,le_add_left→zsT,succ_ne_zero→zs3,sub_lt_sub_left→zs8,sub_self→zta,lt_succ_of_le→ztg,lt_of_succ_lt→zth,add_lt_of_lt_sub'→ztm,min_le_right→ztn,succ_lt_succ→zto,lt_irrefl→ztt,sub_le→ztu,not_le→ztv,div_le_self→ztw,le_antisymm→ztx,min_le_left→zty,not_lt_zero→ztA,mod_two_eq_zero_or_one→ztB,sub_add_cancel→ztD,sub_pos_of_lt→ztM,lt_add_of_pos_right→ztT,lt_of_not_le→ztX,sub_eq_zero_of_le→zt3,le_sub_of_add_le'→zt7,mul_succ→zt8,sub_le_sub_right→zub,eq_or_lt_of_le→zum,sub_lt→zur,succ_le_of_lt→zus,sub_zero→zuw,min_eq_right→zuz,succ_ne_self→zuC,div_add_mod→zuD,mod_lt→zu0,max_le→zu1
open List renaming length_append→zro,flatMap_cons→zrp,not_mem_nil→zrq,length_cons→zrr,mem_cons→zrs,getElem?_set_self→zru,append_assoc→zrx,length_nil→zrz,getElem?_append_left→zrC,append_nil→zrE,getElem?_append_right→zrF,getElem?_eq_getElem→zrG,getElem?_eq_none→zrH,length_set→zrK,mem_cons_of_mem→zrL,getD_eq_getElem?_getD→zrM,length_map→zrN,pairwise_cons→zrQ,map_append→zrR,getElem?_set_ne→zrT,mem_append→zrU,map_map→zrW,set_set→zrX,getElem?_eq_some_iff→zr0,flatMap_append→zr1,mem_singleton→zr3,getElem?_map→zr7,nil_append→zsf,length_pos_iff→zsh,length_filter_le→zsj,mem_range→zsk,map_cons→zsm,mem_cons_self→zsn,filter_cons_of_pos→zso,map_congr_left→zsq,replicate→zsy,mem_map→zsz,mem_range'_1→zsA,length→zsB,take_of_length_le→zsC,mem_append_right→zsG,mem_of_getElem?→zsH,forIn_cons→zsI,eraseIdx_eq_take_drop_succ→zsL,filter_cons_of_neg→zsP,range→zsR,set_append_right→zsV,exists_cons_of_length_eq_add_one→zs0,pairwise_append→zs1,take_length→zs2,all_eq_true→zs4,mem_flatMap→zs5,flatMap_nil→zs6,filter_cons→zs7,range_succ_eq_map→ztf,take_left→ztj,drop_left→ztk,length_singleton→ztl,any_eq_true→ztp,mem_append_left→zts,filter_append→ztG,forIn_nil→ztH,getLast?_eq_getElem?→ztJ,extract_eq_drop_take→ztK,drop_eq_getElem_cons→ztL,ext_getElem?→ztN,pairwise_mergeSort→ztU,getElem?_replicate→ztV,map_take→ztW,drop_eq_nil_of_le→ztY,append_eq_nil_iff→zt0,take_append_drop→zt5,set_append→zt6,flatMap→zt9,mem_iff_getElem→zuc,mergeSort_perm→zue,getElem_of_mem→zuf,getElem?_drop→zui,map→zuj,mem_filterMap→zuk,any_cons→zup,sum_cons→zuq,reverse_cons→zut,getElem_drop→zuv,map_nil→zux,length_take→zuy,getElem_mem→zuA,nodup_cons→zuG,of_mem_zip→zuH,range'→zuK,drop_drop→zuM,reverse→zuV,map_set→zuW,any_nil→zuX,sum_nil→zuY
open Bool renaming and_eq_true→zrA,false_eq_true→zsd,or_eq_true→zsJ,and_eq_true_iff→zsZ,eq_iff_iff→ztd,false_and→zti,or_eq_false_iff→ztq,false_ne_true→ztE,and_eq_false_iff→zt2,or_eq_true_iff→zug,not_true→zuh,false_or→zuo,not_false→zuL,true_and→zuO,or_false→zuQ,and_self→zuR
open Int renaming natCast_nonneg→zrB,lt_of_lt_of_le→zrJ,le_trans→zrO,ofNat_lt→zrS,not_lt→zsa,toNat_natCast→zsp,toNat_of_nonneg→zsr,lt_trans→zsu,fmod_eq_emod_of_nonneg→zsD,le_of_lt→zsF,ofNat_le→zsM,ne_of_gt→zsU,not_le→zsW,fdiv_eq_ediv_of_nonneg→zsY,zero_add→zs9,lt_of_le_of_lt→ztb,eq_ofNat_of_zero_le→ztc,emod_nonneg→zte,emod_lt_of_pos→ztF,lt_trichotomy→ztR,le_of_eq→zt1,add_le_add_right→zua,ofNat_inj→zul,min_eq_left→zuE,le_antisymm→zuF,mul_one→zuJ,lt_irrefl→zuP,ediv_one→zuS,le_total→zuT,toNat_le→zuU,one_mul→zuZ
open Array renaming length_toList→zr6,toList_push→zsK,getElem?_eq_some_iff→zsX,toList_extract→ztr,toList_append→ztz,toList_setIfInBounds→ztC,getElem?_eq_getElem→ztI,eraseIdxIfInBounds→ztP,getElem?_push_size→ztQ,getElem?_push_lt→ztZ,toList_eraseIdx→zt4,getElem?_ofFn→zud,getD→zuu,isEmpty→zuN
open Option renaming map_eq_some_iff→zr8,isSome_iff_exists→ztO,bind_eq_some_iff→ztS,isSome_none→zun,bind_some→zuB,map_some→zuI
local macro_rules | `(tactic| lia) => `(tactic| (simp +arith only; done))
namespace Mine
abbrev zS:=PySem.Str
theorem zN {a b:Nat}(h:Nat.ble a b=true):a<=b:=Nat.le_of_ble_eq_true h
theorem Ea {P1:Prop}{P2:Prop}{Q:Prop}(h:P1/\P2) (k:P1->P2->Q):Q:=k h.1 h.2
theorem Ee {A1:Type}{P1:A1->Prop}{Q:Prop}(h:∃ x1,P1 x1) (k:∀ x1,P1 x1->Q):Q:=Exists.elim h λx1 h1=>k x1 h1
theorem Eaa {P1:Prop}{P2:Prop}{P3:Prop}{Q:Prop}(h:P1/\P2/\P3) (k:P1->P2->P3->Q):Q:=k h.1 h.2.1 h.2.2
theorem Eea {A1:Type}{P1:A1->Prop}{P2:A1->Prop}{Q:Prop}(h:∃ x1,P1 x1/\P2 x1) (k:∀ x1,P1 x1->P2 x1->Q):Q:=Exists.elim h λx1 h1=>k x1 h1.1 h1.2
theorem Eee {A1 A2:Type}{P1:A1->A2->Prop}{Q:Prop}(h:∃ x1,∃ x2,P1 x1 x2) (k:∀ x1,∀ x2,P1 x1 x2->Q):Q:=Exists.elim h λx1 h1=>Exists.elim h1 λx2 h2=>k x1 x2 h2
theorem zi6 {P1:Prop}{P2:Prop}{P3:Prop}{P4:Prop}{Q:Prop}(h:P1/\P2/\P3/\P4) (k:P1->P2->P3->P4->Q):Q:=k h.1 h.2.1 h.2.2.1 h.2.2.2
theorem zqn {A1:Type}{P1:Prop}{P2:A1->Prop}{P3:A1->Prop}{Q:Prop}(h:P1/\∃ x1,P2 x1/\P3 x1) (k:P1->∀ x1,P2 x1->P3 x1->Q):Q:=Exists.elim h.2 λx1 h1=>k h.1 x1 h1.1 h1.2
theorem zkD {A1:Type}{P1:A1->Prop}{P2:A1->Prop}{P3:A1->Prop}{Q:Prop}(h:∃ x1,P1 x1/\P2 x1/\P3 x1) (k:∀ x1,P1 x1->P2 x1->P3 x1->Q):Q:=Exists.elim h λx1 h1=>k x1 h1.1 h1.2.1 h1.2.2
theorem zgy {A1 A2:Type}{P1:A1->A2->Prop}{P2:A1->A2->Prop}{Q:Prop}(h:∃ x1,∃ x2,P1 x1 x2/\P2 x1 x2) (k:∀ x1,∀ x2,P1 x1 x2->P2 x1 x2->Q):Q:=Exists.elim h λx1 h1=>Exists.elim h1 λx2 h2=>k x1 x2 h2.1 h2.2
theorem zpq {A1 A2 A3:Type}{P1:A1->A2->A3->Prop}{Q:Prop}(h:∃ x1,∃ x2,∃ x3,P1 x1 x2 x3) (k:∀ x1,∀ x2,∀ x3,P1 x1 x2 x3->Q):Q:=Exists.elim h λx1 h1=>Exists.elim h1 λx2 h2=>Exists.elim h2 λx3 h3=>k x1 x2 x3 h3
theorem zfS {P1:Prop}{P2:Prop}{P3:Prop}{P4:Prop}{P5:Prop}{Q:Prop}(h:P1/\P2/\P3/\P4/\P5) (k:P1->P2->P3->P4->P5->Q):Q:=k h.1 h.2.1 h.2.2.1 h.2.2.2.1 h.2.2.2.2
theorem zq5 {A1:Type}{P1:Prop}{P2:A1->Prop}{P3:A1->Prop}{P4:A1->Prop}{Q:Prop}(h:P1/\∃ x1,P2 x1/\P3 x1/\P4 x1) (k:P1->∀ x1,P2 x1->P3 x1->P4 x1->Q):Q:=Exists.elim h.2 λx1 h1=>k h.1 x1 h1.1 h1.2.1 h1.2.2
theorem zqo {A1 A2:Type}{P1:Prop}{P2:A1->A2->Prop}{P3:A1->A2->Prop}{Q:Prop}(h:P1/\∃ x1,∃ x2,P2 x1 x2/\P3 x1 x2) (k:P1->∀ x1,∀ x2,P2 x1 x2->P3 x1 x2->Q):Q:=Exists.elim h.2 λx1 h1=>Exists.elim h1 λx2 h2=>k h.1 x1 x2 h2.1 h2.2
theorem zkE {A1:Type}{P1:A1->Prop}{P2:A1->Prop}{P3:A1->Prop}{P4:A1->Prop}{Q:Prop}(h:∃ x1,P1 x1/\P2 x1/\P3 x1/\P4 x1) (k:∀ x1,P1 x1->P2 x1->P3 x1->P4 x1->Q):Q:=Exists.elim h λx1 h1=>k x1 h1.1 h1.2.1 h1.2.2.1 h1.2.2.2
theorem zcG {A1 A2:Type}{P1:A1->A2->Prop}{P2:A1->A2->Prop}{P3:A1->A2->Prop}{Q:Prop}(h:∃ x1,∃ x2,P1 x1 x2/\P2 x1 x2/\P3 x1 x2) (k:∀ x1,∀ x2,P1 x1 x2->P2 x1 x2->P3 x1 x2->Q):Q:=Exists.elim h λx1 h1=>Exists.elim h1 λx2 h2=>k x1 x2 h2.1 h2.2.1 h2.2.2
theorem zfq {A1 A2 A3:Type}{P1:A1->A2->A3->Prop}{P2:A1->A2->A3->Prop}{Q:Prop}(h:∃ x1,∃ x2,∃ x3,P1 x1 x2 x3/\P2 x1 x2 x3) (k:∀ x1,∀ x2,∀ x3,P1 x1 x2 x3->P2 x1 x2 x3->Q):Q:=Exists.elim h λx1 h1=>Exists.elim h1 λx2 h2=>Exists.elim h2 λx3 h3=>k x1 x2 x3 h3.1 h3.2
theorem zpr {A1 A2 A3 A4:Type}{P1:A1->A2->A3->A4->Prop}{Q:Prop}(h:∃ x1,∃ x2,∃ x3,∃ x4,P1 x1 x2 x3 x4) (k:∀ x1,∀ x2,∀ x3,∀ x4,P1 x1 x2 x3 x4->Q):Q:=Exists.elim h λx1 h1=>Exists.elim h1 λx2 h2=>Exists.elim h2 λx3 h3=>Exists.elim h3 λx4 h4=>k x1 x2 x3 x4 h4
theorem zqS {A1:Type}{P1:Prop}{P2:A1->Prop}{P3:A1->Prop}{P4:A1->Prop}{P5:A1->Prop}{Q:Prop}(h:P1/\∃ x1,P2 x1/\P3 x1/\P4 x1/\P5 x1) (k:P1->∀ x1,P2 x1->P3 x1->P4 x1->P5 x1->Q):Q:=Exists.elim h.2 λx1 h1=>k h.1 x1 h1.1 h1.2.1 h1.2.2.1 h1.2.2.2
theorem zjX {A1:Type}{P1:A1->Prop}{P2:A1->Prop}{P3:A1->Prop}{P4:A1->Prop}{P5:A1->Prop}{Q:Prop}(h:∃ x1,P1 x1/\P2 x1/\P3 x1/\P4 x1/\P5 x1) (k:∀ x1,P1 x1->P2 x1->P3 x1->P4 x1->P5 x1->Q):Q:=Exists.elim h λx1 h1=>k x1 h1.1 h1.2.1 h1.2.2.1 h1.2.2.2.1 h1.2.2.2.2
theorem zqT {A1 A2:Type}{P1:A1->A2->Prop}{P2:A1->A2->Prop}{P3:A1->A2->Prop}{P4:A1->A2->Prop}{Q:Prop}(h:∃ x1,∃ x2,P1 x1 x2/\P2 x1 x2/\P3 x1 x2/\P4 x1 x2) (k:∀ x1,∀ x2,P1 x1 x2->P2 x1 x2->P3 x1 x2->P4 x1 x2->Q):Q:=Exists.elim h λx1 h1=>Exists.elim h1 λx2 h2=>k x1 x2 h2.1 h2.2.1 h2.2.2.1 h2.2.2.2
theorem zic {A1 A2 A3:Type}{P1:A1->A2->A3->Prop}{P2:A1->A2->A3->Prop}{P3:A1->A2->A3->Prop}{Q:Prop}(h:∃ x1,∃ x2,∃ x3,P1 x1 x2 x3/\P2 x1 x2 x3/\P3 x1 x2 x3) (k:∀ x1,∀ x2,∀ x3,P1 x1 x2 x3->P2 x1 x2 x3->P3 x1 x2 x3->Q):Q:=Exists.elim h λx1 h1=>Exists.elim h1 λx2 h2=>Exists.elim h2 λx3 h3=>k x1 x2 x3 h3.1 h3.2.1 h3.2.2
theorem zlw {A1 A2 A3 A4:Type}{P1:A1->A2->A3->A4->Prop}{P2:A1->A2->A3->A4->Prop}{Q:Prop}(h:∃ x1,∃ x2,∃ x3,∃ x4,P1 x1 x2 x3 x4/\P2 x1 x2 x3 x4) (k:∀ x1,∀ x2,∀ x3,∀ x4,P1 x1 x2 x3 x4->P2 x1 x2 x3 x4->Q):Q:=Exists.elim h λx1 h1=>Exists.elim h1 λx2 h2=>Exists.elim h2 λx3 h3=>Exists.elim h3 λx4 h4=>k x1 x2 x3 x4 h4.1 h4.2
theorem zlv {A1 A2:Type}{P1:A1->A2->Prop}{P2:A1->A2->Prop}{P3:A1->A2->Prop}{P4:A1->A2->Prop}{P5:A1->A2->Prop}{Q:Prop}(h:∃ x1,∃ x2,P1 x1 x2/\P2 x1 x2/\P3 x1 x2/\P4 x1 x2/\P5 x1 x2) (k:∀ x1,∀ x2,P1 x1 x2->P2 x1 x2->P3 x1 x2->P4 x1 x2->P5 x1 x2->Q):Q:=Exists.elim h λx1 h1=>Exists.elim h1 λx2 h2=>k x1 x2 h2.1 h2.2.1 h2.2.2.1 h2.2.2.2.1 h2.2.2.2.2
theorem zhm {A1 A2 A3:Type}{P1:A1->A2->A3->Prop}{P2:A1->A2->A3->Prop}{P3:A1->A2->A3->Prop}{P4:A1->A2->A3->Prop}{Q:Prop}(h:∃ x1,∃ x2,∃ x3,P1 x1 x2 x3/\P2 x1 x2 x3/\P3 x1 x2 x3/\P4 x1 x2 x3) (k:∀ x1,∀ x2,∀ x3,P1 x1 x2 x3->P2 x1 x2 x3->P3 x1 x2 x3->P4 x1 x2 x3->Q):Q:=Exists.elim h λx1 h1=>Exists.elim h1 λx2 h2=>Exists.elim h2 λx3 h3=>k x1 x2 x3 h3.1 h3.2.1 h3.2.2.1 h3.2.2.2
theorem zeH {A1 A2 A3 A4:Type}{P1:A1->A2->A3->A4->Prop}{P2:A1->A2->A3->A4->Prop}{P3:A1->A2->A3->A4->Prop}{Q:Prop}(h:∃ x1,∃ x2,∃ x3,∃ x4,P1 x1 x2 x3 x4/\P2 x1 x2 x3 x4/\P3 x1 x2 x3 x4) (k:∀ x1,∀ x2,∀ x3,∀ x4,P1 x1 x2 x3 x4->P2 x1 x2 x3 x4->P3 x1 x2 x3 x4->Q):Q:=Exists.elim h λx1 h1=>Exists.elim h1 λx2 h2=>Exists.elim h2 λx3 h3=>Exists.elim h3 λx4 h4=>k x1 x2 x3 x4 h4.1 h4.2.1 h4.2.2
theorem zjY {A1 A2:Type}{P1:A1->A2->Prop}{P2:A1->A2->Prop}{P3:A1->A2->Prop}{P4:A1->A2->Prop}{P5:A1->A2->Prop}{P6:A1->A2->Prop}{Q:Prop}(h:∃ x1,∃ x2,P1 x1 x2/\P2 x1 x2/\P3 x1 x2/\P4 x1 x2/\P5 x1 x2/\P6 x1 x2) (k:∀ x1,∀ x2,P1 x1 x2->P2 x1 x2->P3 x1 x2->P4 x1 x2->P5 x1 x2->P6 x1 x2->Q):Q:=Exists.elim h λx1 h1=>Exists.elim h1 λx2 h2=>k x1 x2 h2.1 h2.2.1 h2.2.2.1 h2.2.2.2.1 h2.2.2.2.2.1 h2.2.2.2.2.2
theorem zjZ {A1 A2 A3 A4:Type}{P1:A1->A2->A3->A4->Prop}{P2:A1->A2->A3->A4->Prop}{P3:A1->A2->A3->A4->Prop}{P4:A1->A2->A3->A4->Prop}{Q:Prop}(h:∃ x1,∃ x2,∃ x3,∃ x4,P1 x1 x2 x3 x4/\P2 x1 x2 x3 x4/\P3 x1 x2 x3 x4/\P4 x1 x2 x3 x4) (k:∀ x1,∀ x2,∀ x3,∀ x4,P1 x1 x2 x3 x4->P2 x1 x2 x3 x4->P3 x1 x2 x3 x4->P4 x1 x2 x3 x4->Q):Q:=Exists.elim h λx1 h1=>Exists.elim h1 λx2 h2=>Exists.elim h2 λx3 h3=>Exists.elim h3 λx4 h4=>k x1 x2 x3 x4 h4.1 h4.2.1 h4.2.2.1 h4.2.2.2
theorem zmL {A1 A2 A3 A4 A5:Type}{P1:A1->A2->A3->A4->A5->Prop}{P2:A1->A2->A3->A4->A5->Prop}{P3:A1->A2->A3->A4->A5->Prop}{Q:Prop}(h:∃ x1,∃ x2,∃ x3,∃ x4,∃ x5,P1 x1 x2 x3 x4 x5/\P2 x1 x2 x3 x4 x5/\P3 x1 x2 x3 x4 x5) (k:∀ x1,∀ x2,∀ x3,∀ x4,∀ x5,P1 x1 x2 x3 x4 x5->P2 x1 x2 x3 x4 x5->P3 x1 x2 x3 x4 x5->Q):Q:=Exists.elim h λx1 h1=>Exists.elim h1 λx2 h2=>Exists.elim h2 λx3 h3=>Exists.elim h3 λx4 h4=>Exists.elim h4 λx5 h5=>k x1 x2 x3 x4 x5 h5.1 h5.2.1 h5.2.2
theorem zan {α:Type u}{a:α}{Q:Prop}(h:none=some a):Q:=nomatch h
theorem ziK {α:Type u}{a:α}{Q:Prop}(h:some a=none):Q:=nomatch h
theorem ziL {Q:Prop}(h:true=false):Q:=nomatch h
theorem zdo {Q:Prop}(h:false=true):Q:=nomatch h
@[elab_as_elim] theorem zfx {α:Type u}{a b:α}{P:α->Prop}(h:some a=some b) (k:P a):P b:=by cases h;exact k
@[elab_as_elim] theorem zcy {α:Type u}{β:Type v}{a c:α}{b d:β}{P:α->β->Prop}(h:some (a,b)=some (c,d)) (k:P a b):P c d:=by cases h;exact k
theorem zqH {α:Type u}{Q:Prop}(m:Option α) (h0:m=none->Q) (h1:∀ a,m=some a->Q):Q:=by
 cases e:m with
 | none=>exact h0 e
 | some a=>exact h1 a e
theorem leq {a b:Nat}(h:a=b):a<=b:=zss h
theorem geq {a b:Nat}(h:a=b):b<=a:=zss h.symm
theorem al2 {a b c d:Nat}(h:a<=b) (k:c<=d):a + c<=b + d:=zrY h k
theorem zrk {a b c d:Nat}(h:a=b) (k:c=d):a + c=b + d:=h▸k▸rfl
theorem zrm {a b:Int}(h:a=b):a<=b:=zt1 h
theorem zpo {a b:Int}(h:a=b):b<=a:=zt1 h.symm
theorem zqj {a b c d:Int}(h:a<=b) (k:c<=d):a + c<=b + d:=Int.add_le_add h k
theorem zra {a b c d:Int}(h:a=b) (k:c=d):a + c=b + d:=h▸k▸rfl
theorem ifk {l r L R:Int}(H:L<=R) (e:l + R<=r + L):l<=r:=Int.le_of_add_le_add_right (zrO e (Int.add_le_add_left H r))
theorem zrl {l r L R:Int}(H:L=R) (e:l + R=r + L):l=r:=(Int.add_left_inj R).mp (H▸e)
theorem inn (n:Nat):¬ (n:Int) < 0:=zsa.mpr (zrB n)
theorem tn1 (n:Nat):(-1 + ((n:Int) + 1)).toNat=n:=by rw [Int.add_comm,Int.add_assoc];exact zsp n
theorem tn2 (n:Nat):(-1 + ((n:Int) + 1 + 1)).toNat=n + 1:=tn1 (n + 1)
theorem tn3 (n:Nat):(-1 + ((n:Int) + 1 + 1 + 1)).toNat=n + 1 + 1:=tn1 (n + 2)
theorem ml2 {a b:Nat}(k:Nat) (h:a<=b):k * a<=k * b:=zsg k h
theorem fk {l r L R:Nat}(H:L<=R) (e:l + R<=r + L):l<=r:=Nat.le_of_add_le_add_right (zrn e (zr9 H r))
theorem fke {l r L R:Nat}(H:L=R) (e:l + R=r + L):l=r:=Nat.add_right_cancel (H▸e:l + R=r + R)
theorem ze3 {p:Nat}(h:0 < p):(p - 1) / 2 < p:=zrt (ztw _ _) (Nat.pred_lt (zrV h))
theorem zoc {s p:Nat}(h:s < p):0 < p:=zrt (zr2 _) h
theorem zev {s p:Nat}(h:s < p):(p - 1) / 2 < p:=ze3 (zoc h)
theorem zml {i p:Nat}(h:i=2 * p + 1\/i=2 * p + 2):(i - 1) / 2=p:=by
 rcases h with rfl | rfl
 ·exact Nat.mul_div_cancel_left p (zrw 1)
 ·exact Nat.mul_add_div (zrw 1) p 1
theorem zl6 {i p:Nat}(h:0 < i) (e:(i - 1) / 2=p):i=2 * p + 1\/i=2 * p + 2:=by
 have h2:i=i - 1 + 1:=(zsx h).symm
 have h3:2 * p + (i - 1) % 2=i - 1:=e▸zuD (i - 1) 2
 exact (ztB (i - 1)).elim (λq=>.inl (h2.trans (congrArg Nat.succ (h3.symm.trans (congrArg (2 * p + ·) q))))) (λq=>.inr (h2.trans (congrArg Nat.succ (h3.symm.trans (congrArg (2 * p + ·) q)))))
theorem zpS {i p:Nat}(h:0 < i) (e:(i - 1) / 2=p):2 * p + 1<=i:=(zl6 h e).elim geq λq=>zrP (geq q)
theorem zng {i n:Nat}(h1:0 < i) (h2:i < n) (h3:n / 2<=(i - 1) / 2):False:=
 Nat.not_le_of_lt h2 (zrn (geq (zuD n 2)) (zrn (zrY (zrn (zsg 2 h3) (Nat.mul_div_le _ _)) (zsb (zu0 n (zrw 1)))) (leq (zsx h1))))
theorem zri {n:Nat}(h:0 < n):(-1 + (n:Int)).toNat=n - 1:=by
 cases n with
 | zero=>exact absurd h (ztt _)
 | succ m=>exact tn1 m
theorem tlt {k:Int}{n:Nat}(h0:0<=k) (h1:k < n):k.toNat < n:=(Int.toNat_lt h0).mpr h1
theorem zrh {k:Int}{n:Nat}(h0:k < 0) (h1:0<=k + n):(k + n).toNat < n:=tlt h1 (zrJ (Int.add_lt_add_right h0 n) (zt1 (zs9 _)))
theorem zrc {n:Nat}(h:0 < n):-(n:Int)<=-1:=Int.neg_le_neg (zsM.mpr h)
theorem ngt {j n:Nat}(h1:-(n:Int)<=Int.negSucc j):(Int.negSucc j + (n:Int)).toNat < n:=by
 have h:j + 1<=n:=zsM.mp (Int.le_of_neg_le_neg (show -(n:Int)<=-((j + 1:Nat):Int) from h1))
 have e:Int.negSucc j + (n:Int)=((n - (j + 1):Nat):Int):=Int.subNatNat_of_le h
 rw [e,zsp]
 exact zur (zry (zrw j) h) (zrw j)
theorem zmb {p n:Nat}(h:p < n) (h4:n<=2 ^ 20):p < 2 ^ 62:=zry h (zrn h4 (zN rfl))
theorem zpi {n p q k:Nat}(h:n - p < k + 1) (hq:p < q) (hn:q < n):n - q < k:=zry (zs8 (zrZ hq hn) hq) (zsb h)
theorem zph {n p q k:Nat}(h:n - p<=k + 1) (hq:p < q) (hn:q < n):n - q<=k:=zsb (zry (zs8 (zrZ hq hn) hq) h)
theorem zia {n i k:Nat}(h:n - i=k + 1):i < n:=Nat.lt_of_sub_pos (h▸zrw k)
theorem zjT {n i k:Nat}(h:n - i=k + 1):n - (i + 1)=k:=by rw [Nat.sub_succ,h];rfl
theorem zjS {n i k:Nat}(h:n - i=k + 1):n - 1 - k=i:=
 (congrArg (λx=>x - 1 - k) ((ztD (zrP (zia h))).symm.trans (congrArg (· + i) h))).trans (by rw [Nat.sub_sub,zst 1 k,zsN])
theorem zi2 {n j:Nat}(h:j < n):n - j=n - j - 1 + 1:=(zsx (ztM h)).symm
theorem zec {n i:Nat}(h:n - i=0) (hi:i<=n):i=n:=ztx hi (Nat.le_of_sub_eq_zero h)
theorem zn8 {p n:Nat}(h:2 * p + 1 < n):p < n:=zrt (zrn (Nat.le_mul_of_pos_left p (zrw 1)) (zsl _)) h
theorem ilt {a b:Nat}(h:a < b):(a:Int) < (b:Int):=zrS.mpr h
theorem zqC {a b:Nat}(h:¬ a < b):¬ (a:Int) < (b:Int):=λq=>h (zrS.mp q)
theorem b22 {a j n:Nat}(h:a<=2 * j) (hj:j<=n) (hn:n<=2 ^ 19):a<=2 ^ 22:=zrn h (zrn (zsg 2 (zrn hj hn)) (zN rfl))
theorem tr1 {a b x y:Int}(h1:a<=x↔a<=y) (h2:b + 1<=x↔b + 1<=y) (e:a<=x/\x<=b):a<=y/\y<=b:=⟨h1.mp e.1,zsa.mp λq=>absurd e.2 (zsW.mpr (h2.mpr q))⟩
theorem zoU {a x y:Int}(h:a<=x↔a<=y):x < a↔y < a:=⟨λk=>zsW.mp λq=>absurd k (zsa.mpr (h.mpr q)),λk=>zsW.mp λq=>absurd k (zsa.mpr (h.mp q))⟩
theorem zpT {a b:Int}(h1:0<=a) (h2:a<=b):0<=b + 1:=zsF (Int.lt_add_one_of_le (zrO h1 h2))
theorem zni {i:Nat}(h:i < 2 ^ 62):-(2 ^ 62) < (i:Int)/\(i:Int) < 2 ^ 62:=⟨zrJ (by decide) (zrB i),zrS.mpr h⟩
theorem zqv {a b:Nat}(h:a<=b) (hb:b < 1114112):0<=(a:Int)/\(a:Int)<=(b:Int)/\(b:Int) < 1114112:=⟨zrB a,zsM.mpr h,zrS.mpr hb⟩
end Mine
namespace Mine
open PySem PySem.W PySem.Spec PySem.Calls PyProof.Rows
inductive V where
 | d (x:PyData)
 | l (id:Nat)
 | raw (v:Value)
 | bm (id:Nat)
noncomputable abbrev HP:=List (Option (List V))
structure Gh where
 g:Heap
 f:Nat->Option Addr
noncomputable def zgA (a:Addr):Obj:={ cls:=.type "builtin_function_or_method",data:=.fields #[.builtin "list.append",.ref a] }
inductive RV (G:Gh):Value->V->Prop
 | d {v:Value} {x:PyData} {as:List Addr}:Reads G.g v x as->RV G v (.d x)
 | l {a:Addr} {id:Nat}:G.f id=some a->RV G (.ref a) (.l id)
 | raw {v:Value}:RV G v (.raw v)
 | bm {m a:Addr} {id:Nat}:G.f id=some a->G.g.get? m=some (zgA a)->RV G (.ref m) (.bm id)
inductive RVs (G:Gh):List Value->List V->Prop
 | nil:RVs G [] []
 | cons {c:Value} {v:V} {cs:List Value} {vs:List V}:RV G c v->RVs G cs vs->RVs G (c::cs) (v::vs)
structure Cfg where
 G:Gh
 hp:HP
 s:Shared
noncomputable def mu (c:Cfg) (a:Addr):Prop:=∃ id vs,c.hp[id]?=some (some vs)/\c.G.f id=some a
structure Bs where
 h:Heap
 tbl:Addr
 tabOk:Heap->Array Value->Prop
 mono:∀ g g' ps,(∀ a o,g.get? a=some o->g'.get? a=some o)->tabOk g ps->tabOk g' ps
noncomputable def Ex (h:Heap) (a:Addr):Prop:=∃ o,h.get? a=some o
inductive LstAt (G:Gh) (h:Heap) (id:Nat) (vs:List V):Prop
 | mk (a:Addr) (items:Array Value):G.f id=some a->G.g.get? a=none->h.PlainList a items->RVs G items.toList vs->LstAt G h id vs
theorem LstAt.E {G:Gh}{h:Heap}{id:Nat}{vs:List V}{Q:Prop}(x:LstAt G h id vs) (k:∀ a items,G.f id=some a->G.g.get? a=none->h.PlainList a items->RVs G items.toList vs->Q):Q:=by
 obtain ⟨a,items,h1,h2,h3,h4⟩:=x;exact k a items h1 h2 h3 h4
structure BInv (B:Bs) (c:Cfg):Prop where
 keep:∀ a o,c.G.g.get? a=some o->c.s.heap.get? a=some o
 base:∀ a o,B.h.get? a=some o->c.G.g.get? a=some o
 lt:∀ id a,c.G.f id=some a->Ex c.s.heap a
 inj:∀ i j a,c.G.f i=some a->c.G.f j=some a->i=j
 fr:∀ id,c.hp.length<=id->c.G.f id=none
 lst:∀ id vs,c.hp[id]?=some (some vs)->LstAt c.G c.s.heap id vs
 tab:∃ ps,c.s.heap.get? B.tbl=some (tabObj ps)/\B.tabOk c.G.g ps
 tabg:c.G.g.get? B.tbl=none/\∀ id,c.G.f id≠some B.tbl
 bare:AllBare c.s.gens
structure Stp (B:Bs) (pv:List Addr) (c c':Cfg):Prop where
 gg:∀ a o,c.G.g.get? a=some o->c'.G.g.get? a=some o
 ff:∀ id a,c.G.f id=some a->c'.G.f id=some a
 kp:∀ a o,c.s.heap.get? a=some o->a ∉ pv->¬ mu c a->a≠B.tbl->c'.s.heap.get? a=some o
 old:∀ a,Ex c.s.heap a->c.G.g.get? a=none->¬ mu c a->c'.G.g.get? a=none/\¬ mu c' a
 sz:∀ a,Ex c.s.heap a->Ex c'.s.heap a
 gn:∀ (i:Nat) (x:GenState),c.s.gens[i]?=some x->c'.s.gens[i]?=some x
 os:c'.s.os=c.s.os
 nf:∀ id a,c'.G.f id=some a->c.G.f id=some a\/c.s.heap.get? a=none
theorem Stp.refl {B:Bs}{pv:List Addr}(c:Cfg):Stp B pv c c:=
 ⟨λZ Z e=>e,λZ Z e=>e,λZ Z e Z Z Z=>e,λZ Z h1 h2=>⟨h1,h2⟩,λZ h=>h,λZ Z e=>e,rfl,λZ Z e=>.inl e⟩
theorem BInv.mu_none {B:Bs}{c:Cfg}(I:BInv B c) {a:Addr}(h:mu c a):c.G.g.get? a=none:=by
 refine zgy h λid vs h1 h2=>?_
 refine LstAt.E (I.lst id vs h1) λa' items e1 e2 Z Z=>?_
 rw [h2] at e1;cases e1;exact e2
theorem Stp.trans {B:Bs}{pv pv':List Addr}{c₁ c₂ c₃:Cfg}(I₂:BInv B c₂) (x:Stp B pv c₁ c₂) (y:Stp B pv' c₂ c₃) (hs:∀ a ∈ pv,a ∈ pv'):Stp B pv' c₁ c₃ where
 gg a o e:=y.gg a o (x.gg a o e)
 ff i a e:=y.ff i a (x.ff i a e)
 kp a o e hp hm ht:=by
  have e2:=x.kp a o e (λh=>hp (hs a h)) hm ht
  refine y.kp a o e2 hp ?_ ht
  intro hm2
  have hn:=I₂.mu_none hm2
  have hlt:Ex c₁.s.heap a:=⟨o,e⟩
  cases hg:c₁.G.g.get? a with
  | none=>exact (x.old a hlt hg hm).2 hm2
  | some o'=>rw [x.gg a o' hg] at hn;exact ziK hn
 old a hlt hg hm:=by
  obtain ⟨h1,h2⟩:=x.old a hlt hg hm
  exact y.old a (x.sz a hlt) h1 h2
 sz a h:=y.sz a (x.sz a h)
 gn i v e:=y.gn i v (x.gn i v e)
 os:=y.os.trans x.os
 nf id a e:=by
  rcases y.nf id a e with h | h
  ·exact x.nf id a h
  ·refine .inr ?_
   cases hq:c₁.s.heap.get? a with
   | none=>rfl
   | some o=>(refine Ee (x.sz a ⟨o,hq⟩) λo' h'=>?_);rw [h] at h';exact zan h'
theorem Stp.trans0 {B:Bs}{pv:List Addr}{c₁ c₂ c₃:Cfg}(I₂:BInv B c₂) (x:Stp B pv c₁ c₂) (y:Stp B [] c₂ c₃):Stp B pv c₁ c₃:=by
 refine Stp.trans (pv':=pv) I₂ x ⟨y.gg,y.ff,λa o e Z hm ht=>y.kp a o e zrq hm ht,y.old,y.sz,y.gn,y.os,y.nf⟩ λZ h=>h
theorem Stp.weak {B:Bs}{pv:List Addr}{c c':Cfg}(y:Stp B [] c c'):Stp B pv c c':=
 ⟨y.gg,y.ff,λa o e Z hm ht=>y.kp a o e zrq hm ht,y.old,y.sz,y.gn,y.os,y.nf⟩
theorem Stp.weak2 {B:Bs}{pv pv':List Addr}{c c':Cfg}(y:Stp B pv c c') (hs:∀ a ∈ pv,a ∈ pv'):Stp B pv' c c':=
 ⟨y.gg,y.ff,λa o e h hm ht=>y.kp a o e (λq=>h (hs a q)) hm ht,y.old,y.sz,y.gn,y.os,y.nf⟩
theorem RV.mono {G G':Gh}(gg:∀ a o,G.g.get? a=some o->G'.g.get? a=some o) (ff:∀ id a,G.f id=some a->G'.f id=some a) {c:Value}{v:V}(h:RV G c v):RV G' c v:=by
 cases h with
 | d r=>exact .d (Reads.keeps gg r)
 | l e=>exact .l (ff _ _ e)
 | raw=>exact .raw
 | bm e e'=>exact .bm (ff _ _ e) (gg _ _ e')
theorem RVs.mono {G G':Gh}(gg:∀ a o,G.g.get? a=some o->G'.g.get? a=some o) (ff:∀ id a,G.f id=some a->G'.f id=some a) {c:List Value}{v:List V}(h:RVs G c v):RVs G' c v:=by
 induction h with
 | nil=>exact .nil
 | cons h _ ih=>exact .cons (h.mono gg ff) ih
theorem RV.step {B:Bs}{pv:List Addr}{c c':Cfg}(st:Stp B pv c c') {x:Value}{v:V}(h:RV c.G x v):RV c'.G x v:=h.mono st.gg st.ff
theorem RVs.step {B:Bs}{pv:List Addr}{c c':Cfg}(st:Stp B pv c c') {x:List Value}{v:List V}(h:RVs c.G x v):RVs c'.G x v:=h.mono st.gg st.ff
theorem RVs.length {G:Gh}{c:List Value}{v:List V}(h:RVs G c v):c.length=v.length:=by
 induction h with
 | nil=>rfl
 | cons _ _ ih=>simp [ih]
theorem RVs.append {G:Gh}{c c':List Value}{v v':List V}(h:RVs G c v) (h':RVs G c' v'):RVs G (c++c') (v++v'):=by
 induction h with
 | nil=>exact h'
 | cons h _ ih=>exact .cons h ih
theorem RVs.one {G:Gh}{c:Value}{v:V}(h:RV G c v):RVs G [c] [v]:=.cons h .nil
theorem RVs.get {G:Gh}{c:List Value}{v:List V}(h:RVs G c v) {k:Nat}{x:V}(hk:v[k]?=some x):∃ y,c[k]?=some y/\RV G y x:=by
 induction h generalizing k with
 | nil=>contradiction
 | cons h _ ih=>
  cases k with
  | zero=>simp at hk;subst hk;exact ⟨_,rfl,h⟩
  | succ k=>simp at hk;(refine Eea (ih hk) λy e r=>?_);exact ⟨y,by simpa using e,r⟩
theorem RVs.of_reads {G:Gh}{c:List Value}{xs:List PyData}{as:List Addr}(h:ReadsAll G.g c xs as):RVs G c (xs.map V.d):=by
 induction c generalizing xs as with
 | nil=>cases h;exact .nil
 | cons v vs ih=>cases h with | cons h1 h2=>exact .cons (.d h1) (ih h2)
theorem RVs.reads {G:Gh}:∀ {c:List Value}{xs:List PyData},RVs G c (xs.map V.d)->∃ as,ReadsAll G.g c xs as
 | [],[],_=>⟨_,.nil⟩
 | [],_::_,h=>by cases h
 | _::_,[],h=>by cases h
 | v::vs,x::xs,h=>by
  cases h with
  | cons h1 h2=>
   obtain ⟨as,r⟩:=RVs.reads (xs:=xs) h2
   cases h1 with
   | d r1=>exact ⟨_,.cons r1 r⟩
theorem RVs.split {G:Gh}:∀ {v w:List V}{c:List Value},RVs G c (v++w)->RVs G (c.take v.length) v/\RVs G (c.drop v.length) w
 | [],w,c,h=>⟨by simpa using RVs.nil,by simpa using h⟩
 | x::v,w,c,h=>by
  cases h with
  | cons h1 h2=>
   obtain ⟨a,b⟩:=RVs.split (v:=v) h2
   exact ⟨by simpa using RVs.cons h1 a,by simpa using b⟩
theorem RVs.take {G:Gh}{v:List V}{c:List Value}(h:RVs G c v) (k:Nat):RVs G (c.take k) (v.take k):=by
 induction h generalizing k with
 | nil=>simp;exact .nil
 | cons h _ ih=>cases k with
  | zero=>simp;exact .nil
  | succ k=>simpa using RVs.cons h (ih k)
theorem RVs.drop {G:Gh}{v:List V}{c:List Value}(h:RVs G c v) (k:Nat):RVs G (c.drop k) (v.drop k):=by
 induction h generalizing k with
 | nil=>simp;exact .nil
 | cons h t ih=>cases k with
  | zero=>simpa using RVs.cons h t
  | succ k=>simpa using ih k
theorem RVs.set {G:Gh}{v:List V}{c:List Value}(h:RVs G c v) {k:Nat}{x:Value}{y:V}(hx:RV G x y):RVs G (c.set k x) (v.set k y):=by
 induction h generalizing k with
 | nil=>simp;exact .nil
 | cons h t ih=>cases k with
  | zero=>simpa using RVs.cons hx t
  | succ k=>simpa using RVs.cons h ih
theorem zcx (g:Heap) (a:Addr) (o:Obj) (ho:o.isFreed=false):∃ g':Heap,g'.get? a=some o/\∀ b,b≠a->g'.get? b=g.get? b:=by
 have key:∀ n,g.objs.size<=n->(a:Nat) < n->∃ g':Heap,g'.get? a=some o/\∀ b,b≠a->g'.get? b=g.get? b:=by
  intro n h1 h2
  refine ⟨⟨Array.ofFn (n:=n) λi=>if i.val=a then o else (g.objs[i.val]?).getD { cls:=.none,data:=.freed },g.life⟩,?_,?_⟩
  ·refine Heap.get?_some_iff.mpr ⟨?_,ho⟩
   refine Eq.trans zud ?_;simp [h2]
  ·intro b hb
   unfold Heap.get?
   refine zud▸?_
   by_cases hbn:(b:Nat) < n
   ·simp only [hbn,dite_true,hb,if_false]
    cases hx:g.objs[b]? with
    | none=>rfl
    | some x=>rfl
   ·have:g.objs[b]?=none:=Array.getElem?_eq_none (by have:n<=b:=zsv hbn;exact zrn h1 this)
    simp only [hbn,dite_false,this]
 exact key (g.objs.size + (a + 1)) (zrI _ _) (zry (zrD a) (zsT _ _))
section
variable {γ:Type}{r:γ}{Q:Prop}
noncomputable def on1 (k:V->Option γ):List V->Option γ
 | [v]=>k v
 | _=>none
noncomputable def on2 {α:Type}(k:α->α->Option γ):List α->Option γ
 | [a,b]=>k a b
 | _=>none
noncomputable def onD (k:PyData->Option γ):V->Option γ
 | .d x=>k x
 | _=>none
noncomputable def onR (k:Nat->Option γ):V->Option γ
 | .l x=>k x
 | _=>none
noncomputable def dI (k:Int->Option γ):PyData->Option γ
 | .int x=>k x
 | _=>none
noncomputable def dS (k:Str->Option γ):PyData->Option γ
 | .str x=>k x
 | _=>none
noncomputable def dL (k:List PyData->Option γ):PyData->Option γ
 | .list x=>k x
 | _=>none
noncomputable def dB (k:Bool->Option γ):PyData->Option γ
 | .bool x=>k x
 | _=>none
theorem zq7 {k:Bool->Option γ}{v:PyData}(e:dB k v=some r) (h:∀ x,v=.bool x->k x=some r->Q):Q:=by
 cases v with
 | bool x=>exact h x rfl e
 | _=>exact zan e
noncomputable def dT (k:List PyData->Option γ):PyData->Option γ
 | .tuple x=>k x
 | _=>none
theorem l13 {α:Type}{P:List α->Prop}(l:List α) (h0:P []) (h1:∀ a,P [a]) (h2:∀ a b,P [a,b]) (h3:∀ a b c,P [a,b,c]) (h4:∀ a b c d r,P (a::b::c::d::r)):P l:=by
 cases l with
 | nil=>exact h0
 | cons a l=>cases l with
  | nil=>exact h1 a
  | cons b l=>cases l with
   | nil=>exact h2 a b
   | cons c l=>cases l with
    | nil=>exact h3 a b c
    | cons d l=>exact h4 a b c d l
theorem ziM {k:V->Option γ}{vs:List V}(e:on1 k vs=some r) (h:∀ v,vs=[v]->k v=some r->Q):Q:=
 l13 (P:=λvs=>on1 k vs=some r->(∀ v,vs=[v]->k v=some r->Q)->Q) vs (λe Z=>zan e) (λa e h=>h a rfl e) (λZ Z e Z=>zan e) (λZ Z Z e Z=>zan e) (λZ Z Z Z Z e Z=>zan e) e h
theorem zlb {α:Type}{k:α->α->Option γ}{vs:List α}(e:on2 k vs=some r) (h:∀ a b,vs=[a,b]->k a b=some r->Q):Q:=
 l13 (P:=λvs=>on2 k vs=some r->(∀ a b,vs=[a,b]->k a b=some r->Q)->Q) vs (λe Z=>zan e) (λZ e Z=>zan e) (λa b e h=>h a b rfl e) (λZ Z Z e Z=>zan e) (λZ Z Z Z Z e Z=>zan e) e h
theorem zfA {k:PyData->Option γ}{v:V}(e:onD k v=some r) (h:∀ x,v=.d x->k x=some r->Q):Q:=by
 cases v with
 | d x=>exact h x rfl e
 | _=>exact zan e
theorem ziN {k:Nat->Option γ}{v:V}(e:onR k v=some r) (h:∀ x,v=.l x->k x=some r->Q):Q:=by
 cases v with
 | l x=>exact h x rfl e
 | _=>exact zan e
theorem zj3 {k:Int->Option γ}{v:PyData}(e:dI k v=some r) (h:∀ x,v=.int x->k x=some r->Q):Q:=by
 cases v with
 | int x=>exact h x rfl e
 | _=>exact zan e
theorem zpm {k:Str->Option γ}{v:PyData}(e:dS k v=some r) (h:∀ x,v=.str x->k x=some r->Q):Q:=by
 cases v with
 | str x=>exact h x rfl e
 | _=>exact zan e
theorem zqY {k:List PyData->Option γ}{v:PyData}(e:dL k v=some r) (h:∀ x,v=.list x->k x=some r->Q):Q:=by
 cases v with
 | list x=>exact h x rfl e
 | _=>exact zan e
theorem zq0 {k:List PyData->Option γ}{v:PyData}(e:dT k v=some r) (h:∀ x,v=.tuple x->k x=some r->Q):Q:=by
 cases v with
 | tuple x=>exact h x rfl e
 | _=>exact zan e
noncomputable def onS (k:Str->Option γ) (v:V):Option γ:=onD (dS k) v
noncomputable def onI (k:Int->Option γ) (v:V):Option γ:=onD (dI k) v
noncomputable def onL (k:List PyData->Option γ) (v:V):Option γ:=onD (dL k) v
theorem zd8 {k:Str->Option γ}{v:V}(e:onS k v=some r) (h:∀ x,v=.d (.str x)->k x=some r->Q):Q:=
 zfA e λZ q e=>zpm e λx q' e=>h x (q.trans (congrArg V.d q')) e
theorem zdA {k:Int->Option γ}{v:V}(e:onI k v=some r) (h:∀ x,v=.d (.int x)->k x=some r->Q):Q:=
 zfA e λZ q e=>zj3 e λx q' e=>h x (q.trans (congrArg V.d q')) e
theorem znB {k:List PyData->Option γ}{v:V}(e:onL k v=some r) (h:∀ x,v=.d (.list x)->k x=some r->Q):Q:=
 zfA e λZ q e=>zqY e λx q' e=>h x (q.trans (congrArg V.d q')) e
noncomputable def bV (o:Option (V × HP)) (k:V->HP->Option γ):Option γ:=match o with
 | some (v,h)=>k v h
 | none=>none
noncomputable def bL (o:Option (List V × HP)) (k:List V->HP->Option γ):Option γ:=match o with
 | some (v,h)=>k v h
 | none=>none
noncomputable def bO (o:Option (Option (List V))) (k:List V->Option γ):Option γ:=match o with
 | some (some v)=>k v
 | _=>none
theorem zfG {o:Option (V × HP)}{k:V->HP->Option γ}(e:bV o k=some r) (h:∀ v p,o=some (v,p)->k v p=some r->Q):Q:=by
 cases o with
 | none=>exact zan e
 | some x=>exact h x.1 x.2 rfl e
theorem zqh {o:Option (List V × HP)}{k:List V->HP->Option γ}(e:bL o k=some r) (h:∀ v p,o=some (v,p)->k v p=some r->Q):Q:=by
 cases o with
 | none=>exact zan e
 | some x=>exact h x.1 x.2 rfl e
theorem zmQ {o:Option (Option (List V))}{k:List V->Option γ}(e:bO o k=some r) (h:∀ v,o=some (some v)->k v=some r->Q):Q:=by
 cases o with
 | none=>exact zan e
 | some x=>cases x with
  | none=>exact zan e
  | some x=>exact h x rfl e
theorem mPV {o:Option (V × HP)}{f:V->HP->Option γ}(e:(match o with | some (x,h)=>f x h | none=>none)=some r) (k:∀ x h,o=some (x,h)->f x h=some r->Q):Q:=by
 cases o with
 | none=>exact zan e
 | some x=>exact k x.1 x.2 rfl e
theorem mPB {o:Option (Bool × HP)}{f:Bool->HP->Option γ}(e:(match o with | some (x,h)=>f x h | none=>none)=some r) (k:∀ x h,o=some (x,h)->f x h=some r->Q):Q:=by
 cases o with
 | none=>exact zan e
 | some x=>exact k x.1 x.2 rfl e
theorem mPL {o:Option (List V × HP)}{f:List V->HP->Option γ}(e:(match o with | some (x,h)=>f x h | none=>none)=some r) (k:∀ x h,o=some (x,h)->f x h=some r->Q):Q:=by
 cases o with
 | none=>exact zan e
 | some x=>exact k x.1 x.2 rfl e
theorem opB {α β:Type}{o:Option α}{f:α->Option β}{r:β}{Q:Prop}(e:o.bind f=some r) (k:∀ x,o=some x->f x=some r->Q):Q:=by
 cases o with
 | none=>exact zan e
 | some x=>exact k x rfl e
theorem opM {α β:Type}{o:Option α}{f:α->β}{r:β}{Q:Prop}(e:o.map f=some r) (k:∀ x,o=some x->r=f x->Q):Q:=by
 cases o with
 | none=>exact zan e
 | some x=>exact k x rfl (Option.some.inj e).symm
theorem zaK {c:Prop} [Decidable c] {a:Option γ}(e:(if c then a else none)=some r):c/\a=some r:=
 if h:c then ⟨h,(if_pos h).symm.trans e⟩ else zan ((if_neg h).symm.trans e)
end
@[elab_as_elim] theorem RV.l_elim {G:Gh}{v:Value}{id:Nat}{P:Value->Prop}(h:RV G v (.l id)) (k:∀ a,G.f id=some a->P (.ref a)):P v:=by
 cases h with | l e=>exact k _ e
@[elab_as_elim] theorem RVs.nil_elim {G:Gh}{l:List Value}{P:List Value->Prop}(h:RVs G l []) (k:P []):P l:=by
 cases h;exact k
@[elab_as_elim] theorem RVs.cons_elim {G:Gh}{l:List Value}{x:V}{xs:List V}{P:List Value->Prop}(h:RVs G l (x::xs)) (k:∀ c cs,RV G c x->RVs G cs xs->P (c::cs)):P l:=by
 cases h with | cons h1 h2=>exact k _ _ h1 h2
@[elab_as_elim] theorem RVs.one_elim {G:Gh}{l:List Value}{x:V}{P:List Value->Prop}(h:RVs G l [x]) (k:∀ c,RV G c x->P [c]):P l:=
 h.cons_elim λc cs h1 h2=>h2.nil_elim (P:=λcs=>P (c::cs)) (k c h1)
@[elab_as_elim] theorem RVs.two_elim {G:Gh}{l:List Value}{x y:V}{P:List Value->Prop}(h:RVs G l [x,y]) (k:∀ c d,RV G c x->RV G d y->P [c,d]):P l:=
 h.cons_elim λc cs h1 h2=>h2.one_elim (P:=λcs=>P (c::cs)) λd h2=>k c d h1 h2
theorem RVs.asize {G:Gh}{l:Array Value}{vs:List V}(h:RVs G l.toList vs):l.size=vs.length:=h.length
theorem BInv.lstE {B:Bs}{c:Cfg}{id:Nat}{a:Addr}{vs:List V}{Q:Prop}(I:BInv B c) (h:c.hp[id]?=some (some vs)) (hf:c.G.f id=some a) (k:∀ items,c.G.g.get? a=none->c.s.heap.PlainList a items->RVs c.G items.toList vs->Q):Q:=by
 refine LstAt.E (I.lst id vs h) λa' items e1 e2 e3 e4=>?_
 cases Option.some.inj (e1.symm.trans hf)
 exact k items e2 e3 e4
theorem Stp.back {B:Bs}{pv:List Addr}{c c':Cfg}{a:Addr}(S:Stp B pv c c') (h:c'.s.heap.get? a=none):c.s.heap.get? a=none:=by
 cases hq:c.s.heap.get? a with
 | none=>rfl
 | some o=>(refine Ee (S.sz a ⟨o,hq⟩) λo' h'=>?_);exact zan (h.symm.trans h')
section
variable {B:Bs}{c:Cfg}
theorem BInv.mu_addr (_I:BInv B c) {id:Nat}{vs:List V}(h:c.hp[id]?=some (some vs)) {a:Addr}(e:c.G.f id=some a):mu c a:=⟨id,vs,h,e⟩
theorem BInv.tbl_not_mu (I:BInv B c):¬ mu c B.tbl:=λ⟨id,_,_,e⟩=>I.tabg.2 id e
theorem BInv.tbl_lt (I:BInv B c):Ex c.s.heap B.tbl:=let ⟨_,e,_⟩:=I.tab;⟨_,e⟩
theorem Ex.keep {h h':Heap}(hk:∀ a o,h.get? a=some o->h'.get? a=some o) (a:Addr) (x:Ex h a):Ex h' a:=let ⟨o,e⟩:=x;⟨o,hk a o e⟩
theorem Ex.ne {h:Heap}{a b:Addr}(x:Ex h a) (hb:h.get? b=none):a≠b:=by rintro rfl;(refine Ee x ?_;clear x;intro o e);rw [hb] at e;exact zan e
theorem zaJ {h:Heap}{a:Addr}(ha:h.objs.size<=a):h.get? a=none:=by
 cases e:h.get? a with
 | none=>rfl
 | some o=>exact absurd (Heap.lt_size e) (zsQ.mpr ha)
theorem BInv.g_none (I:BInv B c) {a:Addr}(ha:c.s.heap.get? a=none):c.G.g.get? a=none:=by
 cases e:c.G.g.get? a with
 | none=>rfl
 | some o=>have:=I.keep a o e;rw [ha] at this;exact zan this
theorem BInv.not_mu (I:BInv B c) {a:Addr}(ha:c.s.heap.get? a=none):¬ mu c a:=λ⟨_,_,_,e⟩=>(I.lt _ _ e).ne ha rfl
theorem BInv.grow (I:BInv B c) {s':Shared}(hk:∀ a o,c.s.heap.get? a=some o->s'.heap.get? a=some o)
  (hg:s'.gens=c.s.gens) (hos:s'.os=c.s.os):BInv B ⟨c.G,c.hp,s'⟩/\Stp B [] c ⟨c.G,c.hp,s'⟩:=by
 refine ⟨⟨λa o e=>hk a o (I.keep a o e),I.base,λid a e=>(I.lt id a e).keep hk,I.inj,I.fr,λid vs e=>?_,?_,I.tabg,by show AllBare s'.gens;rw [hg];exact I.bare⟩,?_⟩
 ·refine LstAt.E (I.lst id vs e) λa items h1 h2 h3 h4=>?_
  exact ⟨a,items,h1,h2,h3.at λo=>hk a o,h4⟩
 ·refine Eea I.tab λps h1 h2=>?_
  exact ⟨ps,hk _ _ h1,h2⟩
 ·exact ⟨λZ Z e=>e,λZ Z e=>e,λa o e Z Z Z=>hk a o e,λZ Z h1 h2=>⟨h1,h2⟩,λa h=>h.keep hk,λi x e=>by show s'.gens[i]?=some x;refine hg▸?_;exact e,hos,λZ Z e=>.inl e⟩
theorem BInv.toks (I:BInv B c) (k:Tok):BInv B ⟨c.G,c.hp,{ c.s with toks:=k }⟩/\Stp B [] c ⟨c.G,c.hp,{ c.s with toks:=k }⟩:=
 I.grow (λZ Z e=>e) rfl rfl
theorem BInv.froze (I:BInv B c) {s':Shared}{a:Addr}{o:Obj}(hk:∀ a o,c.s.heap.get? a=some o->s'.heap.get? a=some o)
  (hg:s'.gens=c.s.gens) (hos:s'.os=c.s.os) (ha:c.s.heap.get? a=none) (ho:s'.heap.get? a=some o) :
  ∃ g',g'.get? a=some o/\(∀ b,b≠a->g'.get? b=c.G.g.get? b)/\BInv B ⟨⟨g',c.G.f⟩,c.hp,s'⟩/\Stp B [] c ⟨⟨g',c.G.f⟩,c.hp,s'⟩:=by
 refine Eea (zcx c.G.g a o (Heap.get?_some_iff.mp ho).2) λg' e1 e2=>?_
 have hgn:=I.g_none ha
 have gg:∀ b x,c.G.g.get? b=some x->g'.get? b=some x:=λb x e=>by
  by_cases hb:b=a
  ·subst hb;rw [hgn] at e;exact zan e
  ·refine Eq.trans (e2 b hb) ?_;exact e
 have hlt:∀ b,Ex c.s.heap b->g'.get? b=c.G.g.get? b:=λb hb=>e2 b (hb.ne ha)
 refine ⟨g',e1,e2,⟨λb x e=>?_,λb x e=>gg b x (I.base b x e),λid b e=>(I.lt id b e).keep hk,I.inj,I.fr,λid vs e=>?_,?_,⟨?_,I.tabg.2⟩,by show AllBare s'.gens;rw [hg];exact I.bare⟩,?_⟩
 ·by_cases hb:b=a
  ·subst hb;rw [show (⟨⟨g',c.G.f⟩,c.hp,s'⟩:Cfg).G.g.get? b=g'.get? b from rfl,e1] at e;refine zfx e ?_;exact ho
  ·exact hk b x (I.keep b x (by refine (e2 b hb)▸?_;exact e))
 ·refine LstAt.E (I.lst id vs e) λb items h1 h2 h3 h4=>?_
  exact ⟨b,items,h1,by refine (show (⟨⟨g',c.G.f⟩,c.hp,s'⟩:Cfg).G.g.get? b=g'.get? b from rfl)▸(hlt b (I.lt _ _ h1))▸?_;exact h2,h3.at λo=>hk b o,RVs.mono (G:=c.G) (G':=⟨g',c.G.f⟩) gg (λZ Z e=>e) h4⟩
 ·refine Eea I.tab λps h1 h2=>?_
  exact ⟨ps,hk _ _ h1,B.mono _ _ _ gg h2⟩
 ·show g'.get? B.tbl=none
  refine Eq.trans (hlt _ I.tbl_lt) ?_;exact I.tabg.1
 ·refine ⟨gg,λZ Z e=>e,λb x e Z Z Z=>hk b x e,λb hb h1 h2=>⟨?_,h2⟩,λa h=>h.keep hk,λi x e=>by show s'.gens[i]?=some x;refine hg▸?_;exact e,hos,λZ Z e=>.inl e⟩
  refine Eq.trans (hlt b hb) ?_;exact h1
theorem BInv.newList (I:BInv B c) {s':Shared}{a:Addr}{items:Array Value}{vs:List V}(hk:∀ a o,c.s.heap.get? a=some o->s'.heap.get? a=some o)
  (hg:s'.gens=c.s.gens) (hos:s'.os=c.s.os) (ha:c.s.heap.get? a=none) (ho:s'.heap.PlainList a items) (hv:RVs c.G items.toList vs) :
  ∃ G',G'.f c.hp.length=some a/\BInv B ⟨G',c.hp++[some vs],s'⟩/\Stp B [] c ⟨G',c.hp++[some vs],s'⟩:=by
 have hne:∀ id b,c.G.f id=some b->id≠c.hp.length/\b≠a:=λid b e=>⟨λh=>(by rw [I.fr id (by exact zss h.symm)] at e;exact zan e),λh=>(I.lt _ _ e).ne ha h⟩
 have ff:∀ id b,c.G.f id=some b->(if id=c.hp.length then some a else c.G.f id)=some b:=λid b e=>by refine Eq.trans (if_neg (hne id b e).1) ?_;exact e
 have hat:Ex s'.heap a:=by (refine Ee ho ?_;clear ho;intro n e);exact ⟨_,e⟩
 have hget:∀ id,id≠c.hp.length->∀ x,(c.hp++[some vs])[id]?=some x->c.hp[id]?=some x:=λid h x e=>by
  rcases zr4 id c.hp.length with h1 | h1
  ·rwa [zrC h1] at e
  ·rw [zrH (by simp;lia)] at e;exact zan e
 refine ⟨⟨c.G.g,λid=>if id=c.hp.length then some a else c.G.f id⟩,by simp,⟨λb x e=>hk b x (I.keep b x e),I.base,λid b e=>?_,λi j b e1 e2=>?_,λid h=>?_,λid us e=>?_,?_,⟨I.tabg.1,λid e=>?_⟩,by show AllBare s'.gens;rw [hg];exact I.bare⟩,?_⟩
 ·dsimp only at e
  by_cases h:id=c.hp.length
  ·rw [if_pos h] at e;refine zfx e ?_;exact hat
  ·rw [if_neg h] at e;exact (I.lt _ _ e).keep hk
 ·dsimp only at e1 e2
  by_cases h1:i=c.hp.length <;> by_cases h2:j=c.hp.length
  ·exact h1.trans h2.symm
  ·rw [if_pos h1] at e1;rw [if_neg h2] at e2;cases e1;exact absurd rfl (hne _ _ e2).2
  ·rw [if_neg h1] at e1;rw [if_pos h2] at e2;cases e2;exact absurd rfl (hne _ _ e1).2
  ·rw [if_neg h1] at e1;rw [if_neg h2] at e2;exact I.inj _ _ _ e1 e2
 ·dsimp only at h ⊢
  rw [zro,ztl] at h
  refine Eq.trans (if_neg (by exact zrV (by assumption))) ?_;exact I.fr _ (by exact zrP (by assumption))
 ·by_cases h:id=c.hp.length
  ·subst h
   have:us=vs:=by simpa using e.symm
   subst this
   exact ⟨a,items,by simp,I.g_none ha,ho,RVs.mono (G:=c.G) (G':=⟨c.G.g,λid=>if id=c.hp.length then some a else c.G.f id⟩) (λZ Z e=>e) ff hv⟩
  ·refine LstAt.E (I.lst id us (hget id h _ e)) λb its h1 h2 h3 h4=>?_
   exact ⟨b,its,ff _ _ h1,h2,h3.at λo=>hk b o,RVs.mono (G:=c.G) (G':=⟨c.G.g,λid=>if id=c.hp.length then some a else c.G.f id⟩) (λZ Z e=>e) ff h4⟩
 ·refine Eea I.tab λps h1 h2=>?_
  exact ⟨ps,hk _ _ h1,h2⟩
 ·dsimp only at e
  by_cases h:id=c.hp.length
  ·rw [if_pos h] at e;cases e;exact I.tbl_lt.ne ha rfl
  ·rw [if_neg h] at e;exact I.tabg.2 _ e
 ·refine ⟨λZ Z e=>e,ff,λb x e Z Z Z=>hk b x e,λb hb h1 h2=>⟨h1,λ⟨id,us,q1,q2⟩=>?_⟩,λa h=>h.keep hk,λi x e=>by show s'.gens[i]?=some x;refine hg▸?_;exact e,hos,λid b e=>by
   by_cases h:id=c.hp.length
   ·have e':(if id=c.hp.length then some a else c.G.f id)=some b:=e
    rw [if_pos h] at e';cases e';exact .inr ha
   ·have e':(if id=c.hp.length then some a else c.G.f id)=some b:=e
    rw [if_neg h] at e';exact .inl e'⟩
  dsimp only at q1 q2
  by_cases h:id=c.hp.length
  ·rw [if_pos h] at q2;cases q2;exact hb.ne ha rfl
  ·rw [if_neg h] at q2;exact h2 ⟨id,us,hget id h _ q1,q2⟩
theorem BInv.setList (I:BInv B c) {s':Shared}{id:Nat}{a:Addr}{items:Array Value}{old vs:List V}(hid:c.hp[id]?=some (some old)) (hf:c.G.f id=some a) (hs:Heap.SameBut a c.s.heap s'.heap)
  (hg:s'.gens=c.s.gens) (hos:s'.os=c.s.os) (ho:s'.heap.PlainList a items) (hv:RVs c.G items.toList vs) :
  BInv B ⟨c.G,c.hp.set id (some vs),s'⟩/\Stp B [] c ⟨c.G,c.hp.set id (some vs),s'⟩:=by
 have hm:mu c a:=⟨id,old,hid,hf⟩
 have hgn:=I.mu_none hm
 have hex:∀ b,Ex c.s.heap b->Ex s'.heap b:=λb ⟨o,e⟩=>by
  by_cases h:b=a
  ·(refine Ee ho ?_;clear ho;intro n e);exact ⟨_,h▸e⟩
  ·exact ⟨o,(hs.2 b h).trans e⟩
 have hnt:a≠B.tbl:=λe=>I.tabg.2 id (e▸hf)
 have hget:∀ j us,(c.hp.set id (some vs))[j]?=some (some us)->(j=id/\us=vs)\/(j≠id/\c.hp[j]?=some (some us)):=λj us e=>by
  by_cases h:j=id
  ·subst h
   rw [zru (zr0.mp hid).1] at e
   exact .inl ⟨rfl,by simpa using e.symm⟩
  ·rw [zrT (Ne.symm h)] at e;exact .inr ⟨h,e⟩
 refine ⟨⟨λb x e=>?_,I.base,λj b e=>hex b (I.lt j b e),I.inj,λj h=>I.fr j (by simpa using h),λj us e=>?_,?_,I.tabg,by show AllBare s'.gens;rw [hg];exact I.bare⟩,?_⟩
 ·have:b≠a:=λh=>by rw [h,hgn] at e;exact zan e
  exact (hs.2 b this).trans (I.keep b x e)
 ·rcases hget j us e with ⟨rfl,rfl⟩ | ⟨hne,e'⟩
  ·exact ⟨a,items,hf,hgn,ho,hv⟩
  ·refine LstAt.E (I.lst j us e') λb its h1 h2 h3 h4=>?_
   have:b≠a:=λh=>hne (I.inj _ _ _ (h▸h1) hf)
   exact ⟨b,its,h1,h2,h3.at λo q=>(hs.2 b this).trans q,h4⟩
 ·refine Eea I.tab λps h1 h2=>?_
  exact ⟨ps,(hs.2 _ (Ne.symm hnt)).trans h1,h2⟩
 ·refine ⟨λZ Z e=>e,λZ Z e=>e,λb x e Z hb Z=>(hs.2 b λh=>hb (h▸hm)).trans e,λb Z h1 h2=>⟨h1,λ⟨j,us,q1,q2⟩=>?_⟩,hex,λi x e=>by show s'.gens[i]?=some x;refine hg▸?_;exact e,hos,λZ Z e=>.inl e⟩
  rcases hget j us q1 with ⟨rfl,rfl⟩ | ⟨_,e'⟩
  ·exact h2 ⟨j,old,hid,q2⟩
  ·exact h2 ⟨j,us,e',q2⟩
theorem BInv.freeze (I:BInv B c) {id:Nat}{a:Addr}{xs:List PyData}(hid:c.hp[id]?=some (some (xs.map V.d))) (hf:c.G.f id=some a) :
  ∃ g',BInv B ⟨⟨g',c.G.f⟩,c.hp.set id none,c.s⟩/\Stp B [] c ⟨⟨g',c.G.f⟩,c.hp.set id none,c.s⟩/\RV ⟨g',c.G.f⟩ (.ref a) (.d (.list xs)):=by
 obtain ⟨a',items,e1,hgn,⟨n,hpl⟩,hv⟩:=I.lst id _ hid
 rw [hf] at e1;cases e1
 refine Eea (zcx c.G.g a _ (Heap.get?_some_iff.mp hpl).2) λg' p1 p2=>?_
 have gg:∀ b x,c.G.g.get? b=some x->g'.get? b=some x:=λb x e=>by
  by_cases hb:b=a
  ·subst hb;rw [hgn] at e;exact zan e
  ·refine Eq.trans (p2 b hb) ?_;exact e
 have hnt:a≠B.tbl:=λe=>I.tabg.2 id (e▸hf)
 have hget:∀ j us,(c.hp.set id none)[j]?=some (some us)->j≠id/\c.hp[j]?=some (some us):=λj us e=>by
  by_cases h:j=id
  ·subst h
   rw [zru (zr0.mp hid).1] at e
   cases e
  ·rw [zrT (Ne.symm h)] at e;exact ⟨h,e⟩
 have hva:=hv.mono (G':=⟨g',c.G.f⟩) gg λZ Z e=>e
 refine Ee (RVs.reads hva) λas hr=>?_
 refine ⟨g',⟨λb x e=>?_,λb x e=>gg b x (I.base b x e),I.lt,I.inj,λj h=>I.fr j (by simpa using h),λj us e=>?_,?_,⟨?_,I.tabg.2⟩,I.bare⟩,?_,.d (reads_list_at p1 rfl rfl hr)⟩
 ·by_cases hb:b=a
  ·subst hb;rw [show (⟨⟨g',c.G.f⟩,c.hp.set id none,c.s⟩:Cfg).G.g.get? b=g'.get? b from rfl,p1] at e;refine zfx e ?_;exact hpl
  ·exact I.keep b x (by refine (p2 b hb)▸?_;exact e)
 ·obtain ⟨hne,e'⟩:=hget j us e
  refine LstAt.E (I.lst j us e') λb its h1 h2 h3 h4=>?_
  have:b≠a:=λh=>hne (I.inj _ _ _ (h▸h1) hf)
  exact ⟨b,its,h1,(p2 b this).trans h2,h3,RVs.mono (G:=c.G) (G':=⟨g',c.G.f⟩) gg (λZ Z e=>e) h4⟩
 ·refine Eea I.tab λps h1 h2=>?_
  exact ⟨ps,h1,B.mono _ _ _ gg h2⟩
 ·exact (p2 _ (Ne.symm hnt)).trans I.tabg.1
 ·refine ⟨gg,λZ Z e=>e,λb x e Z Z Z=>e,λb Z h1 h2=>⟨?_,λ⟨j,us,q1,q2⟩=>h2 ⟨j,us,(hget j us q1).2,q2⟩⟩,λZ h=>h,λZ Z e=>e,rfl,λZ Z e=>.inl e⟩
  have:b≠a:=λh=>h2 (h▸⟨id,_,hid,hf⟩)
  exact (p2 b this).trans h1
noncomputable def okV (n:Nat):V->Prop
 | .l id=>id < n
 | .bm id=>id < n
 | _=>True
noncomputable def frz:V->Prop
 | .l _=>False
 | .bm _=>False
 | _=>True
theorem frz.ok {v:V}(h:frz v) (n:Nat):okV n v:=by cases v <;> first | trivial | exact h.elim
structure zi8 (hp hp':HP) (v:V):Prop where
 len:hp.length<=hp'.length
 lst:∀ j,j < hp.length->hp'[j]?=hp[j]?\/∀ us,hp'[j]?=some (some us)->∀ u ∈ us,frz u
 val:okV hp.length v
noncomputable def zqi (n:Nat) (G:Gh):Gh:=⟨G.g,λid=>if id < n then G.f id else none⟩
theorem RV.cut {G:Gh}{n:Nat}{x:Value}{v:V}(h:RV G x v) (ho:okV n v):RV (zqi n G) x v:=by
 cases h with
 | d r=>exact .d r
 | @l a id e=>exact .l (by show (if id < n then _ else _)=_;refine Eq.trans (if_pos (show id < n from ho)) ?_;exact e)
 | raw=>exact .raw
 | @bm m a id e e'=>exact .bm (by show (if id < n then _ else _)=_;refine Eq.trans (if_pos (show id < n from ho)) ?_;exact e) e'
theorem RVs.cut {G:Gh}{n:Nat}{x:List Value}{v:List V}(h:RVs G x v) (ho:∀ u ∈ v,okV n u):RVs (zqi n G) x v:=by
 induction h with
 | nil=>exact .nil
 | cons h _ ih=>exact .cons (h.cut (ho _ (.head _))) (ih λu hu=>ho u (.tail _ hu))
theorem RVs.okV {c:Cfg}(I:BInv B c) {x:List Value}{v:List V}(h:RVs c.G x v):∀ u ∈ v,Mine.okV c.hp.length u:=by
 induction h with
 | nil=>intro u hu;cases hu
 | cons h _ ih=>
  intro u hu
  rcases zrs.mp hu with rfl | hu
  ·cases h with
   | d r=>trivial
   | raw=>trivial
   | bm e _=>
    rcases zr4 _ c.hp.length with q | q
    ·exact q
    ·rw [I.fr _ q] at e;exact zan e
   | l e=>
    rcases zr4 _ c.hp.length with q | q
    ·exact q
    ·rw [I.fr _ q] at e;exact zan e
  ·exact ih u hu
theorem BInv.cut {c₀:Cfg}{pv:List Addr}{v:V}(I₀:BInv B c₀) (I:BInv B c) (st:Stp B pv c₀ c) (ck:zi8 c₀.hp c.hp v) :
  BInv B ⟨zqi c₀.hp.length c.G,c.hp.take c₀.hp.length,c.s⟩/\Stp B pv c₀ ⟨zqi c₀.hp.length c.G,c.hp.take c₀.hp.length,c.s⟩:=by
 have hget:∀ j us,(c.hp.take c₀.hp.length)[j]?=some us->j < c₀.hp.length/\c.hp[j]?=some us:=λj us e=>by
  rcases zr4 j c₀.hp.length with h | h
  ·exact ⟨h,by rwa [List.getElem?_take_of_lt h] at e⟩
  ·rw [zrH (by simp;exact zrn (zty _ _) h)] at e;exact zan e
 have hf:∀ j b,(if j < c₀.hp.length then c.G.f j else none)=some b->j < c₀.hp.length/\c.G.f j=some b:=λj b e=>by
  by_cases h:j < c₀.hp.length
  ·rw [if_pos h] at e;exact ⟨h,e⟩
  ·rw [if_neg h] at e;exact zan e
 refine ⟨⟨I.keep,I.base,λj b e=>I.lt _ _ (hf j b e).2,λi j b e1 e2=>I.inj _ _ _ (hf i b e1).2 (hf j b e2).2,λj h=>?_,λj us e=>?_,I.tab,⟨I.tabg.1,λj e=>I.tabg.2 _ (hf j _ e).2⟩,I.bare⟩,?_⟩
 ·have h':¬ j < c₀.hp.length:=by
   have hl:=ck.len
   have:(c.hp.take c₀.hp.length).length<=j:=h
   rw [zuy] at this
   lia
  exact (if_neg h')
 ·obtain ⟨hj,e'⟩:=hget j _ e
  refine LstAt.E (I.lst j us e') λa items h1 h2 h3 h4=>?_
  refine ⟨a,items,by show (if _ then _ else _)=_;refine Eq.trans (if_pos hj) ?_;exact h1,h2,h3,h4.cut ?_⟩
  rcases ck.lst j hj with q | q
  ·rw [q] at e'
   refine LstAt.E (I₀.lst j us e') λa' items' Z Z Z k4=>?_
   exact k4.okV I₀
  ·exact λu hu=>(q us e' u hu).ok _
 ·refine ⟨st.gg,λj b e=>?_,st.kp,λa h1 h2 h3=>?_,st.sz,st.gn,st.os,λj b e=>st.nf j b (hf j b e).2⟩
  ·show (if _ then _ else _)=_
   (rw [if_pos];exact (st.ff j b e))
   rcases zr4 j c₀.hp.length with q | q
   ·exact q
   ·rw [I₀.fr _ q] at e;exact zan e
  ·obtain ⟨k1,k2⟩:=st.old a h1 h2 h3
   exact ⟨k1,λ⟨j,us,q1,q2⟩=>k2 ⟨j,us,(hget j _ q1).2,(hf j a q2).2⟩⟩
theorem BInv.priv (I:BInv B c) {s':Shared}{a:Addr}(hs:Heap.SameBut a c.s.heap s'.heap) (hgn:c.G.g.get? a=none) (hm:¬ mu c a) (ht:a≠B.tbl) (he:Ex s'.heap a)
  (hg:s'.gens=c.s.gens) (hos:s'.os=c.s.os):BInv B ⟨c.G,c.hp,s'⟩/\Stp B [a] c ⟨c.G,c.hp,s'⟩:=by
 have hex:∀ b,Ex c.s.heap b->Ex s'.heap b:=λb ⟨o,e⟩=>by
  by_cases h:b=a
  ·exact h▸he
  ·exact ⟨o,(hs.2 b h).trans e⟩
 refine ⟨⟨λb x e=>?_,I.base,λj b e=>hex b (I.lt j b e),I.inj,I.fr,λj us e=>?_,?_,I.tabg,by show AllBare s'.gens;rw [hg];exact I.bare⟩,?_⟩
 ·have:b≠a:=λh=>by rw [h,hgn] at e;exact zan e
  exact (hs.2 b this).trans (I.keep b x e)
 ·refine LstAt.E (I.lst j us e) λb its h1 h2 h3 h4=>?_
  have:b≠a:=λh=>hm (h▸⟨j,us,e,h1⟩)
  exact ⟨b,its,h1,h2,h3.at λo q=>(hs.2 b this).trans q,h4⟩
 ·refine Eea I.tab λps h1 h2=>?_
  exact ⟨ps,(hs.2 _ (Ne.symm ht)).trans h1,h2⟩
 ·exact ⟨λZ Z e=>e,λZ Z e=>e,λb x e hb Z Z=>(hs.2 b λh=>hb (by simp [h])).trans e,λb Z h1 h2=>⟨h1,h2⟩,hex,λi x e=>by show s'.gens[i]?=some x;refine hg▸?_;exact e,hos,λZ Z e=>.inl e⟩
end
structure FI where
 env:Env
 nm:List (Option Str)
 pv:List Addr
 own:List Addr
 cs:List Str
structure FOk (F:FI):Prop where
 kind:F.env.scope.kind=.function
 glob:F.env.globals=mainGlobals
 blt:F.env.builtins=builtinsNs
 loc:F.env.locals ∈ F.pv
 own:∀ a ∈ F.own,a ∈ F.pv
 nodup:∀ (i j:Nat) (x:Str),F.nm[i]?=some (some x)->F.nm[j]?=some (some x)->i=j
 cells:∀ x y c,F.env.cells.lookup x=some c->F.env.cells.lookup y=some c->x=y
noncomputable def Loads (F:FI) (h:Heap) (x:Str) (v:Value):Prop:=
 (F.env.kindOf x=some .local/\∃ m,h.Ns F.env.locals m/\m x=some v)\/
 ((F.env.kindOf x=some .cell\/F.env.kindOf x=some .free)/\∃ c,F.env.cells.lookup x=some c/\c ∈ F.pv/\h.IsCell c (some v))
structure FrInv (B:Bs) (F:FI) (loc:List (Option V)) (c:Cfg):Prop where
 ok:FOk F
 ns:∃ m,c.s.heap.Ns F.env.locals m
 pvs:∀ a ∈ F.pv,Ex c.s.heap a/\c.G.g.get? a=none/\¬ mu c a/\a≠B.tbl
 loc:∀ (k:Nat) (x:Str) (v:V),F.nm[k]?=some (some x)->loc[k]?=some (some v)->∃ cv,Loads F c.s.heap x cv/\RV c.G cv v
 cel:∀ x ∈ F.cs,F.env.kindOf x=some .cell->∃ a v,F.env.cells.lookup x=some a/\a ∈ F.own/\c.s.heap.IsCell a v
 lown:F.env.locals ∈ F.own
theorem Loads.keep {F:FI}{h h':Heap}{x:Str}{v:Value}(ok:FOk F) (hk:∀ a ∈ F.pv,∀ o,h.get? a=some o->h'.get? a=some o) (L:Loads F h x v):Loads F h' x v:=by
 rcases L with ⟨h1,m,h2,h3⟩ | ⟨h1,c,h2,h3,o,ho,hd⟩
 ·exact .inl ⟨h1,m,h2.at' (hk _ ok.loc),h3⟩
 ·exact .inr ⟨h1,c,h2,h3,o,hk _ h3 _ ho,hd⟩
theorem FrInv.keep {B:Bs}{F:FI}{loc:List (Option V)}{c c':Cfg}{pv:List Addr}(X:FrInv B F loc c) (st:Stp B pv c c') (hd:∀ a ∈ F.pv,a ∉ pv):FrInv B F loc c':=by
 have hk:∀ a ∈ F.pv,∀ o,c.s.heap.get? a=some o->c'.s.heap.get? a=some o:=λa ha o e=>st.kp a o e (hd a ha) (X.pvs a ha).2.2.1 (X.pvs a ha).2.2.2
 refine ⟨X.ok,?_,λa ha=>?_,λk x v h1 h2=>?_,λx hcs hx=>?_,X.lown⟩
 ·obtain ⟨m,h⟩:=X.ns
  exact ⟨m,h.at' (hk _ X.ok.loc)⟩
 ·refine zi6 (X.pvs a ha) λh1 h2 h3 h4=>?_
  obtain ⟨k1,k2⟩:=st.old a h1 h2 h3
  exact ⟨st.sz a h1,k1,k2,h4⟩
 ·refine Eea (X.loc k x v h1 h2) λcv L r=>?_
  exact ⟨cv,L.keep X.ok hk,r.step st⟩
 ·obtain ⟨a,v,h1,h2,o,ho,hd⟩:=X.cel x hcs hx
  exact ⟨a,v,h1,h2,o,hk a (X.ok.own a h2) o ho,hd⟩
theorem FrInv.step {B:Bs}{F:FI}{loc:List (Option V)}{c c':Cfg}(X:FrInv B F loc c) (st:Stp B [] c c'):FrInv B F loc c':=X.keep st λZ Z=>zrq
structure St where
 loc:List (Option V)
 hp:HP
noncomputable def AOk (n:Nat) (A:Around):Prop:=A.handled=none/\A.depth + n<=600/\A.units + 10 * n<=9000
theorem AOk.in1 {n:Nat}{A:Around}(h:AOk (n + 1) A):AOk n A.in1:=⟨h.1,by have:=h.2.1;show A.depth + n<=600;exact zrP (by assumption),by have:=h.2.2;show A.units + 1 + 10 * n<=9000;exact (zrn (by lia) this)⟩
theorem AOk.le {n k:Nat}{A:Around}(h:AOk n A) (hk:k<=n):AOk k A:=⟨h.1,by have:=h.2.1;exact (fk (al2 hk this) (by lia)),by have:=h.2.2;exact (fk (al2 (ml2 10 hk) this) (by lia))⟩
theorem AOk.deeper {n:Nat}{A:Around}{env:Env}(h:AOk (n + 1) A):AOk n (A.deeper env):=⟨h.1,by have:=h.2.1;show A.depth + 1 + n<=600;exact (zrn (by lia) this),by have:=h.2.2;show A.units + 3 + 10 * n<=9000;exact (zrn (by lia) this)⟩
theorem AOk.units {n:Nat}{A:Around}(h:AOk n A):A.units + 64 < cLine:=by have:=h.2.2;show A.units + 64 < 9900;exact zrt (zsw (zrn (zrI _ _) this) 64) (by decide)
theorem AOk.room {n:Nat}{A:Around}(h:AOk n A):A.depth < recursionLimit:=by have:=h.2.1;show A.depth < 1000;exact (fk this (by lia))
noncomputable abbrev NoE:Value->Shared->Prop:=λZ Z=>False
inductive PostV (B:Bs) (c:Cfg) (hp':HP) (v:V) (cv:Value) (s':Shared):Prop
 | mk (G':Gh):BInv B ⟨G',hp',s'⟩->Stp B [] c ⟨G',hp',s'⟩->RV G' cv v->PostV B c hp' v cv s'
theorem PostV.E {B:Bs}{c:Cfg}{hp':HP}{v:V}{cv:Value}{s':Shared}{Q:Prop}(h:PostV B c hp' v cv s') (k:∀ G',BInv B ⟨G',hp',s'⟩->Stp B [] c ⟨G',hp',s'⟩->RV G' cv v->Q):Q:=by
 obtain ⟨G',a,b,d⟩:=h;exact k G' a b d
inductive PostQ (B:Bs) (c:Cfg) (hp':HP) (b:Bool) (cb:Bool) (s':Shared):Prop
 | mk:cb=b->∀ G',BInv B ⟨G',hp',s'⟩->Stp B [] c ⟨G',hp',s'⟩->PostQ B c hp' b cb s'
theorem PostQ.E {B:Bs}{c:Cfg}{hp':HP}{b cb:Bool}{s':Shared}{Q:Prop}(h:PostQ B c hp' b cb s') (k:cb=b->∀ G',BInv B ⟨G',hp',s'⟩->Stp B [] c ⟨G',hp',s'⟩->Q):Q:=by
 obtain ⟨e,G',a,b⟩:=h;exact k e G' a b
inductive Fl where
 | next | brk | cont
 | ret (v:V)
inductive FlR (G:Gh):Flow->Fl->Prop
 | next:FlR G .next .next
 | brk:FlR G .brk .brk
 | cont:FlR G .cont .cont
 | ret {v:Value} {x:V}:RV G v x->FlR G (.ret v) (.ret x)
section
variable (prog:Program) (w:World) (B:Bs)
noncomputable def TSound (n:Nat) (F:FI) (t:Sem Value) (m:St->Option (V × HP)):Prop:=
 ∀ st v hp',m st=some (v,hp')->∀ A,AOk n A->∀ G s,BInv B ⟨G,st.hp,s⟩->FrInv B F st.loc ⟨G,st.hp,s⟩->
  wpAny (model prog w) A t (PostV B ⟨G,st.hp,s⟩ hp' v) NoE s
noncomputable def ESound (n:Nat) (F:FI) (e:Expr) (m:St->Option (V × HP)):Prop:=TSound prog w B n F (eval e F.env) m
noncomputable def QSound (n:Nat) (F:FI) (e:Expr) (m:St->Option (Bool × HP)):Prop:=
 ∀ st b hp',m st=some (b,hp')->∀ A,AOk n A->∀ G s,BInv B ⟨G,st.hp,s⟩->FrInv B F st.loc ⟨G,st.hp,s⟩->
  wpAny (model prog w) A (isTrue e F.env (eval e F.env)) (PostQ B ⟨G,st.hp,s⟩ hp' b) NoE s
inductive PostS (F:FI) (c:Cfg) (st':St) (fl:Fl) (f:Flow) (s':Shared):Prop
 | mk (G':Gh):BInv B ⟨G',st'.hp,s'⟩->FrInv B F st'.loc ⟨G',st'.hp,s'⟩->Stp B F.own c ⟨G',st'.hp,s'⟩->FlR G' f fl->PostS F c st' fl f s'
theorem PostS.E {B:Bs}{F:FI}{c:Cfg}{st':St}{fl:Fl}{f:Flow}{s':Shared}{Q:Prop}(h:PostS B F c st' fl f s') (k:∀ G',BInv B ⟨G',st'.hp,s'⟩->FrInv B F st'.loc ⟨G',st'.hp,s'⟩->Stp B F.own c ⟨G',st'.hp,s'⟩->FlR G' f fl->Q):Q:=by
 obtain ⟨G',a,b,d,e⟩:=h;exact k G' a b d e
inductive PostU {α:Type}(F:FI) (c:Cfg) (st':St) (u:α) (s':Shared):Prop
 | mk (G':Gh):BInv B ⟨G',st'.hp,s'⟩->FrInv B F st'.loc ⟨G',st'.hp,s'⟩->Stp B F.own c ⟨G',st'.hp,s'⟩->PostU F c st' u s'
theorem PostU.E {B:Bs}{α:Type}{u:α}{F:FI}{c:Cfg}{st':St}{s':Shared}{Q:Prop}(h:PostU B F c st' u s') (k:∀ G',BInv B ⟨G',st'.hp,s'⟩->FrInv B F st'.loc ⟨G',st'.hp,s'⟩->Stp B F.own c ⟨G',st'.hp,s'⟩->Q):Q:=by
 obtain ⟨G',a,b,d⟩:=h;exact k G' a b d
noncomputable def SSound (n:Nat) (F:FI) (t:Sem Flow) (m:St->Option (Fl × St)):Prop:=
 ∀ st fl st',m st=some (fl,st')->∀ A,AOk n A->∀ G s,BInv B ⟨G,st.hp,s⟩->FrInv B F st.loc ⟨G,st.hp,s⟩->
  wpAny (model prog w) A t (PostS B F ⟨G,st.hp,s⟩ st' fl) NoE s
noncomputable def zcI (n:Nat) (F:FI) (t:Value->Sem Unit) (m:V->St->Option St):Prop:=
 ∀ st x st',m x st=some st'->∀ A,AOk n A->∀ G s cv,BInv B ⟨G,st.hp,s⟩->FrInv B F st.loc ⟨G,st.hp,s⟩->RV G cv x->
  wpAny (model prog w) A (t cv) (PostU B F ⟨G,st.hp,s⟩ st') NoE s
end
section
variable {prog:Program}{w:World}{B:Bs}{n:Nat}{F:FI}
theorem TSound.use {t:Sem Value}{m:St->Option (V × HP)}(h:TSound prog w B n F t m) {st:St}{v:V}{hp':HP}(q:m st=some (v,hp')) {A:Around}(hA:AOk n A) {G:Gh}{s:Shared}(I:BInv B ⟨G,st.hp,s⟩) (X:FrInv B F st.loc ⟨G,st.hp,s⟩) {Q:Value->Shared->Prop}{E:Value->Shared->Prop}
  (k:∀ cv s1 G1,BInv B ⟨G1,hp',s1⟩->Stp B [] ⟨G,st.hp,s⟩ ⟨G1,hp',s1⟩->RV G1 cv v->Q cv s1):wpAny (model prog w) A t Q E s:=
 wpAny_mono (h st v hp' q A hA G s I X) (λcv s1 p=>p.E λG1 I1 S1 r1=>k cv s1 G1 I1 S1 r1) λZ Z x=>x.elim
theorem ESound.use {e:Expr}{m:St->Option (V × HP)}(h:ESound prog w B n F e m) {st:St}{v:V}{hp':HP}(q:m st=some (v,hp')) {A:Around}(hA:AOk n A) {G:Gh}{s:Shared}(I:BInv B ⟨G,st.hp,s⟩) (X:FrInv B F st.loc ⟨G,st.hp,s⟩) {Q:Value->Shared->Prop}{E:Value->Shared->Prop}
  (k:∀ cv s1 G1,BInv B ⟨G1,hp',s1⟩->Stp B [] ⟨G,st.hp,s⟩ ⟨G1,hp',s1⟩->RV G1 cv v->Q cv s1):wpAny (model prog w) A (eval e F.env) Q E s:=
 TSound.use h q hA I X k
theorem QSound.use {e:Expr}{m:St->Option (Bool × HP)}(h:QSound prog w B n F e m) {st:St}{b:Bool}{hp':HP}(q:m st=some (b,hp')) {A:Around}(hA:AOk n A) {G:Gh}{s:Shared}(I:BInv B ⟨G,st.hp,s⟩) (X:FrInv B F st.loc ⟨G,st.hp,s⟩) {Q:Bool->Shared->Prop}{E:Value->Shared->Prop}
  (k:∀ cb s1,cb=b->∀ G1,BInv B ⟨G1,hp',s1⟩->Stp B [] ⟨G,st.hp,s⟩ ⟨G1,hp',s1⟩->Q cb s1):wpAny (model prog w) A (isTrue e F.env (eval e F.env)) Q E s:=
 wpAny_mono (h st b hp' q A hA G s I X) (λcv s1 p=>p.E λe G1 I1 S1=>k cv s1 e G1 I1 S1) λZ Z x=>x.elim
theorem SSound.use {t:Sem Flow}{m:St->Option (Fl × St)}(h:SSound prog w B n F t m) {st:St}{fl:Fl}{st':St}(q:m st=some (fl,st')) {A:Around}(hA:AOk n A) {G:Gh}{s:Shared}(I:BInv B ⟨G,st.hp,s⟩) (X:FrInv B F st.loc ⟨G,st.hp,s⟩) {Q:Flow->Shared->Prop}{E:Value->Shared->Prop}
  (k:∀ f s1 G1,BInv B ⟨G1,st'.hp,s1⟩->FrInv B F st'.loc ⟨G1,st'.hp,s1⟩->Stp B F.own ⟨G,st.hp,s⟩ ⟨G1,st'.hp,s1⟩->FlR G1 f fl->Q f s1):wpAny (model prog w) A t Q E s:=
 wpAny_mono (h st fl st' q A hA G s I X) (λf s1 p=>p.E λG1 I1 X1 S1 r1=>k f s1 G1 I1 X1 S1 r1) λZ Z x=>x.elim
end
noncomputable def zgv {α:Type}:St->Option α:=λZ=>none
noncomputable def zau (a b:St->Option (Fl × St)):St->Option (Fl × St):=λst=>match a st with
 | some (.next,st')=>b st'
 | r=>r
noncomputable def zbC (c:St->Option (Bool × HP)) (a b:St->Option (Fl × St)):St->Option (Fl × St):=λst=>match c st with
 | some (true,h)=>a ⟨st.loc,h⟩
 | some (false,h)=>b ⟨st.loc,h⟩
 | none=>none
noncomputable def zas (f:Fl):St->Option (Fl × St):=λst=>some (f,st)
noncomputable def zdC (m:St->Option (V × HP)):St->Option (Fl × St):=λst=>match m st with
 | some (v,h)=>some (.ret v,⟨st.loc,h⟩)
 | none=>none
noncomputable def doM (m:St->Option (V × HP)) (u:V->St->Option St):St->Option (Fl × St):=λst=>match m st with
 | some (v,h)=>(match u v ⟨st.loc,h⟩ with | some st'=>some (.next,st') | none=>none)
 | none=>none
section
variable {prog:Program}{w:World}{B:Bs}{n:Nat}{F:FI}
theorem zea {t:Sem Flow}:SSound prog w B n F t zgv:=λZ Z Z h=>nomatch h
theorem znZ {t:Sem Value}:TSound prog w B n F t zgv:=λZ Z Z h=>nomatch h
theorem zoe {e:Expr}:QSound prog w B n F e zgv:=λZ Z Z h=>nomatch h
theorem ESound.le {k:Nat}{e:Expr}{m:St->Option (V × HP)}(h:ESound prog w B k F e m) (hk:k<=n):ESound prog w B n F e m:=
 λst v hp' e A hA=>h st v hp' e A (hA.le hk)
theorem QSound.le {k:Nat}{e:Expr}{m:St->Option (Bool × HP)}(h:QSound prog w B k F e m) (hk:k<=n):QSound prog w B n F e m:=
 λst v hp' e A hA=>h st v hp' e A (hA.le hk)
theorem zai:SSound prog w B n F (execs [] F.env) (zas .next):=λst fl st' h A hA G s I X=>by
 refine zcy h ?_
 exact wpAny_execs_nil ⟨G,I,X,Stp.refl _,.next⟩
theorem PostS.mono {c₁ c₂:Cfg}{st':St}{fl:Fl}(I₂:BInv B c₂) (st:Stp B F.own c₁ c₂) {f:Flow}{s:Shared}(h:PostS B F c₂ st' fl f s):PostS B F c₁ st' fl f s:=by
 refine PostS.E h λG' a b c d=>?_
 exact ⟨G',a,b,st.trans I₂ c (λZ h=>h),d⟩
theorem zab {x:Stmt}{rest:List Stmt}{a b:St->Option (Fl × St)}(ha:SSound prog w B n F (exec x F.env) a) (hb:SSound prog w B n F (execs rest F.env) b) :
  SSound prog w B n F (execs (x::rest) F.env) (zau a b):=λst fl st' h A hA G s I X=>by
 refine wpAny_execs_cons ?_
 unfold zau at h
 cases e:a st with
 | none=>rw [e] at h;exact zan h
 | some r=>
  obtain ⟨f1,st1⟩:=r
  rw [e] at h
  refine wpAny_mono (ha st f1 st1 e A hA G s I X) (λf s' hp=>?_) λZ Z x=>x
  refine PostS.E hp λG' I' X' S' hf=>?_
  cases hf with
  | next=>
   dsimp only at h ⊢
   exact wpAny_mono (hb st1 fl st' h A hA G' s' I' X') (λZ Z q=>PostS.mono I' S' q) λZ Z x=>x
  | brk=>dsimp only at h ⊢;cases h;exact ⟨G',I',X',S',.brk⟩
  | cont=>dsimp only at h ⊢;cases h;exact ⟨G',I',X',S',.cont⟩
  | ret r=>dsimp only at h ⊢;cases h;exact ⟨G',I',X',S',.ret r⟩
theorem zaS {test:Expr}{body orelse:List Stmt}{pos:Pos}{c:St->Option (Bool × HP)}{a b:St->Option (Fl × St)}(hc:QSound prog w B n F test c)
  (ha:SSound prog w B n F (execs body F.env) a) (hb:SSound prog w B n F (execs orelse F.env) b):SSound prog w B n F (exec (.If test body orelse pos) F.env) (zbC c a b):=λst fl st' h A hA G s I X=>by
 refine wpAny_If ?_
 unfold zbC at h
 cases e:c st with
 | none=>rw [e] at h;exact zan h
 | some r=>
  obtain ⟨v,h1⟩:=r
  rw [e] at h
  refine wpAny_mono (hc st v h1 e A hA G s I X) (λcb s' hp=>?_) λZ Z x=>x
  (refine PostQ.E hp λq0 G' I' S'=>?_;subst q0)
  have X':=X.step S'
  cases cb with
  | true=>
   dsimp only at h
   dsimp
   exact wpAny_mono (ha ⟨st.loc,h1⟩ fl st' h A hA G' s' I' X') (λZ Z q=>PostS.mono I' S'.weak q) λZ Z x=>x
  | false=>
   dsimp only at h
   dsimp
   exact wpAny_mono (hb ⟨st.loc,h1⟩ fl st' h A hA G' s' I' X') (λZ Z q=>PostS.mono I' S'.weak q) λZ Z x=>x
theorem zgr {pos:Pos}:SSound prog w B n F (exec (.Break pos) F.env) (zas .brk):=λst fl st' h A hA G s I X=>by
 refine zcy h ?_
 exact wpAny_Break ⟨G,I,X,Stp.refl _,.brk⟩
theorem zgK {pos:Pos}:SSound prog w B n F (exec (.Continue pos) F.env) (zas .cont):=λst fl st' h A hA G s I X=>by
 refine zcy h ?_
 exact wpAny_Continue ⟨G,I,X,Stp.refl _,.cont⟩
theorem zaL {e:Expr}{pos:Pos}{m:St->Option (V × HP)}(he:ESound prog w B n F e m):SSound prog w B n F (exec (.Return (some e) pos) F.env) (zdC m):=λst fl st' h A hA G s I X=>by
 refine wpAny_Return_some ?_
 refine mPV h λv h1 q h=>?_
 cases h
 refine wpAny_mono (he st v h1 q A hA G s I X) (λcv s' hp=>?_) λZ Z x=>x
 refine PostV.E hp λG' I' S' r=>?_
 exact ⟨G',I',X.step S',S'.weak,.ret r⟩
end
noncomputable def zae (k:Nat):St->Option (V × HP):=λst=>match st.loc[k]? with
 | some (some v)=>some (v,st.hp)
 | _=>none
noncomputable def zal (x:PyData):St->Option (V × HP):=λst=>some (.d x,st.hp)
noncomputable def zmo (v:Value):St->Option (V × HP):=λst=>some (.raw v,st.hp)
noncomputable def zaC (k:Nat) (v:V):St->Option St:=λst=>if k < st.loc.length then some ⟨st.loc.set k (some v),st.hp⟩ else none
noncomputable def zpV {α β:Type}(k:α->Option β):List α->Option (List β)
 | []=>some []
 | a::r=>(k a).bind λb=>(zpV k r).map (b::·)
theorem zhU {α β:Type}{k:α->Option β}{P:List α->List β->Prop}(h0:P [] []) (h1:∀ a b r s,k a=some b->P r s->P (a::r) (b::s)):∀ {l:List α}{ys:List β},zpV k l=some ys->P l ys:=by
 intro l
 induction l with
 | nil=>intro ys h;exact zfx h h0
 | cons a r ih=>
  intro ys h
  exact Eea (ztS.mp h) λb e h=>Eea (zr8.mp h) λs e' q=>q▸h1 a b r s e (ih e')
noncomputable def zhs:List V->Option (List PyData):=zpV (onD some)
theorem zdY {vs:List V}{xs:List PyData}(h:zhs vs=some xs):vs=xs.map V.d:=
 zhU (P:=λvs xs=>vs=xs.map V.d) rfl (λZ Z Z Z e ih=>zfA e λZ q e=>Option.some.inj e▸q▸ih▸rfl) h
theorem zcJ (xs:List PyData):zhs (xs.map V.d)=some xs:=by
 induction xs with
 | nil=>rfl
 | cons x r ih=>show (zhs (r.map V.d)).map _=_;refine (congrArg _ ih).trans ?_;rfl
noncomputable def zhE (hp:HP):V->Option (V × HP)
 | .l id=>bO hp[id]? λvs=>(zhs vs).map λxs=>(.d (.list xs),hp.set id none)
 | v=>some (v,hp)
noncomputable def zgB (m:St->Option (V × HP)):St->Option (V × HP):=λst=>match m st with
 | some (v,h)=>zhE h v
 | none=>none
section
variable {prog:Program}{w:World}{B:Bs}{n:Nat}{F:FI}
theorem zdj {c:Const}{k:Nat}{pos:Pos}{x:PyData}(h:c=.none/\x=.none\/(∃ b,c=.bool b/\x=.bool b)\/(∃ i,c=.int i/\x=.int i)\/(∃ t,c=.str t/\x=.str t)) :
  ESound prog w B n F (.Constant c k pos) (zal x):=λst v hp' e A hA G s I X=>by
 refine zcy e ?_
 rcases h with ⟨rfl,rfl⟩ | ⟨b,rfl,rfl⟩ | ⟨i,rfl,rfl⟩ | ⟨t,rfl,rfl⟩
 ·exact wpAny_Constant_none ⟨G,I,Stp.refl _,.d .none⟩
 ·exact wpAny_Constant_bool ⟨G,I,Stp.refl _,.d (.bool b)⟩
 ·exact wpAny_Constant_int (let ⟨a,b⟩:=I.toks (s.toks + 1);⟨G,a,b,.d (.int i _)⟩)
 ·exact wpAny_Constant_str (let ⟨a,b⟩:=I.toks (s.toks + 1);⟨G,a,b,.d (.str t _)⟩)
theorem ze6 {k:Nat}{pos:Pos}:ESound prog w B n F (.Constant .none k pos) (zal .none):=zdj (.inl ⟨rfl,rfl⟩)
theorem zcz {k:Nat}{pos:Pos}{b:Bool}:ESound prog w B n F (.Constant (.bool b) k pos) (zal (.bool b)):=zdj (.inr (.inl ⟨b,rfl,rfl⟩))
theorem zad {k:Nat}{pos:Pos}{i:Int}:ESound prog w B n F (.Constant (.int i) k pos) (zal (.int i)):=zdj (.inr (.inr (.inl ⟨i,rfl,rfl⟩)))
theorem zar {k:Nat}{pos:Pos}{t:Str}:ESound prog w B n F (.Constant (.str t) k pos) (zal (.str t)):=zdj (.inr (.inr (.inr ⟨t,rfl,rfl⟩)))
theorem zgh {x:Str}{cv:Value}{A:Around}{s:Shared}{Q:Value->Shared->Prop}{E:Value->Shared->Prop}(ok:FOk F) (L:Loads F s.heap x cv) (h:Q cv s) (hx:(x==("__classdict__":Str))=false) :
  wpAny (model prog w) A (loadName F.env x) Q E s:=by
 rcases L with ⟨h1,m,h2,h3⟩ | ⟨h1 | h1,c,h2,_,h3⟩
 ·exact wpAny_loadName_local ok.kind h1 h2 h3 h
 ·exact wpAny_loadName_cell ok.kind h1 h2 h3 h
 ·exact wpAny_loadName_free ok.kind h1 h2 h3 h hx
theorem zaa {k:Nat}{x:Str}{pos:Pos}(hk:F.nm[k]?=some (some x)) (hd:(x==("__debug__":Str))=false) (hx:(x==("__classdict__":Str))=false) :
  ESound prog w B n F (.Name x pos) (zae k):=λst v hp' e A hA G s I X=>by
 unfold zae at e
 split at e
 ·rename_i v' hv
  refine zcy e ?_
  refine Eea (X.loc k x _ hk hv) λcv L r=>?_
  exact wpAny_Name (zgh X.ok L ⟨G,I,Stp.refl _,r⟩ hx) hd
 ·exact zan e
theorem zdI {hp:HP}{id:Nat}{vs:List V}{xs:List PyData}(e1:hp[id]?=some (some vs)) (e2:zhs vs=some xs):zhE hp (.l id)=some (.d (.list xs),hp.set id none):=by
 show bO hp[id]? _=_
 rw [e1]
 show (zhs vs).map _=_
 rw [e2];rfl
theorem zlU {c:Cfg}(I:BInv B c) {cv:Value}{v:V}{x:V}{hp':HP}(r:RV c.G cv v) (h:zhE c.hp v=some (x,hp')) :
  ∃ g',BInv B ⟨⟨g',c.G.f⟩,hp',c.s⟩/\Stp B [] c ⟨⟨g',c.G.f⟩,hp',c.s⟩/\RV ⟨g',c.G.f⟩ cv x/\(∀ b o,c.G.g.get? b=some o->g'.get? b=some o):=by
 cases v with
 | l id=>
  refine zmQ (show bO (c.hp[id]?) _=some (x,hp') from h) λvs hid h=>Eea (zr8.mp h) λxs q2 h=>?_
  refine zcy (congrArg some h) ?_
  cases r with
  | l hf=>
   refine zkD (I.freeze (zdY q2▸hid:c.hp[id]?=some (some (xs.map V.d))) hf) λg' I2 S2 r2=>?_
   exact ⟨g',I2,S2,r2,S2.gg⟩
 | _=>refine zcy h ?_;exact ⟨c.G.g,I,Stp.refl _,r,λZ Z e=>e⟩
theorem zb9 {t:Sem Value}{m:St->Option (V × HP)}(h:TSound prog w B n F t m):TSound prog w B n F t (zgB m):=λst v hp' e A hA G s I X=>by
 unfold zgB at e
 refine mPV e λv1 h1 q e=>?_
 refine h.use q hA I X λcv s' G' I' S' r=>?_
 refine zkE (zlU I' r e) λg1 I2 S2 k Z=>?_
 exact ⟨_,I2,S'.trans0 I' S2,k⟩
theorem zcE {h:Heap}{a c:Addr}{m:Str->Option Value}{v:Option Value}(h1:h.Ns a m) (h2:h.IsCell c v):c≠a:=by
 rintro rfl
 refine zic h1 λo es ep e1 e2 Z=>?_
 refine Eea h2 λo' e3 e4=>?_
 rw [e1] at e3;cases e3
 rw [e2] at e4;contradiction
theorem zdN {k:Nat}{x:Str}{cv:Value}{v:V}{A:Around}{s:Shared}{G:Gh}{st:St}(hk:F.nm[k]?=some (some x)) (hkind:F.env.kindOf x=some .local\/(F.env.kindOf x=some .cell/\x ∈ F.cs)) (hlen:k < st.loc.length)
  (I:BInv B ⟨G,st.hp,s⟩) (X:FrInv B F st.loc ⟨G,st.hp,s⟩) (r:RV G cv v) :
  wpAny (model prog w) A (storeName F.env x cv) (PostU B F ⟨G,st.hp,s⟩ ⟨st.loc.set k (some v),st.hp⟩) NoE s:=by
 have ok:=X.ok
 rcases hkind with hl | ⟨hl,hcs⟩
 ·refine Ee X.ns λm hm=>?_
  refine zi6 (X.pvs _ ok.loc) λp1 p2 p3 p4=>?_
  refine wpAny_storeName_local hl hm (λh' hn hs=>?_) (by refine ok.kind▸?_;rfl)
  obtain ⟨I2,S2⟩:=I.priv (s':={ s with heap:=h',toks:=s.toks + 1 }) hs p2 p3 p4 (by (refine zfq hn λo Z Z ho Z=>?_);exact ⟨o,ho⟩) rfl rfl
  have S3:Stp B F.own ⟨G,st.hp,s⟩ ⟨G,st.hp,{ s with heap:=h',toks:=s.toks + 1 }⟩:=S2.weak2 λa ha=>by
   have:a=F.env.locals:=by simpa using ha
   exact this▸X.lown
  refine ⟨G,I2,⟨ok,⟨_,hn⟩,λa ha=>?_,λj y u h1 h2=>?_,λy hcs' hy=>?_,X.lown⟩,S3⟩
  ·refine zi6 (X.pvs a ha) λq1 q2 q3 q4=>?_
   exact ⟨S3.sz a q1,q2,q3,q4⟩
  ·by_cases e:j=k
   ·subst e
    rw [hk] at h1;cases h1
    rw [zru hlen] at h2;cases h2
    exact ⟨cv,.inl ⟨hl,_,hn,if_pos rfl⟩,r⟩
   ·rw [zrT (Ne.symm e)] at h2
    refine Eea (X.loc j y u h1 h2) λcu L ru=>?_
    refine ⟨cu,?_,ru⟩
    have hyx:y≠x:=λq=>e (ok.nodup j k y h1 (q▸hk))
    rcases L with ⟨b1,m',b2,b3⟩ | ⟨b1,c,b2,b3,b4⟩
    ·refine .inl ⟨b1,_,hn,?_⟩
     show (if y=x then some cv else m y)=some cu
     refine Eq.trans (if_neg hyx) ?_
     refine zhm hm λo es ep e1 e2 Z e4=>?_
     refine zhm b2 λo' es' ep' f1 f2 Z f4=>?_
     rw [e1] at f1;cases f1;rw [e2] at f2;cases f2
     rw [<- e4,f4];exact b3
    ·exact .inr ⟨b1,c,b2,b3,b4.sameBut hs (zcE hm b4)⟩
  ·refine zcG (X.cel y hcs' hy) λa u b1 b2 b3=>?_
   exact ⟨a,u,b1,b2,b3.sameBut hs (zcE hm b3)⟩
 ·refine zcG (X.cel x hcs hl) λa u b1 b2 b3=>?_
  refine zi6 (X.pvs a (ok.own a b2)) λp1 p2 p3 p4=>?_
  refine wpAny_storeName_cell ok.kind hl b1 b3 λh' hc hs=>?_
  obtain ⟨I2,S2⟩:=I.priv (s':={ s with heap:=h' }) hs p2 p3 p4 (by refine Eea hc λo ho Z=>?_;exact ⟨o,ho⟩) rfl rfl
  have S3:Stp B F.own ⟨G,st.hp,s⟩ ⟨G,st.hp,{ s with heap:=h' }⟩:=S2.weak2 λa' ha=>by
   have:a'=a:=by simpa using ha
   exact this▸b2
  refine Ee X.ns λm hm=>?_
  have hne:F.env.locals≠a:=Ne.symm (zcE hm b3)
  refine ⟨G,I2,⟨ok,⟨m,hm.sameBut hs hne⟩,λa' ha=>?_,λj y u h1 h2=>?_,λy hcs' hy=>?_,X.lown⟩,S3⟩
  ·refine zi6 (X.pvs a' ha) λq1 q2 q3 q4=>?_
   exact ⟨S3.sz a' q1,q2,q3,q4⟩
  ·by_cases e:j=k
   ·subst e
    rw [hk] at h1;cases h1
    rw [zru hlen] at h2;cases h2
    exact ⟨cv,.inr ⟨.inl hl,a,b1,ok.own a b2,hc⟩,r⟩
   ·rw [zrT (Ne.symm e)] at h2
    refine Eea (X.loc j y u h1 h2) λcu L ru=>?_
    refine ⟨cu,?_,ru⟩
    have hyx:y≠x:=λq=>e (ok.nodup j k y h1 (q▸hk))
    rcases L with ⟨b1',m',b2',b3'⟩ | ⟨b1',c,b2',b3',b4'⟩
    ·exact .inl ⟨b1',m',b2'.sameBut hs hne,b3'⟩
    ·exact .inr ⟨b1',c,b2',b3',b4'.sameBut hs λq=>hyx (ok.cells y x c b2' (q▸b1))⟩
  ·refine zcG (X.cel y hcs' hy) λa' u' c1 c2 c3=>?_
   by_cases e:a'=a
   ·subst e;exact ⟨a',_,c1,c2,hc⟩
   ·exact ⟨a',u',c1,c2,c3.sameBut hs e⟩
theorem zav {k:Nat}{x:Str}{pos:Pos}(hk:F.nm[k]?=some (some x)) (hkind:F.env.kindOf x=some .local\/(F.env.kindOf x=some .cell/\x ∈ F.cs)) :
  zcI prog w B n F (assign (.Name x pos) F.env) (zaC k):=λst v st' e A hA G s cv I X r=>by
 unfold zaC at e
 split at e
 ·rename_i hlen
  refine zfx e ?_
  exact wpAny_assign_Name (zdN hk hkind hlen I X r)
 ·exact zan e
theorem zah {x:Str}{pos pos':Pos}{value:Expr}{m:St->Option (V × HP)}{k:Nat}(he:ESound prog w B n F value m) (hk:F.nm[k]?=some (some x)) (hkind:F.env.kindOf x=some .local\/(F.env.kindOf x=some .cell/\x ∈ F.cs))
  (hs:swapsWith value (some (.Name x pos')) pos.line F.env=pure false):SSound prog w B n F (exec (.Assign [.Name x pos'] value pos) F.env) (doM m (zaC k)):=λst fl st' h A hA G s I X=>by
 refine mPV h λv h1 q h=>?_
 refine wpAny_Assign_Name (he.use q hA I X λcv s' G' I' S' r=>?_) hs
 unfold zaC at h
 split at h
 ·rename_i q2
  split at q2
  ·rename_i hlen
   cases q2;cases h
   refine wpAny_mono (zdN (st:=⟨st.loc,h1⟩) hk hkind hlen I' (X.step S') r) (λZ s2 hp2=>?_) λZ Z x=>x
   refine PostU.E hp2 λG2 I2 X2 S2=>?_
   exact ⟨G2,I2,X2,S'.weak.trans I' S2 (λZ h=>h),.next⟩
  ·exact zan q2
 ·exact zan h
end
section
variable (prog:Program) (w:World) (B:Bs)
noncomputable def zbi (n:Nat) (t:Value->Value->Sem Value) (m:HP->V->V->Option (V × HP)):Prop:=
 ∀ hp a b v hp',m hp a b=some (v,hp')->∀ A,AOk n A->∀ G s ca cb,BInv B ⟨G,hp,s⟩->RV G ca a->RV G cb b->wpAny (model prog w) A (t ca cb) (PostV B ⟨G,hp,s⟩ hp' v) NoE s
end
noncomputable def zat (op:HP->V->V->Option (V × HP)) (ml mr:St->Option (V × HP)):St->Option (V × HP):=λst=>match ml st with
 | some (a,h1)=>(match mr ⟨st.loc,h1⟩ with
  | some (b,h2)=>op h2 a b
  | none=>none)
 | none=>none
theorem zhu {prog:Program}{w:World}{B:Bs}{n:Nat}{F:FI}{tl tr:Sem Value}{ml mr:St->Option (V × HP)}(hl:TSound prog w B n F tl ml) (hr:TSound prog w B n F tr mr)
  {st:St} {a b:V} {h1 h2:HP} (e1:ml st=some (a,h1)) (e2:mr ⟨st.loc,h1⟩=some (b,h2)) {A:Around} (hA:AOk n A) {G:Gh} {s:Shared} (I:BInv B ⟨G,st.hp,s⟩) (X:FrInv B F st.loc ⟨G,st.hp,s⟩)
  {t:Value->Value->Sem Value} {Q:Value->Shared->Prop}
  (h:∀ G2 s2 ca cb,BInv B ⟨G2,h2,s2⟩->FrInv B F st.loc ⟨G2,h2,s2⟩->Stp B [] ⟨G,st.hp,s⟩ ⟨G2,h2,s2⟩->RV G2 ca a->RV G2 cb b->wpAny (model prog w) A (t ca cb) Q NoE s2) :
  wpAny (model prog w) A tl (λca s1=>wpAny (model prog w) A tr (λcb s2=>wpAny (model prog w) A (t ca cb) Q NoE s2) NoE s1) NoE s:=by
 refine hl.use e1 hA I X λca s1 G1 I1 S1 r1=>?_
 refine hr.use e2 hA I1 (X.step S1) λcb s2 G2 I2 S2 r2=>?_
 exact h G2 s2 ca cb I2 ((X.step S1).step S2) (S1.trans0 I1 S2) (r1.step S2) r2
theorem PostV.step {B:Bs}{c₁ c₂:Cfg}{hp':HP}{v:V}{cv:Value}{s':Shared}(I₂:BInv B c₂) (S:Stp B [] c₁ c₂) (h:PostV B c₂ hp' v cv s'):PostV B c₁ hp' v cv s':=by
 refine PostV.E h λG' a b c=>?_
 exact ⟨G',a,S.trans0 I₂ b,c⟩
section
variable {prog:Program}{w:World}{B:Bs}{n:Nat}{F:FI}
theorem zdq {op:HP->V->V->Option (V × HP)}{ml mr:St->Option (V × HP)}{st:St}{r:V × HP}(h:zat op ml mr st=some r) :
  ∃ a h1 b h2,ml st=some (a,h1)/\mr ⟨st.loc,h1⟩=some (b,h2)/\op h2 a b=some r:=by
 unfold zat at h
 cases e1:ml st with
 | none=>rw [e1] at h;exact zan h
 | some p=>
  obtain ⟨a,h1⟩:=p
  rw [e1] at h
  dsimp only at h
  cases e2:mr ⟨st.loc,h1⟩ with
  | none=>rw [e2] at h;exact zan h
  | some q=>
   obtain ⟨b,h2⟩:=q
   rw [e2] at h
   exact ⟨a,h1,b,h2,rfl,e2,h⟩
theorem zaq {op:Operator}{l r:Expr}{pos:Pos}{m:HP->V->V->Option (V × HP)}{ml mr:St->Option (V × HP)}(ho:zbi prog w B n (binaryOp op) m) (hl:ESound prog w B n F l ml) (hr:ESound prog w B n F r mr) :
  ESound prog w B n F (.BinOp l op r pos) (zat m ml mr):=λst v hp' e A hA G s I X=>by
 refine zeH (zdq e) λa h1 b h2 e1 e2 e3=>?_
 refine wpAny_BinOp (zhu hl hr e1 e2 hA I X λG2 s2 ca cb I2 Z S2 r1 r2=>?_)
 exact wpAny_mono (ho h2 a b v hp' e3 A hA G2 s2 ca cb I2 r1 r2) (λZ Z q=>q.step I2 S2) λZ Z x=>x
noncomputable def zac (p:PyData->PyData->Option PyData):HP->V->V->Option (V × HP):=λhp a b=>onD (λx=>onD (λy=>(p x y).map λz=>(.d z,hp)) b) a
theorem zcY (p:PyData->PyData->Option PyData) (hp:HP) (x y:PyData):zac p hp (.d x) (.d y)=(p x y).map λz=>(.d z,hp):=rfl
theorem zo1 {p:PyData->PyData->Option PyData}{hp:HP}{a b:V}{r:V × HP}(h:zac p hp a b=some r):∃ x y z,a=.d x/\b=.d y/\p x y=some z/\r=(.d z,hp):=
 zfA h λx q1 h=>zfA h λy q2 h=>opM h λz q3 h=>⟨x,y,z,q1,q2,q3,h⟩
theorem BInv.reads (_I:BInv B c) {v:Value}{x:PyData}(h:RV c.G v (.d x)):∃ as,Reads c.G.g v x as:=by
 cases h with | d r=>exact ⟨_,r⟩
theorem RV.int_inv {G:Gh}{v:Value}{i:Int}(h:RV G v (.d (.int i))):∃ t,v=.int i t:=by
 cases h with | d r=>cases r with | int i t=>exact ⟨t,rfl⟩
theorem RV.str_inv {G:Gh}{v:Value}{x:Str}(h:RV G v (.d (.str x))):∃ t,v=.str x t:=by
 cases h with | d r=>cases r with | str x t=>exact ⟨t,rfl⟩
theorem RV.bool_inv {G:Gh}{v:Value}{b:Bool}(h:RV G v (.d (.bool b))):v=.bool b:=by
 cases h with | d r=>cases r with | bool b=>rfl
theorem RV.none_inv {G:Gh}{v:Value}(h:RV G v (.d .none)):v=.none:=by
 cases h with | d r=>cases r with | none=>rfl
@[elab_as_elim] theorem RV.int_elim {G:Gh}{v:Value}{i:Int}{P:Value->Prop}(h:RV G v (.d (.int i))) (k:∀ t,P (.int i t)):P v:=by
 (refine Ee h.int_inv λt q0=>?_;subst q0);exact k t
@[elab_as_elim] theorem RV.str_elim {G:Gh}{v:Value}{x:Str}{P:Value->Prop}(h:RV G v (.d (.str x))) (k:∀ t,P (.str x t)):P v:=by
 (refine Ee h.str_inv λt q0=>?_;subst q0);exact k t
theorem RV.list_inv {G:Gh}{v:Value}{xs:List PyData}(h:RV G v (.d (.list xs))):∃ a items as,v=.ref a/\G.g.IsList a items/\ReadsAll G.g items.toList xs as:=by
 cases h with | d r=>cases r with | list h1 h2 h3 h4=>exact ⟨_,_,_,rfl,⟨_,h1,h2,_,h3⟩,h4⟩
theorem RV.tuple_inv {G:Gh}{v:Value}{xs:List PyData}(h:RV G v (.d (.tuple xs))):∃ a items as,v=.ref a/\G.g.IsTuple a items/\ReadsAll G.g items.toList xs as:=by
 cases h with | d r=>cases r with | tuple h1 h2 h3 h4=>exact ⟨_,_,_,rfl,⟨_,h1,h2,_,h3⟩,h4⟩
@[elab_as_elim] theorem RV.list_elim {G:Gh}{v:Value}{xs:List PyData}{P:Value->Prop}(h:RV G v (.d (.list xs))) (k:∀ a items as,G.g.IsList a items->ReadsAll G.g items.toList xs as->P (.ref a)):P v:=by
 (refine zic h.list_inv λa items as q0 h1 h2=>?_;subst q0);exact k a items as h1 h2
@[elab_as_elim] theorem RV.tuple_elim {G:Gh}{v:Value}{xs:List PyData}{P:Value->Prop}(h:RV G v (.d (.tuple xs))) (k:∀ a items as,G.g.IsTuple a items->ReadsAll G.g items.toList xs as->P (.ref a)):P v:=by
 (refine zic h.tuple_inv λa items as q0 h1 h2=>?_;subst q0);exact k a items as h1 h2
theorem IsList.keep {h h':Heap}{a:Addr}{its:Array Value}(x:h.IsList a its) (hk:∀ b o,h.get? b=some o->h'.get? b=some o):h'.IsList a its:=let ⟨o,ho,r⟩:=x;⟨o,hk _ _ ho,r⟩
theorem IsTuple.keep {h h':Heap}{a:Addr}{its:Array Value}(x:h.IsTuple a its) (hk:∀ b o,h.get? b=some o->h'.get? b=some o):h'.IsTuple a its:=let ⟨o,ho,r⟩:=x;⟨o,hk _ _ ho,r⟩
theorem zko {c:Cfg}(I:BInv B c) {s':Shared}{k:Tok}{cv:Value}{v:V}(e:s'={ c.s with toks:=k }) (r:RV c.G cv v):PostV B c c.hp v cv s':=by
 subst e
 refine Ea (I.toks k) λa b=>?_
 exact ⟨c.G,a,b,r⟩
theorem zdh {G:Gh}{hp:HP}{s:Shared}(I:BInv B ⟨G,hp,s⟩) {i:Int}{t:Tok}{k:Tok}:PostV B ⟨G,hp,s⟩ hp (.d (.int i)) (.int i t) { s with toks:=k }:=zko I rfl (.d (.int i t))
theorem zdK {G:Gh}{hp:HP}{s:Shared}(I:BInv B ⟨G,hp,s⟩) {x:Str}{t:Tok}{k:Tok}:PostV B ⟨G,hp,s⟩ hp (.d (.str x)) (.str x t) { s with toks:=k }:=zko I rfl (.d (.str x t))
theorem za3 {G:Gh}{hp:HP}{s:Shared}(I:BInv B ⟨G,hp,s⟩) {v:Value}{x:V}(r:RV G v x):PostV B ⟨G,hp,s⟩ hp x v s:=⟨G,I,Stp.refl _,r⟩
theorem zdB {G:Gh}{hp:HP}{s:Shared}(I:BInv B ⟨G,hp,s⟩) {items:Array Value}{xs:List PyData}{k n:Nat}(h:RVs G items.toList (xs.map V.d)) :
  PostV B ⟨G,hp,s⟩ hp (.d (.list xs)) (.ref s.heap.objs.size) { s with heap:=s.heap.push { cls:=.type "list",data:=.seq items n },toks:=k }:=by
 obtain ⟨g',e1,e2,I2,S2⟩:=I.froze (s':={ s with heap:=s.heap.push { cls:=.type "list",data:=.seq items n },toks:=k }) (a:=s.heap.objs.size) (λa o e=>Heap.get?_push_of_some _ e) rfl rfl (zaJ (zrv _)) (Heap.get?_push_size _ rfl)
 refine Ee (RVs.reads (h.step S2)) λas r=>?_
 exact ⟨_,I2,S2,.d (reads_list_at e1 rfl rfl r)⟩
theorem zhV {G:Gh}{hp:HP}{s:Shared}(I:BInv B ⟨G,hp,s⟩) {items:Array Value}{xs:List PyData}{k n:Nat}(h:RVs G items.toList (xs.map V.d)) :
  PostV B ⟨G,hp,s⟩ hp (.d (.tuple xs)) (.ref s.heap.objs.size) { s with heap:=s.heap.push { cls:=.type "tuple",data:=.seq items n },toks:=k }:=by
 obtain ⟨g',e1,e2,I2,S2⟩:=I.froze (s':={ s with heap:=s.heap.push { cls:=.type "tuple",data:=.seq items n },toks:=k }) (a:=s.heap.objs.size) (λa o e=>Heap.get?_push_of_some _ e) rfl rfl (zaJ (zrv _)) (Heap.get?_push_size _ rfl)
 refine Ee (RVs.reads (h.step S2)) λas r=>?_
 exact ⟨_,I2,S2,.d (reads_tuple_at e1 rfl rfl r)⟩
theorem zgk {G:Gh}{hp:HP}{s:Shared}(I:BInv B ⟨G,hp,s⟩) {items:Array Value}{vs:List V}{k n:Nat}(h:RVs G items.toList vs) :
  PostV B ⟨G,hp,s⟩ (hp++[some vs]) (.l hp.length) (.ref s.heap.objs.size) { s with heap:=s.heap.push { cls:=.type "list",data:=.seq items n },toks:=k }:=by
 obtain ⟨G',e1,I2,S2⟩:=I.newList (s':={ s with heap:=s.heap.push { cls:=.type "list",data:=.seq items n },toks:=k }) (a:=s.heap.objs.size) (λa o e=>Heap.get?_push_of_some _ e) rfl rfl (zaJ (zrv _)) ⟨n,Heap.get?_push_size _ rfl⟩ h
 exact ⟨G',I2,S2,.l e1⟩
noncomputable def zbr (k:Nat):Bool:=decide (k<=2 ^ 20)
theorem za1 {k:Nat}(h:zbr k=true):k<=2 ^ 20:=of_decide_eq_true h
theorem zn5:2 ^ 20 + 2 ^ 20<=sizeLine:=by decide
noncomputable def zbg:PyData->PyData->Option PyData:=λx y=>match x with
 | .int a=>dI (λb=>some (.int (a + b))) y
 | .str x=>dS (λy=>if zbr x.length && zbr y.length then some (.str (x++y)) else none) y
 | .list xs=>dL (λys=>if zbr xs.length && zbr ys.length then some (.list (xs++ys)) else none) y
 | _=>none
theorem RVs.ofReadsAll {G:Gh}{c:List Value}{xs:List PyData}{as:List Addr}(h:ReadsAll G.g c xs as):RVs G c (xs.map V.d):=RVs.of_reads h
theorem zdf {t:Value->Value->Sem Value}{p:PyData->PyData->Option PyData}(h:∀ hp x y z,p x y=some z->∀ A,AOk n A->∀ G s ca cb,BInv B ⟨G,hp,s⟩->RV G ca (.d x)->RV G cb (.d y)->wpAny (model prog w) A (t ca cb) (PostV B ⟨G,hp,s⟩ hp (.d z)) NoE s) :
  zbi prog w B n t (zac p):=λhp a b v hp' e A hA G s ca cb I r1 r2=>
 zfA e λx q1 e=>zfA e λy q2 e=>opM e λz e1 q3=>by
  cases q3
  exact h hp x y z e1 A hA G s ca cb I (q1▸r1) (q2▸r2)
theorem za8:zbi prog w B n (binaryOp .Add) (zac zbg):=zdf λhp x y z e1 A hA G s ca cb I r1 r2=>by
 cases x with
 | int a=>
  refine zj3 e1 λb q e1=>?_
  cases e1
  refine r1.int_elim λt=>?_
  refine (q▸r2:RV G cb (.d (.int b))).int_elim λu=>?_
  exact add_int (zdh I)
 | str x=>
  refine zpm e1 λy q e1=>?_
  subst q
  refine Ea (zaK e1) λhl e1=>?_
  cases e1
  refine r1.str_elim λt=>?_
  refine r2.str_elim λu=>?_
  simp only [zrA] at hl
  exact add_str (λZ Z=>zdK I) (zrn (zrY (za1 hl.1) (za1 hl.2)) zn5)
 | list xs=>
  refine zqY e1 λys q e1=>?_
  subst q
  refine Ea (zaK e1) λhl e1=>?_
  cases e1
  refine r1.list_elim λl its as h1 h2=>?_
  refine r2.list_elim λl2 its2 as2 k1 k2=>?_
  obtain ⟨⟨cls,dd,data,sl⟩,ho,hc,n,hd⟩:=IsList.keep h1 I.keep
  obtain ⟨⟨cls2,dd2,data2,sl2⟩,ho2,hc2,n2,hd2⟩:=IsList.keep k1 I.keep
  simp only at hc hd hc2 hd2
  subst hc hd hc2 hd2
  have q1:=RVs.of_reads h2
  have q2:=RVs.of_reads k2
  simp only [zrA] at hl
  have z1:its.size<=2 ^ 20:=by rw [q1.asize,zrN];exact za1 hl.1
  have z2:its2.size<=2 ^ 20:=by rw [q2.asize,zrN];exact za1 hl.2
  refine concat_meets ⟨_,ho,rfl⟩ ⟨_,ho2,rfl⟩ noFill_list_add seq_list_add PySem.F.slot_list_add PySem.F.entry_list_add (PySem.F.args_list_add_2 _ _) (list_addW l l2 its its2 n n2 dd dd2 sl sl2 (zrn (zrY z1 z2) zn5)) ⟨ho,ho2,?_⟩
  exact zdB (k:=s.toks) I (by rw [ztz,zrR];exact q1.append q2)
 | _=>exact zan e1
noncomputable def zaP (f:Int->Int->Option Int):PyData->PyData->Option PyData:=λx y=>dI (λa=>dI (λb=>(f a b).map .int) y) x
theorem zkf (f:Int->Int->Option Int) (a b:Int):zaP f (.int a) (.int b)=(f a b).map .int:=rfl
theorem zkY {f:Int->Int->Option Int}{x y z:PyData}(h:zaP f x y=some z):∃ a b c,x=.int a/\y=.int b/\f a b=some c/\z=.int c:=
 zj3 h λa q1 h=>zj3 h λb q2 h=>opM h λc q3 h=>⟨a,b,c,q1,q2,q3,h⟩
theorem zg1 {op:Operator}{f:Int->Int->Option Int}(hop:∀ (a b c:Int) (t u:Tok) (A:Around) (s:Shared) (Q:Value->Shared->Prop),f a b=some c->Q (.int c s.toks) { s with toks:=s.toks + 1 }->wpAny (model prog w) A (binaryOp op (.int a t) (.int b u)) Q NoE s) :
  zbi prog w B n (binaryOp op) (zac (zaP f)):=zdf λhp x y z e1 A hA G s ca cb I r1 r2=>by
 (refine zhm (zkY e1) λi j k q0 q1 e3 q2=>?_;subst q0;subst q1;subst q2)
 (refine Ee r1.int_inv λt q0=>?_;subst q0)
 (refine Ee r2.int_inv λu q0=>?_;subst q0)
 exact hop i j k t u A s _ e3 (zdh I)
noncomputable def small (i:Int):Bool:=decide (-(2 ^ 62) < i) && decide (i < 2 ^ 62)
theorem ze5 {i:Int}(h:small i=true):Builtin.Int.intBits i<=64:=by
 simp only [small,zrA,decide_eq_true_eq] at h
 exact intBits_le_64 (ifk h.1 (by simp +arith)) (ifk (r:=18446744073709551616) (R:=4611686018427387904) h.2 (by lia))
noncomputable def zh7 (a b:Int):Option Int:=some (a - b)
noncomputable def zlt (a b:Int):Option Int:=if small a then some (a * b) else none
noncomputable def zdd (a b:Int):Option Int:=if b=0 then none else some (a.fmod b)
noncomputable def zed (a b:Int):Option Int:=if b=0\/small b=false then none else some (a.fdiv b)
noncomputable def zod (a b:Int):Option Int:=if 0<=b/\b<=64/\small a=true then some (a ^ b.toNat) else none
noncomputable def zqM (a b:Int):Option Int:=if 0<=b then some (a.fdiv (2 ^ b.toNat)) else none
theorem zg2:zbi prog w B n (binaryOp .Sub) (zac (zaP zh7)):=zg1 λa b c t u A s Q e h=>by cases e;exact sub_int h
theorem zmj:zbi prog w B n (binaryOp .Mult) (zac (zaP zlt)):=zg1 λa b c t u A s Q e h=>by
 unfold zlt at e
 split at e
 ·rename_i hs
  cases e
  exact mul_int h (IntMulOk.of_left (ze5 hs))
 ·cases e
theorem zdU:zbi prog w B n (binaryOp .Mod) (zac (zaP zdd)):=zg1 λa b c t u A s Q e h=>by
 unfold zdd at e
 split at e
 ·cases e
 ·rename_i hs;cases e;exact mod_int' hs h
theorem znz {a b:Int}(h:small b=true):Builtin.divisionGoesByPylong a b=false:=by
 unfold Builtin.divisionGoesByPylong
 have hb:=ze5 h
 simp only [small,zrA,decide_eq_true_eq] at h
 have:(if (b==0)=true then 0 else b.natAbs.log2 / 30 + 1)<=300:=by
  split
  ·exact zr2 _
  ·have h1:b.natAbs < 2 ^ 62:=by omega
   have:b.natAbs.log2 < 62:=by
    by_cases h0:b.natAbs=0
    ·rw [h0];decide
    ·exact (Nat.log2_lt h0).mpr h1
   exact zus (zrt (ztw _ _) (zrZ this (by decide)))
 simp only [zt2,decide_eq_false_iff_not]
 left
 exact zsQ.mpr this
theorem zfh:zbi prog w B n (binaryOp .FloorDiv) (zac (zaP zed)):=zg1 λa b c t u A s Q e h=>by
 unfold zed at e
 split at e
 ·cases e
 ·rename_i hs
  cases e
  exact floordiv_int (λq=>hs (.inl q)) h (.inl (znz (by
   cases q:small b with
   | true=>rfl
   | false=>exact absurd (.inr q) hs)))
theorem zpZ:zbi prog w B n (binaryOp .Pow) (zac (zaP zod)):=zg1 λa b c t u A s Q e h=>by
 unfold zod at e
 split at e
 ·rename_i hs
  cases e
  have hb:=ze5 hs.2.2
  refine pow_int hs.1 ?_ h
  have h1:(Builtin.Int.intBits a:Int)<=64:=zsM.mpr (by assumption)
  have h2:(Builtin.Int.intBits a:Int) * b<=64 * 64:=Int.mul_le_mul h1 hs.2.1 hs.1 (by decide)
  exact zrO h2 (by decide)
 ·cases e
theorem zp0:zbi prog w B n (binaryOp .RShift) (zac (zaP zqM)):=zg1 λa b c t u A s Q e h=>by
 unfold zqM at e
 split at e
 ·rename_i hs;cases e;exact rshift_int hs h
 ·cases e
end
noncomputable def zdr (hp:HP):V->Option PyData
 | .d x=>some x
 | .l id=>match hp[id]? with
  | some (some vs)=>(zhs vs).map .list
  | _=>none
 | .raw _=>none
 | .bm _=>none
noncomputable def zbl (hp:HP):V->Option (List V)
 | .d (.list xs)=>some (xs.map V.d)
 | .l id=>match hp[id]? with
  | some (some vs)=>some vs
  | _=>none
 | _=>none
noncomputable def zay (m:St->Option (V × HP)):St->Option (Bool × HP):=λst=>bV (m st) λv h=>onD (dB λb=>some (b,h)) v
noncomputable def zfo (hp:HP):V->Option Bool
 | .d .none=>some false
 | .d (.bool b)=>some b
 | .d (.int i)=>some (i != 0)
 | .d (.str x)=>if zbr x.length then some (decide (0 < x.length)) else none
 | v=>match zbl hp v with
  | some xs=>if zbr xs.length then some (!xs.isEmpty) else none
  | none=>none
noncomputable def zbf (m:St->Option (V × HP)):St->Option (Bool × HP):=λst=>match m st with
 | some (v,h)=>(zfo h v).map (·,h)
 | none=>none
noncomputable def zmK (m:St->Option (Bool × HP)):St->Option (Bool × HP):=λst=>match m st with
 | some (b,h)=>some (!b,h)
 | none=>none
noncomputable def zcV (a b:St->Option (Bool × HP)):St->Option (Bool × HP):=λst=>match a st with
 | some (true,h)=>b ⟨st.loc,h⟩
 | r=>r
noncomputable def orM (a b:St->Option (Bool × HP)):St->Option (Bool × HP):=λst=>match a st with
 | some (false,h)=>b ⟨st.loc,h⟩
 | r=>r
noncomputable def zbq (b:Bool):St->Option (Bool × HP):=λst=>some (b,st.hp)
noncomputable def zdT (c:St->Option (Bool × HP)) (a b:St->Option (V × HP)):St->Option (V × HP):=λst=>match c st with
 | some (true,h)=>a ⟨st.loc,h⟩
 | some (false,h)=>b ⟨st.loc,h⟩
 | none=>none
section
variable {prog:Program}{w:World}{B:Bs}{n:Nat}{F:FI}
theorem zc7 {c:Cfg}(I:BInv B c) {v:V}{x:PyData}{cv:Value}(h:zdr c.hp v=some x) (r:RV c.G cv v):∃ as,Reads c.s.heap cv x as:=by
 cases v with
 | d y=>cases h;cases r with | d r=>exact ⟨_,Reads.keeps I.keep r⟩
 | raw y=>exact zan h
 | bm y=>exact zan h
 | l id=>
  unfold zdr at h
  dsimp only at h
  split at h
  ·rename_i vs hid
   cases q:zhs vs with
   | none=>rw [q] at h;exact zan h
   | some xs=>
    rw [q] at h;refine zfx h ?_
    have:=zdY q
    subst this
    obtain ⟨a,items,e1,e2,⟨k,e3⟩,e4⟩:=I.lst id _ hid
    cases r with
    | l hf=>
     rw [hf] at e1;cases e1
     obtain ⟨as,r⟩:=RVs.reads e4
     exact ⟨_,reads_list_at e3 rfl rfl (ReadsAll.keeps I.keep r)⟩
  ·exact zan h
theorem zdc {c:Cfg}(I:BInv B c) {v:V}{xs:List V}{cv:Value}(h:zbl c.hp v=some xs) (r:RV c.G cv v):∃ a items,cv=.ref a/\c.s.heap.IsList a items/\RVs c.G items.toList xs:=by
 cases v with
 | d y=>
  cases y with
  | list ys=>
   refine zfx h ?_
   refine r.list_elim λa items as h1 h2=>?_
   exact ⟨a,items,rfl,IsList.keep h1 I.keep,RVs.of_reads h2⟩
  | _=>exact zan h
 | raw y=>exact zan h
 | bm y=>exact zan h
 | l id=>
  unfold zbl at h
  dsimp only at h
  split at h
  ·rename_i vs hid
   cases h
   refine LstAt.E (I.lst id _ hid) λa items e1 e2 e3 e4=>?_
   cases r with
   | l hf=>
    rw [hf] at e1;cases e1
    exact ⟨a,items,rfl,e3.isList,e4⟩
  ·exact zan h
@[elab_as_elim] theorem zhM {c:Cfg}(I:BInv B c) {v:V}{xs:List V}{cv:Value}{P:Value->Prop}(h:zbl c.hp v=some xs) (r:RV c.G cv v) (k:∀ a items,c.s.heap.IsList a items->RVs c.G items.toList xs->P (.ref a)):P cv:=by
 (refine zcG (zdc I h r) λa items q0 h1 h2=>?_;subst q0);exact k a items h1 h2
theorem zb8 {op:CmpOp}{l r:Expr}{pos:Pos}{m:HP->V->V->Option (V × HP)}{ml mr:St->Option (V × HP)}(ho:zbi prog w B n (compareOp op) m) (hl:ESound prog w B n F l ml) (hr:ESound prog w B n F r mr)
  (hm:behindInMarks op r=false):ESound prog w B n F (.Compare l [op] [r] pos) (zat m ml mr):=λst v hp' e A hA G s I X=>by
 refine zeH (zdq e) λa h1 b h2 e1 e2 e3=>?_
 refine wpAny_Compare1 (zhu hl hr e1 e2 hA I X λG2 s2 ca cb I2 Z S2 r1 r2=>?_) hm
 exact wpAny_mono (ho h2 a b v hp' e3 A hA G2 s2 ca cb I2 r1 r2) (λZ Z q=>q.step I2 S2) λZ Z x=>x
theorem zgP {m:St->Option (V × HP)}{st:St}{r:Bool × HP}(h:zay m st=some r):m st=some (.d (.bool r.1),r.2):=
 zfG h λv h' q e=>zfA e λx q' e=>zq7 e λb q'' e=>by subst q' q'';exact Option.some.inj e▸q
theorem za5 {op:CmpOp}{l r:Expr}{pos:Pos}{m:HP->V->V->Option (V × HP)}{ml mr:St->Option (V × HP)}(ho:zbi prog w B n (compareOp op) m) (hl:ESound prog w B n F l ml) (hr:ESound prog w B n F r mr)
  (hm:behindInMarks op r=false):QSound prog w B n F (.Compare l [op] [r] pos) (zay (zat m ml mr)):=λst b hp' e A hA G s I X=>by
 refine zeH (zdq (zgP e)) λa h1 b' h2 e1 e2 e3=>?_
 refine wpAny_isTrue_Compare1 (zhu (t:=λa b=>compareOp op a b) (Q:=λc s₃=>wpAny (model prog w) A (truthy c) (PostQ B ⟨G,st.hp,s⟩ hp' b) NoE s₃) hl hr e1 e2 hA I X λG2 s2 ca cb I2 Z S2 r1 r2=>?_) hm
 refine wpAny_mono (ho h2 a b' _ hp' e3 A hA G2 s2 ca cb I2 r1 r2) (λcv s3 q=>?_) λZ Z x=>x
 refine PostV.E q λG3 I3 S3 r3=>?_
 refine r3.bool_inv▸?_
 exact wpAny_truthy_bool ⟨rfl,G3,I3,S2.trans0 I2 S3⟩
theorem zhj {c:Cfg}(I:BInv B c) {v:V}{b:Bool}{cv:Value}{A:Around}(h:zfo c.hp v=some b) (r:RV c.G cv v) :
  wpAny (model prog w) A (truthy cv) (λcb s'=>cb=b/\BInv B ⟨c.G,c.hp,s'⟩/\Stp B [] c ⟨c.G,c.hp,s'⟩) NoE c.s:=by
 have list:∀ xs,zbl c.hp v=some xs->zbr xs.length=true->b = !xs.isEmpty->wpAny (model prog w) A (truthy cv) (λcb s'=>cb=b/\BInv B ⟨c.G,c.hp,s'⟩/\Stp B [] c ⟨c.G,c.hp,s'⟩) NoE c.s:=by
  intro xs hx hl hb
  refine zhM I hx r λa items h1 h2=>?_
  have hs:items.size=xs.length:=h2.asize
  have hk:=za1 hl
  refine wpAny_truthy_list h1 (by rw [hs];exact zrS.mpr (zrt hk (by decide))) ?_
  obtain ⟨x,y⟩:=I.toks (c.s.toks + 1 + 1)
  refine ⟨?_,x,y⟩
  rw [hb]
  cases xs with
  | nil=>simp only [zuN,hs];rfl
  | cons u us=>simp only [zuN,hs];rfl
 have other:(match zbl c.hp v with | some xs=>if zbr xs.length then some (!xs.isEmpty) else none | none=>none)=some b->wpAny (model prog w) A (truthy cv) (λcb s'=>cb=b/\BInv B ⟨c.G,c.hp,s'⟩/\Stp B [] c ⟨c.G,c.hp,s'⟩) NoE c.s:=by
  intro q
  split at q
  ·rename_i xs hx
   split at q
   ·rename_i hl;cases q;exact list xs hx hl rfl
   ·exact zan q
  ·exact zan q
 cases v with
 | raw y=>exact other h
 | bm y=>exact other h
 | l id=>exact other h
 | d y=>
  cases y with
  | none=>cases h;refine r.none_inv▸?_;exact truthy_none ⟨rfl,I,Stp.refl _⟩
  | bool b'=>cases h;refine r.bool_inv▸?_;exact wpAny_truthy_bool ⟨rfl,I,Stp.refl _⟩
  | int i=>
   cases h
   refine r.int_elim λt=>?_
   exact PySem.P.truthy_int ⟨rfl,I,Stp.refl _⟩
  | str x=>
   unfold zfo at h
   dsimp only at h
   split at h
   ·rename_i hl
    cases h
    refine r.str_elim λt=>?_
    have hk:=za1 hl
    refine PySem.P.truthy_str (by lia) ?_
    obtain ⟨p,q⟩:=I.toks (c.s.toks + 1 + 1)
    refine ⟨?_,p,q⟩
    by_cases h0:x.length=0
    ·refine (Eq.symm h0)▸?_;rfl
    ·have:0 < x.length:=zsS h0
     rw [decide_eq_true this]
     have:((x.length:Int)≠0):=(zsU (zrJ (zrS.mpr this) (by lia)))
     simpa using this
   ·exact zan h
  | list xs=>exact other h
  | tuple xs=>exact other h
  | dict xs=>exact other h
theorem zfD {e:Expr}{m:St->Option (V × HP)}(he:ESound prog w B n F e m) (ht:isTrue e F.env (eval e F.env)=(do let v <- eval e F.env;standAt e.pos;holding [v] (truthy v))):QSound prog w B n F e (zbf m):=λst b hp' h A hA G s I X=>by
 unfold zbf at h
 refine mPV h λv h1 q h=>?_
 cases q2:zfo h1 v with
 | none=>rw [q2] at h;exact zan h
 | some b'=>
  rw [q2] at h;cases h
  refine wpAny_isTrue_value (he.use q hA I X λcv s1 G1 I1 S1 r1=>?_) ht
  exact wpAny_mono (zhj (c:=⟨G1,hp',s1⟩) I1 q2 r1) (λcb s2 p=>⟨p.1,G1,p.2.1,S1.trans0 I1 p.2.2⟩) λZ Z x=>x
theorem zp5 {x:Expr}{pos:Pos}{m:St->Option (Bool × HP)}(h:QSound prog w B n F x m):QSound prog w B n F (.UnaryOp .Not x pos) (zmK m):=λst b hp' e A hA G s I X=>by
 unfold zmK at e
 refine mPB e λb1 h1 q e=>?_
 refine zcy e ?_
 refine wpAny_isTrue_Not (wpAny_mono (h st b1 h1 q A hA G s I X) (λcb s1 p=>let ⟨e,G1,I1,S1⟩:=p;⟨by exact congrArg _ e,G1,I1,S1⟩) λZ Z x=>x)
noncomputable def zoj (prog:Program) (w:World) (B:Bs) (n:Nat) (F:FI) (op:BoolOp) (es:List Expr) (m:St->Option (Bool × HP)):Prop:=
 ∀ st b hp',m st=some (b,hp')->∀ A,AOk n A->∀ G s,BInv B ⟨G,st.hp,s⟩->FrInv B F st.loc ⟨G,st.hp,s⟩->
  wpAny (model prog w) A (allTrue op es F.env) (PostQ B ⟨G,st.hp,s⟩ hp' b) NoE s
theorem zdp:zoj prog w B n F .And [] (zbq true):=λst b hp' e A hA G s I X=>by
 refine zcy e ?_;exact wpAny_allTrue_And_nil ⟨rfl,G,I,Stp.refl _⟩
theorem zkl:zoj prog w B n F .Or [] (zbq false):=λst b hp' e A hA G s I X=>by
 refine zcy e ?_;exact wpAny_allTrue_Or_nil ⟨rfl,G,I,Stp.refl _⟩
theorem zbs {x:Expr}{rest:List Expr}{a b:St->Option (Bool × HP)}(ha:QSound prog w B n F x a) (hb:zoj prog w B n F .And rest b):zoj prog w B n F .And (x::rest) (zcV a b):=λst v hp' e A hA G s I X=>by
 unfold zcV at e
 cases q:a st with
 | none=>rw [q] at e;exact zan e
 | some r=>
  obtain ⟨b1,h1⟩:=r
  rw [q] at e
  refine wpAny_allTrue_And_cons (ha.use q hA I X λcb s1 q0 G1 I1 S1=>?_)
  subst q0
  cases cb with
  | true=>
   dsimp only at e
   dsimp
   exact wpAny_mono (hb ⟨st.loc,h1⟩ v hp' e A hA G1 s1 I1 (X.step S1)) (λcb s2 p=>PostQ.E p λe G2 I2 S2=>⟨e,G2,I2,S1.trans0 I1 S2⟩) λZ Z x=>x
  | false=>
   dsimp only at e
   refine zcy e ?_
   dsimp
   exact ⟨rfl,G1,I1,S1⟩
theorem zcS {x:Expr}{rest:List Expr}{a b:St->Option (Bool × HP)}(ha:QSound prog w B n F x a) (hb:zoj prog w B n F .Or rest b):zoj prog w B n F .Or (x::rest) (orM a b):=λst v hp' e A hA G s I X=>by
 unfold orM at e
 cases q:a st with
 | none=>rw [q] at e;exact zan e
 | some r=>
  obtain ⟨b1,h1⟩:=r
  rw [q] at e
  refine wpAny_allTrue_Or_cons (ha.use q hA I X λcb s1 q0 G1 I1 S1=>?_)
  subst q0
  cases cb with
  | false=>
   dsimp only at e
   dsimp
   exact wpAny_mono (hb ⟨st.loc,h1⟩ v hp' e A hA G1 s1 I1 (X.step S1)) (λcb s2 p=>PostQ.E p λe G2 I2 S2=>⟨e,G2,I2,S1.trans0 I1 S2⟩) λZ Z x=>x
  | true=>
   dsimp only at e
   refine zcy e ?_
   dsimp
   exact ⟨rfl,G1,I1,S1⟩
theorem zdl {op:BoolOp}{es:List Expr}{pos:Pos}{m:St->Option (Bool × HP)}(h:zoj prog w B n F op es m):QSound prog w B n F (.BoolOp op es pos) m:=λst b hp' e A hA G s I X=>
 wpAny_isTrue_BoolOp (h st b hp' e A hA G s I X)
theorem zbp {test body orelse:Expr}{pos:Pos}{c:St->Option (Bool × HP)}{a b:St->Option (V × HP)}(hc:QSound prog w B n F test c) (ha:ESound prog w B n F body a) (hb:ESound prog w B n F orelse b) :
  ESound prog w B n F (.IfExp test body orelse pos) (zdT c a b):=λst v hp' e A hA G s I X=>by
 unfold zdT at e
 cases q:c st with
 | none=>rw [q] at e;exact zan e
 | some r=>
  obtain ⟨b1,h1⟩:=r
  rw [q] at e
  refine wpAny_IfExp (hc.use q hA I X λcb s1 q0 G1 I1 S1=>?_)
  subst q0
  cases cb with
  | true=>
   dsimp only at e
   dsimp
   exact wpAny_mono (ha ⟨st.loc,h1⟩ v hp' e A hA G1 s1 I1 (X.step S1)) (λZ Z p=>PostV.step I1 S1 p) λZ Z x=>x
  | false=>
   dsimp only at e
   dsimp
   exact wpAny_mono (hb ⟨st.loc,h1⟩ v hp' e A hA G1 s1 I1 (X.step S1)) (λZ Z p=>PostV.step I1 S1 p) λZ Z x=>x
theorem zfm {test:Expr}{msg:Option Expr}{pos:Pos}{c:St->Option (Bool × HP)}(hc:QSound prog w B n F test c):SSound prog w B n F (exec (.Assert test msg pos) F.env) (zbC c (zas .next) zgv):=λst fl st' h A hA G s I X=>by
 unfold zbC at h
 cases e:c st with
 | none=>rw [e] at h;exact zan h
 | some r=>
  obtain ⟨v,h1⟩:=r
  rw [e] at h
  cases v with
  | false=>exact zan h
  | true=>
   refine zcy h ?_
   refine wpAny_Assert_holds (hc.use e hA I X λcb s1 hb G1 I1 S1=>?_)
   exact ⟨hb,G1,I1,X.step S1,S1.weak,.next⟩
end
noncomputable def shp (x:PyData):Bool:=SeqAt.shaped x
noncomputable def za6 (neg:Bool):HP->V->V->Option (V × HP):=λhp a b=>match zdr hp a,zdr hp b with
 | some x,some y=>if shp x && shp y then some (.d (.bool (if neg then !PyData.eqv x y else PyData.eqv x y)),hp) else none
 | _,_=>none
noncomputable def zqu (f:Int->Int->Bool):PyData->PyData->Option PyData:=λx y=>dI (λa=>dI (λb=>some (.bool (f a b))) y) x
noncomputable def dP (k:Int->Int->Option PyData):List PyData->Option PyData:=on2 λx y=>dI (λa=>dI (λb=>k a b) y) x
theorem zqZ {k:Int->Int->Option PyData}{xs:List PyData}{r:PyData}{Q:Prop}(e:dP k xs=some r) (h:∀ a b,xs=[.int a,.int b]->k a b=some r->Q):Q:=
 zlb e λx y q e=>zj3 e λa q1 e=>zj3 e λb q2 e=>h a b (by subst q1 q2;exact q) e
noncomputable def ltD:PyData->PyData->Option PyData:=λx y=>match x with
 | .int a=>dI (λb=>some (.bool (decide (a < b)))) y
 | .tuple xs=>dT (λys=>dP (λa b=>dP (λc d=>some (.bool (decide (a < c\/(a=c/\b < d))))) ys) xs) y
 | _=>none
noncomputable def gtD:PyData->PyData->Option PyData:=λx y=>match x with
 | .int a=>dI (λb=>some (.bool (decide (b < a)))) y
 | .str x=>dS (λy=>some (.bool (decide (y.cps.toList < x.cps.toList)))) y
 | _=>none
noncomputable def inD (neg:Bool):PyData->PyData->Option PyData:=λd c=>match c with
 | .str x=>dS (λy=>some (.bool (if neg then !(!(Builtin.Str.occurrences x y 0 x.length 1).isEmpty) else !(Builtin.Str.occurrences x y 0 x.length 1).isEmpty))) d
 | .list xs=>if shp (.list xs) && shp d then some (.bool (if neg then !xs.any λy=>PyData.eqv y d else xs.any λy=>PyData.eqv y d)) else none
 | .tuple xs=>if shp (.tuple xs) && shp d then some (.bool (if neg then !xs.any λy=>PyData.eqv y d else xs.any λy=>PyData.eqv y d)) else none
 | _=>none
noncomputable def zl3:HP->V->V->Option (V × HP):=λhp a b=>onS (λZ=>onR (λZ=>some (.d (.bool true),hp)) b) a
section
variable {prog:Program}{w:World}{B:Bs}{n:Nat}{F:FI}
theorem znY {neg:Bool}{hp hp':HP}{a b v:V}{Q:Prop}(e:za6 neg hp a b=some (v,hp')) (k:∀ x y,zdr hp a=some x->zdr hp b=some y->(shp x && shp y)=true->some (V.d (.bool (if neg then !PyData.eqv x y else PyData.eqv x y)),hp)=some (v,hp')->Q):Q:=by
 unfold za6 at e
 refine zqH (zdr hp a) (λhx=>?_) λx hx=>zqH (zdr hp b) (λhy=>?_) λy hy=>?_
 ·rw [hx] at e;exact zan e
 ·rw [hx,hy] at e;exact zan e
 ·rw [hx,hy] at e
  exact Ea (zaK e) λhs e=>k x y hx hy hs e
theorem zbU:zbi prog w B n (compareOp .Eq) (za6 false):=λhp a b v hp' e A hA G s ca cb I r1 r2=>znY e λx y hx hy hs e=>by
 refine zcy e ?_
 have hs:=zsZ.mp hs
 refine Ee (zc7 I hx r1) λas ra=>?_
 refine Ee (zc7 I hy r2) λbs rb=>?_
 exact eq_dataH ra rb hs.1 hs.2 hA.units (za3 I (.d (.bool _)))
theorem zdP:zbi prog w B n (compareOp .NotEq) (za6 true):=λhp a b v hp' e A hA G s ca cb I r1 r2=>znY e λx y hx hy hs e=>by
 refine zcy e ?_
 have hs:=zsZ.mp hs
 refine Ee (zc7 I hx r1) λas ra=>?_
 refine Ee (zc7 I hy r2) λbs rb=>?_
 exact ne_dataH ra rb hs.1 hs.2 hA.units (za3 I (.d (.bool _)))
theorem znC:zbi prog w B n (compareOp .IsNot) zl3:=λhp a b v hp' e A hA G s ca cb I r1 r2=>by
 refine zd8 e λx q e=>?_
 subst q
 refine ziN e λy q e=>?_
 subst q
 cases e
 refine r1.str_elim λt=>?_
 refine r2.l_elim λZ Z=>?_
 exact wpAny_isNot_other rfl (λq=>nomatch q) (za3 I (.d (.bool _)))
theorem zre:zbi prog w B n (compareOp .LtE) (zac (zqu λa b=>decide (a<=b))):=zdf λhp x y z e1 A hA G s ca cb I r1 r2=>by
 refine zj3 e1 λi q0 e3=>zj3 e3 λj q e1=>?_
 subst q0
 subst q
 cases e1
 refine r1.int_elim λt=>?_
 refine r2.int_elim λu=>?_
 exact le_int (za3 I (.d (.bool _)))
theorem zqG:zbi prog w B n (compareOp .GtE) (zac (zqu λa b=>decide (b<=a))):=zdf λhp x y z e1 A hA G s ca cb I r1 r2=>by
 refine zj3 e1 λi q0 e3=>zj3 e3 λj q e1=>?_
 subst q0
 subst q
 cases e1
 refine r1.int_elim λt=>?_
 refine r2.int_elim λu=>?_
 exact ge_int (za3 I (.d (.bool _)))
theorem zlc:zbi prog w B n (compareOp .Gt) (zac gtD):=zdf λhp x y z e1 A hA G s ca cb I r1 r2=>by
 cases x with
 | int a=>
  refine zj3 e1 λb q e1=>?_
  cases e1
  refine r1.int_elim λt=>?_
  refine (q▸r2:RV G cb (.d (.int b))).int_elim λu=>?_
  exact gt_int (za3 I (.d (.bool _)))
 | str x=>
  refine zpm e1 λy q e1=>?_
  cases e1
  refine r1.str_elim λt=>?_
  refine (q▸r2:RV G cb (.d (.str y))).str_elim λu=>?_
  exact PySem.P.gt_str (za3 I (.d (.bool _)))
 | _=>exact zan e1
theorem zoP {a b:Addr}{xs ys:Array Value}{i j k l:Int}{t₁ t₂ t₃ t₄:Tok}{A:Around}{E:Value->Shared->Prop}{s:Shared}{Q:Value->Shared->Prop}(hu:A.units < cLine) (ha:s.heap.IsTuple a xs) (hb:s.heap.IsTuple b ys)
  (hx:xs.toList=[.int i t₁,.int j t₂]) (hy:ys.toList=[.int k t₃,.int l t₄]) (h:Q (.bool (decide (i < k\/(i=k/\j < l)))) s):wpAny (model prog w) A (compareOp .Lt (.ref a) (.ref b)) Q E s:=by
 obtain ⟨oa,hoa,hca,na,hda⟩:=ha
 obtain ⟨ob,hob,hcb,nb,hdb⟩:=hb
 have Ta:s.TypeIs (.ref a) "tuple":=⟨oa,hoa,hca⟩
 have Tb:s.TypeIs (.ref b) "tuple":=⟨ob,hob,hcb⟩
 refine wpAny_richCompare_same_room (op:=.Lt) Ta Tb PySem.F.slot_tuple_lt (wpAny_call_entry PySem.F.slot_tuple_lt Ta PySem.F.entry_tuple_lt ?_ (PySem.F.args_tuple_lt_2 _ _)) hu
 show wpAny _ _ (isInstance (.ref b) (.type "tuple") >>= _) _ _ s
 refine wpAny_bind (wpAny_isInstance Tb isSubtype_tuple_tuple ?_)
 simp only [zuh,zsd,if_false]
 refine wpAny_bind (wpAny_tupleItemsOf hoa hda ?_)
 refine wpAny_bind (wpAny_tupleItemsOf hob hdb ?_)
 refine hx▸hy▸?_
 refine wpAny_bind ?_
 rw [show List.zip [Value.int i t₁,.int j t₂] [Value.int k t₃,.int l t₄]=[(Value.int i t₁,Value.int k t₃),(Value.int j t₂,Value.int l t₄)] from rfl,zsI]
 refine wpAny_bind (wpAny_bind (wpAny_eqBool_int ?_))
 by_cases hik:i=k
 ·subst hik
  simp only [beq_self_eq_true,zuh,zsd,if_false]
  refine wpAny_pure ?_
  dsimp only
  rw [zsI]
  refine wpAny_bind (wpAny_bind (wpAny_eqBool_int ?_))
  by_cases hjl:j=l
  ·subst hjl
   simp only [beq_self_eq_true,zuh,zsd,if_false]
   refine wpAny_pure ?_
   dsimp only
   rw [ztH]
   refine wpAny_pure ?_
   refine wpAny_pure ⟨.bool false,?_,by decide,?_⟩
   ·have e1:xs.size=2:=by have:=congrArg zsB hx;simpa using this
    have e2:ys.size=2:=by have:=congrArg zsB hy;simpa using this
    refine (Eq.symm e1)▸(Eq.symm e2)▸?_
    rfl
   ·have:decide (i < i\/(i=i/\j < j))=false:=by simp
    rw [this] at h;exact h
  ·have hb:(j==l)=false:=by simpa using hjl
   simp only [hb,zuL,if_true]
   refine wpAny_bind (wpAny_rule ?_)
   refine wpAny_bind (m:=richCompare .Lt (.int j t₂) (.int l t₄)) (lt_int ?_)
   refine wpAny_bind (wpAny_pure ?_)
   refine wpAny_pure ?_
   refine wpAny_pure ?_
   refine wpAny_pure ⟨.bool (decide (j < l)),rfl,by simp,?_⟩
   have:decide (i < i\/(i=i/\j < l))=decide (j < l):=by simp
   rw [this] at h;exact h
 ·have hb:(i==k)=false:=by simpa using hik
  simp only [hb,zuL,if_true]
  refine wpAny_bind (wpAny_rule ?_)
  refine wpAny_bind (m:=richCompare .Lt (.int i t₁) (.int k t₃)) (lt_int ?_)
  refine wpAny_bind (wpAny_pure ?_)
  refine wpAny_pure ?_
  refine wpAny_pure ?_
  refine wpAny_pure ⟨.bool (decide (i < k)),rfl,by simp,?_⟩
  have:decide (i < k\/(i=k/\j < l))=decide (i < k):=by simp [hik]
  rw [this] at h;exact h
theorem zg6 {G:Gh}{items:Array Value}{i j:Int}{as:List Addr}(h:ReadsAll G.g items.toList [.int i,.int j] as):∃ t u,items.toList=[.int i t,.int j u]:=by
 refine (RVs.of_reads h).two_elim λc d h1 h2=>?_
 refine h1.int_elim λt=>?_
 refine h2.int_elim λu=>?_
 exact ⟨t,u,rfl⟩
theorem zfB:zbi prog w B n (compareOp .Lt) (zac ltD):=zdf λhp x y z e1 A hA G s ca cb I r1 r2=>by
 cases x with
 | int a=>
  refine zj3 e1 λb q e1=>?_
  cases e1
  refine r1.int_elim λt=>?_
  refine (q▸r2:RV G cb (.d (.int b))).int_elim λu=>?_
  exact lt_int (za3 I (.d (.bool _)))
 | tuple xs=>
  refine zq0 e1 λys q e1=>?_
  subst q
  refine zqZ e1 λa b q e1=>?_
  subst q
  refine zqZ e1 λc d q e1=>?_
  subst q
  cases e1
  refine r1.tuple_elim λl its as h1 h2=>?_
  refine r2.tuple_elim λl2 its2 as2 k1 k2=>?_
  refine Eee (zg6 h2) λt₁ t₂ q1=>?_
  refine Eee (zg6 k2) λt₃ t₄ q2=>?_
  exact zoP (by have:=hA.units;exact (zrn (by lia) this)) (IsTuple.keep h1 I.keep) (IsTuple.keep k1 I.keep) q1 q2 (za3 I (.d (.bool _)))
 | _=>exact zan e1
theorem zfM {A:Around}(hA:AOk n A) {xs:List PyData}{d:PyData}(h:shp d=true):A.units + 1 + min (PyData.depthAll xs) d.depth < cLine:=by
 have h1:d.depth<=64:=SeqAt.depth_of_shaped h
 have h2:=hA.2.2
 have h3:=ztn (PyData.depthAll xs) d.depth
 exact zrt (zrY (zsE (zrn (zrI _ _) h2)) (zrn h3 h1)) (by decide)
theorem zkg {xs:List PyData}(h:shp (.list xs)=true):PyData.canLayAll0 xs=true:=by
 have:=SeqAt.canLay_of_shaped h
 simpa [PyData.canLay0] using this
theorem ziD {xs:List PyData}(h:shp (.tuple xs)=true):PyData.canLayAll0 xs=true:=by
 have:=SeqAt.canLay_of_shaped h
 simpa [PyData.canLay0] using this
theorem RV.reads {c:Cfg}(I:BInv B c) {v:Value}{x:PyData}(h:RV c.G v (.d x)):∃ as,Reads c.s.heap v x as:=by
 cases h with | d r=>exact ⟨_,Reads.keeps I.keep r⟩
theorem zmi:zbi prog w B n (compareOp .In) (zac (inD false)):=zdf λhp x y z e1 A hA G s ca cb I r1 r2=>by
 refine Ee (RV.reads I r1) λas ra=>?_
 refine Ee (RV.reads I r2) λbs rb=>?_
 cases y with
 | str y=>
  refine zpm e1 λx q e1=>?_
  cases e1
  refine (q▸r1:RV G ca (.d (.str x))).str_elim λt=>?_
  refine r2.str_elim λu=>?_
  exact PyProof.Rows.in_str (za3 I (.d (.bool _)))
 | list xs=>
  refine Ea (zaK e1) λhs e1=>?_
  cases e1
  simp only [zrA] at hs
  exact SeqAt.in_list_reads rb ra (zkg hs.1) (SeqAt.canLay_of_shaped hs.2) (zfM hA hs.2) (za3 I (.d (.bool _)))
 | tuple xs=>
  refine Ea (zaK e1) λhs e1=>?_
  cases e1
  simp only [zrA] at hs
  exact SeqAt.in_tuple_reads rb ra (ziD hs.1) (SeqAt.canLay_of_shaped hs.2) (zfM hA hs.2) (za3 I (.d (.bool _)))
 | _=>exact zan e1
theorem znD:zbi prog w B n (compareOp .NotIn) (zac (inD true)):=zdf λhp x y z e1 A hA G s ca cb I r1 r2=>by
 refine Ee (RV.reads I r1) λas ra=>?_
 refine Ee (RV.reads I r2) λbs rb=>?_
 cases y with
 | str y=>
  refine zpm e1 λx q e1=>?_
  cases e1
  refine (q▸r1:RV G ca (.d (.str x))).str_elim λt=>?_
  refine r2.str_elim λu=>?_
  exact PyProof.Rows.notIn_str (za3 I (.d (.bool _)))
 | list xs=>
  refine Ea (zaK e1) λhs e1=>?_
  cases e1
  simp only [zrA] at hs
  exact SeqAt.notIn_list_reads rb ra (zkg hs.1) (SeqAt.canLay_of_shaped hs.2) (zfM hA hs.2) (za3 I (.d (.bool _)))
 | tuple xs=>
  refine Ea (zaK e1) λhs e1=>?_
  cases e1
  simp only [zrA] at hs
  exact SeqAt.notIn_tuple_reads rb ra (ziD hs.1) (SeqAt.canLay_of_shaped hs.2) (zfM hA hs.2) (za3 I (.d (.bool _)))
 | _=>exact zan e1
end
noncomputable def zb1 (i:Int) (n:Nat):Nat:=if i < 0 then (i + n).toNat else min i.toNat n
noncomputable def loB (lo:Option Int) (n:Nat):Nat:=match lo with | none=>0 | some i=>zb1 i n
noncomputable def hiB (hi:Option Int) (n:Nat):Nat:=match hi with | none=>n | some i=>zb1 i n
noncomputable def zaY {α:Type}(xs:List α) (lo hi:Option Int):List α:=(xs.take (hiB hi xs.length)).drop (loB lo xs.length)
theorem zf4 {α:Type}(xs:List α) (a b:Nat) (hb:b<=xs.length):(((zsR (b - a)).map (a + ·)).filterMap (xs[·]?))=(xs.take b).drop a:=by
 apply ztN
 intro k
 rw [zui,List.getElem?_take]
 have key:∀ (m:Nat) (s:Nat),s + m<=xs.length->∀ k,(((zsR m).map (s + ·)).filterMap (xs[·]?))[k]?=if k < m then xs[s + k]? else none:=by
  intro m
  induction m with
  | zero=>intro s _ k;rfl
  | succ m ih=>
   intro s hs k
   refine ztf▸zsm▸List.filterMap_cons▸?_
   have h0:xs[s + 0]?=some (xs[s + 0]'(zry (ztT (zrw m)) hs)):=zrG _
   refine h0▸?_
   have e:((zuj Nat.succ (zsR m)).map (s + ·))=(zsR m).map ((s + 1) + ·):=by
    refine Eq.trans zrW ?_;apply zsq;intro x _;simp only [Function.comp];exact (by lia)
   dsimp only
   refine e▸?_
   cases k with
   | zero=>simp [h0]
   | succ k=>
    refine (Eq.symm List.getElem?_cons_succ)▸(Eq.symm (ih (s + 1) (by rw [zsO,zst 1 m];exact hs) k))▸?_
    have:s + 1 + k=s + (k + 1):=(by lia)
    refine (Eq.symm this)▸?_
    by_cases hk:k < m
    ·rw [if_pos hk,if_pos (by exact zto (by assumption))]
    ·exact (if_neg hk)▸(if_neg (λq=>hk (Nat.lt_of_succ_lt_succ q)))▸rfl
 by_cases hab:a<=b
 ·refine Eq.trans (key (b - a) a (by rw [Nat.add_sub_cancel' hab];exact hb) k) ?_
  by_cases hk:k < b - a
  ·exact (if_pos hk)▸(if_pos (ztm hk))▸rfl
  ·exact (if_neg hk)▸(if_neg (λq=>hk (Nat.lt_sub_of_add_lt (zst a k▸q))))▸rfl
 ·have:b - a=0:=zt3 (Nat.le_of_not_le hab)
  refine this▸?_
  exact (Eq.symm (if_neg (Nat.not_lt_of_le (fk (ztX hab) (by lia)))))
theorem zdV (a b:Nat):sliceRange (a:Int) (b:Int) 1=(zsR (b - a)).map (a + ·):=by
 unfold sliceRange
 dsimp
 by_cases h:(a:Int) < b
 ·refine (if_pos h)▸?_
  have:(((b:Int) - a + 1 - 1) / 1).toNat=b - a:=by rw [zuS];simp
  refine (Eq.symm this)▸?_
  apply zsq
  intro k _
  rw [zuZ];rfl
 ·refine (if_neg h)▸?_
  have:b - a=0:=zt3 (zsQ.mp λq=>h (zrS.mpr q))
  refine this▸?_;rfl
theorem zjf (i:Int) (n:Nat):max 0 (min (if i < 0 then i + n else i) (n:Int))=(zb1 i n:Int):=by
 unfold zb1
 by_cases h:i < 0
 ·simp only [h,if_true];rw [zuE (by have:=zua (zsF h) (n:Int);rwa [zs9] at this),Int.toNat_eq_max,Int.max_comm]
 ·simp only [h,if_false];(have hj:0<=i:=zsa.mp h;rw [Int.max_eq_right (Int.le_min.mpr ⟨hj,zrB n⟩)];rcases zuT i n with q | q;rw [zuE q,zse (zuU.mpr q),zsr hj];rw [Int.min_eq_right q,zuz (zsM.mp (by rwa [zsr hj]))])
theorem zmY (i:Int) (n:Nat):zb1 i n<=n:=by
 unfold zb1;split
 ·exact (zuU).mpr (zrO (zua (zsF ‹_›) n) (zt1 (zs9 _)))
 ·exact ztn _ _
theorem zn1 (hi:Option Int) (n:Nat):hiB hi n<=n:=by cases hi with | none=>exact zrv _ | some i=>exact zmY i _
theorem zmn {α:Type}(xs:List α) (lo hi:Option Int) :
  (sliceRange (match lo with | none=>(0:Int) | some i=>max 0 (min (if i < 0 then i + xs.length else i) (xs.length:Int))) (match hi with | none=>(xs.length:Int) | some i=>max 0 (min (if i < 0 then i + xs.length else i) (xs.length:Int))) 1).filterMap (xs[·]?)=zaY xs lo hi:=by
 have e1:(match lo with | none=>(0:Int) | some i=>max 0 (min (if i < 0 then i + xs.length else i) (xs.length:Int)))=(loB lo xs.length:Int):=by
  cases lo with
  | none=>rfl
  | some i=>exact zjf i _
 have e2:(match hi with | none=>(xs.length:Int) | some i=>max 0 (min (if i < 0 then i + xs.length else i) (xs.length:Int)))=(hiB hi xs.length:Int):=by
  cases hi with
  | none=>rfl
  | some i=>exact zjf i _
 rw [e1,e2,zdV]
 exact zf4 xs _ _ (zn1 _ _)
theorem zfl (items:Array Value) (lo hi:Option Int):(slicePick items lo hi none).toList=zaY items.toList lo hi:=by
 have h:=zmn items.toList lo hi
 refine h▸?_
 unfold slicePick sliceBounds
 dsimp
 cases lo <;> cases hi <;> simp
theorem zlo (x:Str) (lo hi:Option Int):(Builtin.Str.strSliceIndices lo hi 1 x.length).filterMap (x.cps[·]?)=zaY x.cps.toList lo hi:=by
 have h:=zmn x.cps.toList lo hi
 refine h▸?_
 unfold Builtin.Str.strSliceIndices
 dsimp
 have:x.length=x.cps.size:=rfl
 refine (Eq.symm this)▸?_
 cases lo <;> cases hi <;> simp
theorem zi1 (x:Str) (lo hi:Option Int) (h:(Builtin.Str.strSliceIndices lo hi 1 x.length).length=x.length):zaY x.cps.toList lo hi=x.cps.toList:=by
 have hx:x.length=x.cps.toList.length:=by rw [zr6];rfl
 have e1:Builtin.Str.strSliceIndices lo hi 1 x.length=sliceRange (loB lo x.length:Int) (hiB hi x.length:Int) 1:=by
  unfold Builtin.Str.strSliceIndices
  dsimp
  cases lo <;> cases hi <;> simp only [zjf] <;> rfl
 rw [e1,zdV,zrN,List.length_range] at h
 have hbl:=zn1 hi x.length
 unfold zaY
 refine hx▸?_
 by_cases h0:x.length=0
 ·have:x.cps.toList=[]:=List.length_eq_zero_iff.mp (by refine hx▸?_;exact h0)
  refine this▸?_;simp
 ·have ha0:loB lo x.length=0:=Nat.eq_zero_of_not_pos λhp=>ztt _ (zrt (zrn (geq h) (zub hbl _)) (zur (zsS h0) hp))
  have hbn:hiB hi x.length=x.length:=(congrArg (hiB hi x.length - ·) ha0).symm.trans h
  refine (Eq.symm ha0)▸(Eq.symm hbn)▸(Eq.symm hx)▸(Eq.symm zs2)▸?_;rfl
noncomputable def S (l:List Nat):PyData:=.str ⟨l.toArray⟩
noncomputable def zfv (i:Int):Bool:=decide (-(2 ^ 62) < i) && decide (i < 2 ^ 62)
noncomputable def zdk:HP->V->V->Option (V × HP):=λhp a b=>onI (λi=>if zfv i then (match a with
   | .d (.str x)=>((seqIndex? i x.length).bind (x.cps[·]?)).map λc=>(.d (.str ⟨#[c]⟩),hp)
   | .d (.tuple xs)=>((seqIndex? i xs.length).bind (xs[·]?)).map λx=>(.d x,hp)
   | a=>match zbl hp a with
    | some vs=>((seqIndex? i vs.length).bind (vs[·]?)).map λv=>(v,hp)
    | none=>none) else none) b
theorem zcc (hp:HP) (a:V) (i:Int):zdk hp a (.d (.int i))=if zfv i then (match a with
   | .d (.str x)=>((seqIndex? i x.length).bind (x.cps[·]?)).map λc=>(.d (.str ⟨#[c]⟩),hp)
   | .d (.tuple xs)=>((seqIndex? i xs.length).bind (xs[·]?)).map λx=>(.d x,hp)
   | a=>match zbl hp a with
    | some vs=>((seqIndex? i vs.length).bind (vs[·]?)).map λv=>(v,hp)
    | none=>none) else none:=rfl
noncomputable def dO:PyData->Option (Option Int)
 | .none=>some none
 | .int i=>some (some i)
 | _=>none
theorem zq8 {x:PyData}{p:Option Int}(h:dO x=some p):(x=.none/\p=none)\/∃ i,x=.int i/\p=some i:=by
 cases x with
 | none=>exact .inl ⟨rfl,(Option.some.inj h).symm⟩
 | int i=>exact .inr ⟨i,rfl,(Option.some.inj h).symm⟩
 | _=>exact zan h
noncomputable def zjC (r:Option (V × HP)):Option (Option Int × HP):=bV r λv h=>onD (λx=>(dO x).map λp=>(p,h)) v
noncomputable def zd9 (hp:HP) (a:V) (lo hi:Option Int):Option (V × HP):=match a with
 | .d (.str x)=>if zbr x.length then some (.d (.str ⟨(zaY x.cps.toList lo hi).toArray⟩),hp) else none
 | a=>match zbl hp a with
  | some vs=>if zbr vs.length then (zhs (zaY vs lo hi)).map λxs=>(.d (.list xs),hp) else none
  | none=>none
noncomputable def za4 (ml mr:St->Option (V × HP)):St->Option (V × HP):=zat zdk ml mr
noncomputable def zaR (ml mlo mhi:St->Option (V × HP)):St->Option (V × HP):=λst=>match ml st with
 | some (a,h1)=>(match zjC (mlo ⟨st.loc,h1⟩) with
  | some (lo,h2)=>(match zjC (mhi ⟨st.loc,h2⟩) with
   | some (hi,h3)=>zd9 h3 a lo hi
   | none=>none)
  | none=>none)
 | none=>none
section
variable {prog:Program}{w:World}{B:Bs}{n:Nat}{F:FI}
theorem znj {i:Int}(h:zfv i=true):-(2 ^ 63)<=i/\i < 2 ^ 63:=by
 simp only [zfv,zrA,decide_eq_true_eq] at h
 exact ⟨zrO (by decide) (zsF h.1),zsu h.2 (by decide)⟩
theorem zey {i:Int}{len j:Nat}(h:seqIndex? i len=some j):(i < 0/\0<=i + len/\j=(i + len).toNat)\/(0<=i/\i < len/\j=i.toNat):=by
 unfold seqIndex? at h
 by_cases h0:i < 0
 ·simp only [h0,if_true] at h
  split at h
  ·rename_i hc
   simp only [zrA,decide_eq_true_eq] at hc
   refine zfx h ?_;exact .inl ⟨h0,hc.1,rfl⟩
  ·exact zan h
 ·simp only [h0,if_false] at h
  split at h
  ·rename_i hc
   simp only [zrA,decide_eq_true_eq] at hc
   refine zfx h ?_;exact .inr ⟨hc.1,hc.2,rfl⟩
  ·exact zan h
theorem zrj {γ:Type}(a:V):(∃ x,a=.d (.str x))\/(∃ x,a=.d (.tuple x))\/∀ (f:Str->γ) (g:List PyData->γ) (k:V->γ),(match a with | .d (.str x)=>f x | .d (.tuple x)=>g x | a=>k a)=k a:=by
 cases a with
 | d x=>
  cases x with
  | str x=>exact .inl ⟨x,rfl⟩
  | tuple x=>exact .inr (.inl ⟨x,rfl⟩)
  | _=>exact .inr (.inr λZ Z Z=>rfl)
 | _=>exact .inr (.inr λZ Z Z=>rfl)
theorem zq9 {γ:Type}(a:V):(∃ x,a=.d (.str x))\/∀ (f:Str->γ) (k:V->γ),(match a with | .d (.str x)=>f x | a=>k a)=k a:=by
 cases a with
 | d x=>
  cases x with
  | str x=>exact .inl ⟨x,rfl⟩
  | _=>exact .inr λZ Z=>rfl
 | _=>exact .inr λZ Z=>rfl
theorem zk2 {c:Cfg}(I:BInv B c) {a:V}{i:Int}{v:V}{hp':HP}{ca:Value}{t:Tok}{A:Around}{slice value:Expr}(h:zdk c.hp a (.d (.int i))=some (v,hp')) (r:RV c.G ca a)
  (hs:∀ o i,subscripted slice false o i=operate [o,i] (getItem o i)):wpAny (model prog w) A (subscriptTail value slice ca (.int i t)) (PostV B c hp' v) NoE c.s:=by
 refine Ea (zaK h) λhi h=>?_
 ·have hio:=znj hi
  rcases zrj a with ⟨x,rfl⟩ | ⟨xs,rfl⟩ | ho
  ·refine opM h λch q q3=>?_
   refine r.str_elim λu=>?_
   ·cases q3
    refine tail_any (typeIs_str c.s x u) PySem.F.slot_str_getitem.lookup (PyProof.Rows.getItem_str (by simp only [ztq,decide_eq_false_iff_not];exact ⟨zsa.mpr hio.1,zsW.mpr hio.2⟩) q ?_) (hs _ _)
    exact zdK (hp:=c.hp) I
  ·refine r.tuple_elim λl items as h1 h2=>?_
   have h2':=RVs.of_reads h2
   have hsz:items.size=xs.length:=by have:=h2'.length;simpa using this
   refine opM h λu h q3=>opB h λj q q2=>?_
   ··cases q3
     obtain ⟨cv,e1,e2⟩:=h2'.get (x:=.d u) (k:=j) (by simp [q2])
     have ht:IsTup c.s.heap l items:=IsTuple.keep h1 I.keep
     exact tail_any (IsTuple.keep h1 I.keep).typeIs slot_tuple_getitem.lookup (getItem_tuple ht hio.1 hio.2 (by rw [hsz];exact q) (by simpa using e1) (za3 (hp:=c.hp) I e2)) (hs _ _)
  ·replace h:=(ho _ _ _).symm.trans h
   cases hv:zbl c.hp a with
   | none=>rw [hv] at h;exact zan h
   | some vs=>
   rw [hv] at h
   have hq:((seqIndex? i vs.length).bind (vs[·]?)).map (λv=>(v,c.hp))=some (v,hp'):=h
   refine zhM I hv r λl items h1 h2=>?_
   have hsz:items.size=vs.length:=h2.asize
   refine opM hq λu hq q3=>opB hq λj q q2=>?_
   ··cases q3
     refine Eea (h2.get q2) λcv e1 e2=>?_
     have e1':items[j]?=some cv:=by simpa using e1
     have post:=za3 (hp:=c.hp) I e2
     rcases zey q with ⟨h0,k1,rfl⟩ | ⟨h0,k1,rfl⟩
     ·exact tail_any h1.typeIs slot_list_getitem.lookup (wpAny_getItem_list_neg h1 h0 (by refine hsz▸?_;exact (ifk k1 (by lia))) hio.1 (by refine hsz▸?_;exact e1') post) (hs _ _)
     ·exact tail_any h1.typeIs slot_list_getitem.lookup (wpAny_getItem_list h1 h0 hio.2 e1' post) (hs _ _)
theorem zax {value slice:Expr}{pos:Pos}{ml mr:St->Option (V × HP)}(hl:ESound prog w B n F value ml) (hr:ESound prog w B n F slice mr)
  (hs:∀ o i,subscripted slice false o i=operate [o,i] (getItem o i)):ESound prog w B n F (.Subscript value slice pos) (za4 ml mr):=λst v hp' e A hA G s I X=>by
 refine zeH (zdq e) λa h1 b h2 e1 e2 e3=>?_
 refine Subscript_ (zhu (t:=λo i=>subscriptTail value slice o i) hl hr e1 e2 hA I X λG2 s2 ca cb I2 Z S2 r1 r2=>?_)
 have hb:∃ i,b=.d (.int i):=zdA e3 λi q Z=>⟨i,q⟩
 obtain ⟨i,rfl⟩:=hb
 refine r2.int_elim λt=>?_
 exact wpAny_mono (zk2 (c:=⟨G2,h2,s2⟩) I2 e3 r1 hs) (λZ Z q=>PostV.step I2 S2 q) λZ Z x=>x
theorem zg3 {r:Option (V × HP)}{p:Option Int × HP}(h:zjC r=some p):∃ x,r=some (.d x,p.2)/\((x=.none/\p.1=none)\/∃ i,x=.int i/\p.1=some i):=by
 exact zfG h λv h' q e=>zfA e λx q' e=>Eea (zr8.mp e) λp' e' q2=>⟨x,by subst q2;exact q'▸q,by subst q2;exact zq8 e'⟩
theorem zmm {G:Gh}{v:Value}{x:PyData}{p:Option Int}(h:(x=.none/\p=none)\/∃ i,x=.int i/\p=some i) (r:RV G v (.d x)):IsPart v p:=by
 rcases h with ⟨rfl,rfl⟩ | ⟨i,rfl,rfl⟩
 ·rw [r.none_inv];exact .none
 ·refine r.int_elim λt=>?_;exact .int i t
theorem zg4 {v:Value}{p:Option Int}(h:IsPart v p):∃ l:Option (Int × Tok),v=partValue l/\l.map (·.1)=p:=by
 cases h with
 | none=>exact ⟨none,rfl,rfl⟩
 | int i t=>exact ⟨some (i,t),rfl,rfl⟩
noncomputable def zj0 (prog:Program) (w:World) (B:Bs) (n:Nat) (F:FI) (e:Option Expr) (m:St->Option (V × HP)):Prop:=TSound prog w B n F (evalPart e F.env) m
theorem zbQ:zj0 prog w B n F none (zal .none):=λst v hp' e A hA G s I X=>by
 refine zcy e ?_;exact wpAny_pure ⟨G,I,Stp.refl _,.d .none⟩
theorem zaQ {e:Expr}{m:St->Option (V × HP)}(h:ESound prog w B n F e m):zj0 prog w B n F (some e) m:=h
theorem zjL {c:Cfg}(I:BInv B c) {a:V}{lo hi:Option Int}{v:V}{hp':HP}{ca vl vu:Value}{A:Around}{value:Expr}{lower upper:Option Expr}{p:Pos}(h:zd9 c.hp a lo hi=some (v,hp')) (r:RV c.G ca a) (pl:IsPart vl lo) (pu:IsPart vu hi) :
  wpAny (model prog w) A (subscriptTail value (.Slice lower upper none p) ca (.ref c.s.heap.objs.size)) (PostV B c hp' v) NoE { c.s with heap:=c.s.heap.push { cls:=.type "slice",data:=.fields #[vl,vu,.none] } }:=by
 have hs:∀ o i,subscripted (.Slice lower upper none p) false o i=operate [i,o] (getItem o i):=λZ Z=>rfl
 obtain ⟨J,T⟩:=I.grow (s':={ c.s with heap:=c.s.heap.push { cls:=.type "slice",data:=.fields #[vl,vu,.none] } }) (λa o e=>Heap.get?_push_of_some _ e) rfl rfl
 rcases zq9 a with ⟨x,rfl⟩ | ho
 ·refine Ea (zaK h) λhl h=>?_
  ·refine zcy h ?_
   refine r.str_elim λt=>?_
   obtain ⟨l,rfl,rfl⟩:=zg4 pl
   obtain ⟨u,rfl,rfl⟩:=zg4 pu
   refine tail_any (typeIs_str _ x t) PySem.F.slot_str_getitem.lookup (wpAny_getItem_str_slice (l:=l) (u:=u) (st:=none) ⟨_,Heap.get?_push_size _ rfl,rfl,rfl⟩ rfl ?_) (hs _ _)
   unfold sliceMade slicePicked
   simp only [Option.map_none,Option.getD_none,beq_self_eq_true,zuO]
   by_cases hf:((Builtin.Str.strSliceIndices (l.map (·.1)) (u.map (·.1)) 1 x.length).length==x.length)=true
   ·rw [if_pos hf]
    have e:=zi1 x _ _ (beq_iff_eq.mp hf)
    rw [e]
    exact ⟨c.G,J,T,.d (.str x t)⟩
   ·rw [if_neg hf,zlo]
    refine ⟨?_,?_⟩
    ·show (zaY x.cps.toList (l.map (·.1)) (u.map (·.1))).toArray.size<=sizeLine
     rw [List.size_toArray]
     have:(zaY x.cps.toList (l.map (·.1)) (u.map (·.1))).length<=x.cps.toList.length:=by
      unfold zaY;rw [List.length_drop,zuy];exact zrn (ztu _ _) (ztn _ _)
     rw [zr6] at this
     exact zrn this (zrn (za1 hl) (by decide))
    ·obtain ⟨J2,T2⟩:=J.toks (c.s.toks + 1)
     exact ⟨c.G,J2,T.trans0 J T2,.d (.str _ _)⟩
 ·replace h:=(ho _ _).symm.trans h
  cases hv:zbl c.hp a with
  | none=>rw [hv] at h;exact zan h
  | some vs=>
  rw [hv] at h
  refine Ea (zaK h) λhl hq=>?_
  refine zhM I hv r λl items h1 h2=>?_
  have hsz:items.size=vs.length:=h2.asize
  cases q:zhs (zaY vs lo hi) with
  | none=>rw [q] at hq;exact zan hq
  | some xs=>
   rw [q] at hq;cases hq
   have hx:=zdY q
   refine tail_any (h1.push _).typeIs slot_list_getitem.lookup (wpAny_getItem_list_slice (h1.push _) (Heap.IsSliceOf.new ..) pl pu .none (by decide) ?_ (by rw [hsz];exact zrn (za1 hl) (by decide))) (hs _ _)
   have pick:RVs c.G (slicePick items lo hi none).toList (xs.map V.d):=by
    rw [zfl,<- hx]
    unfold zaY
    refine (Eq.symm h2.length)▸?_
    exact (h2.take _).drop _
   obtain ⟨G',a1,a2,a3⟩:=zdB (G:=c.G) (hp:=c.hp) (k:=c.s.toks) (n:=0) J pick
   exact ⟨G',a1,T.trans0 J a2,a3⟩
theorem zaT {value:Expr}{lower upper:Option Expr}{p pos:Pos}{ml mlo mhi:St->Option (V × HP)}(hl:ESound prog w B n F value ml) (h1:zj0 prog w B n F lower mlo) (h2:zj0 prog w B n F upper mhi) :
  ESound prog w B n F (.Subscript value (.Slice lower upper none p) pos) (zaR ml mlo mhi):=λst v hp' e A hA G s I X=>by
 unfold zaR at e
 refine mPV e λa hp1 q1 e=>?_
 cases q2:zjC (mlo ⟨st.loc,hp1⟩) with
 | none=>rw [q2] at e;exact zan e
 | some r2=>
  obtain ⟨lo,hp2⟩:=r2
  rw [q2] at e
  dsimp only at e
  cases q3:zjC (mhi ⟨st.loc,hp2⟩) with
  | none=>rw [q3] at e;exact zan e
  | some r3=>
   obtain ⟨hi,hp3⟩:=r3
   rw [q3] at e
   dsimp only at e
   refine Eea (zg3 q2) λx k1 k2=>?_
   refine Eea (zg3 q3) λy k3 k4=>?_
   refine Subscript_ (wpAny_mono (hl st a hp1 q1 A hA G s I X) (λca s1 p1=>wpAny_Slice ?_) λZ Z x=>x)
   refine PostV.E p1 λG1 I1 S1 r1=>?_
   have X1:=X.step S1
   refine h1.use k1 hA I1 X1 λcl s2 G2 I2 S2 r2=>?_
   have X2:=X1.step S2
   refine h2.use k3 hA I2 X2 λcu s3 G3 I3 S3 r3=>?_
   rw [evalPart_none]
   refine wpAny_pure ?_
   exact wpAny_mono (zjL (c:=⟨G3,hp3,s3⟩) I3 e ((r1.step S2).step S3) (zmm k2 (r2.step S3)) (zmm k4 r3)) (λZ Z q=>PostV.step I3 ((S1.trans0 I1 S2).trans0 I2 S3) q) λZ Z x=>x
end
noncomputable def zaw:St->Option (List V × HP):=λst=>some ([],st.hp)
noncomputable def zaf (m:St->Option (V × HP)) (r:St->Option (List V × HP)):St->Option (List V × HP):=λst=>match m st with
 | some (v,h)=>(match r ⟨st.loc,h⟩ with
  | some (vs,h2)=>some (v::vs,h2)
  | none=>none)
 | none=>none
noncomputable def zc1 (r:St->Option (List V × HP)):St->Option (V × HP):=λst=>match r st with
 | some (vs,h)=>if zbr vs.length then (zhs vs).map λxs=>(.d (.tuple xs),h) else none
 | none=>none
noncomputable def zbD (r:St->Option (List V × HP)):St->Option (V × HP):=λst=>match r st with
 | some (vs,h)=>if zbr vs.length then (zhs vs).map λxs=>(.d (.list xs),h) else none
 | none=>none
noncomputable def zgj (r:St->Option (List V × HP)):St->Option (V × HP):=λst=>match r st with
 | some (vs,h)=>if zbr vs.length then some (.l h.length,h++[some vs]) else none
 | none=>none
noncomputable def zcD:List V->St->Option St:=λZ st=>some st
noncomputable def zaI (u:V->St->Option St) (r:List V->St->Option St):List V->St->Option St:=λvs st=>match vs with
 | v::vs=>(match u v st with | some st'=>r vs st' | none=>none)
 | []=>none
noncomputable def zeE (n:Nat) (r:List V->St->Option St):V->St->Option St:=λv st=>onD (dT λxs=>if xs.length=n then r (xs.map V.d) st else none) v
noncomputable def zcm (n:Nat) (r:St->Option (List V × HP)) (u:List V->St->Option St):St->Option (Fl × St):=λst=>match r st with
 | some (vs,h)=>if vs.length=n/\zbr n=true then (match u vs ⟨st.loc,h⟩ with | some st'=>some (.next,st') | none=>none) else none
 | none=>none
inductive PostL (B:Bs) (c:Cfg) (hp':HP) (vs:List V) (cvs:List Value) (s':Shared):Prop
 | mk (G':Gh):BInv B ⟨G',hp',s'⟩->Stp B [] c ⟨G',hp',s'⟩->RVs G' cvs vs->PostL B c hp' vs cvs s'
theorem PostL.E {B:Bs}{c:Cfg}{hp':HP}{vs:List V}{cvs:List Value}{s':Shared}{Q:Prop}(h:PostL B c hp' vs cvs s') (k:∀ G',BInv B ⟨G',hp',s'⟩->Stp B [] c ⟨G',hp',s'⟩->RVs G' cvs vs->Q):Q:=by
 obtain ⟨G',a,b,d⟩:=h;exact k G' a b d
section
variable (prog:Program) (w:World) (B:Bs)
noncomputable def LSound (n:Nat) (F:FI) (pos:Pos) (es:List Expr) (m:St->Option (List V × HP)):Prop:=
 ∀ st vs hp',m st=some (vs,hp')->∀ A,AOk n A->∀ G s,BInv B ⟨G,st.hp,s⟩->FrInv B F st.loc ⟨G,st.hp,s⟩->
  wpAny (model prog w) A (spliced (backTo pos (starEach es F.env))) (PostL B ⟨G,st.hp,s⟩ hp' vs) NoE s
noncomputable def zgL (n:Nat) (F:FI) (ts:List (Value->Sem Unit)) (m:List V->St->Option St):Prop:=
 ∀ st vs st',m vs st=some st'->∀ A,AOk n A->∀ G s cvs,BInv B ⟨G,st.hp,s⟩->FrInv B F st.loc ⟨G,st.hp,s⟩->RVs G cvs vs->
  wpAny (model prog w) A (assignInOrder ts cvs) (PostU B F ⟨G,st.hp,s⟩ st') NoE s
end
theorem LSound.use {prog:Program}{w:World}{B:Bs}{n:Nat}{F:FI}{pos:Pos}{es:List Expr}{m:St->Option (List V × HP)}(h:LSound prog w B n F pos es m) {st:St}{vs:List V}{hp':HP}(q:m st=some (vs,hp')) {A:Around}(hA:AOk n A) {G:Gh}{s:Shared}(I:BInv B ⟨G,st.hp,s⟩) (X:FrInv B F st.loc ⟨G,st.hp,s⟩) {Q:List Value->Shared->Prop}{E:Value->Shared->Prop}
  (k:∀ cv s1 G1,BInv B ⟨G1,hp',s1⟩->Stp B [] ⟨G,st.hp,s⟩ ⟨G1,hp',s1⟩->RVs G1 cv vs->Q cv s1):wpAny (model prog w) A (spliced (backTo pos (starEach es F.env))) Q E s:=
 wpAny_mono (h st vs hp' q A hA G s I X) (λcv s1 p=>p.E λG1 I1 S1 r1=>k cv s1 G1 I1 S1 r1) λZ Z x=>x.elim
section
variable {prog:Program}{w:World}{B:Bs}{n:Nat}{F:FI}
theorem zaA {pos:Pos}:LSound prog w B n F pos [] zaw:=λst vs hp' e A hA G s I X=>by
 refine zcy e ?_;exact spliced_none ⟨G,I,Stp.refl _,.nil⟩
theorem zak {pos:Pos}{e:Expr}{rest:List Expr}{m:St->Option (V × HP)}{r:St->Option (List V × HP)}(he:ESound prog w B n F e m) (hr:LSound prog w B n F pos rest r)
  (hs:starEach (e::rest) F.env=(false,eval e F.env)::starEach rest F.env):LSound prog w B n F pos (e::rest) (zaf m r):=λst vs hp' q A hA G s I X=>by
 unfold zaf at q
 cases q1:m st with
 | none=>rw [q1] at q;exact zan q
 | some r1=>
  obtain ⟨v,h1⟩:=r1
  rw [q1] at q
  dsimp only at q
  cases q2:r ⟨st.loc,h1⟩ with
  | none=>rw [q2] at q;exact zan q
  | some r2=>
   obtain ⟨us,h2⟩:=r2
   rw [q2] at q;cases q
   refine spliced_more (he.use q1 hA I X λcv s1 G1 I1 S1 r1=>?_) hs
   refine hr.use q2 hA I1 (X.step S1) λcvs s2 G2 I2 S2 r2=>?_
   exact ⟨G2,I2,S1.trans0 I1 S2,.cons (r1.step S2) r2⟩
theorem zaU {elts:List Expr}{k:Nat}{pos:Pos}{r:St->Option (List V × HP)}(h:LSound prog w B n F pos elts r):ESound prog w B n F (.Tuple elts k pos) (zc1 r):=λst v hp' e A hA G s I X=>by
 unfold zc1 at e
 cases q:r st with
 | none=>rw [q] at e;exact zan e
 | some r1=>
  obtain ⟨vs,h1⟩:=r1
  rw [q] at e
  dsimp only at e
  split at e
  ·rename_i hl
   cases q2:zhs vs with
   | none=>rw [q2] at e;exact zan e
   | some xs=>
    rw [q2] at e;cases e
    refine wpAny_Tuple (h.use q hA I X λcvs s1 G1 I1 S1 r1=>?_)
    refine ⟨by rw [r1.length];exact zrn (za1 hl) (by decide),?_⟩
    rw [zdY q2] at r1
    exact PostV.step I1 S1 (zhV (k:=s1.toks) I1 (by simpa using r1))
  ·exact zan e
theorem zaH {elts:List Expr}{pos:Pos}{r:St->Option (List V × HP)}(h:LSound prog w B n F pos elts r):ESound prog w B n F (.List elts pos) (zbD r):=λst v hp' e A hA G s I X=>by
 unfold zbD at e
 cases q:r st with
 | none=>rw [q] at e;exact zan e
 | some r1=>
  obtain ⟨vs,h1⟩:=r1
  rw [q] at e
  dsimp only at e
  split at e
  ·rename_i hl
   cases q2:zhs vs with
   | none=>rw [q2] at e;exact zan e
   | some xs=>
    rw [q2] at e;cases e
    refine wpAny_List (h.use q hA I X λcvs s1 G1 I1 S1 r1=>?_)
    refine ⟨by rw [r1.length];exact zrn (za1 hl) (by decide),?_⟩
    rw [zdY q2] at r1
    exact PostV.step I1 S1 (zdB (k:=s1.toks) I1 (by simpa using r1))
  ·exact zan e
theorem zbK {elts:List Expr}{pos:Pos}{r:St->Option (List V × HP)}(h:LSound prog w B n F pos elts r):ESound prog w B n F (.List elts pos) (zgj r):=λst v hp' e A hA G s I X=>by
 unfold zgj at e
 cases q:r st with
 | none=>rw [q] at e;exact zan e
 | some r1=>
  obtain ⟨vs,h1⟩:=r1
  rw [q] at e
  dsimp only at e
  split at e
  ·rename_i hl
   refine zcy e ?_
   refine wpAny_List (h.use q hA I X λcvs s1 G1 I1 S1 r1=>?_)
   refine ⟨by rw [r1.length];exact zrn (za1 hl) (by decide),?_⟩
   exact PostV.step I1 S1 (zgk (k:=s1.toks) I1 (by simpa using r1))
  ·exact zan e
theorem zaX {k:Nat}{x:Str}(hk:F.nm[k]?=some (some x)) (hkind:F.env.kindOf x=some .local\/(F.env.kindOf x=some .cell/\x ∈ F.cs)):zcI prog w B n F (bindName F.env x) (zaC k):=λst v st' e A hA G s cv I X r=>by
 unfold zaC at e
 split at e
 ·rename_i hlen
  refine zfx e ?_
  exact wpAny_bindName (zdN hk hkind hlen I X r)
 ·exact zan e
theorem zbO:zgL prog w B n F [] zcD:=λst vs st' e A hA G s cvs I X r=>by
 refine zfx e ?_
 have:assignInOrder [] cvs=pure ():=by cases cvs <;> rfl
 refine this▸?_
 exact wpAny_pure ⟨G,I,X,Stp.refl _⟩
theorem zaO {t:Value->Sem Unit}{ts:List (Value->Sem Unit)}{u:V->St->Option St}{r:List V->St->Option St}(hu:zcI prog w B n F t u) (hr:zgL prog w B n F ts r):zgL prog w B n F (t::ts) (zaI u r):=λst vs st' e A hA G s cvs I X h=>by
 unfold zaI at e
 cases h with
 | nil=>exact zan e
 | cons h1 h2=>
  rename_i cv v cvs vs
  dsimp only at e
  cases q:u v st with
  | none=>rw [q] at e;exact zan e
  | some st1=>
   rw [q] at e
   show wpAny _ _ (holding _ (t cv) >>= λZ=>assignInOrder ts cvs) _ _ _
   refine wpAny_bind (wpAny_holding (wpAny_mono (hu st v st1 q A hA G s cv I X h1) (λZ s1 p=>?_) λZ Z x=>x))
   refine PostU.E p λG1 I1 X1 S1=>?_
   refine wpAny_mono (hr st1 vs st' e A hA G1 s1 cvs I1 X1 (h2.step S1)) (λZ s2 p=>?_) λZ Z x=>x
   refine PostU.E p λG2 I2 X2 S2=>?_
   exact ⟨G2,I2,X2,S1.trans I1 S2 λZ h=>h⟩
theorem zhJ {c:Cfg}(I:BInv B c) {h':Heap}(hx:Heap.ExtBut c.s.heap.objs.size c.s.heap h'):BInv B ⟨c.G,c.hp,{ c.s with heap:=h' }⟩/\Stp B [] c ⟨c.G,c.hp,{ c.s with heap:=h' }⟩:=
 I.grow (λa o e=>hx a o (zr5 (Heap.lt_size e)) e) rfl rfl
theorem zbe {elts:List Expr}{k:Nat}{pos:Pos}{ln:Nat}{r:List V->St->Option St}(h:zgL prog w B n F ((assignEach elts F.env).map (·.2)) r) (hn:(assignEach elts F.env).length=ln) (hs:(assignEach elts F.env).findIdx? (·.1)=none) :
  zcI prog w B n F (assign (.Tuple elts k pos) F.env) (zeE ln r):=λst v st' e A hA G s cv I X rv=>by
 refine zfA e λd q1 e=>zq0 e λxs q2 e=>Ea (zaK e) λhl e=>?_
 refine (q2▸q1▸rv:RV G cv (.d (.tuple xs))).tuple_elim λa items as h1 h2=>?_
 have h2':=RVs.of_reads h2
 refine wpAny_assign_Tuple hA.1 (IsTuple.keep h1 I.keep) (by refine hn▸hl▸?_;have:=h2'.length;simpa using this.symm) hs λh' hx=>?_
 refine Ea (zhJ I hx) λJ T=>?_
 refine wpAny_mono (h st (xs.map V.d) st' e A hA G _ _ J (X.step T) h2') (λZ s2 p=>?_) λZ Z x=>x
 refine PostU.E p λG2 I2 X2 S2=>?_
 exact ⟨G2,I2,X2,T.weak.trans J S2 λZ h=>h⟩
theorem znM {target:Expr}{value:Expr}{pos:Pos}{m:St->Option (V × HP)}{u:V->St->Option St}{elts:List Expr}{k:Nat}{tpos:Pos}(ht:target=.Tuple elts k tpos) (he:ESound prog w B n F value m) (hu:zcI prog w B n F (assign target F.env) u)
  (hs:swapsWithSole [target] value pos.line F.env=pure false) (hw:swappedStores [target] value F.env=pure none):SSound prog w B n F (exec (.Assign [target] value pos) F.env) (doM m u):=λst fl st' h A hA G s I X=>by
 subst ht
 unfold doM at h
 cases q:m st with
 | none=>rw [q] at h;exact zan h
 | some r=>
  obtain ⟨v,h1⟩:=r
  rw [q] at h
  dsimp only at h
  cases q2:u v ⟨st.loc,h1⟩ with
  | none=>rw [q2] at h;exact zan h
  | some st1=>
   rw [q2] at h;cases h
   refine Assign_Tuple (he.use q hA I X λcv s1 G1 I1 S1 r1=>?_) hs hw
   refine wpAny_mono (hu ⟨st.loc,h1⟩ v _ q2 A hA G1 s1 cv I1 (X.step S1) r1) (λZ s2 p=>?_) λZ Z x=>x
   refine PostU.E p λG2 I2 X2 S2=>?_
   exact ⟨G2,I2,X2,S1.weak.trans I1 S2 (λZ h=>h),.next⟩
theorem zin {ln:Nat}{r:St->Option (List V × HP)}{u:List V->St->Option St}{st st':St}{fl:Fl}(h:zcm ln r u st=some (fl,st')):∃ vs h1,r st=some (vs,h1)/\vs.length=ln/\zbr ln=true/\u vs ⟨st.loc,h1⟩=some st'/\fl=.next:=by
 unfold zcm at h
 cases q:r st with
 | none=>rw [q] at h;exact zan h
 | some r1=>
  obtain ⟨vs,h1⟩:=r1
  rw [q] at h
  dsimp only at h
  split at h
  ·rename_i hl
   cases q2:u vs ⟨st.loc,h1⟩ with
   | none=>rw [q2] at h;exact zan h
   | some st1=>rw [q2] at h;cases h;exact ⟨vs,h1,rfl,hl.1,hl.2,q2,rfl⟩
  ·exact zan h
theorem zg5 {c:Cfg}(I:BInv B c) {cvs:List Value}:BInv B ⟨c.G,c.hp,{ c.s with heap:=c.s.heap.push { cls:=.type "tuple",data:=.seq cvs.toArray } }⟩/\Stp B [] c ⟨c.G,c.hp,{ c.s with heap:=c.s.heap.push { cls:=.type "tuple",data:=.seq cvs.toArray } }⟩/\
  (c.s.heap.push { cls:=.type "tuple",data:=.seq cvs.toArray }).IsTuple c.s.heap.objs.size cvs.toArray:=by
 obtain ⟨J,T⟩:=I.grow (s':={ c.s with heap:=c.s.heap.push { cls:=.type "tuple",data:=.seq cvs.toArray } }) (λa o e=>Heap.get?_push_of_some _ e) rfl rfl
 exact ⟨J,T,_,Heap.get?_push_size _ rfl,rfl,_,rfl⟩
theorem zhe {elts es:List Expr}{k k2 ln:Nat}{tpos p2 pos:Pos}{r:St->Option (List V × HP)}{u:List V->St->Option St}(hr:LSound prog w B n F p2 es r) (hu:zgL prog w B n F ((assignEach elts F.env).map (·.2)) u)
  (hn:(assignEach elts F.env).length=ln) (hst:(assignEach elts F.env).findIdx? (·.1)=none)
  (hs:swapsWithSole [.Tuple elts k tpos] (.Tuple es k2 p2) pos.line F.env=pure false) (hw:swappedStores [.Tuple elts k tpos] (.Tuple es k2 p2) F.env=pure none) :
  SSound prog w B n F (exec (.Assign [.Tuple elts k tpos] (.Tuple es k2 p2) pos) F.env) (zcm ln r u):=λst fl st' h A hA G s I X=>by
 (refine zlv (zin h) λvs h1 q1 q2 q3 q4 q0=>?_;subst q0)
 refine Assign_Tuple (wpAny_Tuple (hr.use q1 hA I X λcvs s1 G1 I1 S1 r1=>?_)) hs hw
 refine ⟨by rw [r1.length,q2];exact zrn (za1 q3) (by decide),?_⟩
 obtain ⟨J,T,ht⟩:=zg5 (c:=⟨G1,h1,s1⟩) I1 (cvs:=cvs)
 refine wpAny_assign_Tuple hA.1 ht (by refine hn▸q2▸r1.length▸?_;rfl) hst λh' hx=>?_
 refine Ea (zhJ J hx) λJ2 T2=>?_
 have T3:=(S1.trans0 I1 T).trans0 J T2
 refine wpAny_mono (hu ⟨st.loc,h1⟩ vs st' q4 A hA G1 _ _ J2 (X.step T3) (by simpa using (r1.step T).step T2)) (λZ s2 p=>?_) λZ Z x=>x
 refine PostU.E p λG2 I2 X2 S2=>?_
 exact ⟨G2,I2,X2,T3.weak.trans J2 S2 (λZ h=>h),.next⟩
theorem RVs.reverse {G:Gh}{c:List Value}{v:List V}(h:RVs G c v):RVs G c.reverse v.reverse:=by
 induction h with
 | nil=>exact .nil
 | cons h _ ih=>rw [zut,zut];exact ih.append (.one h)
theorem zbJ {elts es:List Expr}{k k2 ln:Nat}{tpos p2 pos:Pos}{names:List Str}{r:St->Option (List V × HP)}{u:List V->St->Option St}(hr:LSound prog w B n F p2 es r) (hu:zgL prog w B n F (names.reverse.map λn=>bindName F.env n) u)
  (hn:names.length=ln) (hs:swapsWithSole [.Tuple elts k tpos] (.Tuple es k2 p2) pos.line F.env=pure false) (hw:swappedStores [.Tuple elts k tpos] (.Tuple es k2 p2) F.env=pure (some names)) :
  SSound prog w B n F (exec (.Assign [.Tuple elts k tpos] (.Tuple es k2 p2) pos) F.env) (zcm ln r λvs=>u vs.reverse):=λst fl st' h A hA G s I X=>by
 (refine zlv (zin h) λvs h1 q1 q2 q3 q4 q0=>?_;subst q0)
 refine Assign_Tuple_swapped (wpAny_Tuple (hr.use q1 hA I X λcvs s1 G1 I1 S1 r1=>?_)) hs hw
 refine ⟨by rw [r1.length,q2];exact zrn (za1 q3) (by decide),?_⟩
 obtain ⟨J,T,ht⟩:=zg5 (c:=⟨G1,h1,s1⟩) I1 (cvs:=cvs)
 have e:names.length=cvs.toArray.size:=by refine hn▸q2▸r1.length▸?_;rfl
 refine e▸?_
 refine wpAny_unpackItems_tuple hA.1 ht λh' hx=>?_
 refine Ea (zhJ J hx) λJ2 T2=>?_
 have T3:=(S1.trans0 I1 T).trans0 J T2
 refine wpAny_mono (hu ⟨st.loc,h1⟩ vs.reverse st' q4 A hA G1 _ _ J2 (X.step T3) (by simpa using ((r1.step T).step T2).reverse)) (λZ s2 p=>?_) λZ Z x=>x
 refine PostU.E p λG2 I2 X2 S2=>?_
 exact ⟨G2,I2,X2,T3.weak.trans J2 S2 (λZ h=>h),.next⟩
end
structure Tp (B:Bs) (mg mb:Str->Option Value):Prop where
 g:B.h.Ns mainGlobals mg
 b:B.h.Ns builtinsNs mb
 lim:B.h.NoLimit
noncomputable def zaV (sem:List V->HP->Option (V × HP)) (r:St->Option (List V × HP)):St->Option (V × HP):=λst=>match r st with
 | some (vs,h)=>sem vs h
 | none=>none
section
variable (prog:Program) (w:World) (B:Bs)
noncomputable def zaM (n:Nat) (f:Value) (sem:List V->HP->Option (V × HP)):Prop:=
 ∀ hp vs v hp',sem vs hp=some (v,hp')->∀ A,AOk n A->∀ G s cvs,BInv B ⟨G,hp,s⟩->RVs G cvs vs->wpAny (model prog w) A (call f cvs []) (PostV B ⟨G,hp,s⟩ hp' v) NoE s
end
noncomputable def zlu (B:Bs) (f:Value):Prop:=(∀ a,f≠.ref a)\/∃ a o fd,f=.ref a/\B.h.get? a=some o/\o.data=.func fd
section
variable {prog:Program}{w:World}{B:Bs}{n:Nat}{F:FI}{mg mb:Str->Option Value}
theorem ziB {f:Value}(h:zlu B f) (hh:Heap) (hb:∀ a o,B.h.get? a=some o->hh.get? a=some o):∃ k,(k=Keeper.frame\/k=Keeper.machine\/k=Keeper.boundFrame)/\Looks (model prog w) hh (keeperOf f) k:=by
 rcases h with h | ⟨a,⟨c,d,dt,sl⟩,fd,rfl,ho,hd⟩
 ·refine ⟨.machine,.inr (.inl rfl),?_⟩
  cases f with
  | ref a=>exact absurd rfl (h a)
  | _=>exact Looks.of_pure rfl
 ·simp only at hd
  subst hd
  exact ⟨.frame,.inl rfl,(Looks.ld (part:=none) (hb _ _ ho)).andThen .now⟩
theorem zdz {x:Str}{cv:Value}{A:Around}{s:Shared}{Q:Value->Shared->Prop}{E:Value->Shared->Prop}(ok:FOk F) (hk:F.env.kindOf x=some .globalImplicit) (hg:s.heap.Ns mainGlobals mg) (hb:s.heap.Ns builtinsNs mb)
  (hv:mg x=some cv\/(mg x=none/\mb x=some cv)) (h:Q cv s):wpAny (model prog w) A (loadName F.env x) Q E s:=by
 unfold loadName
 have hka:F.env.scope.kind.isAnnotationScope=false:=by refine (congrArg _ ok.kind).trans ?_;rfl
 have hbk:F.env.blockKind=.function:=by unfold Env.blockKind;refine (Eq.symm hka)▸(Eq.symm ok.kind)▸?_;rfl
 simp only [hka,zti,zsd,if_false,hbk,hk]
 unfold loadGlobal
 refine ok.glob▸ok.blt▸?_
 refine wpAny_bind (wpAny_nsGet hg ?_)
 rcases hv with hv | ⟨h1,h2⟩
 ·refine hv▸?_;exact wpAny_pure h
 ·refine h1▸?_
  refine wpAny_bind (wpAny_nsGet hb ?_)
  refine h2▸?_;exact wpAny_pure h
theorem BInv.baseIn {c:Cfg}(I:BInv B c):∀ a o,B.h.get? a=some o->c.s.heap.get? a=some o:=λa o e=>I.keep a o (I.base a o e)
theorem zao {x:Str}{pos:Pos}{v:Value}(T:Tp B mg mb) (hk:F.env.kindOf x=some .globalImplicit) (hv:mg x=some v\/(mg x=none/\mb x=some v)) (hd:(x==("__debug__":Str))=false) :
  ESound prog w B n F (.Name x pos) (zmo v):=λst u hp' e A hA G s I X=>by
 refine zcy e ?_
 exact wpAny_Name (zdz X.ok hk (T.g.keeps I.baseIn) (T.b.keeps I.baseIn) hv ⟨G,I,Stp.refl _,.raw⟩) hd
theorem zbV {pos:Pos}{f:Value}{first:List Value}{args:List Expr}{r:St->Option (List V × HP)}{Q:Value->Shared->Prop}(hf:zlu B f) (hr:LSound prog w B n F pos args r) (hplain:(backTo pos (starEach args F.env)).any (·.1)=false)
  {st:St} {vs:List V} {h1:HP} (q:r st=some (vs,h1)) {A:Around} (hA:AOk n A) {G:Gh} {s:Shared} (I:BInv B ⟨G,st.hp,s⟩) (X:FrInv B F st.loc ⟨G,st.hp,s⟩)
  (h:∀ G1 s1 cvs,BInv B ⟨G1,h1,s1⟩->Stp B [] ⟨G,st.hp,s⟩ ⟨G1,h1,s1⟩->RVs G1 cvs vs->wpAny (model prog w) A (call f (first++cvs) []) Q NoE s1)
  (hne:∃ x rest,backTo pos (starEach args F.env)=(false,x)::rest) :
  wpAny (model prog w) A (callWith pos f first (backTo pos (starEach args F.env)) []) Q NoE s:=by
 refine callWith_of (P:=λhh=>∀ a o,B.h.get? a=some o->hh.get? a=some o) (by rw [hplain];rfl) (λhh hb=>ziB hf hh hb) ?_
 have key:wpAny (model prog w) A (spliced (backTo pos (starEach args F.env))) (λcvs s'=>(∀ a o,B.h.get? a=some o->s'.heap.get? a=some o)/\wpAny (model prog w) A (call f (first++cvs) []) Q NoE s') NoE s:=
  wpAny_mono (hr st vs h1 q A hA G s I X) (λcvs s1 p=>let ⟨G1,I1,S1,r1⟩:=p;⟨I1.baseIn,h G1 s1 cvs I1 S1 r1⟩) λZ Z x=>x
 refine Eee hne λx rest e=>?_
 rw [e] at key ⊢
 exact evalArgs_plain key
theorem zej {pos:Pos}{f:Value}{first:List Value}{Q:Value->Shared->Prop}(hf:zlu B f) {c:Cfg}{A:Around}(I:BInv B c) (h:wpAny (model prog w) A (call f (first++[]) []) Q NoE c.s) :
  wpAny (model prog w) A (callWith pos f first (backTo pos (starEach [] F.env)) []) Q NoE c.s:=by
 refine callWith_of (P:=λhh=>∀ a o,B.h.get? a=some o->hh.get? a=some o) rfl (λhh hb=>ziB hf hh hb) ?_
 exact evalArgs_nil3 ⟨I.baseIn,h⟩
theorem zaz {x:Str}{p pos:Pos}{f:Value}{args:List Expr}{r:St->Option (List V × HP)}{sem:List V->HP->Option (V × HP)}(hn:ESound prog w B n F (.Name x p) (zmo f)) (hf:zlu B f) (hr:LSound prog w B n F pos args r)
  (hs:zaM prog w B n f sem) (hplain:(backTo pos (starEach args F.env)).any (·.1)=false) (hne:∃ x rest,backTo pos (starEach args F.env)=(false,x)::rest) :
  ESound prog w B n F (.Call (.Name x p) args [] pos) (zaV sem r):=λst v hp' e A hA G s I X=>by
 unfold zaV at e
 refine mPL e λvs h1 q e=>?_
 refine wpAny_Call_NameR (hn.use rfl hA I X λcf s1 G1 I1 S1 r1=>?_)
 cases r1
 refine zbV hf hr hplain q hA I1 (X.step S1) (λG2 s2 cvs I2 S2 r2=>?_) hne
 exact wpAny_mono (hs h1 vs v hp' e A hA G2 s2 cvs I2 r2) (λZ Z q=>PostV.step I2 (S1.trans0 I1 S2) q) λZ Z x=>x
theorem zjM {x:Str}{p pos:Pos}{f:Value}{sem:List V->HP->Option (V × HP)}(hn:ESound prog w B n F (.Name x p) (zmo f)) (hf:zlu B f)
  (hs:zaM prog w B n f sem):ESound prog w B n F (.Call (.Name x p) [] [] pos) (zaV sem zaw):=λst v hp' e A hA G s I X=>by
 refine wpAny_Call_NameR (hn.use rfl hA I X λcf s1 G1 I1 S1 r1=>?_)
 cases r1
 refine zej (c:=⟨G1,st.hp,s1⟩) hf I1 ?_
 exact wpAny_mono (hs st.hp [] v hp' e A hA G1 s1 [] I1 .nil) (λZ Z q=>PostV.step I1 S1 q) λZ Z x=>x
noncomputable def zeG:List V->HP->Option (V × HP):=λvs hp=>on1 (λv=>match v with
 | .d (.str x)=>if zbr x.length then some (.d (.int x.length),hp) else none
 | v=>match zbl hp v with
  | some xs=>if zbr xs.length then some (.d (.int xs.length),hp) else none
  | none=>none) vs
noncomputable def zn2:V->Bool
 | .raw (.type n)=>n=="str"
 | _=>false
theorem znl {v:V}(h:zn2 v=true):v=.raw (.type "str"):=by
 cases v with
 | raw u=>
  cases u with
  | type n=>exact (show n="str" from of_decide_eq_true h)▸rfl
  | _=>exact zdo h
 | _=>exact zdo h
noncomputable def zgx:List V->HP->Option (V × HP):=λvs hp=>on1 (onS λx=>match x.cps.toList with
 | [c]=>some (.d (.int c),hp)
 | _=>none) vs
theorem zoa {x:Str}{c:Nat}(h:x.cps.toList=[c]):x=⟨#[c]⟩:=by
 obtain ⟨⟨l⟩⟩:=x
 exact congrArg (λl=>(⟨⟨l⟩⟩:Str)) h
noncomputable def zqt:List V->HP->Option (V × HP):=λvs hp=>on1 (onI λi=>if 0<=i/\i<=0x10FFFF then some (.d (.str ⟨#[i.toNat]⟩),hp) else none) vs
noncomputable def zl4:List V->HP->Option (V × HP):=λvs hp=>on2 (λa b=>onS (λZ=>if zn2 b then some (.d (.bool true),hp) else none) a) vs
theorem zcd:zaM prog w B n (.builtin "len") zeG:=λhp vs v hp' e A hA G s cvs I r=>by
 refine ziM e λu q e=>?_
 subst q
 refine r.one_elim λc h1=>?_
 have other:(match zbl hp u with | some xs=>if zbr xs.length then some (V.d (.int xs.length),hp) else none | none=>none)=some (v,hp')->wpAny (model prog w) A (call (.builtin "len") [c]) (PostV B ⟨G,hp,s⟩ hp' v) NoE s:=λe=>by
  cases hx:zbl hp u with
  | none=>rw [hx] at e;exact zan e
  | some xs=>
   rw [hx] at e
   refine Ea (zaK e) λhl e=>?_
   refine zcy e ?_
   (refine zcG (zdc I hx h1) λa items q0 k1 k2=>?_;subst q0)
   have hsz:items.size=xs.length:=k2.asize
   have:=za1 hl
   refine call_len_list k1 (by rw [hsz];exact ilt (zrt (by assumption) (zN rfl))) ?_
   refine (Eq.symm hsz)▸?_
   exact zdh I
 cases u with
 | d x=>
  cases x with
  | str x=>
   refine Ea (zaK e) λhl e=>?_
   refine zcy e ?_
   refine h1.str_elim λt=>?_
   have:=za1 hl
   exact PyProof.Rows.len_str (by lia) (zdh I)
  | _=>exact other e
 | _=>exact other e
theorem zcq:zaM prog w B n (.builtin "ord") zgx:=λhp vs v hp' e A hA G s cvs I r=>by
 refine ziM e λu q e=>?_
 subst q
 refine zd8 e λx q e=>?_
 subst q
 refine r.one_elim λcv h1=>?_
 refine h1.str_elim λt=>?_
 replace e:(match x.cps.toList with | [c]=>some (V.d (.int c),hp) | _=>none)=some (v,hp'):=e
 generalize hx:x.cps.toList=l at e
 cases l with
 | nil=>exact zan e
 | cons c l=>
  cases l with
  | cons d l=>exact zan e
  | nil=>
   cases e
   refine (zoa hx)▸?_
   exact PySem.P.ord_of_char (zdh I)
theorem zmT:zaM prog w B n (.builtin "chr") zqt:=λhp vs v hp' e A hA G s cvs I r=>by
 refine ziM e λu q e=>?_
 subst q
 refine zdA e λx q e=>?_
 subst q
 refine Ea (zaK e) λhi e=>?_
 refine zcy e ?_
 refine r.one_elim λcv h1=>?_
 refine h1.int_elim λt=>?_
 exact PySem.P.chr_of_int (by simp only [ztq,decide_eq_false_iff_not];lia) (zdK I)
theorem zkJ:zaM prog w B n (.builtin "isinstance") zl4:=λhp vs v hp' e A hA G s cvs I r=>by
 refine zlb e λa b q e=>?_
 subst q
 refine zd8 e λx q e=>?_
 subst q
 refine Ea (zaK e) λhi e=>?_
 refine zcy e ?_
 cases znl hi
 refine r.two_elim λc d h1 h2=>?_
 refine h1.str_elim λt=>?_
 cases h2
 exact IsiPair.str_str (za3 I (.d (.bool _)))
noncomputable def zl2:List PyData->Option (List Int):=zpV (dI some)
theorem zoK {xs:List PyData}{ns:List Int}(h:zl2 xs=some ns):xs=ns.map PyData.int:=
 zhU (P:=λxs ns=>xs=ns.map PyData.int) rfl (λZ Z Z Z e ih=>zj3 e λZ q e=>Option.some.inj e▸q▸ih▸rfl) h
theorem znk (ns:List Int):zl2 (ns.map PyData.int)=some ns:=by
 induction ns with
 | nil=>rfl
 | cons x r ih=>show (zl2 (r.map PyData.int)).map _=_;refine (congrArg _ ih).trans ?_;rfl
theorem zkZ {G:Gh}{vs:List Value}{ns:List Int}(r:RVs G vs ((ns.map PyData.int).map V.d)):IntsAre vs ns:=by
 induction ns generalizing vs with
 | nil=>cases r;exact .nil
 | cons i ns ih=>exact RVs.cons_elim r λc l h1 r=>h1.int_elim λt=>.cons i t (ih r)
theorem zew {G:Gh}{vs:List Value}{ns:List Int}(h:IntsAre vs ns):RVs G vs ((ns.map PyData.int).map V.d):=by
 induction h with
 | nil=>exact .nil
 | cons n t r ih=>exact .cons (.d (.int n t)) ih
theorem zh1:∀ {a b:List Int},a.Perm b->a.Pairwise (·<=·)->b.Pairwise (·<=·)->a=b:=by
 intro a b h h1 h2
 exact h.eq_of_pairwise (λx y Z Z h1 h2=>zuF h1 h2) h1 h2
noncomputable def zgI (ns:List Int):List Int:=ns.mergeSort (λa b=>decide (a<=b))
noncomputable def zgq:List V->HP->Option (V × HP):=λvs hp=>on1 (onL λxs=>if xs.length < 64 then (zl2 xs).map λns=>(.d (.list ((zgI ns).map .int)),hp) else none) vs
theorem zjd:zaM prog w B n (.builtin "sorted") zgq:=λhp vs v hp' e A hA G s cvs I r=>by
 refine ziM e λu q e=>?_
 subst q
 refine znB e λxs q e=>?_
 subst q
 refine Ea (zaK e) λhl e=>?_
 cases q:zl2 xs with
 | none=>rw [q] at e;exact zan e
 | some ns=>
 rw [q] at e;cases e
 have hx:=zoK q
 subst hx
 refine r.one_elim λcv h1=>?_
 refine h1.list_elim λa items as k1 k2=>?_
 have hI:=zkZ (RVs.of_reads k2)
 have hlen:items.toList.length < 64:=by rw [hI.length];simpa using hl
 refine sorted_ints (l:=a) (vs:=items.toList) (IsList.keep k1 I.keep) hI hlen λout ns' b1 b2 b3=>?_
 refine Ee (sortedAll_at s.heap items.toList out) λe he=>?_
 have es:ns'=zgI ns:=zh1 (b2.trans (zue ns _).symm) b3 (by
  have:=ztU (le:=λa b:Int=>decide (a<=b)) (λa b c h1 h2=>by simp only [decide_eq_true_eq] at *;exact zrO h1 h2) (λa b=>by simp only [zsJ,decide_eq_true_eq];exact zuT a b) ns
  exact this.imp λh=>of_decide_eq_true h)
 subst es
 obtain ⟨g',p1,p2,I2,S2⟩:=I.froze (s':={ s with heap:=sortedAll s.heap items.toList out }) (a:=s.heap.objs.size + 1) (λb o=>sortedAll_old) rfl rfl (zaJ (zsl _)) he
 obtain ⟨bs,rr⟩:=RVs.reads (G:=⟨g',G.f⟩) (zew b1)
 exact ⟨_,I2,S2,.d (reads_list_at p1 rfl rfl rr)⟩
theorem Stp.fresh {pv:List Addr}{c₀ c₁ c₂:Cfg}(I₁:BInv B c₁) (x:Stp B [] c₀ c₁) (y:Stp B pv c₁ c₂) (hf:∀ a ∈ pv,c₀.s.heap.get? a=none):Stp B [] c₀ c₂:=by
 have z:=Stp.trans (pv:=[]) (pv':=pv) I₁ x y (λZ h=>nomatch h)
 exact ⟨z.gg,z.ff,λa o e Z hm ht=>z.kp a o e (λh=>by rw [hf a h] at e;exact zan e) hm ht,z.old,z.sz,z.gn,z.os,z.nf⟩
open Classical in
noncomputable def zfK (np total:Nat) (m:St->Option (Fl × St)):List V->HP->Option (V × HP):=λargs hp=>
 if args.length=np then (match m ⟨args.map some++zsy (total - np) none,hp⟩ with
  | some (.ret v,st')=>if zi8 hp st'.hp v then some (v,st'.hp.take hp.length) else none
  | some (.next,st')=>if zi8 hp st'.hp (.d .none) then some (.d .none,st'.hp.take hp.length) else none
  | _=>none) else none
noncomputable def zeQ (fd:FuncData) (a L:Addr) (nm:List (Option Str)):FI where
 env:=newEnv fd.scope L fd.globals (cellsFrom (L + 1) fd.scope.names []) (fd.qualname++".<locals>.") (some a) fd.code none fd.builtins
 nm:=nm
 pv:=L::fd.scope.names.filterMap λp=>(cellsFrom (L + 1) fd.scope.names []).lookup p.1
 own:=L::fd.scope.names.filterMap λp=>(cellsFrom (L + 1) fd.scope.names []).lookup p.1
 cs:=fd.scope.names.map (·.1)
theorem zhL {γ:Type}{c:Prop}{_:Decidable c}{a:Option γ}{r:γ}(e:(if c then a else none)=some r):c/\a=some r:=zaK e
theorem zkI {kindOf:Str->Option NameKind}(bs:List (Str × Value)) (m:Str->Option Value) (x:Str) (h:∀ p ∈ bs,p.1≠x):bindL kindOf bs m x=m x:=by
 induction bs generalizing m with
 | nil=>rfl
 | cons p r ih=>
  cases p with | mk y u=>
  refine (ih _ λp hp=>h p (.tail _ hp)).trans ?_
  by_cases c:kindOf y=some .local
  ·exact (congrFun (if_pos c) x).trans (if_neg (Ne.symm (h (y,u) (.head _))))
  ·exact congrFun (if_neg c) x
theorem zmR {kindOf:Str->Option NameKind}(ns:List Str) (vs:List Value) (m:Str->Option Value) (k:Nat) (x:Str) (v:Value) (hn:ns.Nodup) (hk:∀ y ∈ ns,kindOf y=some .local) (h1:ns[k]?=some x) (h2:vs[k]?=some v):bindL kindOf (ns.zip vs) m x=some v:=by
 induction ns generalizing vs m k with
 | nil=>exact zan h1
 | cons y ns ih=>
  cases vs with
  | nil=>exact zan h2
  | cons u vs=>
   cases k with
   | zero=>
    refine Option.some.inj h1▸Option.some.inj h2▸?_
    exact (zkI (ns.zip vs) _ y λp hp e=>(zuG.mp hn).1 (e▸(zuH (a:=p.1) (b:=p.2) hp).1)).trans ((congrFun (if_pos (hk y (.head _))) y).trans (if_pos rfl))
   | succ k=>exact ih vs _ k (zuG.mp hn).2 (λz hz=>hk z (.tail _ hz)) h1 h2
theorem zch {a:Addr}{o:Obj}{fd:FuncData}{body:List Stmt}{m:St->Option (Fl × St)}{pn:List Str}{nm:List (Option Str)}(T:Tp B mg mb) (ho:B.h.get? a=some o) (hd:o.data=.func fd) (hco:fd.scope.isCoroutine=false) (hgen:fd.scope.isGenerator=false) (hbody:fd.body=.stmts body)
  (hcd:B.h.CodeRec fd.code fd.qualname) (hcl:fd.closure=[]) (hk:fd.scope.kind=.function) (hgl:fd.globals=mainGlobals) (hbl:fd.builtins=builtinsNs)
  (hbind:∀ args:List Value,args.length=pn.length->bindArgs fd ⟨args,[]⟩=pure (pn.zip args)) (hloc:∀ x ∈ pn,fd.scope.names.lookup x=some .local) (hpn:pn.Nodup)
  (hnm:∀ (k:Nat) (x:Str),pn[k]?=some x->nm[k]?=some (some x)) (hnd:∀ (i j:Nat) (x:Str),nm[i]?=some (some x)->nm[j]?=some (some x)->i=j) (hlen:pn.length<=nm.length)
  (hs:∀ L,SSound prog w B n (zeQ fd a L nm) (execs body (zeQ fd a L nm).env) m):zaM prog w B (n + 1) (.ref a) (zfK pn.length nm.length m):=λhp vs v hp' e A hA G s cvs I r=>by
 refine Ea (zaK e) λhl e=>?_
 ·skip
  have hcl2:cvs.length=pn.length:=by refine Eq.trans r.length ?_;exact hl
  have hb:=I.baseIn
  refine wpAny_call (codeAny_call_cells (binds:=pn.zip cvs) hA.room (hb _ _ ho) hd (T.lim.keeps hb) (hcd.keeps hb) hbody (hbind _ hcl2) hcl (λx hx=>.inl (hloc _ (zuH (a:=x.1) (b:=x.2) hx).1)) (λs₁ x=>?_) hco hgen hk)
  (refine Eee x.toInCall.same λh₁ tk q0=>?_;subst q0)
  have hLx:s.heap.get? s.heap.objs.size=none:=zaJ (zrv _)
  obtain ⟨I1,S1⟩:=I.grow (s':={ s with heap:=h₁,toks:=tk }) x.toInCall.keep rfl rfl
  have hcell:∀ b ∈ (zeQ fd a s.heap.objs.size nm).pv,b≠s.heap.objs.size->∃ y,(cellsFrom (s.heap.objs.size + 1) fd.scope.names []).lookup y=some b:=λb hb hne=>by
   rcases zrs.mp hb with rfl | hb
   ·exact absurd rfl hne
   ·obtain ⟨⟨y,c⟩,hy,q⟩:=zuk.mp hb
    exact ⟨y,q⟩
  have hfr:∀ b ∈ (zeQ fd a s.heap.objs.size nm).pv,s.heap.get? b=none:=λb hb=>by
   by_cases hne:b=s.heap.objs.size
   ·refine (congrArg _ hne).trans ?_;exact hLx
   ·refine Ee (hcell b hb hne) λy hy=>?_
    exact zaJ (zrP (x.above y b (mem_of_lookup hy)))
  have hex:∀ b ∈ (zeQ fd a s.heap.objs.size nm).pv,Ex h₁ b:=λb hb=>by
   by_cases hne:b=s.heap.objs.size
   ·(refine zfq x.toInCall.ns λo Z Z q Z=>?_);exact ⟨o,hne▸q⟩
   ·refine Ee (hcell b hb hne) λy hy=>?_
    (refine Eea (x.cell y b hy) λo q Z=>?_);exact ⟨o,q⟩
  have hX:FrInv B (zeQ fd a s.heap.objs.size nm) (vs.map some++zsy (nm.length - pn.length) none) ⟨G,hp,{ s with heap:=h₁,toks:=tk }⟩:=by
   refine ⟨⟨hk,hgl,hbl,.head _,λZ h=>h,hnd,λy z c h1 h2=>name_of_addr x.apart (mem_of_lookup h1) (mem_of_lookup h2)⟩,⟨_,x.toInCall.ns⟩,λb hb=>?_,λk y v h1 h2=>?_,λy Z hy=>?_,.head _⟩
   ·have hn:=hfr b hb
    exact ⟨hex b hb,I.g_none hn,I.not_mu hn,λq=>by obtain ⟨_,q2⟩:=I.tbl_lt;rw [<- q,hn] at q2;exact zan q2⟩
   ·have hkv:k < vs.length:=by
     rcases zr4 k vs.length with q | q
     ·exact q
     ·rw [zrF (by simpa using q),ztV] at h2
      split at h2 <;> cases h2
    rw [zrC (by simpa using hkv),zr7] at h2
    refine Eea (zr8.mp h2) λu hu hu2=>?_
    cases hu2
    refine Eea (r.get hu) λcu q1 q2=>?_
    have hkp:k < pn.length:=(fk (al2 (leq hl) hkv) (by lia))
    have hy:=hnm k _ (zrG hkp)
    have hy:=(show nm[k]?=some (some y) from h1).symm.trans hy
    cases hy
    exact ⟨cu,.inl ⟨hloc _ (zuA _),_,x.toInCall.ns,zmR pn cvs _ k _ cu hpn hloc (zrG hkp) q1⟩,q2⟩
   ·obtain ⟨c,hc⟩:=ztO.mp (cellsFrom_some fd.scope.names (s.heap.objs.size + 1) [] (.inl hy))
    exact ⟨c,_,hc,zrL _ (zuk.mpr ⟨_,mem_of_lookup hy,hc⟩),x.cell y c hc⟩
  have key:∀ fl st',m ⟨vs.map some++zsy (nm.length - pn.length) none,hp⟩=some (fl,st')->zi8 hp st'.hp (match fl with | .ret v=>v | _=>.d .none)->(∀ (f:Flow) (s':Gh),FlR s' f fl->RV s' (match (generalizing:=false) f with | .ret v=>v | _=>.none) (match fl with | .ret v=>v | _=>.d .none))->
    wpAny (model prog w) (A.deeper (callEnvC fd s.heap.objs.size a)) (execs body (callEnvC fd s.heap.objs.size a)) (λf s'=>PostV B ⟨G,hp,s⟩ (st'.hp.take hp.length) (match fl with | .ret v=>v | _=>.d .none) (match f with | .ret v=>v | _=>.none) s') NoE { s with heap:=h₁,toks:=tk }:=λfl st' q ck hr=>by
   refine wpAny_mono (hs s.heap.objs.size _ fl st' q _ hA.deeper G _ I1 hX) (λf s' pp=>?_) λZ Z x=>x
   refine PostS.E pp λG' I' X' S' hf=>?_
   have S2:=Stp.fresh I1 S1 S' hfr
   refine Ea (BInv.cut I I' S2 ck) λI3 S3=>?_
   exact ⟨_,I3,S3,(hr _ _ hf).cut ck.val⟩
  refine zqH (m ⟨vs.map some++zsy (nm.length - pn.length) none,hp⟩) (λq=>?_) λp q=>?_
  ·rw [q] at e;exact zan e
  ·rw [q] at e
   cases p with | mk f st'=>
   cases f with
   | ret v'=>
    refine Ea (zhL e) λck e=>?_
    refine zcy e ?_
    exact wpAny_mono (key _ _ q ck λf s' h=>by cases h with | ret r=>exact r) (λZ Z x=>x) λZ Z x=>x.elim
   | next=>
    refine Ea (zhL e) λck e=>?_
    refine zcy e ?_
    exact wpAny_mono (key _ _ q ck λf s' h=>by cases h;exact .d .none) (λZ Z x=>x) λZ Z x=>x.elim
   | _=>exact zan e
end
structure zgM (B:Bs) (pv:List Addr) (gx:Nat->Prop) (c c':Cfg):Prop where
 gg:∀ a o,c.G.g.get? a=some o->c'.G.g.get? a=some o
 ff:∀ id a,c.G.f id=some a->c'.G.f id=some a
 kp:∀ a o,c.s.heap.get? a=some o->a ∉ pv->¬ mu c a->a≠B.tbl->c'.s.heap.get? a=some o
 old:∀ a,Ex c.s.heap a->c.G.g.get? a=none->¬ mu c a->c'.G.g.get? a=none/\¬ mu c' a
 sz:∀ a,a ∉ pv->Ex c.s.heap a->Ex c'.s.heap a
 gn:∀ (i:Nat) (x:GenState),¬ gx i->c.s.gens[i]?=some x->c'.s.gens[i]?=some x
 os:c'.s.os=c.s.os
 nf:∀ id a,c'.G.f id=some a->c.G.f id=some a\/c.s.heap.get? a=none
theorem Stp.toX {B:Bs}{pv:List Addr}{gx:Nat->Prop}{c c':Cfg}(x:Stp B pv c c'):zgM B pv gx c c':=⟨x.gg,x.ff,x.kp,x.old,λa Z h=>x.sz a h,λi y Z e=>x.gn i y e,x.os,x.nf⟩
theorem Stp.thenX {B:Bs}{pv own:List Addr}{gx:Nat->Prop}{c₀ c₁ c₂:Cfg}(I₁:BInv B c₁) (x:Stp B pv c₀ c₁) (y:zgM B own gx c₁ c₂) (hf:∀ a ∈ own,c₀.s.heap.get? a=none) (hg:∀ i,gx i->c₀.s.gens[i]?=none):Stp B pv c₀ c₂ where
 gg a o e:=y.gg a o (x.gg a o e)
 ff i a e:=y.ff i a (x.ff i a e)
 kp a o e hp hm ht:=by
  have e2:=x.kp a o e hp hm ht
  refine y.kp a o e2 (λh=>by rw [hf a h] at e;exact zan e) ?_ ht
  intro hm2
  have hn:=I₁.mu_none hm2
  cases hg:c₀.G.g.get? a with
  | none=>exact (x.old a ⟨o,e⟩ hg hm).2 hm2
  | some o'=>rw [x.gg a o' hg] at hn;exact ziK hn
 old a hlt hg hm:=by
  obtain ⟨h1,h2⟩:=x.old a hlt hg hm
  exact y.old a (x.sz a hlt) h1 h2
 sz a h:=y.sz a (λq=>by refine Ee h λo e=>?_;rw [hf a q] at e;exact zan e) (x.sz a h)
 gn i v e:=y.gn i v (λh=>by rw [hg i h] at e;exact zan e) (x.gn i v e)
 os:=y.os.trans x.os
 nf id a e:=by
  rcases y.nf id a e with h | h
  ·exact x.nf id a h
  ·refine .inr ?_
   cases hq:c₀.s.heap.get? a with
   | none=>rfl
   | some o=>(refine Ee (x.sz a ⟨o,hq⟩) λo' h'=>?_);rw [h] at h';exact zan h'
theorem FrInv.keepX {B:Bs}{F:FI}{loc:List (Option V)}{c c':Cfg}{pv:List Addr}{gx:Nat->Prop}(X:FrInv B F loc c) (st:zgM B pv gx c c') (hd:∀ a ∈ F.pv,a ∉ pv):FrInv B F loc c':=by
 have hk:∀ a ∈ F.pv,∀ o,c.s.heap.get? a=some o->c'.s.heap.get? a=some o:=λa ha o e=>st.kp a o e (hd a ha) (X.pvs a ha).2.2.1 (X.pvs a ha).2.2.2
 refine ⟨X.ok,?_,λa ha=>?_,λk x v h1 h2=>?_,λx hcs hx=>?_,X.lown⟩
 ·obtain ⟨m,h⟩:=X.ns
  exact ⟨m,h.at' (hk _ X.ok.loc)⟩
 ·refine zi6 (X.pvs a ha) λh1 h2 h3 h4=>?_
  obtain ⟨k1,k2⟩:=st.old a h1 h2 h3
  exact ⟨st.sz a (hd a ha) h1,k1,k2,h4⟩
 ·refine Eea (X.loc k x v h1 h2) λcv L r=>?_
  exact ⟨cv,L.keep X.ok hk,r.mono st.gg st.ff⟩
 ·obtain ⟨a,v,h1,h2,o,ho,hd⟩:=X.cel x hcs hx
  exact ⟨a,v,h1,h2,o,hk a (X.ok.own a h2) o ho,hd⟩
noncomputable def Priv (B:Bs) (own:List Addr) (c:Cfg):Prop:=∀ a ∈ own,Ex c.s.heap a/\c.G.g.get? a=none/\¬ mu c a/\a≠B.tbl/\∀ id,c.G.f id≠some a
theorem Priv.stepX {B:Bs}{own pv:List Addr}{gx:Nat->Prop}{c c':Cfg}(h:Priv B own c) (st:zgM B pv gx c c') (hd:∀ a ∈ own,a ∉ pv):Priv B own c':=λa ha=>by
 refine zfS (h a ha) λh1 h2 h3 h4 h5=>?_
 obtain ⟨k1,k2⟩:=st.old a h1 h2 h3
 refine ⟨st.sz a (hd a ha) h1,k1,k2,h4,λid e=>?_⟩
 rcases st.nf id a e with q | q
 ·exact h5 id q
 ·refine Ee h1 λo q2=>?_;rw [q] at q2;exact zan q2
theorem Priv.step {B:Bs}{own pv:List Addr}{c c':Cfg}(h:Priv B own c) (st:Stp B pv c c'):Priv B own c':=λa ha=>by
 refine zfS (h a ha) λh1 h2 h3 h4 h5=>?_
 obtain ⟨k1,k2⟩:=st.old a h1 h2 h3
 refine ⟨st.sz a h1,k1,k2,h4,λid e=>?_⟩
 rcases st.nf id a e with q | q
 ·exact h5 id q
 ·refine Ee h1 λo q2=>?_;rw [q] at q2;exact zan q2
theorem Priv.keep {B:Bs}{own pv:List Addr}{gx:Nat->Prop}{c c':Cfg}(h:Priv B own c) (st:zgM B pv gx c c') (hd:∀ a ∈ own,a ∉ pv):∀ a ∈ own,∀ o,c.s.heap.get? a=some o->c'.s.heap.get? a=some o:=λa ha o e=>by
 refine zfS (h a ha) λh1 h2 h3 h4 Z=>?_
 exact st.kp a o e (hd a ha) h3 h4
theorem Priv.fresh {B:Bs}{own:List Addr}{c c':Cfg}(I:BInv B c) (hg:c'.G=c.G) (hhp:c'.hp=c.hp) (hf:∀ a ∈ own,c.s.heap.get? a=none) (he:∀ a ∈ own,Ex c'.s.heap a):Priv B own c':=λa ha=>by
 have hn:=hf a ha
 refine ⟨he a ha,by refine hg▸?_;exact I.g_none hn,?_,(λq=>by obtain ⟨_,q2⟩:=I.tbl_lt;rw [<- q,hn] at q2;exact zan q2),λid e=>by rw [hg] at e;exact (I.lt _ _ e).ne hn rfl⟩
 intro ⟨id,vs,h1,h2⟩
 rw [hhp] at h1;rw [hg] at h2
 exact I.not_mu hn ⟨id,vs,h1,h2⟩
structure Itr (prog:Program) (w:World) (B:Bs) (A:Around) (it:Value) (own:List Addr) (gx:Nat->Prop) (P:List V->Cfg->Prop):Prop where
 ref:∃ I,it=.ref I
 frame:∀ xs c c',P xs c->(∀ a ∈ own,∀ o,c.s.heap.get? a=some o->c'.s.heap.get? a=some o)->(∀ a o,c.G.g.get? a=some o->c'.G.g.get? a=some o)->(∀ id a,c.G.f id=some a->c'.G.f id=some a)->
  (∀ (i:Nat) (x:GenState),gx i->c.s.gens[i]?=some x->c'.s.gens[i]?=some x)->BInv B c'->P xs c'
 next:∀ v xs c Q,BInv B c->Priv B own c->P (v::xs) c->(∀ cv G' s',BInv B ⟨G',c.hp,s'⟩->zgM B own gx c ⟨G',c.hp,s'⟩->RV G' cv v->P xs ⟨G',c.hp,s'⟩->Priv B own ⟨G',c.hp,s'⟩->
   (∀ target:Expr,wpAny (model prog w) A (letOwnedTupleGo target it cv) (λZ s2=>∃ G2,BInv B ⟨G2,c.hp,s2⟩/\zgM B own gx c ⟨G2,c.hp,s2⟩/\RV G2 cv v/\P xs ⟨G2,c.hp,s2⟩/\Priv B own ⟨G2,c.hp,s2⟩) NoE s')->Q (some cv) s')->wpAny (model prog w) A (pyNext it) Q NoE c.s
 done:∀ c Q,BInv B c->Priv B own c->P [] c->(∀ G' s',BInv B ⟨G',c.hp,s'⟩->zgM B own gx c ⟨G',c.hp,s'⟩->Q none s')->wpAny (model prog w) A (pyNext it) Q NoE c.s
 self:∀ xs c Q,BInv B c->P xs c->(Q it c.s)->wpAny (model prog w) A (pyIter it) Q NoE c.s
inductive zmM (prog:Program) (w:World) (B:Bs) (A:Around) (c:Cfg) (hp':HP) (vs:List V) (it:Value) (s₂:Shared):Prop
 | mk (G':Gh) (own:List Addr) (gx:Nat->Prop) (P:List V->Cfg->Prop):BInv B ⟨G',hp',s₂⟩->Stp B [] c ⟨G',hp',s₂⟩->Itr prog w B A it own gx P->P vs ⟨G',hp',s₂⟩->Priv B own ⟨G',hp',s₂⟩->
   (∀ a ∈ own,c.s.heap.get? a=none)->(∀ i,gx i->c.s.gens[i]?=none)->zmM prog w B A c hp' vs it s₂
section
variable (prog:Program) (w:World) (B:Bs)
noncomputable def zeg (n:Nat) (F:FI) (t:Sem Value) (src:St->Option (List V × HP)):Prop:=
 ∀ st vs hp',src st=some (vs,hp')->∀ A,AOk n A->∀ G s,BInv B ⟨G,st.hp,s⟩->FrInv B F st.loc ⟨G,st.hp,s⟩->
  wpAny (model prog w) A t (λxv s₁=>wpAny (model prog w) A (pyIter xv) (zmM prog w B A ⟨G,st.hp,s⟩ hp' vs) NoE s₁) NoE s
end
noncomputable def zba (c:St->Option (Bool × HP)) (b:St->Option (Fl × St)):Nat->St->Option (Fl × St)
 | 0,_=>none
 | k + 1,st=>match c st with
  | some (true,h)=>(match b ⟨st.loc,h⟩ with
   | some (.next,st')=>zba c b k st'
   | some (.cont,st')=>zba c b k st'
   | some (.brk,st')=>some (.next,st')
   | some (.ret v,st')=>some (.ret v,st')
   | none=>none)
  | some (false,h)=>some (.next,⟨st.loc,h⟩)
  | none=>none
noncomputable def forL (u:V->St->Option St) (b:St->Option (Fl × St)):List V->St->Option (Fl × St)
 | [],st=>some (.next,st)
 | v::r,st=>match u v st with
  | some st1=>(match b st1 with
   | some (.next,st')=>forL u b r st'
   | some (.cont,st')=>forL u b r st'
   | some (.brk,st')=>some (.next,st')
   | some (.ret x,st')=>some (.ret x,st')
   | none=>none)
  | none=>none
noncomputable def zfJ (src:St->Option (List V × HP)) (u:V->St->Option St) (b:St->Option (Fl × St)):St->Option (Fl × St):=λst=>match src st with
 | some (vs,h)=>forL u b vs ⟨st.loc,h⟩
 | none=>none
section
variable {prog:Program}{w:World}{B:Bs}{n:Nat}{F:FI}
inductive WI (B:Bs) (F:FI) (c0:Cfg) (c:St->Option (Bool × HP)) (b:St->Option (Fl × St)) (fl:Fl) (st':St) (k:Nat) (s1:Shared):Prop
 | mk:∀ st1:St,∀ G1:Gh,zba c b k st1=some (fl,st')->BInv B ⟨G1,st1.hp,s1⟩->FrInv B F st1.loc ⟨G1,st1.hp,s1⟩->Stp B F.own c0 ⟨G1,st1.hp,s1⟩->WI B F c0 c b fl st' k s1
theorem zby {k:Nat}{test:Expr}{body:List Stmt}{pos:Pos}{c:St->Option (Bool × HP)}{b:St->Option (Fl × St)}(hc:QSound prog w B n F test c) (hb:SSound prog w B n F (execs body F.env) b) :
  SSound prog w B n F (exec (.While test body [] pos) F.env) (zba c b k):=λst fl st' h A hA G s I X=>by
 refine wpAny_While (codeAny_whileLoop (WI B F ⟨G,st.hp,s⟩ c b fl st') ?_ k ⟨st,G,h,I,X,Stp.refl _⟩)
 rintro m s1 ⟨st1,G1,h1,I1,X1,S1⟩
 cases m with
 | zero=>exact zan h1
 | succ m=>
  unfold zba at h1
  cases e:c st1 with
  | none=>rw [e] at h1;exact zan h1
  | some r=>
   obtain ⟨v,hp1⟩:=r
   rw [e] at h1
   refine hc.use e hA I1 X1 λcb s2 q0 G2 I2 S2=>?_
   subst q0
   have X2:=X1.step S2
   have S3:=S1.trans I1 (S2.weak (pv:=F.own)) λZ h=>h
   cases cb with
   | false=>
    cases h1
    dsimp
    exact wpAny_execs_nil ⟨G2,I2,X2,S3,.next⟩
   | true=>
    dsimp
    dsimp only at h1
    cases e2:b ⟨st1.loc,hp1⟩ with
    | none=>rw [e2] at h1;exact zan h1
    | some r2=>
     obtain ⟨f2,st2⟩:=r2
     rw [e2] at h1
     refine hb.use e2 hA I2 X2 λf s3 G3 I3 X3 S4 hf=>?_
     have S5:=S3.trans I2 S4 λZ h=>h
     cases hf with
     | next=>exact ⟨m,zrD m,st2,G3,h1,I3,X3,S5⟩
     | cont=>exact ⟨m,zrD m,st2,G3,h1,I3,X3,S5⟩
     | brk=>cases h1;exact ⟨G3,I3,X3,S5,.next⟩
     | ret r=>cases h1;exact ⟨G3,I3,X3,S5,.ret r⟩
inductive LI (B:Bs) (F:FI) (c0:Cfg) (u:V->St->Option St) (b:St->Option (Fl × St)) (fl:Fl) (st':St) (own:List Addr) (P:List V->Cfg->Prop) (k:Nat) (s3:Shared):Prop
 | mk:∀ st3:St,∀ G3:Gh,∀ xs:List V,k=xs.length->forL u b xs st3=some (fl,st')->BInv B ⟨G3,st3.hp,s3⟩->FrInv B F st3.loc ⟨G3,st3.hp,s3⟩->Stp B F.own c0 ⟨G3,st3.hp,s3⟩->Priv B own ⟨G3,st3.hp,s3⟩->P xs ⟨G3,st3.hp,s3⟩->LI B F c0 u b fl st' own P k s3
theorem zcj {target iter:Expr}{body:List Stmt}{pos:Pos}{src:St->Option (List V × HP)}{u:V->St->Option St}{b:St->Option (Fl × St)}(hi:zeg prog w B n F (eval iter F.env) src) (hu:zcI prog w B n F (assign target F.env) u)
  (hb:SSound prog w B n F (execs body F.env) b) (hs:∀ x,foldedSetIterable iter F.env x=pure x):SSound prog w B n F (exec (.For target iter body [] pos) F.env) (zfJ src u b):=λst fl st' h A hA G s I X=>by
 refine mPL h λvs hp1 e h=>?_
 refine wpAny_For (wpAny_mono (hi st vs hp1 e A hA G s I X) (λxv s1 h1=>wpAny_mono h1 (λit s2 h2=>?_) λZ Z x=>x) λZ Z x=>x) hs
 obtain ⟨G2,own,gx,P,I2,S2,It,hP,hPr,hfr,hgx⟩:=h2
 have hdis:∀ a ∈ F.pv,a ∉ own:=λa ha ho=>by obtain ⟨o,q⟩:=(X.pvs a ha).1;have:=hfr a ho;rw [show (⟨G,st.hp,s⟩:Cfg).s.heap.get? a=s.heap.get? a from rfl,this] at q;exact zan q
 refine codeAny_forLoop_any (LI B F ⟨G,st.hp,s⟩ u b fl st' own P) ?_ vs.length
  ⟨⟨st.loc,hp1⟩,G2,vs,rfl,h,I2,X.step S2,S2.weak,hPr,hP⟩
 rintro k s3 ⟨st3,G3,xs,rfl,h3,I3,X3,S3,hPr3,hP3⟩
 cases xs with
 | nil=>
  cases h3
  refine wpAny_mono (It.done ⟨G3,st'.hp,s3⟩ (λr s'=>r=none/\∃ G',BInv B ⟨G',st'.hp,s'⟩/\zgM B own gx ⟨G3,st'.hp,s3⟩ ⟨G',st'.hp,s'⟩) I3 hPr3 hP3 λG' s' I' S'=>⟨rfl,G',I',S'⟩) (λr s' hr=>?_) λZ Z x=>x.elim
  (refine zqn hr λq0 G' I' S'=>?_;subst q0)
  exact wpAny_execs_nil ⟨G',I',X3.keepX S' hdis,S3.thenX I3 S' hfr hgx,.next⟩
 | cons v xs=>
  unfold forL at h3
  refine wpAny_mono (It.next v xs ⟨G3,st3.hp,s3⟩ (λr s'=>∃ cv,r=some cv/\wpAny (model prog w) A (letOwnedTupleGo target it cv) (λZ s2=>∃ G2,BInv B ⟨G2,st3.hp,s2⟩/\zgM B own gx ⟨G3,st3.hp,s3⟩ ⟨G2,st3.hp,s2⟩/\RV G2 cv v/\P xs ⟨G2,st3.hp,s2⟩/\Priv B own ⟨G2,st3.hp,s2⟩) NoE s') I3 hPr3 hP3
   λcv G' s' I' S' hr hP' hPr' hgo=>⟨cv,rfl,hgo target⟩) (λr s' hr=>?_) λZ Z x=>x.elim
  (refine Eea hr λcv q0 hgo=>?_;subst q0)
  refine wpAny_mono hgo (λZ s5 h5=>?_) λZ Z x=>x.elim
  refine zjX h5 λG5 I5 S5 r5 hP5 hPr5=>?_
  have X5:=X3.keepX S5 hdis
  have T5:=S3.thenX I3 S5 hfr hgx
  cases e2:u v st3 with
  | none=>rw [e2] at h3;exact zan h3
  | some st4=>
   rw [e2] at h3
   dsimp only at h3
   refine wpAny_mono (hu st3 v st4 e2 A hA G5 s5 cv I5 X5 r5) (λZ s6 h6=>?_) λZ Z x=>x.elim
   refine PostU.E h6 λG6 I6 X6 S6=>?_
   have T6:=T5.trans I5 S6 λZ h=>h
   have hdo:∀ a ∈ own,a ∉ F.own:=λa ha ho=>hdis a (X.ok.own a ho) ha
   have hP6:P xs ⟨G6,st4.hp,s6⟩:=It.frame _ _ _ hP5 (hPr5.keep (S6.toX (gx:=gx)) hdo) S6.gg S6.ff (λi x Z e=>S6.gn i x e) I6
   have hPr6:=hPr5.step S6
   cases e3:b st4 with
   | none=>rw [e3] at h3;exact zan h3
   | some r2=>
    obtain ⟨f2,st7⟩:=r2
    rw [e3] at h3
    refine hb.use e3 hA I6 X6 λf s7 G7 I7 X7 S7 hf=>?_
    have T7:=T6.trans I6 S7 λZ h=>h
    have hP7:P xs ⟨G7,st7.hp,s7⟩:=It.frame _ _ _ hP6 (hPr6.keep (S7.toX (gx:=gx)) hdo) S7.gg S7.ff (λi x Z e=>S7.gn i x e) I7
    have hPr7:=hPr6.step S7
    cases hf with
    | next=>exact ⟨xs.length,by exact zrD _,st7,G7,xs,rfl,h3,I7,X7,T7,hPr7,hP7⟩
    | cont=>exact ⟨xs.length,by exact zrD _,st7,G7,xs,rfl,h3,I7,X7,T7,hPr7,hP7⟩
    | brk=>cases h3;exact ⟨G7,I7,X7,T7,.next⟩
    | ret r=>cases h3;exact ⟨G7,I7,X7,T7,.ret r⟩
end
section
variable {B:Bs}{c₀ c:Cfg}
theorem BInv.adopt {pv:List Addr}{a:Addr}{o:Obj}(I:BInv B c) (S:Stp B pv c₀ c) (hp:Priv B [a] c) (hf:c₀.s.heap.get? a=none) (ho:c.s.heap.get? a=some o) :
  ∃ g',g'.get? a=some o/\(∀ b,b≠a->g'.get? b=c.G.g.get? b)/\(∀ b x,c.G.g.get? b=some x->g'.get? b=some x)/\BInv B ⟨⟨g',c.G.f⟩,c.hp,c.s⟩/\Stp B pv c₀ ⟨⟨g',c.G.f⟩,c.hp,c.s⟩:=by
 refine Eea (zcx c.G.g a o (Heap.get?_some_iff.mp ho).2) λg' e1 e2=>?_
 refine zfS (hp a (.head _)) λh1 hgn hm ht Z=>?_
 have gg:∀ b x,c.G.g.get? b=some x->g'.get? b=some x:=λb x e=>by
  by_cases hb:b=a
  ·subst hb;rw [hgn] at e;exact zan e
  ·refine Eq.trans (e2 b hb) ?_;exact e
 refine ⟨g',e1,e2,gg,⟨λb x e=>?_,λb x e=>gg b x (I.base b x e),I.lt,I.inj,I.fr,λid vs e=>?_,?_,⟨?_,I.tabg.2⟩,I.bare⟩,?_⟩
 ·by_cases hb:b=a
  ·subst hb;rw [show (⟨⟨g',c.G.f⟩,c.hp,c.s⟩:Cfg).G.g.get? b=g'.get? b from rfl,e1] at e;refine zfx e ?_;exact ho
  ·exact I.keep b x (by refine (e2 b hb)▸?_;exact e)
 ·refine LstAt.E (I.lst id vs e) λb its h1 h2 h3 h4=>?_
  have:b≠a:=λh=>hm (h▸⟨id,vs,e,h1⟩)
  exact ⟨b,its,h1,(e2 b this).trans h2,h3,RVs.mono (G:=c.G) (G':=⟨g',c.G.f⟩) gg (λZ Z e=>e) h4⟩
 ·refine Eea I.tab λps h1 h2=>?_
  exact ⟨ps,h1,B.mono _ _ _ gg h2⟩
 ·exact (e2 _ (Ne.symm ht)).trans I.tabg.1
 ·refine ⟨λb x e=>gg b x (S.gg b x e),S.ff,S.kp,λb k1 k2 k3=>?_,S.sz,S.gn,S.os,S.nf⟩
  obtain ⟨q1,q2⟩:=S.old b k1 k2 k3
  refine ⟨?_,q2⟩
  have:b≠a:=λh=>by refine Ee k1 λo k=>?_;rw [h,hf] at k;exact zan k
  exact (e2 b this).trans q1
theorem BInv.adoptList {pv:List Addr}{a:Addr}{items:Array Value}{vs:List V}(I:BInv B c) (S:Stp B pv c₀ c) (hp:Priv B [a] c) (hf:c₀.s.heap.get? a=none) (ho:c.s.heap.PlainList a items) (hv:RVs c.G items.toList vs) :
  ∃ G',G'.f c.hp.length=some a/\BInv B ⟨G',c.hp++[some vs],c.s⟩/\Stp B pv c₀ ⟨G',c.hp++[some vs],c.s⟩:=by
 refine zfS (hp a (.head _)) λhe hgn hm ht hf2=>?_
 have hne:∀ id b,c.G.f id=some b->id≠c.hp.length/\b≠a:=λid b e=>⟨λh=>(by rw [I.fr id (zrn (geq h) (by lia))] at e;exact zan e),λh=>hf2 id (h▸e)⟩
 have ff:∀ id b,c.G.f id=some b->(if id=c.hp.length then some a else c.G.f id)=some b:=λid b e=>by refine Eq.trans (if_neg (hne id b e).1) ?_;exact e
 have hget:∀ id,id≠c.hp.length->∀ x,(c.hp++[some vs])[id]?=some x->c.hp[id]?=some x:=λid h x e=>by
  rcases zr4 id c.hp.length with h1 | h1
  ·rwa [zrC h1] at e
  ·rw [zrH (by simp;lia)] at e;exact zan e
 refine ⟨⟨c.G.g,λid=>if id=c.hp.length then some a else c.G.f id⟩,by simp,⟨I.keep,I.base,λid b e=>?_,λi j b e1 e2=>?_,λid h=>?_,λid us e=>?_,I.tab,⟨I.tabg.1,λid e=>?_⟩,I.bare⟩,?_⟩
 ·dsimp only at e
  by_cases h:id=c.hp.length
  ·rw [if_pos h] at e;refine zfx e ?_;exact he
  ·rw [if_neg h] at e;exact I.lt _ _ e
 ·dsimp only at e1 e2
  by_cases h1:i=c.hp.length <;> by_cases h2:j=c.hp.length
  ·lia
  ·rw [if_pos h1] at e1;rw [if_neg h2] at e2;cases e1;exact absurd rfl (hne _ _ e2).2
  ·rw [if_neg h1] at e1;rw [if_pos h2] at e2;cases e2;exact absurd rfl (hne _ _ e1).2
  ·rw [if_neg h1] at e1;rw [if_neg h2] at e2;exact I.inj _ _ _ e1 e2
 ·dsimp only at h ⊢
  rw [zro,ztl] at h
  refine Eq.trans (if_neg (by exact zrV (by assumption))) ?_;exact I.fr _ (by exact zrP (by assumption))
 ·by_cases h:id=c.hp.length
  ·subst h
   have:us=vs:=by simpa using e.symm
   subst this
   exact ⟨a,items,by simp,hgn,ho,RVs.mono (G:=c.G) (G':=⟨c.G.g,λid=>if id=c.hp.length then some a else c.G.f id⟩) (λZ Z e=>e) ff hv⟩
  ·refine LstAt.E (I.lst id us (hget id h _ e)) λb its h1 h2 h3 h4=>?_
   exact ⟨b,its,ff _ _ h1,h2,h3,RVs.mono (G:=c.G) (G':=⟨c.G.g,λid=>if id=c.hp.length then some a else c.G.f id⟩) (λZ Z e=>e) ff h4⟩
 ·dsimp only at e
  by_cases h:id=c.hp.length
  ·rw [if_pos h] at e;cases e;exact ht rfl
  ·rw [if_neg h] at e;exact I.tabg.2 _ e
 ·refine ⟨S.gg,λid b e=>ff id b (S.ff id b e),S.kp,λb k1 k2 k3=>?_,S.sz,S.gn,S.os,λid b e=>by
   have e':(if id=c.hp.length then some a else c.G.f id)=some b:=e
   by_cases h:id=c.hp.length
   ·rw [if_pos h] at e';cases e';exact .inr hf
   ·rw [if_neg h] at e';exact S.nf id b e'⟩
  obtain ⟨q1,q2⟩:=S.old b k1 k2 k3
  refine ⟨q1,λ⟨id,us,p1,p2⟩=>?_⟩
  dsimp only at p1 p2
  by_cases h:id=c.hp.length
  ·rw [if_pos h] at p2;cases p2;refine Ee k1 λo k=>?_;rw [hf] at k;exact zan k
  ·rw [if_neg h] at p2;exact q2 ⟨id,us,hget id h _ p1,p2⟩
end
noncomputable def zfs (env:Env):List (Str × NameKind)->List (Str × Addr)->List (Str × Addr)
 | [],acc=>acc
 | (x,k)::r,acc=>if k==.free then (match env.cells.lookup x with | some c=>zfs env r ((x,c)::acc) | none=>zfs env r acc) else zfs env r acc
noncomputable def zih (env:Env) (names:List (Str × NameKind)):Prop:=∀ x ∈ names,x.2=.free->(env.cells.lookup x.1).isSome=true
theorem zhv {env:Env}{scope:Scope}(h:zih env scope.names):closureFor scope env=pure (zfs env scope.names []):=by
 have key:∀ (names:List (Str × NameKind)) (acc:List (Str × Addr)),zih env names->
   (forIn names acc λ(x:Str × NameKind) cs=>if (x.2==NameKind.free)=true then (do let c <- cellOf env x.1;pure (ForInStep.yield ((x.1,c)::cs))) else pure (ForInStep.yield cs))=(pure (zfs env names acc):Sem _):=by
  intro names
  induction names with
  | nil=>intro acc _;rfl
  | cons y r ih=>
   intro acc hh
   obtain ⟨x,k⟩:=y
   rw [zsI]
   unfold zfs
   by_cases hk:(k==NameKind.free)=true
   ·have hs:=hh (x,k) (.head _) (by simpa using hk)
    obtain ⟨c,hc⟩:=ztO.mp hs
    simp only [hk,if_true,cellOf,hc]
    exact ih _ λz hz=>hh z (.tail _ hz)
   ·simp only [hk]
    exact ih _ λz hz=>hh z (.tail _ hz)
 have:=key scope.names [] h
 exact (congrArg (λ(m:Sem _)=>m >>= λcs=>pure cs) this)
theorem zfb {env:Env}:∀ (names:List (Str × NameKind)) (acc:List (Str × Addr)),(∀ x c,acc.lookup x=some c->env.cells.lookup x=some c)->∀ x c,(zfs env names acc).lookup x=some c->env.cells.lookup x=some c:=by
 intro zz
 induction zz with
 | nil=>
  intro _ h x c e
  exact h x c e
 | cons zp r ih=>
  cases zp with | mk y k=>
  intro acc h x c e
  unfold zfs at e
  split at e
  ·split at e
   ·rename_i d hd
    refine ih _ (λz c' hz=>?_) x c e
    rw [List.lookup_cons] at hz
    cases hb:z==y with
    | true=>rw [hb] at hz;refine zfx hz ?_;refine (beq_iff_eq.mp hb)▸?_;exact hd
    | false=>rw [hb] at hz;exact h z c' hz
   ·exact ih _ h x c e
  ·exact ih _ h x c e
noncomputable def zcl (scope:Scope) (C:Addr) (F:FI) (nm:List (Option Str)):FI:={ env:=compEnvC scope (zfs F.env scope.names []) C F.env,nm:=nm,pv:=C::F.pv,own:=[C],cs:=[] }
noncomputable def zhK (k:Nat) (cap:Option (Str × Nat)) (loc:List (Option V)):List (Option V):=zsy k none++(match cap with | some (_,j)=>[(loc[j]?).join] | none=>[])
noncomputable def zbv (tn:List Str) (cap:Option (Str × Nat)):List (Option Str):=tn.map some++(match cap with | some (x,_)=>[some x] | none=>[])
structure zjW (scope:Scope) (F:FI) (tn:List Str) (cap:Option (Str × Nat)):Prop where
 clos:zih F.env scope.names
 cell:∀ y ∈ scope.names,y.2≠.cell
 kind:scope.kind=.function
 names:∀ x ∈ scope.names,x.2=.local->scope.names.lookup x.1=some .local
 nodup:∀ (i j:Nat) (x:Str),(zbv tn cap)[i]?=some (some x)->(zbv tn cap)[j]?=some (some x)->i=j
 cap:∀ x j,cap=some (x,j)->F.nm[j]?=some (some x)/\F.env.kindOf x=some .cell/\(compEnvC scope (zfs F.env scope.names []) 0 F.env).kindOf x=some .cell/\(zfs F.env scope.names []).lookup x=F.env.cells.lookup x
noncomputable def zii (u:V->St->Option St) (t:St->Option (Bool × HP)) (e:St->Option (V × HP)):List V->St->Option (List V × HP)
 | [],st=>some ([],st.hp)
 | v::r,st=>match u v st with
  | some st1=>(match t st1 with
   | some (true,h)=>(match e ⟨st1.loc,h⟩ with
    | some (y,h')=>(match zii u t e r ⟨st1.loc,h'⟩ with
     | some (ys,h'')=>some (y::ys,h'')
     | none=>none)
    | none=>none)
   | some (false,h)=>zii u t e r ⟨st1.loc,h⟩
   | none=>none)
  | none=>none
noncomputable def zbP (src:St->Option (List V × HP)) (k:Nat) (cap:Option (Str × Nat)) (u:V->St->Option St) (t:St->Option (Bool × HP)) (e:St->Option (V × HP)):St->Option (List V × HP):=λst=>match src st with
 | some (vs,h)=>if zbr vs.length then zii u t e vs ⟨zhK k cap st.loc,h⟩ else none
 | none=>none
section
variable {prog:Program}{w:World}{B:Bs}{n:Nat}{F:FI}
theorem zij {A:Around}{s:Shared}{R:Result->Shared->Prop}{elt target iter:Expr}{ifs:List Expr}{scope:Scope}{pos:Pos}{it acc:Value}{env:Env}(I:Nat->Shared->Prop)
  (turn:∀ n s,I n s->wpAny (model prog w) A (pyNext it) (λr s₁=>match r with
   | none=>R (.ok .next) s₁
   | some v=>wpAny (model prog w) A (letOwnedTupleGo target it v) (λZ s₁'=>wpAny (model prog w) A (assign target env v) (λZ s₂=>
     wpAny (model prog w) A (forIn ifs true λc r=>if r=true then do let ok <- isTrue c env (eval c env);pure (ForInStep.yield ok) else pure (ForInStep.yield r)) (λok s₃=>
      if ok=true then wpAny (model prog w) A (eval elt env) (λx s₄=>
       wpAny (model prog w) A (call (.builtin "list.append") [acc,x]) (λZ s₅=>∃ m,m < n/\I m s₅) NoE s₄) NoE s₃
      else ∃ m,m < n/\I m s₃) NoE s₂) NoE s₁') NoE s₁) NoE s)
  (n:Nat) (h:I n s) :
  codeAny (model prog w) A (.compLoop (.ListComp elt [⟨target,iter,ifs,0⟩] scope pos) 0 it acc env) R s:=by
 refine codeAny_loop rfl I (λn s hI=>?_) n h
 show wpAny _ A ((compTurn (.ListComp elt [⟨target,iter,ifs,0⟩] scope pos) 0 it acc env).onRaise (λx=>do noteFrame x env;theTreesLotGoes x)) _ _ s
 refine wpAny_noted ?_
 rw [compTurn_list]
 refine wpAny_bind (wpAny_standAt (wpAny_bind (wpAny_mono (turn n s hI) (λr s₁ h₁=>?_) λZ Z h'=>h'.elim)))
 cases r with
 | none=>exact wpAny_pure h₁
 | some v=>
  refine wpAny_bind (wpAny_mono h₁ (λZ s₁' h₁'=>?_) λZ Z h'=>h'.elim)
  refine wpAny_bind (wpAny_mono h₁' (λZ s₂ h₂=>wpAny_bind (wpAny_mono h₂ (λok s₃ h₃=>?_) λZ Z h'=>h'.elim)) λZ Z h'=>h'.elim)
  cases ok with
  | false=>exact wpAny_pure ⟨rfl,h₃⟩
  | true=>
   exact wpAny_bind (wpAny_bind (wpAny_mono h₃ (λx s₄ h₄=>wpAny_bind (wpAny_mono h₄ (λZ s₅ h₅=>wpAny_pure (wpAny_pure ⟨rfl,h₅⟩)) λZ Z h'=>h'.elim)) λZ Z h'=>h'.elim))
noncomputable def zcw (prog:Program) (w:World) (B:Bs) (n:Nat) (F:FI) (ifs:List Expr) (t:St->Option (Bool × HP)):Prop:=
 ∀ st b hp',t st=some (b,hp')->∀ A,AOk n A->∀ G s,BInv B ⟨G,st.hp,s⟩->FrInv B F st.loc ⟨G,st.hp,s⟩->
  wpAny (model prog w) A (forIn ifs true λc r=>if r=true then do let ok <- isTrue c F.env (eval c F.env);pure (ForInStep.yield ok) else pure (ForInStep.yield r))
   (PostQ B ⟨G,st.hp,s⟩ hp' b) NoE s
theorem zck:zcw prog w B n F [] (zbq true):=λst b hp' e A hA G s I X=>by
 refine zcy e ?_
 exact wpAny_tests_nil ⟨rfl,G,I,Stp.refl _⟩
theorem zi3 {c:Expr}{t:St->Option (Bool × HP)}(h:QSound prog w B n F c t):zcw prog w B n F [c] t:=λst b hp' e A hA G s I X=>
 wpAny_tests_one (h st b hp' e A hA G s I X)
inductive CI (B:Bs) (F:FI) (c0:Cfg) (P:List V->Cfg->Prop) (own:List Addr) (D C:Addr) (u:V->St->Option St) (t:St->Option (Bool × HP)) (e:St->Option (V × HP)) (ys:List V) (h2:HP) (k:Nat) (s3:Shared):Prop
 | mk:∀ st3:St,∀ G3:Gh,∀ xs:List V,∀ done:List V,∀ rest:List V,∀ items:Array Value,k=xs.length->zii u t e xs st3=some (rest,h2)->ys=done++rest->BInv B ⟨G3,st3.hp,s3⟩->FrInv B F st3.loc ⟨G3,st3.hp,s3⟩->Stp B [] c0 ⟨G3,st3.hp,s3⟩->Priv B own ⟨G3,st3.hp,s3⟩->Priv B [D] ⟨G3,st3.hp,s3⟩->Priv B [C] ⟨G3,st3.hp,s3⟩->P xs ⟨G3,st3.hp,s3⟩->s3.heap.PlainList D items->RVs G3 items.toList done->done.length + xs.length<=2 ^ 20->CI B F c0 P own D C u t e ys h2 k s3
theorem zfY {st:St}{ys:List V}{h2:HP}{scope:Scope}{elt target iter:Expr}{ifs:List Expr}{pos epos:Pos}{tn:List Str}{cap:Option (Str × Nat)}{src:St->Option (List V × HP)}{u:V->St->Option St}{t:St->Option (Bool × HP)}{e:St->Option (V × HP)}
  {use:Option (Value->Sem Unit)} {Q:Value->Shared->Prop} (ok:zjW scope F tn cap)
  (hi:zeg prog w B n F (eval iter F.env) src) (hu:∀ C,zcI prog w B n (zcl scope C F (zbv tn cap)) (assign target (zcl scope C F (zbv tn cap)).env) u)
  (ht:∀ C,zcw prog w B n (zcl scope C F (zbv tn cap)) ifs t) (he:∀ C,ESound prog w B n (zcl scope C F (zbv tn cap)) elt e)
  (hs:∀ x,foldedSetIterable iter F.env x=pure x) (q:zbP src tn.length cap u t e st=some (ys,h2))
  {A:Around} (hA:AOk n A) {G:Gh} {s:Shared} (I:BInv B ⟨G,st.hp,s⟩) (X:FrInv B F st.loc ⟨G,st.hp,s⟩)
  (h:∀ G3 s3 D C items m,BInv B ⟨G3,h2,s3⟩->Stp B [] ⟨G,st.hp,s⟩ ⟨G3,h2,s3⟩->Priv B [D] ⟨G3,h2,s3⟩->Priv B [C] ⟨G3,h2,s3⟩->D≠C->s3.heap.PlainList D items->RVs G3 items.toList ys->s3.heap.Ns C m->
   s.heap.get? D=none->s.heap.get? C=none->compPost (model prog w) A NoE use Q (.ref D) C (.ok .next) s3) :
  wpAny (model prog w) A (comprehension (.ListComp elt [⟨target,iter,ifs,0⟩] scope epos) scope F.env pos (newList []) false (eval iter F.env) use) Q NoE s:=by
 refine mPL q λvs hp1 qs q=>?_
 split at q
 ·rename_i hlen
  have hlen:=za1 hlen
  refine wpAny_comprehension_free rfl hs (zhv ok.clos) ok.kind ok.names (wpAny_mono (hi st vs hp1 qs A hA G s I X) (λxv s1 p1=>wpAny_mono p1 (λit s2 p2=>?_) λZ Z x=>x) λZ Z x=>x)
  obtain ⟨G2,own,gx,P,I2,S2,It,hP,hPr,hfr,hgx⟩:=p2
  (refine Ee It.ref λIa q0=>?_;subst q0)
  refine wpAny_newObj_type (wpAny_newFunctionEnv ok.cell (by intro y hy;simp at hy) (λh₁ hns₁ hsb₁=>?_) ok.kind)
  dsimp only at hns₁ hsb₁ ⊢
  generalize hH2:s2.heap.push { cls:=.type "list",dict:=none,data:=.seq ([]:List Value).toArray }=H2 at hns₁ hsb₁ ⊢
  have hC:H2.objs.size=s2.heap.objs.size + 1:=by (refine hH2▸?_;rw [Heap.size_push])
  have hDC:s2.heap.objs.size≠H2.objs.size:=by rw [hC];exact zr5 (zrD _)
  have hDn:s2.heap.get? s2.heap.objs.size=none:=zaJ (zrv _)
  have hCn:s2.heap.get? H2.objs.size=none:=zaJ (by rw [hC];exact zsl _)
  have back:∀ a,s2.heap.get? a=none->s.heap.get? a=none:=λa ha=>by
   cases hq:s.heap.get? a with
   | none=>rfl
   | some o=>(refine Ee (S2.sz a ⟨o,hq⟩) λo' h'=>?_);rw [show (⟨G2,hp1,s2⟩:Cfg).s.heap.get? a=s2.heap.get? a from rfl,ha] at h';exact zan h'
  have old:∀ b o,s2.heap.get? b=some o->h₁.get? b=some o:=λb o e=>hsb₁.extBut b o (λq=>by rw [q,hCn] at e;exact zan e) (Heap.get?_push_of_some _ (hH2▸Heap.get?_push_of_some _ e))
  have hacc:h₁.PlainList s2.heap.objs.size #[]:=⟨_,hsb₁.extBut _ _ hDC (Heap.get?_push_of_some _ (hH2▸Heap.get?_push_size _ rfl))⟩
  generalize hD:s2.heap.objs.size=D at *
  generalize hCe:H2.objs.size=C at *
  generalize hsA:({ s2 with heap:=h₁,toks:=s2.toks + ([]:List (Str × Value)).length }:Shared)=sA
  have hsAh:sA.heap=h₁:=by exact hsA▸rfl
  obtain ⟨IA,SA'⟩:=I2.grow (s':=sA) (by refine hsAh▸?_;exact old) (by exact hsA▸rfl) (by exact hsA▸rfl)
  have SA:Stp B [] ⟨G,st.hp,s⟩ ⟨G2,hp1,sA⟩:=S2.trans0 I2 SA'
  have prD:Priv B [D] ⟨G2,hp1,sA⟩:=Priv.fresh (c:=⟨G2,hp1,s2⟩) I2 rfl rfl (λa ha=>by simp at ha;subst ha;exact hDn) (λa ha=>by simp at ha;subst ha;refine Ee hacc λn e=>?_;exact ⟨_,hsAh▸e⟩)
  have prC:Priv B [C] ⟨G2,hp1,sA⟩:=Priv.fresh (c:=⟨G2,hp1,s2⟩) I2 rfl rfl (λa ha=>by simp at ha;subst ha;exact hCn) (λa ha=>by simp at ha;subst ha;(refine zfq hns₁ λo Z Z e Z=>?_);exact ⟨_,hsAh▸e⟩)
  have prO:Priv B own ⟨G2,hp1,sA⟩:=hPr.step SA'
  have PA:P vs ⟨G2,hp1,sA⟩:=It.frame _ _ _ hP (λa Z o e=>by refine (show (⟨G2,hp1,sA⟩:Cfg).s.heap=h₁ from hsAh)▸?_;exact old a o e) (λZ Z e=>e) (λZ Z e=>e) (λi x Z e=>SA'.gn i x e) IA
  have X2:=X.step SA
  have XA:FrInv B (zcl scope C F (zbv tn cap)) (zhK tn.length cap st.loc) ⟨G2,hp1,sA⟩:=by
   refine ⟨⟨ok.kind,X.ok.glob,X.ok.blt,.head _,λa ha=>by simp [zcl] at ha;subst ha;exact .head _,ok.nodup,λx y c e1 e2=>X.ok.cells x y c (zfb _ [] (λZ Z h=>by exact zan h) x c e1) (zfb _ [] (λZ Z h=>by exact zan h) y c e2)⟩,
    ⟨_,by show sA.heap.Ns _ _;rw [hsAh];exact hns₁⟩,λa ha=>?_,λk x v k1 k2=>?_,(λx hx=>nomatch hx),.head _⟩
   ·rcases zrs.mp ha with rfl | ha
    ·refine zfS (prC _ (.head _)) λa1 a2 a3 a4 Z=>?_
     exact ⟨a1,a2,a3,a4⟩
    ·exact X2.pvs a ha
   ·have k1':(zbv tn cap)[k]?=some (some x):=k1
    unfold zhK at k2
    unfold zbv at k1'
    rcases zr4 k tn.length with hk | hk
    ·rw [zrC (by simpa using hk),ztV,if_pos hk] at k2;cases k2
    ·rw [zrF (by simpa using hk)] at k1' k2
     cases hc:cap with
     | none=>rw [hc] at k2;contradiction
     | some yj=>
      obtain ⟨y,j⟩:=yj
      rw [hc] at k1' k2
      have hk0:k - tn.length=0:=by
       rcases Nat.eq_zero_or_pos (k - tn.length) with h0 | h0
       ·exact h0
       ·rw [zrH (by simp;exact h0)] at k1';exact zan k1'
      simp [hk0] at k1' k2
      subst k1'
      refine zi6 (ok.cap y j hc) λc1 c2 c3 c4=>?_
      have hv:st.loc[j]?=some (some v):=by
       cases hq:st.loc[j]? with
       | none=>rw [hq] at k2;exact zan k2
       | some o=>rw [hq] at k2;simp at k2;exact congrArg _ k2
      refine Eea (X2.loc j y v c1 hv) λcv L r=>?_
      refine ⟨cv,?_,r⟩
      rcases L with ⟨l1,_⟩ | ⟨_,c,l2,l3,l4⟩
      ·rw [c2] at l1;contradiction
      ·exact .inr ⟨.inl c3,c,by show (zfs F.env scope.names []).lookup y=some c;refine Eq.trans c4 ?_;exact l2,zrL _ l3,l4⟩
  have hDpv:∀ a ∈ (zcl scope C F (zbv tn cap)).pv,a≠D:=λa ha=>by
   rcases zrs.mp ha with rfl | ha
   ·exact Ne.symm hDC
   ·rintro rfl
    obtain ⟨o,e⟩:=(X.pvs _ ha).1
    rw [show (⟨G,st.hp,s⟩:Cfg).s.heap.get? a=s.heap.get? a from rfl,back _ hDn] at e;exact zan e
  have hOpv:∀ a ∈ (zcl scope C F (zbv tn cap)).pv,a ∉ own:=λa ha ho=>by
   rcases zrs.mp ha with rfl | ha
   ·obtain ⟨o,e⟩:=(hPr _ ho).1
    rw [show (⟨G2,hp1,s2⟩:Cfg).s.heap.get? _=s2.heap.get? _ from rfl,hCn] at e;exact zan e
   ·obtain ⟨o,e⟩:=(X.pvs a ha).1
    have:=hfr a ho
    rw [show (⟨G,st.hp,s⟩:Cfg).s.heap.get? a=s.heap.get? a from rfl,this] at e;exact zan e
  have hDo:D ∉ own:=λho=>by
   obtain ⟨o,e⟩:=(hPr _ ho).1
   rw [show (⟨G2,hp1,s2⟩:Cfg).s.heap.get? D=s2.heap.get? D from rfl,hDn] at e;exact zan e
  have hfD:s.heap.get? D=none:=back _ hDn
  have hdO:∀ a ∈ [D],a ∉ own:=λa ha ho=>hDo (by simp at ha;exact ha▸ho)
  have hcO:∀ a ∈ [C],a ∉ own:=λa ha=>by simp at ha;subst ha;exact hOpv _ (.head _)
  have hfC:s.heap.get? C=none:=back _ hCn
  have loop:codeAny (model prog w) A (.compLoop (.ListComp elt [⟨target,iter,ifs,0⟩] scope epos) 0 (.ref Ia) (.ref D) (zcl scope C F (zbv tn cap)).env) (compPost (model prog w) A NoE use Q (.ref D) C) sA:=by
   refine zij (CI B (zcl scope C F (zbv tn cap)) ⟨G,st.hp,s⟩ P own D C u t e ys h2) ?_ vs.length
    ⟨⟨zhK tn.length cap st.loc,hp1⟩,G2,vs,[],ys,#[],rfl,q,rfl,IA,XA,SA,prO,prD,prC,PA,by rw [hsAh];exact hacc,.nil,by simpa using hlen⟩
   rintro k s3 ⟨st3,G3,xs,done,rest,items,rfl,q3,hys,I3,X3,S3,prO3,prD3,prC3,P3,hpl3,hr3,hsz3⟩
   cases xs with
   | nil=>
    cases q3
    rw [zrE] at hys
    subst hys
    refine wpAny_mono (It.done ⟨G3,st3.hp,s3⟩ (λr s'=>r=none/\∃ G',BInv B ⟨G',st3.hp,s'⟩/\zgM B own gx ⟨G3,st3.hp,s3⟩ ⟨G',st3.hp,s'⟩) I3 prO3 P3 λG' s' I' S'=>⟨rfl,G',I',S'⟩) (λr s' hr=>?_) λZ Z x=>x.elim
    (refine zqn hr λq0 G' I' S'=>?_;subst q0)
    refine Ee ((X3.keepX S' hOpv).ns) λm hm=>?_
    exact h G' s' D C items m I' (S3.thenX I3 S' hfr hgx) (prD3.stepX S' hdO) (prC3.stepX S' hcO) hDC (hpl3.at λo e=>prD3.keep S' (λa ha ho=>hDo (by simp at ha;exact ha▸ho)) D (.head _) o e) (hr3.mono S'.gg S'.ff) hm hfD hfC
   | cons v xs=>
    unfold zii at q3
    refine wpAny_mono (It.next v xs ⟨G3,st3.hp,s3⟩ (λr s'=>∃ cv,r=some cv/\wpAny (model prog w) A (letOwnedTupleGo target (.ref Ia) cv) (λZ s2=>∃ G2,BInv B ⟨G2,st3.hp,s2⟩/\zgM B own gx ⟨G3,st3.hp,s3⟩ ⟨G2,st3.hp,s2⟩/\RV G2 cv v/\P xs ⟨G2,st3.hp,s2⟩/\Priv B own ⟨G2,st3.hp,s2⟩) NoE s') I3 prO3 P3
     λcv G' s' I' S' hr hP' hPr' hgo=>⟨cv,rfl,hgo target⟩) (λr s' hr=>?_) λZ Z x=>x.elim
    (refine Eea hr λcv q0 hgo=>?_;subst q0)
    refine wpAny_mono hgo (λZ s5 h5=>?_) λZ Z x=>x.elim
    refine zjX h5 λG5 I5 S5 r5 hP5 prO5=>?_
    have X5:=X3.keepX S5 hOpv
    have T5:=S3.thenX I3 S5 hfr hgx
    have prD5:=prD3.stepX S5 hdO
    have prC5:=prC3.stepX S5 hcO
    have hpl5:=hpl3.at λo e=>prD3.keep S5 (λa ha ho=>hDo (by simp at ha;exact ha▸ho)) D (.head _) o e
    have hr5:=hr3.mono S5.gg S5.ff
    cases e2:u v st3 with
    | none=>rw [e2] at q3;exact zan q3
    | some st4=>
     rw [e2] at q3
     dsimp only at q3
     refine wpAny_mono (hu C st3 v st4 e2 A hA G5 s5 cv I5 X5 r5) (λZ s6 h6=>?_) λZ Z x=>x.elim
     refine PostU.E h6 λG6 I6 X6 S6=>?_
     have hCo:∀ a ∈ own,a ∉ (zcl scope C F (zbv tn cap)).own:=λa ha ho=>hOpv a (X3.ok.own a ho) ha
     have hDC':∀ a ∈ [D],a ∉ (zcl scope C F (zbv tn cap)).own:=λa ha ho=>by simp at ha;subst ha;exact hDpv _ (X3.ok.own _ ho) rfl
     have T6:Stp B [] ⟨G,st.hp,s⟩ ⟨G6,st4.hp,s6⟩:=Stp.fresh I5 T5 S6 λa ha=>by simp [zcl] at ha;subst ha;exact hfC
     have hP6:P xs ⟨G6,st4.hp,s6⟩:=It.frame _ _ _ hP5 (prO5.keep (S6.toX (gx:=gx)) hCo) S6.gg S6.ff (λi x Z e=>S6.gn i x e) I6
     have prO6:=prO5.step S6
     have prD6:=prD5.step S6
     have prC6:=prC5.step S6
     have hpl6:=hpl5.at λo e=>prD5.keep (S6.toX (gx:=gx)) hDC' D (.head _) o e
     have hr6:=hr5.mono S6.gg S6.ff
     cases e3:t st4 with
     | none=>rw [e3] at q3;exact zan q3
     | some r2=>
      obtain ⟨b2,hp7⟩:=r2
      rw [e3] at q3
      refine wpAny_mono (ht C st4 b2 hp7 e3 A hA G6 s6 I6 X6) (λcb s7 p7=>?_) λZ Z x=>x.elim
      (refine PostQ.E p7 λq0 G7 I7 S7=>?_;subst q0)
      have X7:=X6.step S7
      have T7:=T6.trans0 I6 S7
      have hP7:P xs ⟨G7,hp7,s7⟩:=It.frame _ _ _ hP6 (prO6.keep (S7.toX (gx:=gx)) λZ Z h=>nomatch h) S7.gg S7.ff (λi x Z e=>S7.gn i x e) I7
      have prO7:=prO6.step S7
      have prD7:=prD6.step S7
      have prC7:=prC6.step S7
      have hpl7:=hpl6.at λo e=>prD6.keep (S7.toX (gx:=gx)) (λZ Z h=>nomatch h) D (.head _) o e
      have hr7:=hr6.mono S7.gg S7.ff
      cases cb with
      | false=>
       dsimp only at q3
       exact ⟨xs.length,by exact zrD _,⟨st4.loc,hp7⟩,G7,xs,done,rest,items,rfl,q3,hys,I7,X7,T7,prO7,prD7,prC7,hP7,hpl7,hr7,by simp only [zrr] at hsz3;exact zrP (by assumption)⟩
      | true=>
       dsimp only at q3
       refine mPV q3 λy hp8 e4 q3=>?_
       refine (he C).use e4 hA I7 X7 λcy s8 G8 I8 S8 r8=>?_
       have X8:=X7.step S8
       have T8:=T7.trans0 I7 S8
       have hP8:P xs ⟨G8,hp8,s8⟩:=It.frame _ _ _ hP7 (prO7.keep (S8.toX (gx:=gx)) λZ Z h=>nomatch h) S8.gg S8.ff (λi x Z e=>S8.gn i x e) I8
       have prO8:=prO7.step S8
       have prD8:=prD7.step S8
       have prC8:=prC7.step S8
       have hpl8:=hpl7.at λo e=>prD7.keep (S8.toX (gx:=gx)) (λZ Z h=>nomatch h) D (.head _) o e
       have hr8:=hr7.mono S8.gg S8.ff
       have hitems:items.size=done.length:=by have:=hr8.length;simpa using this
       simp only [zrr] at hsz3
       refine mPL q3 λrs hz e5 q3=>?_
       cases q3
       refine wpAny_list_append_plain (hsz:=by rw [hitems];show _<=sizeLine;unfold sizeLine;exact (fk (r:=16777216) (R:=1048576) hsz3 (by lia))) hpl8 λh9 hpl9 hs9=>?_
       refine zfS (prD8 D (.head _)) λd1 d2 d3 d4 d5=>?_
       obtain ⟨I9,S9⟩:=I8.priv (s':={ s8 with heap:=h9 }) hs9 d2 d3 d4 (by refine Ee hpl9 λn e=>?_;exact ⟨_,e⟩) rfl rfl
       have hdd:∀ a ∈ [D],s.heap.get? a=none:=λa ha=>by simp at ha;subst ha;exact hfD
       have hoD:∀ a ∈ own,a ∉ [D]:=λa ha ho=>by simp at ho;subst ho;exact hDo ha
       refine ⟨xs.length,by simp,⟨st4.loc,hp8⟩,G8,xs,done++[y],rs,items.push cy,rfl,e5,by refine Eq.trans hys ?_;simp,I9,X8.keep S9 λa ha hq=>by simp at hq;exact hDpv a ha hq,Stp.fresh I8 T8 S9 hdd,prO8.step S9,prD8.step S9,prC8.step S9,
        It.frame _ _ _ hP8 (prO8.keep (S9.toX (gx:=gx)) hoD) (λZ Z e=>e) (λZ Z e=>e) (λi x Z e=>e) I9,hpl9,?_,by simp;exact zrn (zss (by rw [zsO,zst 1])) hsz3⟩
       rw [zsK]
       exact hr8.append (.one r8)
  refine codeAny_compStart_list loop (wpAny_mono (It.self vs ⟨G2,hp1,sA⟩ (λit' s'=>it'=.ref Ia/\s'=sA) IA PA ⟨rfl,rfl⟩) (λit' s' hh=>?_) λZ Z x=>x.elim)
  obtain ⟨rfl,rfl⟩:=hh
  exact loop
 ·exact zan q
end
noncomputable def zfI (m:St->Option (List V × HP)):St->Option (V × HP):=λst=>match m st with
 | some (ys,h)=>(zhs ys).map λxs=>(.d (.list xs),h)
 | none=>none
noncomputable def zpA (m:St->Option (List V × HP)):St->Option (V × HP):=λst=>match m st with
 | some (ys,h)=>some (.l h.length,h++[some ys])
 | none=>none
section
variable {prog:Program}{w:World}{B:Bs}{n:Nat}{F:FI}
theorem Stp.lose {pv:List Addr}{c₀ c:Cfg}{s':Shared}{C:Addr}(I:BInv B c) (S:Stp B pv c₀ c) (p:Priv B [C] c) (hf:c₀.s.heap.get? C=none) (hs:Heap.SameBut C c.s.heap s'.heap) (hg:s'.gens=c.s.gens) (hos:s'.os=c.s.os) :
  BInv B ⟨c.G,c.hp,s'⟩/\Stp B pv c₀ ⟨c.G,c.hp,s'⟩:=by
 refine zfS (p C (.head _)) λd1 d2 d3 d4 d5=>?_
 have hx:∀ b,b≠C->Ex c.s.heap b->Ex s'.heap b:=λb hb ⟨o,e⟩=>⟨o,(hs.2 b hb).trans e⟩
 refine ⟨⟨λb x e=>?_,I.base,λj b e=>hx b (λh=>d5 j (h▸e)) (I.lt j b e),I.inj,I.fr,λj us e=>?_,?_,I.tabg,by show AllBare s'.gens;rw [hg];exact I.bare⟩,?_⟩
 ·have:b≠C:=λh=>by rw [h,d2] at e;exact zan e
  exact (hs.2 b this).trans (I.keep b x e)
 ·refine LstAt.E (I.lst j us e) λb its h1 h2 h3 h4=>?_
  have:b≠C:=λh=>d5 j (h▸h1)
  exact ⟨b,its,h1,h2,h3.at λo q=>(hs.2 b this).trans q,h4⟩
 ·refine Eea I.tab λps h1 h2=>?_
  exact ⟨ps,(hs.2 _ (Ne.symm d4)).trans h1,h2⟩
 ·have hne:∀ b,Ex c₀.s.heap b->b≠C:=λb ⟨o,e⟩ h=>by rw [h,hf] at e;exact zan e
  exact ⟨S.gg,S.ff,λb x e hb hm ht=>(hs.2 b (hne b ⟨x,e⟩)).trans (S.kp b x e hb hm ht),S.old,λb hb=>hx b (hne b hb) (S.sz b hb),λi x e=>by show s'.gens[i]?=some x;refine hg▸?_;exact S.gn i x e,hos.trans S.os,S.nf⟩
theorem Priv.other {c:Cfg}{s':Shared}{C D:Addr}(p:Priv B [D] c) (hs:Heap.SameBut C c.s.heap s'.heap) (hne:D≠C):Priv B [D] ⟨c.G,c.hp,s'⟩:=λa ha=>by
 obtain ⟨⟨o,e⟩,d2,d3,d4,d5⟩:=p a ha
 have:a=D:=by simpa using ha
 subst this
 exact ⟨⟨o,(hs.2 a hne).trans e⟩,d2,d3,d4,d5⟩
variable {scope:Scope}{elt target iter:Expr}{ifs:List Expr}{pos:Pos}{tn:List Str}{cap:Option (Str × Nat)}{src:St->Option (List V × HP)}{u:V->St->Option St}{t:St->Option (Bool × HP)}{e:St->Option (V × HP)}
theorem zcf (ok:zjW scope F tn cap)
  (hi:zeg prog w B n F (eval iter F.env) src) (hu:∀ C,zcI prog w B n (zcl scope C F (zbv tn cap)) (assign target (zcl scope C F (zbv tn cap)).env) u)
  (ht:∀ C,zcw prog w B n (zcl scope C F (zbv tn cap)) ifs t) (he:∀ C,ESound prog w B n (zcl scope C F (zbv tn cap)) elt e)
  (hs:∀ x,foldedSetIterable iter F.env x=pure x):ESound prog w B n F (.ListComp elt [⟨target,iter,ifs,0⟩] scope pos) (zfI (zbP src tn.length cap u t e)):=λst v hp' q A hA G s I X=>by
 unfold zfI at q
 cases q1:zbP src tn.length cap u t e st with
 | none=>rw [q1] at q;exact zan q
 | some r=>
  obtain ⟨ys,h2⟩:=r
  rw [q1] at q
  refine Eea (zr8.mp q) λxs hx q=>?_
  cases q
  have:=zdY hx
  subst this
  rw [eval_ListComp]
  refine zfY ok hi hu ht he hs q1 hA I X λG3 s3 D C items m I3 S3 pD pC hDC hpl hr hm hfD hfC=>⟨m,hm,λh' hs'=>?_⟩
  obtain ⟨I4,S5⟩:=Stp.lose (s':={ s3 with heap:=h' }) I3 S3 pC hfC hs' rfl rfl
  refine Ee (hpl.at λo e=>(hs'.2 D hDC).trans e) λnn hpl'=>?_
  obtain ⟨g',e1,gne,gg,I6,S6⟩:=I4.adopt S5 (pD.other (s':={ s3 with heap:=h' }) hs' hDC) hfD hpl'
  obtain ⟨as,rr⟩:=RVs.reads (hr.mono (G':=⟨g',G3.f⟩) gg λZ Z e=>e)
  exact ⟨_,I6,S6,.d (reads_list_at e1 rfl rfl rr)⟩
theorem zgJ (ok:zjW scope F tn cap)
  (hi:zeg prog w B n F (eval iter F.env) src) (hu:∀ C,zcI prog w B n (zcl scope C F (zbv tn cap)) (assign target (zcl scope C F (zbv tn cap)).env) u)
  (ht:∀ C,zcw prog w B n (zcl scope C F (zbv tn cap)) ifs t) (he:∀ C,ESound prog w B n (zcl scope C F (zbv tn cap)) elt e)
  (hs:∀ x,foldedSetIterable iter F.env x=pure x):ESound prog w B n F (.ListComp elt [⟨target,iter,ifs,0⟩] scope pos) (zpA (zbP src tn.length cap u t e)):=λst v hp' q A hA G s I X=>by
 unfold zpA at q
 cases q1:zbP src tn.length cap u t e st with
 | none=>rw [q1] at q;exact zan q
 | some r=>
  obtain ⟨ys,h2⟩:=r
  rw [q1] at q
  refine zcy q ?_
  rw [eval_ListComp]
  refine zfY ok hi hu ht he hs q1 hA I X λG3 s3 D C items m I3 S3 pD pC hDC hpl hr hm hfD hfC=>⟨m,hm,λh' hs'=>?_⟩
  obtain ⟨I4,S5⟩:=Stp.lose (s':={ s3 with heap:=h' }) I3 S3 pC hfC hs' rfl rfl
  have hpl':=hpl.at λo e=>(hs'.2 D hDC).trans e
  obtain ⟨G',e1,I6,S6⟩:=I4.adoptList S5 (pD.other (s':={ s3 with heap:=h' }) hs' hDC) hfD hpl' hr
  exact ⟨_,I6,S6,.l e1⟩
theorem zbw {y:Str}{py spos:Pos}{k:Nat}(ok:zjW scope F tn cap)
  (hi:zeg prog w B n F (eval iter F.env) src) (hu:∀ C,zcI prog w B n (zcl scope C F (zbv tn cap)) (assign target (zcl scope C F (zbv tn cap)).env) u)
  (ht:∀ C,zcw prog w B n (zcl scope C F (zbv tn cap)) ifs t) (he:∀ C,ESound prog w B n (zcl scope C F (zbv tn cap)) elt e)
  (hs:∀ x,foldedSetIterable iter F.env x=pure x) (hk:F.nm[k]?=some (some y)) (hkind:F.env.kindOf y=some .local\/(F.env.kindOf y=some .cell/\y ∈ F.cs))
  (hsw:swapsWith (.ListComp elt [⟨target,iter,ifs,0⟩] scope pos) (some (.Name y py)) spos.line F.env=pure true) :
  SSound prog w B n F (exec (.Assign [.Name y py] (.ListComp elt [⟨target,iter,ifs,0⟩] scope pos) spos) F.env) (doM (zfI (zbP src tn.length cap u t e)) (zaC k)):=λst fl st' q A hA G s I X=>by
 unfold doM zfI at q
 cases q1:zbP src tn.length cap u t e st with
 | none=>rw [q1] at q;exact zan q
 | some r=>
  obtain ⟨ys,h2⟩:=r
  rw [q1] at q
  dsimp only at q
  cases q2:zhs ys with
  | none=>rw [q2] at q;exact zan q
  | some xs=>
   rw [q2] at q
   have:=zdY q2
   subst this
   simp only [zuI] at q
   unfold zaC at q
   split at q
   ·rename_i q3
    split at q3
    ·rename_i hlen
     cases q3;refine zcy q ?_
     refine (exec_Assign_Name_used _ _ _ _ hsw)▸?_
     refine wpAny_bind (wpAny_standAt (wpAny_bind ?_))
     refine wpAny_bind (wpAny_mono (zfY (Q:=λZ s'=>PostS B F ⟨G,st.hp,s⟩ ⟨st.loc.set k (some (.d (.list xs))),h2⟩ .next .next s') ok hi hu ht he hs q1 hA I X λG3 s3 D C items m I3 S3 pD pC hDC hpl hr hm hfD hfC=>?_)
      (λZ s' hq=>wpAny_pure (wpAny_pure hq)) λZ Z e=>e)
     refine Ee hpl λnn hpl'=>?_
     refine zjX (I3.adopt S3 pD hfD hpl') λg' e1 gne gg I6 S6=>?_
     obtain ⟨as,rr⟩:=RVs.reads (hr.mono (G':=⟨g',G3.f⟩) gg λZ Z e=>e)
     have X6:=X.step S6
     have pC6:Priv B [C] ⟨⟨g',G3.f⟩,h2,s3⟩:=λa ha=>by
      have:a=C:=by simpa using ha
      subst this
      refine zfS (pC _ (.head _)) λd1 d2 d3 d4 d5=>?_
      exact ⟨d1,(gne a (Ne.symm hDC)).trans d2,d3,d4,d5⟩
     refine wpAny_assign_Name (wpAny_mono (zdN (st:=⟨st.loc,h2⟩) hk hkind hlen I6 X6 (.d (reads_list_at e1 rfl rfl rr))) (λZ s7 p7=>?_) λZ Z x=>x)
     refine PostU.E p7 λG7 I7 X7 S7=>?_
     have hpvC:∀ a ∈ F.pv,a≠C:=λa ha h=>by
      obtain ⟨o,e⟩:=(X.pvs a ha).1
      rw [h,show (⟨G,st.hp,s⟩:Cfg).s.heap.get? C=s.heap.get? C from rfl,hfC] at e;exact zan e
     have pC7:=pC6.step S7
     have hCo:∀ a ∈ [C],a ∉ F.own:=λa ha ho=>by simp at ha;subst ha;exact hpvC _ (X.ok.own _ ho) rfl
     refine ⟨m,hm.at' λo e=>pC6.keep (S7.toX (gx:=λZ=>False)) hCo C (.head _) o e,λh' hs'=>?_⟩
     have S8:Stp B F.own ⟨G,st.hp,s⟩ ⟨G7,h2,s7⟩:=S6.weak.trans I6 S7 λZ h=>h
     obtain ⟨I9,S9⟩:=Stp.lose (s':={ s7 with heap:=h' }) I7 S8 pC7 hfC hs' rfl rfl
     refine ⟨G7,I9,?_,S9,.next⟩
     have hkp:∀ a ∈ F.pv,∀ o,s7.heap.get? a=some o->h'.get? a=some o:=λa ha o e=>(hs'.2 a (hpvC a ha)).trans e
     refine ⟨X7.ok,?_,λa ha=>?_,λk x v h1 h2=>?_,λx hcs hx=>?_,X7.lown⟩
     ·obtain ⟨m,h⟩:=X7.ns
      exact ⟨m,h.at' (hkp _ X7.ok.loc)⟩
     ·obtain ⟨⟨o,k1⟩,k2,k3,k4⟩:=X7.pvs a ha
      exact ⟨⟨o,hkp a ha o k1⟩,k2,k3,k4⟩
     ·refine Eea (X7.loc k x v h1 h2) λcv L r=>?_
      exact ⟨cv,L.keep X7.ok hkp,r⟩
     ·obtain ⟨a,v,h1,h2,o,ho,hd⟩:=X7.cel x hcs hx
      exact ⟨a,v,h1,h2,o,hkp a (X7.ok.own a h2) o ho,hd⟩
    ·exact zan q3
   ·exact zan q
end
section
variable {B:Bs}{c:Cfg}
theorem BInv.privs (I:BInv B c) {wr:List Addr}{s':Shared}(p:Priv B wr c) (hk:∀ b o,b ∉ wr->c.s.heap.get? b=some o->s'.heap.get? b=some o) (hg:s'.gens=c.s.gens) (hos:s'.os=c.s.os) :
  BInv B ⟨c.G,c.hp,s'⟩/\zgM B wr (λZ=>False) c ⟨c.G,c.hp,s'⟩:=by
 have hx:∀ b,b ∉ wr->Ex c.s.heap b->Ex s'.heap b:=λb hb ⟨o,e⟩=>⟨o,hk b o hb e⟩
 refine ⟨⟨λb x e=>?_,I.base,λj b e=>hx b (λh=>(p b h).2.2.2.2 j e) (I.lt j b e),I.inj,I.fr,λj us e=>?_,?_,I.tabg,by show AllBare s'.gens;rw [hg];exact I.bare⟩,?_⟩
 ·exact hk b x (λh=>by rw [(p b h).2.1] at e;exact zan e) (I.keep b x e)
 ·refine LstAt.E (I.lst j us e) λb its h1 h2 h3 h4=>?_
  exact ⟨b,its,h1,h2,h3.at λo q=>hk b o (λh=>(p b h).2.2.2.2 j h1) q,h4⟩
 ·refine Eea I.tab λps h1 h2=>?_
  exact ⟨ps,hk _ _ (λh=>(p _ h).2.2.2.1 rfl) h1,h2⟩
 ·exact ⟨λZ Z e=>e,λZ Z e=>e,λb x e hb Z Z=>hk b x hb e,λb Z h1 h2=>⟨h1,h2⟩,hx,λi x Z e=>by show s'.gens[i]?=some x;refine hg▸?_;exact e,hos,λZ Z e=>.inl e⟩
end
section
variable {prog:Program}{w:World}{B:Bs}{n:Nat}{F:FI}
inductive zkF (vs:List V) (fp wr:List Addr) (nn:Nat) (Pw:Nat->Value->Prop) (St:Nat->Heap->Prop) (xs:List V) (c:Cfg):Prop
 | mk (i:Nat):i + xs.length=nn->vs.drop i=xs->St i c.s.heap->(∀ b ∈ fp,b ∉ wr->∃ o,c.G.g.get? b=some o/\c.s.heap.get? b=some o)->(∀ k cv v,Pw k cv->vs[k]?=some v->RV c.G cv v)->zkF vs fp wr nn Pw St xs c
theorem Itr.of_walks {A:Around}{Ia:Addr}{fp wr:List Addr}{nn:Nat}{Pw:Nat->Value->Prop}{St:Nat->Heap->Prop}{vs:List V}(W:Walks prog w A Ia fp wr nn Pw St)
  (hlive:∀ i h,St i h->∀ b ∈ wr,Ex h b) (hgo:∀ i (s:Shared) cv target (Q:Unit->Shared->Prop),St i s.heap->Q () s->wpAny (model prog w) A (letOwnedTupleGo target (.ref Ia) cv) Q NoE s) :
  Itr prog w B A (.ref Ia) wr (λZ=>False) (zkF vs fp wr nn Pw St) where
 ref:=⟨Ia,rfl⟩
 frame xs c c' h hk hg hf _ I':=by
  obtain ⟨i,h1,h2,h3,h4,h5⟩:=h
  have h4':∀ b ∈ fp,b ∉ wr->∃ o,c'.G.g.get? b=some o/\c'.s.heap.get? b=some o:=λb hb hw=>by
   refine Eea (h4 b hb hw) λo e1 Z=>?_
   exact ⟨o,hg b o e1,I'.keep b o (hg b o e1)⟩
  refine ⟨i,h1,h2,W.frame i _ _ h3 λb hb o e=>?_,h4',λk cv v hp hv=>(h5 k cv v hp hv).mono hg hf⟩
  by_cases hw:b ∈ wr
  ·exact hk b hw o e
  ·refine Eea (h4 b hb hw) λo' e1 e2=>?_
   rw [e2] at e;cases e
   exact I'.keep b _ (hg b _ e1)
 next v xs c Q I p h hQ:=by
  obtain ⟨i,h1,h2,h3,h4,h5⟩:=h
  have hi:i < nn:=by simp only [zrr] at h1;exact (zrn (by lia) (leq h1))
  have hv:vs[i]?=some v:=by
   have:(vs.drop i)[0]?=some v:=by refine h2▸?_;rfl
   rwa [zui] at this
  refine W.item i c.s Q NoE hi h3 λcv h' tk hPv hst hk=>?_
  obtain ⟨I',S'⟩:=I.privs (s':={ c.s with heap:=h',toks:=tk }) p hk rfl rfl
  have hP:zkF vs fp wr nn Pw St xs ⟨c.G,c.hp,{ c.s with heap:=h',toks:=tk }⟩:=by
   refine ⟨i + 1,by simp only [zrr] at h1;exact (Eq.trans (by lia) h1),?_,hst,λb hb hw=>?_,h5⟩
   ·refine zuM▸h2▸?_;rfl
   ·refine Eea (h4 b hb hw) λo e1 e2=>?_
    exact ⟨o,e1,hk b o hw e2⟩
  have hp':Priv B wr ⟨c.G,c.hp,{ c.s with heap:=h',toks:=tk }⟩:=λa ha=>by
   refine zfS (p a ha) λZ d2 d3 d4 d5=>?_
   exact ⟨hlive _ _ hst a ha,d2,d3,d4,d5⟩
  exact hQ cv c.G _ I' S' (h5 i cv v hPv hv) hP hp' λtarget=>hgo (i + 1) _ cv target _ hst ⟨c.G,I',S',h5 i cv v hPv hv,hP,hp'⟩
 done c Q I p h hQ:=by
  obtain ⟨i,h1,h2,h3,h4,h5⟩:=h
  have:i=nn:=by simpa using h1
  subst this
  refine W.done c.s Q NoE h3 λh' tk hk=>?_
  obtain ⟨I',S'⟩:=I.privs (s':={ c.s with heap:=h',toks:=tk }) p hk rfl rfl
  exact hQ c.G _ I' S'
 self xs c Q I h hQ:=by
  obtain ⟨i,h1,h2,h3,h4,h5⟩:=h
  exact W.self i c.s Q NoE h3 hQ
theorem zke {A:Around}{s:Shared}{Ia:Addr}{o:Obj}{cv:Value}{p:Pos}{Q:Unit->Shared->Prop}{nm:String}(ho:s.heap.get? Ia=some o) (hc:o.cls=.type nm)
  (hn:(["enumerate","zip","dict_itemiterator","dict_reverseitemiterator","odict_iterator","itertools.zip_longest","itertools.pairwise"].contains nm)=false) (h:Q () s):wpAny (model prog w) A (letOwnedTupleGo (.Tuple [] 0 p) (.ref Ia) cv) Q NoE s:=by
 cases cv <;> first | exact wpAny_pure h | skip
 refine wpAny_bind (wpAny_load ho ?_)
 refine hc▸?_
 cases o.data <;> first | exact wpAny_pure h | skip
 dsimp only
 rw [if_neg (by rw [hn,zti];exact ztE)]
 exact wpAny_pure h
theorem zfL {A:Around}{s:Shared}{Ia:Addr}{o:Obj}{cv:Value}{target:Expr}{Q:Unit->Shared->Prop}{nm:String}(ho:s.heap.get? Ia=some o) (hc:o.cls=.type nm)
  (hn:(["enumerate","zip","dict_itemiterator","dict_reverseitemiterator","odict_iterator","itertools.zip_longest","itertools.pairwise"].contains nm)=false) (h:Q () s):wpAny (model prog w) A (letOwnedTupleGo target (.ref Ia) cv) Q NoE s:=by
 cases target <;> first | exact wpAny_pure h | exact zke (p:=target.pos) ho hc hn h | exact zke (p:=‹Pos›) ho hc hn h
noncomputable def zb4 (m:St->Option (V × HP)):St->Option (List V × HP):=λst=>bV (m st) λv h=>onL (λxs=>some (xs.map V.d,h)) v
noncomputable def zqc (m:St->Option (V × HP)):St->Option (List V × HP):=λst=>bV (m st) λv h=>onS (λx=>some (x.cps.toList.map λc=>.d (.str ⟨#[c]⟩),h)) v
theorem zbb {t:Sem Value}{m:St->Option (V × HP)}(he:TSound prog w B n F t m):zeg prog w B n F t (zb4 m):=λst vs hp' q A hA G s I X=>by
 refine zfG q λZ h e q=>znB q λxs q0 q=>?_
 subst q0
 cases q
 refine he.use e hA I X λxv s1 G1 I1 S1 r1=>?_
 refine r1.list_elim λa items as k1 k2=>?_
 have k1':s1.heap.IsList a items:=IsList.keep k1 I1.keep
 refine wpAny_pyIter_list k1' ?_
 have hn:s1.heap.get? s1.heap.objs.size=none:=zaJ (zrv _)
 have hold:∀ b o,s1.heap.get? b=some o->(s1.heap.push { cls:=.type "list_iterator",data:=.fields #[.ref a,.int 0 0] }).get? b=some o:=λb o e=>Heap.get?_push_of_some _ e
 obtain ⟨I2,S2⟩:=I1.grow (s':={ s1 with heap:=s1.heap.push { cls:=.type "list_iterator",data:=.fields #[.ref a,.int 0 0] } }) hold rfl rfl
 have hne:a≠s1.heap.objs.size:=λe=>by (refine Eea k1' λo ho Z=>?_);rw [e,hn] at ho;exact zan ho
 refine zkD k1 λo ho hoc hod=>?_
 have hrs:=RVs.of_reads k2
 have hlen:items.size=(xs.map V.d).length:=hrs.asize
 refine ⟨G1,[s1.heap.objs.size],λZ=>False,zkF (xs.map V.d) [s1.heap.objs.size,a] [s1.heap.objs.size] items.size _ _,I2,S1.trans0 I1 S2,Itr.of_walks (Walks.list hA.1 s1.heap.objs.size a hne items) (λi h st b hb=>?_) (λi s cv target Q st hQ=>?_),⟨0,by rw [hlen];simp,rfl,⟨⟨_,Heap.get?_push_size _ rfl,rfl,rfl⟩,k1'.at λo e=>hold a o e⟩,λb hb hw=>?_,λk cv v hp hv=>?_⟩,?_,?_,λi h=>h.elim⟩
 ·simp at hb;subst hb;obtain ⟨⟨o,ho,_⟩,_⟩:=st;exact ⟨o,ho⟩
 ·obtain ⟨⟨o,ho,hc,_⟩,_⟩:=st
  exact zfL ho hc (by decide) hQ
 ·have:b=a:=by simp at hb hw;exact hb.resolve_left hw
  subst this
  exact ⟨o,ho,hold _ _ (I1.keep _ _ ho)⟩
 ·refine Eea (hrs.get hv) λy e1 r=>?_
  have:items[k]?=some y:=by simpa using e1
  rw [hp] at this;cases this
  exact r
 ·exact Priv.fresh (c:=⟨G1,hp',s1⟩) I1 rfl rfl (λb hb=>by simp at hb;subst hb;exact hn) (λb hb=>by simp at hb;subst hb;exact ⟨_,Heap.get?_push_size _ rfl⟩)
 ·intro b hb
  simp at hb;subst hb
  cases hq:s.heap.get? s1.heap.objs.size with
  | none=>rfl
  | some o=>(refine Ee (S1.sz _ ⟨o,hq⟩) λo' h'=>?_);rw [show (⟨G1,hp',s1⟩:Cfg).s.heap.get? _=s1.heap.get? _ from rfl,hn] at h';exact zan h'
theorem zk1 {t:Sem Value}{m:St->Option (V × HP)}(he:TSound prog w B n F t m):zeg prog w B n F t (zqc m):=λst vs hp' q A hA G s I X=>by
 refine zfG q λZ h e q=>zd8 q λx q0 q=>?_
 subst q0
 cases q
 refine he.use e hA I X λxv s1 G1 I1 S1 r1=>?_
 refine r1.str_elim λtk=>?_
 have hn:s1.heap.get? s1.heap.objs.size=none:=zaJ (zrv _)
 have hback:s.heap.get? s1.heap.objs.size=none:=by
  cases hq:s.heap.get? s1.heap.objs.size with
  | none=>rfl
  | some o=>(refine Ee (S1.sz _ ⟨o,hq⟩) λo' h'=>?_);rw [show (⟨G1,hp',s1⟩:Cfg).s.heap.get? _=s1.heap.get? _ from rfl,hn] at h';exact zan h'
 have key:∀ (o:Obj) (nm:String),(["enumerate","zip","dict_itemiterator","dict_reverseitemiterator","odict_iterator","itertools.zip_longest","itertools.pairwise"].contains nm)=false->o.isFreed=false->
   Walks prog w A s1.heap.objs.size [s1.heap.objs.size] [s1.heap.objs.size] x.cps.size (SignAt x) (λi h=>h.IsStrIter s1.heap.objs.size nm x tk i)->(s1.heap.push o).IsStrIter s1.heap.objs.size nm x tk 0->
   zmM prog w B A ⟨G,st.hp,s⟩ hp' (x.cps.toList.map λc=>.d (.str ⟨#[c]⟩)) (.ref s1.heap.objs.size) { s1 with heap:=s1.heap.push o }:=λo nm hnm hfo W st0=>by
  have hold:∀ b o',s1.heap.get? b=some o'->(s1.heap.push o).get? b=some o':=λb o' e=>Heap.get?_push_of_some _ e
  obtain ⟨I2,S2⟩:=I1.grow (s':={ s1 with heap:=s1.heap.push o }) hold rfl rfl
  refine ⟨G1,[s1.heap.objs.size],λZ=>False,zkF (x.cps.toList.map λc=>.d (.str ⟨#[c]⟩)) [s1.heap.objs.size] [s1.heap.objs.size] x.cps.size _ _,I2,S1.trans0 I1 S2,Itr.of_walks W (λi h st b hb=>?_) (λi s cv target Q st hQ=>?_),⟨0,by simp,rfl,st0,λb hb hw=>absurd hb hw,λk cv v hp hv=>?_⟩,?_,?_,λi h=>h.elim⟩
  ·simp at hb;subst hb;refine Eea st λo ho Z=>?_;exact ⟨o,ho⟩
  ·refine zkD st λo ho hc Z=>?_
   exact zfL ho hc hnm hQ
  ·(refine zgy hp λc u hc q0=>?_;subst q0)
   simp only [zr7,zr8] at hv
   (refine Eea hv λc' hc' q0=>?_;subst q0)
   have:x.cps[k]?=some c':=by simpa using hc'
   rw [hc] at this;cases this
   exact .d (.str _ _)
  ·exact Priv.fresh (c:=⟨G1,hp',s1⟩) I1 rfl rfl (λb hb=>by simp at hb;subst hb;exact hn) (λb hb=>by simp at hb;subst hb;exact ⟨_,Heap.get?_push_size _ hfo⟩)
  ·intro b hb
   simp at hb;subst hb;exact hback
 cases ha:x.cps.all (· < 128)
 ·exact wpAny_pyIter_wide ha (key _ "str_iterator" (by decide) rfl (Walks.strWide hA.1 _ x tk) ⟨_,Heap.get?_push_size _ rfl,rfl,rfl⟩)
 ·exact wpAny_pyIter_ascii ha (key _ "str_ascii_iterator" (by decide) rfl (Walks.strAscii hA.1 _ x tk) ⟨_,Heap.get?_push_size _ rfl,rfl,rfl⟩)
noncomputable def zbx (a c:Int) (k:Nat):List V:=(zsR k).map λi=>.d (.int (a + (i:Nat) * c))
noncomputable def zcF (i:Int):Bool:=decide (-(2 ^ 61)<=i) && decide (i<=2 ^ 61)
theorem zgm {A:Around}(hA:A.handled=none) {c₀ c:Cfg}{a cc:Int}{nn:Nat}{Ia:Addr}{s':Shared}(S:Stp B [] c₀ c) (I:BInv B c) (hn:c.s.heap.get? Ia=none) (hk:∀ b o,c.s.heap.get? b=some o->s'.heap.get? b=some o) (hg:s'.gens=c.s.gens) (hos:s'.os=c.s.os)
  (hit:IsRangeIter s'.heap Ia a nn cc):zmM prog w B A c₀ c.hp (zbx a cc nn) (.ref Ia) s':=by
 refine Ea (I.grow hk hg hos) λI2 S2=>?_
 refine ⟨c.G,[Ia],λZ=>False,zkF (zbx a cc nn) [Ia] [Ia] nn _ _,I2,S.trans0 I S2,Itr.of_walks (Walks.range hA Ia a cc nn) (λi h st b hb=>?_) (λi s cv target Q st hQ=>?_),⟨0,by simp [zbx],rfl,by simpa using hit,λb hb hw=>absurd hb hw,λk cv v hp hv=>?_⟩,?_,?_,λi h=>h.elim⟩
 ·simp at hb;subst hb;exact ⟨_,st⟩
 ·exact zfL st rfl (by decide) hQ
 ·obtain ⟨t,rfl⟩:=hp
  unfold zbx at hv
  simp only [zr7,zr8] at hv
  (refine Eea hv λj hj q0=>?_;subst q0)
  rcases zr4 k nn with h | h
  ·rw [List.getElem?_range h] at hj;cases hj;exact .d (.int _ _)
  ·rw [zrH (by simpa using h)] at hj;exact zan hj
 ·exact Priv.fresh I rfl rfl (λb hb=>by simp at hb;subst hb;exact hn) (λb hb=>by simp at hb;subst hb;exact ⟨_,hit⟩)
 ·intro b hb
  simp at hb;subst hb
  cases hq:c₀.s.heap.get? b with
  | none=>rfl
  | some o=>(refine Ee (S.sz _ ⟨o,hq⟩) λo' h'=>?_);rw [hn] at h';exact zan h'
end
theorem zgs:isSubtype (.type "range_iterator") (.type "reversed")=pure false:=by rw [isSubtype_type];kernel_rfl
noncomputable def zex (a b c:Int):Bool:=Builtin.Range.rangeFitsLong a && Builtin.Range.rangeFitsLong b && Builtin.Range.rangeFitsLong c && Builtin.Range.rangeFitsLong (-c) && Builtin.Range.rangeFitsLong (a - c) && Builtin.Range.rangeFitsLong (Builtin.Range.rangeSize a b c)
theorem zdQ (r:Addr) (a b c:Int) (t u v:Tok) (hc0:¬(!(Builtin.Range.rangeFitsLong a && Builtin.Range.rangeFitsLong b && Builtin.Range.rangeFitsLong c && Builtin.Range.rangeFitsLong (-c) && Builtin.Range.rangeFitsLong (a - c) && Builtin.Range.rangeFitsLong (Builtin.Range.rangeSize a b c)))=true) :
  Meets (Builtin.«range.__reversed__» ⟨[.ref r],[]⟩) (λZ R s=>s.heap.get? r=some { cls:=.type "range",dict:=none,data:=.fields #[.int a t,.int b u,.int c v],slots:=#[] }/\R (.ok (.ret (Value.ref s.heap.objs.size))) { s with heap:=s.heap.push { cls:=Value.type (if (Builtin.Range.rangeFitsLong a && Builtin.Range.rangeFitsLong b && Builtin.Range.rangeFitsLong c && Builtin.Range.rangeFitsLong (-c) && Builtin.Range.rangeFitsLong (a - c) && Builtin.Range.rangeFitsLong (Builtin.Range.rangeSize a b c))=true then "range_iterator" else "longrange_iterator"),data:=Data.fields #[rawInt (a + (Builtin.Range.rangeSize a b c - 1) * c),rawInt (Builtin.Range.rangeSize a b c),rawInt (-c)] },toks:=s.toks }):=
 .of_wp λprog w A R s h=>by obtain ⟨hp,g,d,tk,os⟩:=s;obtain ⟨hl,h⟩:=h;wp_walk;exact ⟨_,rfl,h⟩
section
variable {prog:Program}{w:World}{A:Around}{E:Value->Shared->Prop}{s:Shared}
noncomputable def zlf (x n c:Int):Obj:={ cls:=.type "range_iterator",data:=.fields #[rawInt x,rawInt n,rawInt c] }
theorem zd1 {r:Addr}{a b c:Int}{t u v:Tok}{Q:Value->Shared->Prop}(hr:IsRange s.heap r a b c t u v) (hsm:zex a b c=true)
  (h:Q (.ref s.heap.objs.size) { s with heap:=s.heap.push (zlf (a + (Builtin.Range.rangeSize a b c - 1) * c) (Builtin.Range.rangeSize a b c) (-c)) }):wpAny (model prog w) A (call (.builtin "range.__reversed__") [.ref r]) Q E s:=by
 unfold zex at hsm
 refine call_meets F.slot_range_reversed ⟨_,hr,rfl⟩ F.entry_range_reversed (F.args_range_reversed_1 _) (zdQ r a b c t u v (by simp [hsm])) ⟨hr,?_⟩
 simp only [hsm,if_true]
 exact h
theorem zd3 {r:Addr}{a b c:Int}{t u v:Tok}{Q₁:Value->Shared->Prop}(hr:IsRange s.heap r a b c t u v) (hsm:zex a b c=true)
  (h:Q₁ (.ref s.heap.objs.size) { s with heap:=s.heap.push (zlf (a + (Builtin.Range.rangeSize a b c - 1) * c) (Builtin.Range.rangeSize a b c) (-c)) }) :
  codeAny (model prog w) A (.call (.builtin "reversed.__new__") ⟨[.type "reversed",.ref r],[]⟩) (wants Q₁ E) s:=by
 have hT:s.TypeIs (.ref r) "range":=⟨_,hr,rfl⟩
 refine codeAny_of_tree ?_
 refine wpAny_bind (wpAny_of_eq (F.newCall_reversed_1 _) (wpAny_pure ⟨plainId_quiet F.plain_reversed_new _,codeAny_builtin F.entry_reversed_new ?_⟩))
 refine (Around.under_plainId F.plain_reversed_new _)▸?_
 refine wpAny_bind (wpAny_of_eq (newClass_reversed _) ?_)
 try dsimp only
 refine wpAny_bind (wpAny_of_eq (a:=()) (by first | rfl | kernel_rfl) ?_)
 refine wpAny_bind (wpAny_of_eq (a:=()) (by first | rfl | kernel_rfl) ?_)
 try dsimp only
 refine wpAny_bind (wpAny_specialOf hT F.slot_range_reversed.lookup ?_)
 try dsimp only
 refine wpAny_bind (wpAny_of_eq (F.slot_range_reversed.bind _) ?_)
 try dsimp only
 first
 | refine (if_neg (show ¬ ((Value.builtin "range.__reversed__"==Value.none)=true) from ztE))▸?_
 | (show wpAny _ _ (if (Value.builtin "range.__reversed__"==Value.none)=true then _ else _) _ _ _;rw [if_neg (show ¬ ((Value.builtin "range.__reversed__"==Value.none)=true) from ztE)])
 refine wpAny_bind (wpAny_rule ?_)
 refine wpAny_bind (m:=runValue (.call (.builtin "range.__reversed__") ⟨[.ref r],[]⟩)) (show wpAny _ _ (call (.builtin "range.__reversed__") [.ref r]) _ _ _ from zd1 hr hsm ?_)
 first
 | exact wpAny_pure h
 | exact wpAny_bind (wpAny_pure (wpAny_pure h))
theorem zd2 {r:Addr}{a b c:Int}{t u v:Tok}{Q:Value->Shared->Prop}(hr:IsRange s.heap r a b c t u v) (hsm:zex a b c=true)
  (h:Q (.ref s.heap.objs.size) { s with heap:=s.heap.push (zlf (a + (Builtin.Range.rangeSize a b c - 1) * c) (Builtin.Range.rangeSize a b c) (-c)) }):wpAny (model prog w) A (call (.type "reversed") [.ref r]) Q E s:=by
 refine callType_other (U:="range_iterator") (Q₁:=λobj s₁=>obj=.ref s.heap.objs.size/\s₁={ s with heap:=s.heap.push (zlf (a + (Builtin.Range.rangeSize a b c - 1) * c) (Builtin.Range.rangeSize a b c) (-c)) }) (by decide +kernel) F.create_reversed ⟨_,_,F.mro_reversed⟩ F.made_reversed zgs (F.typeCall_reversed_1 _) (zd3 hr hsm ⟨rfl,rfl⟩) ?_
 rintro obj s₁ ⟨rfl,rfl⟩
 exact ⟨⟨_,Heap.get?_push_size _ rfl,rfl⟩,h⟩
end
noncomputable def zdm (r:St->Option (List V × HP)):St->Option (List V × HP):=λst=>bL (r st) λvs h=>match vs with
 | [b]=>onI (λb=>if zcF b then some (zbx 0 1 b.toNat,h) else none) b
 | [a,b,c]=>onI (λa=>onI (λb=>onI (λc=>if zcF a && zcF b && c==-1 then some (zbx a (-1) (a - b).toNat,h) else none) c) b) a
 | _=>none
theorem znF {r:St->Option (List V × HP)}{st:St}{b:Int}{h:HP}(e:r st=some ([.d (.int b)],h)):zdm r st=if zcF b then some (zbx 0 1 b.toNat,h) else none:=by
 unfold zdm
 refine e▸?_
 rfl
noncomputable def zp6 (r:St->Option (List V × HP)):St->Option (List V × HP):=λst=>bL (r st) λvs h=>on1 (onI λb=>if zcF b then some (zbx (b - 1) (-1) b.toNat,h) else none) vs
theorem zh0 (b:Int):Builtin.Range.rangeSize 0 b 1=(b.toNat:Int):=by
 unfold Builtin.Range.rangeSize
 simp only [show (1:Int) > 0 by decide,if_true,zuS]
 split <;> lia
theorem zkw (a b:Int):Builtin.Range.rangeSize a b (-1)=((a - b).toNat:Int):=by
 unfold Builtin.Range.rangeSize
 split <;> lia
theorem zfR {b:Int}(h:zcF b=true):-(2 ^ 61)<=b/\b<=2 ^ 61:=by
 unfold zcF at h;simpa using h
section
variable {prog:Program}{w:World}{B:Bs}{n:Nat}{F:FI}{mg mb:Str->Option Value}
theorem inB {b:Int}(h:-(2 ^ 61)<=b/\b<=2 ^ 61):-(2 ^ 63)<=b/\b < 2 ^ 63:=⟨zrO (by decide) h.1,ztb h.2 (by decide)⟩
theorem tnB {d:Int}(h:d < 2 ^ 63):-(2 ^ 63)<=(d.toNat:Int)/\(d.toNat:Int) < 2 ^ 63:=by lia
theorem zdx {p pos:Pos}{args:List Expr}{r:St->Option (List V × HP)}(hn:ESound prog w B n F (.Name "range" p) (zmo (.type "range"))) (hr:LSound prog w B n F pos args r)
  (hplain:(backTo pos (starEach args F.env)).any (·.1)=false) (hne:∃ x rest,backTo pos (starEach args F.env)=(false,x)::rest):zeg prog w B n F (eval (.Call (.Name "range" p) args [] pos) F.env) (zdm r):=λst vs hp' q A hA G s I X=>by
 refine wpAny_Call_NameR (hn.use rfl hA I X λcf s1 G1 I1 S1 r1=>?_)
 cases r1
 refine zqh q λl h e q=>?_
 cases l using l13 with
 | h0=>exact zan q
 | h2=>exact zan q
 | h4=>exact zan q
 | h1 b=>
  refine zdA q λb q0 q=>?_
  subst q0
  refine Ea (zaK q) λhb q=>?_
  refine zcy q ?_
  refine zbV (.inl λZ h=>by contradiction) hr hplain e hA I1 (X.step S1) (λG2 s2 cvs I2 S2 r2=>?_) hne
  refine r2.one_elim λcv h1=>?_
  refine h1.int_elim λt=>?_
  have hb:=zfR hb
  refine call_range_1 ?_
  refine wpAny_pyIter_range (Heap.get?_push_size _ rfl) (small_one (by decide) (by decide) (ifk hb.1 (by simp +arith)) (ifk (r:=4611686018427387904) (R:=2305843009213693952) hb.2 (by lia))) ?_
  rw [zh0]
  obtain ⟨I3,S3⟩:=I2.grow (s':={ s2 with heap:=s2.heap.push { cls:=.type "range",data:=.fields #[.int 0 s2.toks,.int b t,.int 1 (s2.toks + 1)] },toks:=s2.toks + 1 + 1 }) (λb o e=>Heap.get?_push_of_some _ e) rfl rfl
  exact zgm (B:=B) (c:=⟨G2,h,{ s2 with heap:=s2.heap.push { cls:=.type "range",data:=.fields #[.int 0 s2.toks,.int b t,.int 1 (s2.toks + 1)] },toks:=s2.toks + 1 + 1 }⟩) hA.1 ((S1.trans0 I1 S2).trans0 I2 S3) I3 (zaJ (zrv _)) (λb o e=>Heap.get?_push_of_some _ e) rfl rfl (Heap.get?_push_size _ rfl)
 | h3 a b c=>
  refine zdA q λa q1 q=>zdA q λb q2 q=>zdA q λc q3 q=>?_
  subst q1 q2 q3
  refine Ea (zaK q) λhb q=>?_
  refine zcy q ?_
  simp only [zrA,beq_iff_eq] at hb
  obtain ⟨⟨ha,hb⟩,rfl⟩:=hb
  refine zbV (.inl λZ h=>by contradiction) hr hplain e hA I1 (X.step S1) (λG2 s2 cvs I2 S2 r2=>?_) hne
  refine r2.cons_elim λc1 l1 h1 r2=>r2.two_elim λc2 c3 h2 h3=>?_
  refine h1.int_elim λt=>?_
  refine h2.int_elim λu=>?_
  refine h3.int_elim λv=>?_
  have ha:=zfR ha
  have hb:=zfR hb
  refine call_range_3 (by decide) ?_ (.inl (PyProof.noPylong_small (by exact zsT _ _)))
  refine wpAny_pyIter_range (Heap.get?_push_size _ rfl) ?_ ?_
  ·unfold Builtin.Range.small
   rw [zkw]
   simp only [Builtin.Range.rangeFitsLong,zrA,zsJ,decide_eq_true_eq,beq_iff_eq,show ¬ ((-1:Int) > 0) by decide,if_false]
   exact ⟨⟨⟨⟨inB ha,inB hb⟩,by decide⟩,tnB (by exact ztb (Int.sub_le_sub ha.2 hb.1) (by decide))⟩,.inr ((Int.add_zero b).symm▸inB hb)⟩
  rw [zkw]
  obtain ⟨I3,S3⟩:=I2.grow (s':={ s2 with heap:=s2.heap.push { cls:=.type "range",data:=.fields #[.int a t,.int b u,.int (-1) v] },toks:=s2.toks }) (λb o e=>Heap.get?_push_of_some _ e) rfl rfl
  exact zgm (B:=B) (c:=⟨G2,h,{ s2 with heap:=s2.heap.push { cls:=.type "range",data:=.fields #[.int a t,.int b u,.int (-1) v] },toks:=s2.toks }⟩) hA.1 ((S1.trans0 I1 S2).trans0 I2 S3) I3 (zaJ (zrv _)) (λb o e=>Heap.get?_push_of_some _ e) rfl rfl (Heap.get?_push_size _ rfl)
theorem zgd {p p' pos pos':Pos}{args:List Expr}{r:St->Option (List V × HP)}(hn':ESound prog w B n F (.Name "reversed" p') (zmo (.type "reversed"))) (hn:ESound prog w B n F (.Name "range" p) (zmo (.type "range"))) (hr:LSound prog w B n F pos args r)
  (hplain:(backTo pos (starEach args F.env)).any (·.1)=false) (hne:∃ x rest,backTo pos (starEach args F.env)=(false,x)::rest) :
  zeg prog w B n F (eval (.Call (.Name "reversed" p') [.Call (.Name "range" p) args [] pos] [] pos') F.env) (zp6 r):=λst vs hp' q A hA G s I X=>by
 refine wpAny_Call_NameR (hn'.use rfl hA I X λcf s0 G0 I0 S0 r0=>?_)
 cases r0
 have X0:=X.step S0
 refine callWith_of (P:=λZ=>True) rfl (λhh Z=>⟨.machine,.inr (.inl rfl),Looks.of_pure rfl⟩) ?_
 refine evalArgs_plain (Calls.spliced_cons ?_)
 refine wpAny_Call_NameR (hn.use rfl hA I0 X0 λcf s1 G1 I1 S1' r1=>?_)
 cases r1
 have S1:=S0.trans0 I0 S1'
 refine zqh q λl h e q=>ziM q λb q0 q=>?_
 subst q0
 refine zdA q λb q0 q=>?_
 subst q0
 refine Ea (zaK q) λhb q=>?_
 refine zcy q ?_
 refine zbV (.inl λZ h=>by contradiction) hr hplain e hA I1 (X0.step S1') (λG2 s2 cvs I2 S2 r2=>?_) hne
 refine r2.one_elim λcv h1=>?_
 refine h1.int_elim λt=>?_
 have hb:=zfR hb
 refine call_range_1 ?_
 refine Calls.spliced_nil ⟨trivial,?_⟩
 obtain ⟨I3,S3⟩:=I2.grow (s':={ s2 with heap:=s2.heap.push { cls:=.type "range",data:=.fields #[.int 0 s2.toks,.int b t,.int 1 (s2.toks + 1)] },toks:=s2.toks + 1 + 1 }) (λb o e=>Heap.get?_push_of_some _ e) rfl rfl
 refine zd2 (Heap.get?_push_size _ rfl) ?_ ?_
 ·unfold zex
  rw [zh0]
  simp only [Builtin.Range.rangeFitsLong,zrA,decide_eq_true_eq]
  exact ⟨⟨⟨⟨⟨by decide,inB hb⟩,by decide⟩,by decide⟩,by decide⟩,tnB (inB hb).2⟩
 ·rw [zh0]
  have hit:IsRangeIter ((s2.heap.push { cls:=.type "range",data:=.fields #[.int 0 s2.toks,.int b t,.int 1 (s2.toks + 1)] }).push (zlf (0 + ((b.toNat:Int) - 1) * 1) b.toNat (-1))) (s2.heap.push { cls:=.type "range",data:=.fields #[.int 0 s2.toks,.int b t,.int 1 (s2.toks + 1)] }).objs.size (0 + ((b.toNat:Int) - 1) * 1) b.toNat (-1):=Heap.get?_push_size _ rfl
  refine wpAny_pyIter_rangeiter hit ?_
  have key:=zgm (prog:=prog) (w:=w) (B:=B) (c:=⟨G2,h,{ s2 with heap:=s2.heap.push { cls:=.type "range",data:=.fields #[.int 0 s2.toks,.int b t,.int 1 (s2.toks + 1)] },toks:=s2.toks + 1 + 1 }⟩)
   (s':={ s2 with heap:=(s2.heap.push { cls:=.type "range",data:=.fields #[.int 0 s2.toks,.int b t,.int 1 (s2.toks + 1)] }).push (zlf (0 + ((b.toNat:Int) - 1) * 1) b.toNat (-1)),toks:=s2.toks + 1 + 1 }) hA.1 ((S1.trans0 I1 S2).trans0 I2 S3) I3 (zaJ (zrv _)) (λb o e=>Heap.get?_push_of_some _ e) rfl rfl hit
  have eq:zbx (0 + ((b.toNat:Int) - 1) * 1) (-1) b.toNat=zbx (b - 1) (-1) b.toNat:=by
   rcases Int.lt_or_le b 0 with hb0 | hb0
   ·have:b.toNat=0:=Int.toNat_of_nonpos (zsF hb0)
    refine this▸?_;rfl
   ·have:((b.toNat:Int))=b:=zsr hb0
    refine (Eq.symm this)▸?_
    congr 1
    simp
  rw [eq] at key
  exact key
end
theorem zjq {h:Heap}{l:Addr}{items:Array Value}(hl:h.PlainList l items) (f:Array Value->Array Value):(h.update l (Obj.mapSeq f)).PlainList l (f items):=by
 refine Ee hl λn ho=>?_
 exact ⟨_,PySem.IsL.update (n:=n) ho f⟩
section
variable {prog:Program}{w:World}{A:Around}{E:Value->Shared->Prop}{s:Shared}
theorem zhZ {l:Addr}{items:Array Value}{k:Int}{t:Tok}{v:Value}{Q:Unit->Shared->Prop}(hl:s.heap.PlainList l items)
  (h0:0<=k) (hfit:k < 2 ^ 63) (hn:k < items.size)
  (hQ:∀ h',h'.PlainList l (items.setIfInBounds k.toNat v)->Heap.SameBut l s.heap h'->Q () { s with heap:=h' }) :
  wpAny (model prog w) A (setItem (.ref l) (.int k t) v) Q E s:=by
 obtain ⟨o,ho,hc,ne,hd⟩:=id hl.isList
 unfold setItem
 try with_reducible refine wpAny_holding ?_
 first | refine wpAny_bind (wpAny_pure ?_) | skip
 refine wpAny_bind (wpAny_sequenceKey hl.isList.typeIs (by decide) ?_)
 refine wpAny_bind (wpAny_callSpecial?_slot (name:=Str.ofString "__setitem__") hl.isList.typeIs slot_list_setitem
  (wpAny_call_entry slot_list_setitem hl.isList.typeIs entry_list_setitem ?_ (args_list_setitem _ _ _)))
 show wpAny _ _ (Builtin.List.listSubscript? (.int k t) >>= _) _ _ s
 refine wpAny_bind (wpAny_listSubscript_int (fitsIndex_of h0 hfit) ?_)
 clear hfit
 obtain ⟨j,rfl⟩:=ztc h0
 have hj:j < items.size:=zrS.mp hn
 have hx':items[j]?=some items[j]:=ztI hj
 refine wpAny_bind (wpAny_bind (wpAny_seqItemAt ho hd (wpAny_pure ?_)))
 refine hx'▸?_
 refine wpAny_bind (wpAny_setSeqItemAt ho hd ?_)
 have hfin:=zjq hl (·.setIfInBounds j v)
 first
  | exact wpAny_bind (wpAny_pure (wpAny_pure ⟨.none,rfl,wpAny_pure (hQ _ hfin (Heap.SameBut.update ..))⟩))
  | exact wpAny_pure ⟨.none,rfl,wpAny_pure (hQ _ hfin (Heap.SameBut.update ..))⟩
end
noncomputable def zbm (m:St->Option (V × HP)):St->Option (Fl × St):=λst=>match m st with
 | some (_,h)=>some (.next,⟨st.loc,h⟩)
 | none=>none
noncomputable def zbz (sh:HP->V->Bool) (sem:List V->HP->Option (V × HP)) (o:St->Option (V × HP)) (r:St->Option (List V × HP)):St->Option (V × HP):=λst=>match o st with
 | some (v,h)=>if sh h v then (match r ⟨st.loc,h⟩ with
  | some (vs,h')=>sem (v::vs) h'
  | none=>none) else none
 | none=>none
noncomputable def isL:HP->V->Bool:=λhp v=>(zbl hp v).isSome
noncomputable def isS:HP->V->Bool:=λZ v=>match v with | .d (.str _)=>true | _=>false
noncomputable def zc5 (prog:Program) (w:World) (B:Bs) (sh:HP->V->Bool) (name:Str) (id:String):Prop:=
 ∀ c cv v,BInv B c->RV c.G cv v->sh c.hp v=true->∀ A pl (Q:Value × List Value->Shared->Prop),Q (.builtin id,[cv]) c.s->wpAny (model prog w) A (getMethod cv name pl) Q NoE c.s
noncomputable def zeh:List V->HP->Option (V × HP):=λvs hp=>on2 (λa v=>onR (λid=>bO hp[id]? λold=>if zbr old.length then some (.d .none,hp.set id (some (old++[v]))) else none) a) vs
noncomputable def zp2:List V->HP->Option (V × HP):=λvs hp=>on1 (onR λid=>bO hp[id]? λold=>if zbr old.length then old.getLast?.map λv=>(v,hp.set id (some old.dropLast)) else none) vs
noncomputable def zjR (mo mi:St->Option (V × HP)):V->St->Option St:=λx st=>bV (mo st) λo h1=>onR (λid=>bV (mi ⟨st.loc,h1⟩) λi h2=>onI (λk=>bO h2[id]? λold=>
 if 0<=k/\k < 2 ^ 62/\k < old.length then some ⟨st.loc,h2.set id (some (old.set k.toNat x))⟩ else none) i) o
theorem zpg {mo mi:St->Option (V × HP)}{x:V}{st:St}{id:Nat}{h1 h2:HP}{k:Int}{old:List V}(e1:mo st=some (.l id,h1)) (e2:mi ⟨st.loc,h1⟩=some (.d (.int k),h2)) (e3:h2[id]?=some (some old)) :
  zjR mo mi x st=if 0<=k/\k < 2 ^ 62/\k < old.length then some ⟨st.loc,h2.set id (some (old.set k.toNat x))⟩ else none:=by
 unfold zjR
 refine e1▸?_
 show bV (mi ⟨st.loc,h1⟩) _=_
 refine e2▸?_
 show bO h2[id]? _=_
 refine e3▸?_
 rfl
section
variable {prog:Program}{w:World}{B:Bs}{n:Nat}{F:FI}
theorem zaW {e:Expr}{pos:Pos}{m:St->Option (V × HP)}(he:ESound prog w B n F e m) (hi:interactive F.env=false) (hs:swapsWith e none pos.line F.env=pure false) :
  SSound prog w B n F (exec (.Expr e pos) F.env) (zbm m):=λst fl st' q A hA G s I X=>by
 refine mPV q λv h q1 q=>?_
 cases q
 refine wpAny_Expr_any (he.use q1 hA I X λcv s1 G1 I1 S1 Z=>?_) hi hs
 exact ⟨G1,I1,X.step S1,S1.weak,.next⟩
theorem zkc {name:Str}{id:String}(slot:Slot "list" name id) (hty:typeOf (.builtin id)=pure (.type "method_descriptor")):zc5 prog w B (λhp v=>match v with | .l _=>isL hp v | _=>false) name id:=λc cv v I r hs A pl Q h=>by
 cases v with
 | l j=>
  dsimp only at hs
  unfold isL zbl at hs
  dsimp only at hs
  cases r with
  | @l a _ e=>
   split at hs
   ·rename_i vs hid
    obtain ⟨a',items,e1,e2,⟨nn,e3⟩,e4⟩:=I.lst j vs hid
    rw [e] at e1;cases e1
    exact getMethod_builtin ⟨_,e3,rfl⟩ PySem.F.plainAttrs_list slot hty (λb e=>by cases e;exact ⟨_,e3,rfl⟩) h
   ·exact zdo hs
 | d _=>exact zdo hs
 | raw _=>exact zdo hs
 | bm _=>exact zdo hs
theorem zpR {hp:HP}{v:V}{Q:Prop}(hs:isS hp v=true) (k:∀ x,v=.d (.str x)->Q):Q:=by
 cases v with
 | d x=>cases x with
  | str x=>exact k x rfl
  | _=>exact zdo hs
 | _=>exact zdo hs
theorem zlX {name:Str}{id:String}(slot:Slot "str" name id) (hty:typeOf (.builtin id)=pure (.type "method_descriptor")):zc5 prog w B isS name id:=λc cv v I r hs A pl Q h=>zpR hs λx q=>by
 refine Ee (q▸r:RV c.G cv (.d (.str x))).str_inv λt q0=>?_
 subst q0
 exact getMethod_builtin (typeIs_str _ _ _) PySem.F.plainAttrs_str slot hty (λb e=>by contradiction) h
theorem zbc {o:Expr}{name:Str}{id:String}{apos pos:Pos}{args:List Expr}{sh:HP->V->Bool}{sem:List V->HP->Option (V × HP)}{mo:St->Option (V × HP)}{r:St->Option (List V × HP)}(pl:Sem Bool)
  (hg:zc5 prog w B sh name id) (hs:zaM prog w B n (.builtin id) sem) (ho:ESound prog w B n F o mo) (hr:LSound prog w B n F pos args r)
  (he:eval (.Call (.Attribute o name apos) args [] pos) F.env=(do
   let ov <- eval o F.env
   standAt apos.atName
   let (f,first) <- holding [ov] (getMethod ov name pl)
   callWith pos f first (backTo pos (starEach args F.env)) []))
  (hplain:(backTo pos (starEach args F.env)).any (·.1)=false) (hne:∃ x rest,backTo pos (starEach args F.env)=(false,x)::rest):ESound prog w B n F (.Call (.Attribute o name apos) args [] pos) (zbz sh sem mo r):=λst v hp' e A hA G s I X=>by
 unfold zbz at e
 refine mPV e λov h1 q e=>?_
 split at e
 ·rename_i hsh
  refine mPL e λvs h2 q2 e=>?_
  refine MethodCall_ (pl:=pl) (ho.use q hA I X λcv s1 G1 I1 S1 r1=>?_) he
  refine hg ⟨G1,h1,s1⟩ cv ov I1 r1 hsh _ _ _ ?_
  refine zbV (st:=⟨st.loc,h1⟩) (.inl λZ h=>by contradiction) hr hplain q2 hA I1 (X.step S1) (λG2 s2 cvs I2 S2 r2=>?_) hne
  exact wpAny_mono (hs h2 (ov::vs) v hp' e A hA G2 s2 (cv::cvs) I2 (.cons (r1.step S2) r2)) (λZ Z q=>PostV.step I2 (S1.trans0 I1 S2) q) λZ Z x=>x
 ·exact zan e
theorem zjO {o:Expr}{name:Str}{id:String}{apos pos:Pos}{sh:HP->V->Bool}{sem:List V->HP->Option (V × HP)}{mo:St->Option (V × HP)}(pl:Sem Bool)
  (hg:zc5 prog w B sh name id) (hs:zaM prog w B n (.builtin id) sem) (ho:ESound prog w B n F o mo)
  (he:eval (.Call (.Attribute o name apos) [] [] pos) F.env=(do
   let ov <- eval o F.env
   standAt apos.atName
   let (f,first) <- holding [ov] (getMethod ov name pl)
   callWith pos f first (backTo pos (starEach [] F.env)) [])):ESound prog w B n F (.Call (.Attribute o name apos) [] [] pos) (zbz sh sem mo zaw):=λst v hp' e A hA G s I X=>by
 refine mPV e λov h1 q e=>?_
 split at e
 ·rename_i hsh
  refine MethodCall_ (pl:=pl) (ho.use q hA I X λcv s1 G1 I1 S1 r1=>?_) he
  refine hg ⟨G1,h1,s1⟩ cv ov I1 r1 hsh _ _ _ ?_
  refine zej (c:=⟨G1,h1,s1⟩) (.inl λZ h=>by contradiction) I1 ?_
  exact wpAny_mono (hs h1 [ov] v hp' e A hA G1 s1 [cv] I1 (.cons r1 .nil)) (λZ Z q=>PostV.step I1 S1 q) λZ Z x=>x
 ·exact zan e
theorem zbj:zaM prog w B n (.builtin "list.append") zeh:=λhp vs v hp' e A hA G s cvs I r=>by
 refine zlb e λa v1 q e=>ziN e λid q2 e=>zmQ e λold hid e=>Ea (zaK e) λhl e=>?_
 refine zcy e ?_
 refine (q2▸q▸r:RVs G cvs [.l id,v1]).two_elim λc1 c2 h1 h2=>?_
 refine h1.l_elim λa ef=>?_
 refine I.lstE hid ef λitems e2 e3 e4=>?_
 have hsz:items.size=old.length:=e4.asize
 have:=za1 hl
 refine wpAny_list_append_plain (hsz:=by rw [hsz];unfold sizeLine;exact (zrn (m:=1048576) (k:=16777216) this (by lia))) e3 λh' hp' hs'=>?_
 obtain ⟨I2,S2⟩:=I.setList (s':={ s with heap:=h' }) hid ef hs' rfl rfl hp' (vs:=old++[v1]) (by rw [zsK];exact e4.append (.one h2))
 exact ⟨G,I2,S2,.d .none⟩
theorem zmV:zaM prog w B n (.builtin "list.pop") zp2:=λhp vs v hp' e A hA G s cvs I r=>by
 refine ziM e λa q e=>ziN e λid q2 e=>zmQ e λold hid e=>Ea (zaK e) λhl e=>opM e λv1 hv1 e=>?_
 cases e
 refine (q2▸q▸r:RVs G cvs [.l id]).one_elim λc1 h1=>?_
 refine h1.l_elim λa ef=>?_
 refine I.lstE hid ef λitems e2 e3 e4=>?_
 have hsz:items.size=old.length:=e4.asize
 have:=za1 hl
 have hne:old≠[]:=λh=>by rw [h] at hv1;exact zan hv1
 have hpos:0 < old.length:=zsh.mpr hne
 have hv2:old[old.length - 1]?=some v:=by refine ztJ▸?_;exact hv1
 refine Eea (e4.get hv2) λy hy ry=>?_
 have hy':items[items.size - 1]?=some y:=by refine hsz▸?_;simpa using hy
 refine Ee e3 λnn ho=>?_
 refine call_meets PySem.F.slot_list_pop ⟨_,ho,rfl⟩ PySem.F.entry_list_pop (PySem.F.args_list_pop_1 _) (PySem.MeetsSeq.list_pop_last a items nn y hy' (by rw [hsz];unfold sizeLine;exact (zrn (m:=1048576) (k:=16777216) this (by lia)))) ⟨ho,?_⟩
 have hpl:=zjq ⟨nn,ho⟩ (λxs=>xs.eraseIdxIfInBounds (items.size - 1))
 have hcut:RVs G (items.eraseIdxIfInBounds (items.size - 1)).toList old.dropLast:=by
  have:(items.eraseIdxIfInBounds (items.size - 1)).toList=items.toList.take (old.length - 1):=by
   unfold ztP
   rw [dif_pos (zur (zry hpos (geq hsz)) (zrw 0)),zt4,hsz,zsL,ztY (by rw [zr6];exact leq (hsz.trans (ztD hpos).symm)),zrE]
  rw [this,List.dropLast_eq_take]
  exact e4.take _
 obtain ⟨I2,S2⟩:=I.setList (s':={ s with heap:=s.heap.update a (Obj.mapSeq λxs=>xs.eraseIdxIfInBounds (items.size - 1)) }) hid ef (Heap.SameBut.update ..) rfl rfl hpl hcut
 exact ⟨G,I2,S2,ry⟩
theorem zcA {o i:Expr}{pos:Pos}{mo mi:St->Option (V × HP)}(ho:ESound prog w B n F o mo) (hi:ESound prog w B n F i mi):zcI prog w B n F (assign (.Subscript o i pos) F.env) (zjR mo mi):=λst x st' e A hA G s cv I X r=>by
 refine zfG e λo h1 q1 e=>ziN e λid qo e=>zfG e λi h2 q2 e=>zdA e λk qi e=>zmQ e λold hid e=>Ea (zaK e) λhk e=>?_
 cases e
 rw [arm_assign_Subscript]
 refine wpAny_bind (wpAny_holding (ho.use q1 hA I X λco s1 G1 I1 S1 r1=>?_))
 refine wpAny_bind (wpAny_holding (hi.use q2 hA I1 (X.step S1) λci s2 G2 I2 S2 r2=>?_))
 refine (qi▸r2:RV G2 ci (.d (.int k))).int_elim λt=>?_
 refine (qo▸r1.step S2:RV G2 co (.l id)).l_elim λa ef=>?_
 refine I2.lstE hid ef λitems e2 e3 e4=>?_
 have hsz:items.size=old.length:=e4.asize
 refine wpAny_bind (wpAny_standAt (wpAny_bind (wpAny_holding (zhZ e3 hk.1 (by exact zsu hk.2.1 (by decide)) (by rw [hsz];exact hk.2.2) λh' hp' hs'=>wpAny_release ?_))))
 have S12:=S1.trans0 I1 S2
 obtain ⟨I3,S3⟩:=I2.setList (s':={ s2 with heap:=h' }) hid ef hs' rfl rfl hp' (vs:=old.set k.toNat x) (by rw [ztC];exact e4.set (r.step S12))
 exact ⟨G2,I3,(X.step S12).step S3,(S12.trans0 I2 S3).weak⟩
end
section
theorem md_slot_get:Slot "method_descriptor" "__get__" "method_descriptor.__get__":=
 .of (owner:="method_descriptor") (n:="__get__") (by rw [typeLookup_type,builtinLookup_eq_fast];kernel_rfl) (by decide +kernel) (by decide +kernel) (by decide +kernel)
  (by first | exact .inl (by decide +kernel) | exact .inr (by decide +kernel)) (by rw [isSubtype_type];kernel_rfl)
theorem ziG:entryFor table "method_descriptor.__get__"=some Builtin.«method_descriptor.__get__»:=entryFor_of_tree (by kernel_rfl)
theorem zjz (a b c:Value):argsOk "method_descriptor.__get__" ⟨[a,b,c],[]⟩:=by unfold argsOk;kernel_rfl
theorem ziH (a:Addr) (xs:Array Value) (k:Nat) :
  Meets (Builtin.«method_descriptor.__get__» ⟨[.builtin "list.append",.ref a,.type "list"],[]⟩) (λA R s=>s.heap.get? a=some { cls:=.type "list",dict:=none,data:=.seq xs k,slots:=#[] }/\R (.ok (.ret (.ref s.heap.objs.size))) { s with heap:=s.heap.push (zgA a) }):=
 Meets.of_wp λprog w A R s hs=>by
  obtain ⟨hp,g,d,tk,os⟩:=s
  obtain ⟨hx,hs⟩:=hs
  have hT:(⟨hp,g,d,tk,os⟩:Shared).TypeIs (.ref a) "list":=⟨_,hx,rfl⟩
  have e0:(".".intercalate ("list.append".cutAt '.').dropLast)="list":=by decide +kernel
  have f0:isSubtype (.type "list") (.type (".".intercalate ("list.append".cutAt '.').dropLast))=pure true:=by rw [e0,isSubtype_type];kernel_rfl
  unfold Builtin.«method_descriptor.__get__»
  repeat (any_goals (first | assumption | wp_step))
  exact ⟨_,rfl,hs⟩
theorem zcR (a:Addr) (xs:Array Value) (k:Nat) (u:Tok) :
  Meets (Builtin.«object.__getattribute__» ⟨[.ref a,.str "append" u],[]⟩) (λA R s=>s.heap.get? a=some { cls:=.type "list",dict:=none,data:=.seq xs k,slots:=#[] }/\R (.ok (.ret (.ref s.heap.objs.size))) { s with heap:=s.heap.push (zgA a) }):=
 Meets.of_wp λprog w A R s hs=>by
  obtain ⟨hp,g,d,tk,os⟩:=s
  obtain ⟨hx,hs⟩:=hs
  have hT:(⟨hp,g,d,tk,os⟩:Shared).TypeIs (.ref a) "list":=⟨_,hx,rfl⟩
  have f1:=slot_list_append.lookup
  have f2:=PySem.F.type_list_append
  have f3:=md_slot_get.lookup
  have f4:=PySem.F.plainAttrs_list.noGetattr
  have f5:typeLookup (.type "method_descriptor") "__set__"=pure none:=by rw [typeLookup_type,builtinLookup_eq_fast];kernel_rfl
  have f6:typeLookup (.type "method_descriptor") "__delete__"=pure none:=by rw [typeLookup_type,builtinLookup_eq_fast];kernel_rfl
  unfold Builtin.«object.__getattribute__»
  repeat (any_goals (first | assumption | ((with_reducible show wpAny _ _ (call (Value.builtin "method_descriptor.__get__") _ _) _ _ _);refine call_meets md_slot_get f2 ziG (zjz _ _ _) (ziH a xs k) ⟨hx,?_⟩) | wp_step))
  exact wpAny_pure ⟨_,rfl,hs⟩
theorem zgD {prog:Program}{w:World}{A:Around}{E:Value->Shared->Prop}{s:Shared}{a:Addr}{xs:Array Value}{k:Nat}{Q:Value->Shared->Prop}
  (hx:s.heap.get? a=some { cls:=.type "list",dict:=none,data:=.seq xs k,slots:=#[] })
  (h:Q (.ref s.heap.objs.size) { s with heap:=s.heap.push (zgA a),toks:=s.toks + 1 }):wpAny (model prog w) A (getAttr (.ref a) "append" true) Q E s:=by
 obtain ⟨hp,g,d,tk,os⟩:=s
 have hT:∀ tk',(⟨hp,g,d,tk',os⟩:Shared).TypeIs (.ref a) "list":=λZ=>⟨_,hx,rfl⟩
 have f3:=F.slot_list_getattribute.lookup
 have f4:=F.slot_list_getattribute.bind (.ref a)
 unfold getAttr getAttrBy
 repeat (any_goals (first | assumption | exact hT _ | ((with_reducible show wpAny _ _ (call (Value.builtin "list.__getattribute__") _ _) _ _ _);refine call_meets F.slot_list_getattribute (hT _) am_entry_list_getattribute (F.args_list_getattribute_2 _ _) (zcR a xs k _) ⟨hx,?_⟩) | wp_step))
 show wpAny _ _ (handedOut (.ref _)) _ _ _
 exact wpAny_pure h
end
section
variable {prog:Program}{w:World}{A:Around}{E:Value->Shared->Prop}{s:Shared}
theorem zoq {m a:Addr}{items:Array Value}{v:Value}{Q:Value->Shared->Prop}(hm:s.heap.get? m=some (zgA a)) (hl:s.heap.PlainList a items)
  (hQ:∀ h',h'.PlainList a (items.push v)->Heap.SameBut a s.heap h'->Q .none { s with heap:=h' }) (hsz:items.size<=sizeLine):wpAny (model prog w) A (call (.ref m) [v]) Q E s:=by
 have hT:s.TypeIs (.ref a) "list":=hl.isList.typeIs
 refine wpAny_call (codeAny_of_tree ?_)
 show wpAny _ A.in1 (callAny (.ref m) ⟨[v],[]⟩) _ _ s
 refine wpAny_bind (wpAny_load hm ?_)
 simp only [zgA,show (Value.type "builtin_function_or_method"==Value.type "method" || Value.type "builtin_function_or_method"==Value.type "builtin_function_or_method" || Value.type "builtin_function_or_method"==Value.type "method-wrapper")=true by decide,if_true]
 refine KFB.if_so (by decide) ?_
 refine wpAny_bind (m:=checkBoundCall "list.append" ⟨[.ref a,v],[]⟩) ?_
 ·have f1:isSubtype (.type "list") (.type "module")=pure false:=by rw [isSubtype_type];kernel_rfl
  have f2:isSubtype (.type "list") (.type "type")=pure false:=by rw [isSubtype_type];kernel_rfl
  have f3:(Manifest.varargsMethods.contains "list.append" || false)=false:=by decide +kernel
  unfold checkBoundCall
  repeat (any_goals (first | assumption | wp_step))
  obtain ⟨nn,ho⟩:=id hl
  refine wpAny_loadPart ho (wpAny_pure ?_)
  dsimp only
  refine KFB.if_not (by decide) ?_
  refine wpAny_bind (wpAny_typeOf hT ?_)
  dsimp only
  refine wpAny_of_eq (a:=()) (by first | rfl | kernel_rfl) ?_
  refine wpAny_pure ⟨Code.quiet_builtin _ (by decide +kernel),codeAny_builtin entry_list_append ?_⟩
  show wpAny _ _ (updateSeq a (·.push v) >>= λZ=>ret .none) _ _ s
  refine wpAny_bind ?_
  refine wpAny_updateSeq ho rfl (wpAny_pure (hQ _ ⟨nn + 1,?_⟩ (Heap.SameBut.update ..)))
  rw [Heap.get?_update_self _ ho (by rw [Obj.mapSeq_push_plain];rfl),Obj.mapSeq_push_plain]
end
section
theorem zgZ:mroOf (.type "object")=pure [.type "object"]:=by rw [mroOf_type];kernel_rfl
theorem zeZ:typeLookup (.type "object") "__new__"=pure (some (.builtin "object.__new__")):=by rw [typeLookup_type,builtinLookup_eq_fast];kernel_rfl
theorem zfE:Slot "object" "__init__" "object.__init__":=
 .of (owner:="object") (n:="__init__") (by rw [typeLookup_type,builtinLookup_eq_fast];kernel_rfl) (by decide +kernel) (by decide +kernel) (by decide +kernel)
  (by first | exact .inl (by decide +kernel) | exact .inr (by decide +kernel)) (by rw [isSubtype_type];kernel_rfl)
theorem called_object:TypeCalled "object" "object.__new__" "object.__init__":=
 ⟨by decide +kernel,by decide +kernel,⟨_,_,zgZ⟩,madeBy_type zgZ zeZ (by decide +kernel),by decide +kernel,by rw [isSubtype_type];kernel_rfl,zfE⟩
theorem ze8:checkTypeCall "object" ⟨[],[]⟩=pure ():=by kernel_rfl
theorem zfz:checkBuiltinCall "object.__new__" ⟨[.type "object"],[]⟩=pure ():=by kernel_rfl
theorem zft:entryFor table "object.__new__"=some Builtin.«object.__new__»:=entryFor_of_tree (by kernel_rfl)
theorem zeO:entryFor table "object.__init__"=some Builtin.«object.__init__»:=entryFor_of_tree (by kernel_rfl)
theorem zeX (obj:Value):argsOk "object.__init__" ⟨[obj],[]⟩:=by
 unfold argsOk;rw [signature?_of (id:="object.__init__") (n:=['_','_','t','i','n','i','_','_']) (o:=['t','c','e','j','b','o']) (by kernel_rfl) F.owner_object];kernel_rfl
theorem zfy:Meets (Builtin.«object.__new__» ⟨[.type "object"],[]⟩) (λA R s=>R (.ok (.ret (.ref s.heap.objs.size))) { s with heap:=s.heap.push { cls:=.type "object" } }):=
 Meets.of_wp λprog w A R s hs=>by
  obtain ⟨hp,g,d,tk,os⟩:=s
  have hm:Bind.madeHere "object.__new__" (.type "object")=pure ():=by
   unfold Bind.madeHere
   first
    | (rw [called_object.made];kernel_rfl)
    | kernel_rfl
  unfold Builtin.«object.__new__»
  repeat (any_goals (first | assumption | wp_step))
  exact ⟨_,rfl,hs⟩
theorem ze1 (obj:Value):Meets (Builtin.«object.__init__» ⟨[obj],[]⟩) (λZ R s=>R (.ok (.ret .none)) s):=
 Meets.of_wp λprog w A R s hs=>by
  obtain ⟨hp,g,d,tk,os⟩:=s
  unfold Builtin.«object.__init__»
  repeat (any_goals (first | assumption | wp_step))
  exact ⟨_,rfl,hs⟩
theorem zjc {prog:Program}{w:World}{A:Around}{E:Value->Shared->Prop}{s:Shared}{Q:Value->Shared->Prop}(h:Q (.ref s.heap.objs.size) { s with heap:=s.heap.push { cls:=.type "object" } }) :
  wpAny (model prog w) A (call (.type "object") []) Q E s:=
 callType_meets (Q₁:=λobj s₁=>obj=.ref s.heap.objs.size/\s₁={ s with heap:=s.heap.push { cls:=.type "object" } }) called_object ze8 zfz zft zeO zfy ⟨rfl,rfl⟩
  λobj s₁ hq=>by
   obtain ⟨rfl,rfl⟩:=hq
   exact ⟨⟨_,Heap.get?_push_size _ rfl,rfl⟩,zeX _,_,ze1 _,rfl,h⟩
end
noncomputable def bmM (m:St->Option (V × HP)):St->Option (V × HP):=λst=>bV (m st) λo h=>onR (λid=>bO h[id]? λZ=>some (.bm id,h)) o
noncomputable def zco (m:St->Option (V × HP)) (r:St->Option (List V × HP)):St->Option (V × HP):=λst=>bV (m st) λb h1=>match b with
 | .bm id=>bL (r ⟨st.loc,h1⟩) λvs h2=>on1 (λv=>zeh [.l id,v] h2) vs
 | _=>none
noncomputable def zq3:List V->HP->Option (V × HP):=λvs hp=>match vs with
 | []=>some (.l hp.length,hp++[none])
 | _=>none
section
variable {prog:Program}{w:World}{B:Bs}{n:Nat}{F:FI}
theorem BInv.newDead {c:Cfg}(I:BInv B c) {s':Shared}{a:Addr}{o:Obj}(hk:∀ a o,c.s.heap.get? a=some o->s'.heap.get? a=some o)
  (hg:s'.gens=c.s.gens) (hos:s'.os=c.s.os) (ha:c.s.heap.get? a=none) (ho:s'.heap.get? a=some o) :
  ∃ G',G'.f c.hp.length=some a/\BInv B ⟨G',c.hp++[none],s'⟩/\Stp B [] c ⟨G',c.hp++[none],s'⟩:=by
 refine zkE (I.froze hk hg hos ha ho) λg' e1 e2 I' S'=>?_
 have hne:∀ id b,c.G.f id=some b->id≠c.hp.length/\b≠a:=λid b e=>⟨λh=>(by rw [I.fr id (zrn (geq h) (by lia))] at e;exact zan e),λh=>(I.lt _ _ e).ne ha h⟩
 have ff:∀ id b,c.G.f id=some b->(if id=c.hp.length then some a else c.G.f id)=some b:=λid b e=>by refine Eq.trans (if_neg (hne id b e).1) ?_;exact e
 have hget:∀ id us,(c.hp++[none])[id]?=some (some us)->c.hp[id]?=some (some us)/\id≠c.hp.length:=λid us e=>by
  rcases zr4 id c.hp.length with h1 | h1
  ·exact ⟨by rwa [zrC h1] at e,by exact zr5 (by assumption)⟩
  ·rw [zrF h1] at e
   cases hq:id - c.hp.length with
   | zero=>rw [hq] at e;simp at e
   | succ k=>rw [hq] at e;contradiction
 refine ⟨⟨g',λid=>if id=c.hp.length then some a else c.G.f id⟩,by simp,⟨I'.keep,I'.base,λid b e=>?_,λi j b e1 e2=>?_,λid h=>?_,λid us e=>?_,I'.tab,⟨I'.tabg.1,λid e=>?_⟩,I'.bare⟩,?_⟩
 ·dsimp only at e
  by_cases h:id=c.hp.length
  ·rw [if_pos h] at e;refine zfx e ?_;exact ⟨_,ho⟩
  ·rw [if_neg h] at e;exact I'.lt _ _ e
 ·dsimp only at e1 e2
  by_cases h1:i=c.hp.length <;> by_cases h2:j=c.hp.length
  ·lia
  ·rw [if_pos h1] at e1;rw [if_neg h2] at e2;cases e1;exact absurd rfl (hne _ _ e2).2
  ·rw [if_neg h1] at e1;rw [if_pos h2] at e2;cases e2;exact absurd rfl (hne _ _ e1).2
  ·rw [if_neg h1] at e1;rw [if_neg h2] at e2;exact I.inj _ _ _ e1 e2
 ·dsimp only at h ⊢
  rw [zro,ztl] at h
  refine Eq.trans (if_neg (by exact zrV (by assumption))) ?_;exact I.fr _ (by exact zrP (by assumption))
 ·obtain ⟨e',hn⟩:=hget id us e
  refine LstAt.E (I'.lst id us e') λb its h1 h2 h3 h4=>?_
  exact ⟨b,its,ff _ _ h1,h2,h3,RVs.mono (G:=⟨g',c.G.f⟩) (G':=⟨g',λid=>if id=c.hp.length then some a else c.G.f id⟩) (λZ Z e=>e) ff h4⟩
 ·dsimp only at e
  by_cases h:id=c.hp.length
  ·rw [if_pos h] at e;cases e;exact I.tbl_lt.ne ha rfl
  ·rw [if_neg h] at e;exact I.tabg.2 _ e
 ·refine ⟨S'.gg,ff,S'.kp,λb h1 h2 h3=>?_,S'.sz,S'.gn,S'.os,λid b e=>?_⟩
  ·obtain ⟨k1,k2⟩:=S'.old b h1 h2 h3
   refine ⟨k1,λ⟨id,us,q1,q2⟩=>?_⟩
   refine Ea (hget id us q1) λq1' hn=>?_
   dsimp only at q2
   rw [if_neg hn] at q2
   exact k2 ⟨id,us,q1',q2⟩
  ·dsimp only at e
   by_cases h:id=c.hp.length
   ·rw [if_pos h] at e;cases e;exact .inr ha
   ·rw [if_neg h] at e;exact .inl e
theorem zkx {x:Str}{p pos:Pos}{m:St->Option (V × HP)}(he:ESound prog w B n F (.Name x p) m):ESound prog w B n F (.Attribute (.Name x p) "append" pos) (bmM m):=λst v hp' e A hA G s I X=>by
 refine zfG e λo h q e=>ziN e λid qo e=>zmQ e λold hid e=>?_
 refine zcy e ?_
 rw [arm_eval_Attribute]
 show wpAny _ _ (do let o <- eval (.Name x p) F.env;standAt pos.atName;let r <- holding [o] (getAttr o "append" true);letTemporaryGo (.Name x p) o r;pure r) _ _ s
 refine wpAny_bind (he.use q hA I X λcv s1 G1 I1 S1 r1=>?_)
 refine (qo▸r1:RV G1 cv (.l id)).l_elim λa ef=>?_
 refine I1.lstE hid ef λitems e2 e3 e4=>?_
 obtain ⟨nn,e3⟩:=e3
 refine wpAny_bind (wpAny_standAt (wpAny_bind (wpAny_holding (zgD e3 ?_))))
 obtain ⟨g',k1,k2,I2,S2⟩:=I1.froze (s':={ s1 with heap:=s1.heap.push (zgA a),toks:=s1.toks + 1 }) (a:=s1.heap.objs.size) (λb o e=>Heap.get?_push_of_some _ e) rfl rfl (zaJ (zrv _)) (Heap.get?_push_size _ rfl)
 exact wpAny_bind (wpAny_pure (wpAny_pure ⟨_,I2,S1.trans0 I1 S2,.bm ef k1⟩))
theorem znw {hh:Heap}{m a:Addr}(ho:hh.get? m=some (zgA a)):Looks (model prog w) hh (keeperOf (.ref m)) .machine:=by
 refine (Looks.ld (part:=none) ho).andThen ?_
 exact .now
theorem zbI {x:Str}{p pos:Pos}{args:List Expr}{m:St->Option (V × HP)}{r:St->Option (List V × HP)}(he:ESound prog w B n F (.Name x p) m) (hr:LSound prog w B n F pos args r)
  (hplain:(backTo pos (starEach args F.env)).any (·.1)=false) (hne:∃ x rest,backTo pos (starEach args F.env)=(false,x)::rest):ESound prog w B n F (.Call (.Name x p) args [] pos) (zco m r):=λst v hp' e A hA G s I X=>by
 refine zfG e λb h1 q e=>?_
 have hb:∃ id,b=.bm id:=by
  cases b with
  | bm id=>exact ⟨id,rfl⟩
  | _=>exact zan e
 obtain ⟨id,rfl⟩:=hb
 refine zqh e λl h2 q2 e=>ziM e λv1 qv e=>zmQ e λold hid e=>Ea (zaK e) λhl e=>?_
 cases e
 refine wpAny_Call_NameR (he.use q hA I X λcf s1 G1 I1 S1 r1=>?_)
 cases r1 with
 | @bm mm a _ ef eo=>
 refine callWith_of (P:=λhh=>hh.get? mm=some (zgA a)) (by rw [hplain];rfl) (λhh hb=>⟨.machine,.inr (.inl rfl),znw hb⟩) ?_
 have key:wpAny (model prog w) A (spliced (backTo pos (starEach args F.env))) (λcvs s'=>s'.heap.get? mm=some (zgA a)/\wpAny (model prog w) A (call (.ref mm) ([]++cvs) []) (PostV B ⟨G,st.hp,s⟩ (h2.set id (some (old++[v1]))) (.d .none)) NoE s') NoE s1:=by
  refine hr.use q2 hA I1 (X.step S1) λcvs s2 G2 I2 S2 r2=>?_
  have hm:=I2.keep _ _ (S2.gg _ _ eo)
  refine ⟨hm,?_⟩
  refine (qv▸r2:RVs G2 cvs [v1]).one_elim λcv1 k1=>?_
  refine I2.lstE hid (S2.ff _ _ ef) λitems e2 e3 e4=>?_
  have hsz:items.size=old.length:=e4.asize
  have:=za1 hl
  refine zoq hm e3 (λh' hp' hs'=>?_) (by rw [hsz];unfold sizeLine;exact (zrn (m:=1048576) (k:=16777216) this (by lia)))
  obtain ⟨I3,S3⟩:=I2.setList (s':={ s2 with heap:=h' }) hid (S2.ff _ _ ef) hs' rfl rfl hp' (vs:=old++[v1]) (by rw [zsK];exact e4.append (.one k1))
  exact ⟨G2,I3,(S1.trans0 I1 S2).trans0 I2 S3,.d .none⟩
 refine Eee hne λx rest e=>?_
 rw [e] at key ⊢
 exact evalArgs_plain key
theorem zlC:zaM prog w B n (.type "object") zq3:=λhp vs v hp' e A hA G s cvs I r=>by
 cases vs with
 | cons u us=>exact zan e
 | nil=>
  cases e
  cases r
  refine zjc ?_
  obtain ⟨G',e1,I2,S2⟩:=I.newDead (s':={ s with heap:=s.heap.push { cls:=.type "object" } }) (a:=s.heap.objs.size) (λb o e=>Heap.get?_push_of_some _ e) rfl rfl (zaJ (zrv _)) (Heap.get?_push_size _ rfl)
  exact ⟨G',I2,S2,.l e1⟩
end
end Mine
namespace Mine
open PySem PySem.W PySem.Spec PySem.Calls PyProof.Rows PySem.Builtin PySem.Builtin.Str
noncomputable def zfu (x y:PySem.Str) (lo hi:Nat):Int:=match occurrences x y lo (min hi x.length) 1 with | k::_=>(k:Int) | []=>-1
noncomputable def unc {α:Type}(k:V->List V->Option α):List V->Option α
 | []=>none
 | a::r=>k a r
theorem zqf {α:Type}{k:V->List V->Option α}{l:List V}{r:α}{Q:Prop}(e:unc k l=some r) (h:∀ a t,l=a::t->k a t=some r->Q):Q:=by
 cases l with
 | nil=>exact zan e
 | cons a t=>exact h a t rfl e
noncomputable def zji:List V->HP->Option (V × HP):=λvs hp=>unc (λa=>unc λb=>on2 λc d=>onS (λx=>onS (λy=>onI (λlo=>onI (λhi=>if 0<=lo/\0<=hi then some (.d (.int (zfu x y lo.toNat hi.toNat)),hp) else none) d) c) b) a) vs
noncomputable def zh5:List V->Option (List PySem.Str):=zpV (onS some)
noncomputable def zjt:List V->HP->Option (V × HP):=λvs hp=>on2 (λa v=>onS (λx=>match zbl hp v with
  | some us=>(match zh5 us with
   | some ys=>if (ys.map (·.length)).sum + ys.length * x.length<=16777216 then some (.d (.str (Txt.join x ys)),hp) else none
   | none=>none)
  | none=>none) a) vs
noncomputable def zo2 (m:St->Option (V × HP)) (y z:PySem.Str):St->Option (V × HP):=λst=>bV (m st) λv h=>onS (λx=>if x.length + (x.length + 1) * z.length<=16777216 then some (.d (.str (Txt.replace x y z)),h) else none) v
noncomputable def zde (m:St->Option (V × HP)):St->Option (V × HP):=λst=>bV (m st) λv h=>onI (λi=>some (.d (.int (-i)),h)) v
noncomputable def zoB (m:St->Option (V × HP)):St->Option (V × HP):=λst=>bV (m st) λv h=>onS (λx=>if zbr x.length then some (.d (.str x),h) else none) v
noncomputable def zkW:List (St->Option (V × HP))->PySem.Str->St->Option (PySem.Str × HP)
 | [],acc,st=>some (acc,st.hp)
 | m::r,acc,st=>bV (m st) λv h=>onS (λx=>if zbr (acc++x).length then zkW r (acc++x) ⟨st.loc,h⟩ else none) v
theorem zeV {m:St->Option (V × HP)}{r:List (St->Option (V × HP))}{acc x:PySem.Str}{st:St}{h:HP}(e:m st=some (.d (.str x),h)) (hl:zbr (acc++x).length=true):zkW (m::r) acc st=zkW r (acc++x) ⟨st.loc,h⟩:=
 (congrArg (bV · _) e).trans (if_pos hl)
noncomputable def ziy (ms:List (St->Option (V × HP))):St->Option (V × HP):=λst=>match zkW ms PySem.Str.empty st with
 | some (x,h)=>if zbr x.length then some (.d (.str x),h) else none
 | none=>none
theorem zeq (len k:Nat):fromIndex len (k:Int)=k:=by
 unfold fromIndex
 rw [if_neg (by simp)]
 rfl
theorem zjo (x y:PySem.Str) (lo hi:Nat) (t u v w:Tok):Gives («str.find» ⟨[.str x t,.str y u,.int lo v,.int hi w],[]⟩) (.int (zfu x y lo hi)):=by
 show Gives (match occurrences x y (fromIndex x.length (lo:Int)) (min (fromIndex x.length (hi:Int)) x.length) 1 with | k::_=>retInt k | []=>(do rule "str.find.not-found";retInt (-1))) _
 rw [zeq,zeq]
 unfold zfu
 cases occurrences x y lo (min hi x.length) 1 with
 | nil=>exact .rule (.of_eq rfl)
 | cons k _=>exact .of_eq rfl
section
variable {prog:Program}{w:World}{B:Bs}{n:Nat}{F:FI}
theorem zhg {G:Gh}{vs:List Value}{us:List V}{ys:List PySem.Str}(r:RVs G vs us) (h:zh5 us=some ys):StrsAre vs ys:=
 zhU (P:=λus ys=>∀ vs,RVs G vs us->StrsAre vs ys) (λZ r=>by cases r;exact .nil) (λZ Z Z Z e ih Z r=>zd8 e λx q e=>by
  refine Option.some.inj e▸?_
  subst q
  exact RVs.cons_elim r λc l h1 r=>h1.str_elim λt=>.cons x t (ih _ r)) h vs r
theorem zlB:zaM prog w B n (.builtin "str.find") zji:=λhp vs v hp' e A hA G s cvs I r=>by
 refine zqf e λa l1 q0 e=>zqf e λb l2 p1 e=>zlb e λc d p2 e=>?_
 subst q0 p1 p2
 refine zd8 e λx q1 e=>zd8 e λy q2 e=>zdA e λlo q3 e=>zdA e λhi q4 e=>Ea (zaK e) λhb e=>?_
 refine zcy e ?_
 refine r.cons_elim λc1 l1 h1 r=>r.cons_elim λc2 l2 h2 r=>r.two_elim λc3 c4 h3 h4=>?_
 refine (q1▸h1:RV G c1 (.d (.str x))).str_elim λt=>?_
 refine (q2▸h2:RV G c2 (.d (.str y))).str_elim λu=>?_
 refine (q3▸h3:RV G c3 (.d (.int lo))).int_elim λv=>?_
 refine (q4▸h4:RV G c4 (.d (.int hi))).int_elim λw'=>?_
 refine Ee (ztc hb.1) λlo' q5=>?_
 refine Ee (ztc hb.2) λhi' q6=>?_
 refine q5▸q6▸?_
 exact call_gives PySem.F.slot_str_find (typeIs_str _ _ _) PySem.F.entry_str_find (PySem.F.args_str_find_4 _ _ _ _) (zjo x y lo' hi' t u v w') (zdh I)
theorem zig:zaM prog w B n (.builtin "str.join") zjt:=λhp vs v hp' e A hA G s cvs I r=>by
 refine zlb e λa u q e=>zd8 e λx q1 e=>?_
 cases hu:zbl hp u with
 | none=>rw [hu] at e;exact zan e
 | some us=>
 rw [hu] at e
 dsimp only at e
 cases hy:zh5 us with
 | none=>rw [hy] at e;exact zan e
 | some ys=>
 rw [hy] at e
 refine Ea (zaK e) λhb e=>?_
 refine zcy e ?_
 refine (q1▸q▸r:RVs G cvs [.d (.str x),u]).two_elim λc1 c2 h1 h2=>?_
 refine h1.str_elim λt=>?_
 (refine zcG (zdc I hu h2) λa items q0 k1 k2=>?_;subst q0)
 exact join_list k1 (zhg k2 hy) hb λt' k=>zdK I
noncomputable def zhq (prog:Program) (w:World) (B:Bs) (n:Nat) (F:FI) (t:Sem Value) (m:St->Option (V × HP)):Prop:=
 ∀ st v hp',m st=some (v,hp')->∀ A,AOk n A->∀ G s,BInv B ⟨G,st.hp,s⟩->FrInv B F st.loc ⟨G,st.hp,s⟩->1<=s.toks->
  wpAny (model prog w) A t (PostV B ⟨G,st.hp,s⟩ hp' v) NoE s
noncomputable def zdX (prog:Program) (w:World) (B:Bs) (n:Nat) (F:FI) (t:Sem Flow) (m:St->Option (Fl × St)):Prop:=
 ∀ st fl st',m st=some (fl,st')->∀ A,AOk n A->∀ G s,BInv B ⟨G,st.hp,s⟩->FrInv B F st.loc ⟨G,st.hp,s⟩->1<=s.toks->
  wpAny (model prog w) A t (PostS B F ⟨G,st.hp,s⟩ st' fl) NoE s
noncomputable def zly (prog:Program) (w:World) (B:Bs) (n:Nat) (F:FI) (e:Expr) (m:St->Option (Bool × HP)):Prop:=
 ∀ st b hp',m st=some (b,hp')->∀ A,AOk n A->∀ G s,BInv B ⟨G,st.hp,s⟩->FrInv B F st.loc ⟨G,st.hp,s⟩->
  wpAny (model prog w) A (isTrue e F.env (eval e F.env)) (λcb s'=>1<=s'.toks/\cb=b/\∃ G',BInv B ⟨G',hp',s'⟩/\Stp B [] ⟨G,st.hp,s⟩ ⟨G',hp',s'⟩) NoE s
theorem TSound.one {t:Sem Value}{m:St->Option (V × HP)}(h:TSound prog w B n F t m):zhq prog w B n F t m:=λst v hp' e A hA G s I X Z=>h st v hp' e A hA G s I X
theorem SSound.one {t:Sem Flow}{m:St->Option (Fl × St)}(h:SSound prog w B n F t m):zdX prog w B n F t m:=λst v hp' e A hA G s I X Z=>h st v hp' e A hA G s I X
theorem zjN {x:Stmt}{rest:List Stmt}{a b:St->Option (Fl × St)}(ha:zdX prog w B n F (exec x F.env) a) (hb:zdX prog w B n F (execs rest F.env) b) :
  zdX prog w B n F (execs (x::rest) F.env) (zau a b):=λst fl st' h A hA G s I X htk=>by
 refine wpAny_execs_cons ?_
 unfold zau at h
 cases e:a st with
 | none=>rw [e] at h;exact zan h
 | some r=>
  obtain ⟨f1,st1⟩:=r
  rw [e] at h
  refine wpAny_mono (wpAny_toks_of htk (ha st f1 st1 e A hA G s I X htk)) (λf s' hp=>?_) λZ Z x=>x.2
  refine Ea hp λhtk' hp=>PostS.E hp λG' I' X' S' hf=>?_
  cases hf with
  | next=>
   dsimp only at h ⊢
   exact wpAny_mono (hb st1 fl st' h A hA G' s' I' X' htk') (λZ Z q=>PostS.mono I' S' q) λZ Z x=>x
  | brk=>dsimp only at h ⊢;cases h;exact ⟨G',I',X',S',.brk⟩
  | cont=>dsimp only at h ⊢;cases h;exact ⟨G',I',X',S',.cont⟩
  | ret r=>dsimp only at h ⊢;cases h;exact ⟨G',I',X',S',.ret r⟩
theorem zmv {test:Expr}{body orelse:List Stmt}{pos:Pos}{c:St->Option (Bool × HP)}{a b:St->Option (Fl × St)}(hc:zly prog w B n F test c)
  (ha:zdX prog w B n F (execs body F.env) a) (hb:zdX prog w B n F (execs orelse F.env) b):SSound prog w B n F (exec (.If test body orelse pos) F.env) (zbC c a b):=λst fl st' h A hA G s I X=>by
 refine wpAny_If ?_
 unfold zbC at h
 cases e:c st with
 | none=>rw [e] at h;exact zan h
 | some r=>
  obtain ⟨v,h1⟩:=r
  rw [e] at h
  refine wpAny_mono (hc st v h1 e A hA G s I X) (λcb s' hp=>?_) λZ Z x=>x
  obtain ⟨htk,rfl,G',I',S'⟩:=hp
  have X':=X.step S'
  cases cb with
  | true=>
   dsimp only at h
   dsimp
   exact wpAny_mono (ha ⟨st.loc,h1⟩ fl st' h A hA G' s' I' X' htk) (λZ Z q=>PostS.mono I' S'.weak q) λZ Z x=>x
  | false=>
   dsimp only at h
   dsimp
   exact wpAny_mono (hb ⟨st.loc,h1⟩ fl st' h A hA G' s' I' X' htk) (λZ Z q=>PostS.mono I' S'.weak q) λZ Z x=>x
theorem zh2 {x:PySem.Str}{pos pos':Pos}{value:Expr}{m:St->Option (V × HP)}{k:Nat}(he:zhq prog w B n F (eval value F.env) m) (hk:F.nm[k]?=some (some x)) (hkind:F.env.kindOf x=some .local\/(F.env.kindOf x=some .cell/\x ∈ F.cs))
  (hs:swapsWith value (some (.Name x pos')) pos.line F.env=pure false):zdX prog w B n F (exec (.Assign [.Name x pos'] value pos) F.env) (doM m (zaC k)):=λst fl st' h A hA G s I X htk=>by
 refine mPV h λv h1 q h=>?_
 refine wpAny_Assign_Name (wpAny_mono (he st v h1 q A hA G s I X htk) (λcv s' hp=>?_) λZ Z x=>x) hs
 refine PostV.E hp λG' I' S' r=>?_
 unfold zaC at h
 split at h
 ·rename_i q2
  split at q2
  ·rename_i hlen
   cases q2;cases h
   refine wpAny_mono (zdN (st:=⟨st.loc,h1⟩) hk hkind hlen I' (X.step S') r) (λZ s2 hp2=>?_) λZ Z x=>x
   refine PostU.E hp2 λG2 I2 X2 S2=>?_
   exact ⟨G2,I2,X2,S'.weak.trans I' S2 (λZ h=>h),.next⟩
  ·exact zan q2
 ·exact zan h
theorem zh4 {o:Expr}{apos pos p1 p2:Pos}{k1 k2:Nat}{y z:PySem.Str}{mo:St->Option (V × HP)}(pl:Sem Bool) (ho:zhq prog w B n F (eval o F.env) mo) (hyz:(y==z)=false)
  (he:eval (.Call (.Attribute o "replace" apos) [.Constant (.str y) k1 p1,.Constant (.str z) k2 p2] [] pos) F.env=(do
   let ov <- eval o F.env
   standAt apos.atName
   let (f,first) <- holding [ov] (getMethod ov "replace" pl)
   callWith pos f first (backTo pos (starEach [.Constant (.str y) k1 p1,.Constant (.str z) k2 p2] F.env)) [])):zhq prog w B n F (eval (.Call (.Attribute o "replace" apos) [.Constant (.str y) k1 p1,.Constant (.str z) k2 p2] [] pos) F.env) (zo2 mo y z):=λst v hp' e A hA G s I X htk=>by
 refine zfG e λv0 h q e=>zd8 e λx qv e=>Ea (zaK e) λhb e=>?_
 refine zcy e ?_
 refine MethodCall_ (pl:=pl) (wpAny_mono (wpAny_toks_of htk (ho st _ _ q A hA G s I X htk)) (λcv s1 p=>?_) λZ Z x=>x.2) he
 refine Ea p λhtk1 p=>PostV.E p λG1 I1 S1 r1=>?_
 refine (qv▸r1:RV G1 cv (.d (.str x))).str_elim λt=>?_
 refine getMethod_builtin (typeIs_str _ _ _) PySem.F.plainAttrs_str PySem.F.slot_str_replace PySem.F.type_str_replace (λb e=>by contradiction) ?_
 refine callWith_method1 (spliced_more (wpAny_Constant_str (spliced_more (wpAny_Constant_str (spliced_none ?_)))))
 refine SC.replace ?h1 ?h2 ?h3 hyz hb λt' k=>?_
 case h1=>exact zrV htk1
 case h2=>exact zs3 _
 case h3=>exact zr5 (zrD _)
 refine Ea (I1.toks k) λI2 S2=>?_
 exact ⟨G1,I2,S1.trans0 I1 S2,.d (.str _ t')⟩
theorem zp4 {op:CmpOp}{x:PySem.Str}{kc:Nat}{cpos:Pos}{r:Expr}{pos:Pos}{m:HP->V->V->Option (V × HP)}{mr:St->Option (V × HP)}(ho:zbi prog w B n (compareOp op) m) (hr:ESound prog w B n F r mr)
  (hm:behindInMarks op r=false):zly prog w B n F (.Compare (.Constant (.str x) kc cpos) [op] [r] pos) (zay (zat m (zal (.str x)) mr)):=λst b hp' e A hA G s I X=>by
 refine zeH (zdq (zgP e)) λa h1 b' h2 e1 e2 e3=>?_
 cases e1
 refine wpAny_isTrue_Compare1 (wpAny_Constant_str ?_) hm
 obtain ⟨I1,S1⟩:=I.toks (s.toks + 1)
 refine wpAny_with_toks (n:=1) (show 1<=s.toks + 1 by exact zrw _) ?_
 refine wpAny_mono (hr st b' h2 e2 A hA G _ I1 (X.step S1)) (λcb s2 p=>?_) λZ Z x=>x.elim
 refine PostV.E p λG2 I2 S2 r2=>?_
 intro htk2
 refine wpAny_with_toks (n:=1) htk2 (wpAny_mono (ho h2 _ b' _ hp' e3 A hA G2 s2 _ cb I2 (.d (.str x _)) r2) (λcv s3 q=>?_) λZ Z x=>x.elim)
 refine PostV.E q λG3 I3 S3 r3=>?_
 intro htk3
 refine r3.bool_inv▸?_
 exact wpAny_truthy_bool ⟨htk3,rfl,G3,I3,(S1.trans0 I1 S2).trans0 I2 S3⟩
theorem zbd {x:Expr}{pos:Pos}{m:St->Option (V × HP)}(hx:ESound prog w B n F x m):ESound prog w B n F (.UnaryOp .USub x pos) (zde m):=λst v hp' e A hA G s I X=>by
 refine zfG e λv0 h q e=>zdA e λi qv e=>?_
 refine zcy e ?_
 refine wpAny_UnaryOp (hx.use q hA I X λcv s1 G1 I1 S1 r1=>?_)
 refine (qv▸r1:RV G1 cv (.d (.int i))).int_elim λt=>?_
 exact PySem.P.neg_int (PostV.step I1 S1 (zdh I1))
theorem ziY {x:Expr}{pos:Pos}{m:St->Option (V × HP)}(hx:ESound prog w B n F x m):ESound prog w B n F (.FormattedValue x (-1) none pos) (zoB m):=λst v hp' e A hA G s I X=>by
 refine zfG e λv h q e=>zd8 e λy q0 e=>Ea (zaK e) λhl e=>?_
 refine zcy e ?_
 refine wpAny_FormattedValue_plain (hx.use q hA I X λcv s1 G1 I1 S1 r1=>?_)
 refine (q0▸r1:RV G1 cv (.d (.str y))).str_elim λt=>?_
 have:=za1 hl
 exact wpAny_formatField_str (PostV.step I1 S1 (za3 I1 (.d (.str _ _)))) (PostV.step I1 S1 (zdK I1)) (hx:=by unfold sizeLine;exact (zrn (m:=1048576) (k:=16777216) this (by lia)))
end
end Mine
namespace Mine
open PySem PySem.W PySem.Spec PySem.Calls PyProof.Rows
noncomputable def zqB (k:Int) (len:Nat):Option Nat:=if -(2 ^ 62)<=k/\k < 2 ^ 62/\len < 2 ^ 62 then seqIndex? k len else none
noncomputable def zpD (mo mi:St->Option (V × HP)):St->Option (Fl × St):=λst=>bV (mo st) λo h1=>onR (λid=>bV (mi ⟨st.loc,h1⟩) λi h2=>onI (λk=>bO h2[id]? λold=>
 if zbr old.length then (zqB k old.length).bind λj=>some (.next,⟨st.loc,h2.set id (some (old.eraseIdx j))⟩) else none) i) o
noncomputable def zqr (k:Nat) (m:St->Option (V × HP)):St->Option (Fl × St):=λst=>(st.loc[k]?.join).bind (onI λa=>bV (m st) λw h=>onI (λb=>if k < st.loc.length then some (.next,⟨st.loc.set k (some (.d (.int (a + b)))),h⟩) else none) w)
noncomputable def zht (mo:St->Option (V × HP)) (y:Str):St->Option (Fl × St):=λst=>bV (mo st) λo h=>onR (λid=>bO h[id]? λold=>
 if zbr old.length then old.getLast?.bind (onS λx=>if zbr (x.length + y.length) then some (.next,⟨st.loc,h.set id (some (old.dropLast++[.d (.str (x++y))]))⟩) else none) else none) o
noncomputable def zgR (ma mb mc:St->Option (V × HP)):St->Option (Bool × HP):=λst=>bV (ma st) λva h1=>onI (λa=>bV (mb ⟨st.loc,h1⟩) λvb h2=>onI (λb=>if a<=b then bV (mc ⟨st.loc,h2⟩) λvc h3=>onI (λc=>some (decide (b<=c),h3)) vc else some (false,h2)) vb) va
section
variable {prog:Program}{w:World}{B:Bs}{n:Nat}{F:FI}
theorem zmt {x:Str}{pos pos':Pos}{value:Expr}{m:St->Option (V × HP)}{k:Nat}(he:ESound prog w B n F value m) (hk:F.nm[k]?=some (some x)) (hkind:F.env.kindOf x=some .local\/(F.env.kindOf x=some .cell/\x ∈ F.cs)) (hx:(x==("__classdict__":Str))=false) :
  SSound prog w B n F (exec (.AugAssign (.Name x pos') .Add value pos) F.env) (zqr k m):=λst fl st' e A hA G s I X=>by
 refine opB e λva ha e=>zdA e λa qa e=>zfG e λvb h q e=>zdA e λb qb e=>Ea (zaK e) λhlen e=>?_
 cases e
 refine Eea (X.loc k x _ hk (qa▸Option.join_eq_some_iff.mp ha)) λcv L r=>?_
 (refine Ee r.int_inv λt q0=>?_;subst q0)
 refine wpAny_AugAssign_Name (zgh X.ok L (he.use q hA I X λcb s1 G1 I1 S1 r1=>?_) hx)
 refine (qb▸r1:RV G1 cb (.d (.int b))).int_elim λu=>?_
 refine wpAny_iadd_int ?_
 refine Ea (I1.toks (s1.toks + 1)) λI2 S2=>?_
 have S12:=S1.trans0 I1 S2
 refine wpAny_mono (zdN (st:=⟨st.loc,h⟩) hk hkind hlen I2 (X.step S12) (.d (.int (a + b) _))) (λZ s3 p3=>?_) λZ Z x=>x
 refine PostU.E p3 λG3 I3 X3 S3=>?_
 exact ⟨G3,I3,X3,S12.weak.trans I2 S3 (λZ h=>h),.next⟩
theorem zmu {o i:Expr}{pos dpos:Pos}{mo mi:St->Option (V × HP)}(ho:ESound prog w B n F o mo) (hi:ESound prog w B n F i mi):SSound prog w B n F (exec (.Delete [.Subscript o i pos] dpos) F.env) (zpD mo mi):=λst fl st' e A hA G s I X=>by
 refine zfG e λo h1 q1 e=>ziN e λid qo e=>zfG e λi h2 q2 e=>zdA e λk qi e=>zmQ e λold hid e=>Ea (zaK e) λhl e=>opB e λj hj e=>?_
 cases e
 refine wpAny_Delete (wpAny_deleteEach_cons ?_)
 rw [arm_delete_Subscript]
 refine wpAny_bind (ho.use q1 hA I X λco s1 G1 I1 S1 r1=>?_)
 refine wpAny_bind (wpAny_holding (hi.use q2 hA I1 (X.step S1) λci s2 G2 I2 S2 r2=>?_))
 refine (qi▸r2:RV G2 ci (.d (.int k))).int_elim λt=>?_
 refine (qo▸r1.step S2:RV G2 co (.l id)).l_elim λa ef=>?_
 refine I2.lstE hid ef λitems e2 e3 e4=>?_
 have hsz:items.size=old.length:=e4.asize
 have hl:=za1 hl
 refine Ea (zaK hj) λhb hj=>?_
 have hjl:j < old.length:=by rcases zey hj with ⟨_,_,rfl⟩ | ⟨_,_,rfl⟩ <;> first | exact tlt ‹_› ‹_› | exact zrh ‹_› ‹_›
 refine wpAny_bind (wpAny_standAt (wpAny_bind (wpAny_holding (wpAny_delItem_plain (k:=j) e3 ?_ (by refine (congrArg _ hsz).trans ?_;exact hj) (λh' hp' hs'=>?_) (by rw [hsz];unfold sizeLine;exact zrn hl (zN rfl))))))
 ·unfold Builtin.List.listFitsIndex
  simp only [zrA,decide_eq_true_eq]
  exact ⟨zrO (by decide) hb.1,zsu hb.2.1 (by decide)⟩
 ·refine wpAny_release (wpAny_deleteEach_nil ?_)
  have S12:=S1.trans0 I1 S2
  have hcut:RVs G2 (items.eraseIdxIfInBounds j).toList (old.eraseIdx j):=by
   have:(items.eraseIdxIfInBounds j).toList=items.toList.take j++items.toList.drop (j + 1):=by
    unfold ztP
    rw [dif_pos (by exact hsz▸hjl),zt4,zsL]
   rw [this,zsL]
   exact (e4.take j).append (e4.drop (j + 1))
  obtain ⟨I3,S3⟩:=I2.setList (s':={ s2 with heap:=h' }) hid ef hs' rfl rfl hp' hcut
  exact ⟨G2,I3,(X.step S12).step S3,(S12.trans0 I2 S3).weak,.next⟩
theorem zlr {l r1 r2:Expr}{pos:Pos}{ma mb mc:St->Option (V × HP)}(ha:ESound prog w B n F l ma) (hb:ESound prog w B n F r1 mb) (hc:ESound prog w B n F r2 mc) (hm:lastMarks [.LtE,.LtE] [r1,r2]=false) :
  QSound prog w B n F (.Compare l [.LtE,.LtE] [r1,r2] pos) (zgR ma mb mc):=λst b hp' e A hA G s I X=>by
 refine zfG e λva h1 q1 e=>zdA e λa qa e=>zfG e λvb h2 q2 e=>zdA e λbb qb e=>?_
 refine isTrue_chain (ha.use q1 hA I X λca s1 G1 I1 S1 k1=>?_) hm
 refine (qa▸k1:RV G1 ca (.d (.int a))).int_elim λt=>?_
 refine test_link (hb.use q2 hA I1 (X.step S1) λcb s2 G2 I2 S2 k2=>?_)
 refine (qb▸k2:RV G2 cb (.d (.int bb))).int_elim λu=>?_
 have S12:=S1.trans0 I1 S2
 refine le_int (wpAny_truthy_bool ?_)
 by_cases hab:a<=bb
 ·rw [if_pos hab] at e
  simp only [hab,decide_true,if_true]
  refine zfG e λvc h3 q3 e=>zdA e λc qc e=>?_
  refine zcy e ?_
  refine test_last (hc.use q3 hA I2 (X.step S12) λcc s3 G3 I3 S3 k3=>?_)
  refine (qc▸k3:RV G3 cc (.d (.int c))).int_elim λv=>?_
  exact le_int (wpAny_truthy_bool ⟨rfl,G3,I3,S12.trans0 I2 S3⟩)
 ·rw [if_neg hab] at e
  refine zcy e ?_
  simp only [hab,decide_false,zsd,if_false]
  exact ⟨rfl,G2,I2,S12⟩
theorem zjH {A:Around}{E:Value->Shared->Prop}{s:Shared}{l:Addr}{items:Array Value}{k:Int}{t:Tok}{v:Value}{Q:Unit->Shared->Prop}(hl:s.heap.PlainList l items)
  (h0:k < 0) (h1:-(items.size:Int)<=k) (hfit:-(2 ^ 63)<=k) (hQ:∀ h',h'.PlainList l (items.setIfInBounds (k + items.size).toNat v)->Heap.SameBut l s.heap h'->Q () { s with heap:=h' }) :
  wpAny (model prog w) A (setItem (.ref l) (.int k t) v) Q E s:=by
 obtain ⟨o,ho,hc,ne,hd⟩:=id hl.isList
 unfold setItem
 try with_reducible refine wpAny_holding ?_
 first | refine wpAny_bind (wpAny_pure ?_) | skip
 refine wpAny_bind (wpAny_sequenceKey hl.isList.typeIs (by decide) ?_)
 refine wpAny_bind (wpAny_callSpecial?_slot (name:=Str.ofString "__setitem__") hl.isList.typeIs slot_list_setitem
  (wpAny_call_entry slot_list_setitem hl.isList.typeIs entry_list_setitem ?_ (args_list_setitem _ _ _)))
 show wpAny _ _ (Builtin.List.listSubscript? (.int k t) >>= _) _ _ s
 refine wpAny_bind (wpAny_listSubscript_int (fitsIndex_neg h0 hfit) ?_)
 clear hfit
 have hidx:=seqIndex_neg h0 h1
 obtain ⟨j,rfl⟩:∃ j:Nat,k=Int.negSucc j:=by
  cases k with
  | ofNat n=>exact absurd h0 (zsa.mpr (Int.ofNat_nonneg n))
  | negSucc n=>exact ⟨n,rfl⟩
 have hj:(Int.negSucc j + (items.size:Int)).toNat < items.size:=ngt h1
 have hx':items[(Int.negSucc j + (items.size:Int)).toNat]?=some items[(Int.negSucc j + (items.size:Int)).toNat]:=ztI hj
 refine wpAny_bind (wpAny_bind ?_)
 refine wpAny_bind (wpAny_seqItems ho hd (wpAny_pure (wpAny_pure ?_)))
 refine hidx▸?_
 simp only [zuB,hx',zuI]
 show wpAny _ _ (setSeqItemAt l (Int.negSucc j + (items.size:Int)).toNat v >>= _) _ _ s
 refine wpAny_bind (wpAny_setSeqItemAt ho hd ?_)
 have hfin:=zjq hl (·.setIfInBounds (Int.negSucc j + (items.size:Int)).toNat v)
 first
  | exact wpAny_bind (wpAny_pure (wpAny_pure ⟨.none,rfl,wpAny_pure (hQ _ hfin (Heap.SameBut.update ..))⟩))
  | exact wpAny_pure ⟨.none,rfl,wpAny_pure (hQ _ hfin (Heap.SameBut.update ..))⟩
theorem zh3 {o i:Expr}{y:Str}{kc:Nat}{tpos pos cpos:Pos}{mo:St->Option (V × HP)}(ho:ESound prog w B n F o mo) (hi:∃ mi,ESound prog w B n F i mi/\∀ st,mi st=some (.d (.int (-1)),st.hp))
  (ha:∀ ov iv new,augStore i ov iv new=(do holding [new,ov,iv] (setItem ov iv new);release [new,ov,iv] [];pure .next)) :
  SSound prog w B n F (exec (.AugAssign (.Subscript o i tpos) .Add (.Constant (.str y) kc cpos) pos) F.env) (zht mo y):=λst fl st' e A hA G s I X=>by
 refine Eea hi λmi hi hmi=>?_
 refine zfG e λo h q1 e=>ziN e λid qo e=>zmQ e λold hid e=>Ea (zaK e) λhl e=>opB e λvl hlast e=>zd8 e λx qx e=>Ea (zaK e) λhxy e=>?_
 cases e
 refine wpAny_AugAssign_SubscriptAny (ho.use q1 hA I X λco s1 G1 I1 S1 r1=>?_) ha
 refine wpAny_mono (hi ⟨st.loc,h⟩ _ _ (hmi _) A hA G1 s1 I1 (X.step S1)) (λci s2 p2=>?_) λZ Z x=>x
 refine PostV.E p2 λG2 I2 S2 r2=>?_
 refine r2.int_elim λt=>?_
 have S12:=S1.trans0 I1 S2
 refine (qo▸r1.step S2:RV G2 co (.l id)).l_elim λa ef=>?_
 refine I2.lstE hid ef λitems e2 e3 e4=>?_
 have hsz:items.size=old.length:=e4.asize
 have hl:=za1 hl
 have hxy:=za1 hxy
 have hne:old≠[]:=λh=>by replace hlast:=h▸hlast;exact zan hlast
 have hpos:0 < old.length:=zsh.mpr hne
 have hv2:old[old.length - 1]?=some (.d (.str x)):=(ztJ.symm.trans hlast).trans (congrArg some qx)
 refine Eea (e4.get hv2) λcx hcx rx=>?_
 have hk:((-1:Int) + items.size).toNat=old.length - 1:=hsz▸zri (hsz▸hpos)
 (refine Ee rx.str_inv λu q0=>?_;subst q0)
 refine wpAny_getItem_list_neg e3.isList (by decide) (ifk (zqj (zpo (zul.mpr hsz)) (zrS.mpr hpos)) (by simp +arith)) (by decide) (by refine (congrArg _ hk).trans ?_;simpa using hcx) ?_
 refine wpAny_Constant_str ?_
 refine iadd_str (λt' k=>?_) (by unfold sizeLine;exact zrn hxy (zN rfl))
 have hT:({ s2 with toks:=k }:Shared).heap.PlainList a items:=e3
 refine zjH (s:={ s2 with toks:=k }) hT (by decide) (zrc (hsz▸hpos)) (by decide) λh' hp' hs'=>?_
 rw [hk] at hp'
 refine Ea (I2.toks k) λI3 S3=>?_
 have hset:RVs G2 (items.setIfInBounds (old.length - 1) (.str (x++y) t')).toList (old.dropLast++[.d (.str (x++y))]):=by
  have:old.dropLast++[V.d (.str (x++y))]=old.set (old.length - 1) (.d (.str (x++y))):=by
   obtain ⟨p,z,rfl⟩:∃ p z,old=p++[z]:=⟨old.dropLast,old.getLast hne,(List.dropLast_concat_getLast hne).symm⟩
   simp
  rw [this,ztC]
  exact e4.set (.d (.str _ _))
 obtain ⟨I4,S4⟩:=I3.setList (s':={ s2 with heap:=h',toks:=k }) hid ef hs' rfl rfl hp' hset
 exact ⟨G2,I4,((X.step S12).step S3).step S4,((S12.trans0 I2 S3).trans0 I3 S4).weak,.next⟩
inductive zps (prog:Program) (w:World) (B:Bs) (n:Nat) (F:FI):List Expr->List (St->Option (V × HP))->Prop
 | nil:zps prog w B n F [] []
 | cons {e:Expr} {m:St->Option (V × HP)} {es:List Expr} {ms:List (St->Option (V × HP))}:ESound prog w B n F e m->zps prog w B n F es ms->zps prog w B n F (e::es) (m::ms)
theorem znp {A:Around}(hA:AOk n A) {es:List Expr}{ms:List (St->Option (V × HP))}(acc:Str) (st:St) (x:Str) (h:HP) (G:Gh) (s:Shared) (Q:Str->Shared->Prop) (hf:zps prog w B n F es ms):zkW ms acc st=some (x,h)->BInv B ⟨G,st.hp,s⟩->FrInv B F st.loc ⟨G,st.hp,s⟩->
  (∀ G' s',BInv B ⟨G',h,s'⟩->Stp B [] ⟨G,st.hp,s⟩ ⟨G',h,s'⟩->Q x s')->Joins (model prog w) A NoE (evalEach es F.env) acc Q s:=by
 induction hf generalizing acc st G s with
 | nil=>intro q I X hQ;cases q;exact hQ G s I (Stp.refl _)
 | cons he hr ih=>
  intro q I X hQ
  refine zfG q λv h1 q1 q=>zd8 q λy q0 q=>Ea (zaK q) λhl q=>?_
  refine he.use q1 hA I X λcv s1 G1 I1 S1 k1=>?_
  refine (q0▸k1:RV G1 cv (.d (.str y))).str_elim λt=>?_
  exact ⟨y,t,rfl,by unfold sizeLine;exact zrn (za1 hl) (zN rfl),ih (acc++y) ⟨st.loc,h1⟩ G1 s1 q I1 (X.step S1) λG' s' I' S'=>hQ G' s' I' (S1.trans0 I1 S')⟩
theorem zhf {v1 v2:Expr}{rest:List Expr}{pos:Pos}{ms:List (St->Option (V × HP))}(hs:zps prog w B n F (v1::v2::rest) ms):ESound prog w B n F (.JoinedStr (v1::v2::rest) pos) (ziy ms):=λst v hp' e A hA G s I X=>by
 unfold ziy at e
 split at e
 ·rename_i x h q
  split at e
  ·rename_i hl
   refine zcy e ?_
   have:=za1 hl
   refine wpAny_JoinedStr (znp hA Str.empty st x _ G s _ hs q I X λG' s' I' S'=>⟨by unfold sizeLine;exact zrn this (zN rfl),?_⟩)
   exact PostV.step I' S' (zdK I')
  ·exact zan e
 ·exact zan e
end
section
variable {prog:Program}{w:World}{A:Around}{E:Value->Shared->Prop}{s:Shared}
theorem zh8:isSubtype (.type "KeyError") (.type "LookupError")=pure true:=by rw [isSubtype_type];kernel_rfl
theorem zfg {d:Addr}{f:Int->Option Value}{c:Nat}{y:Str}{t:Tok}{Q:Builtin.Str.Mapped->Shared->Prop}(hm:s.heap.IntMap d f) (hv:f (c:Int)=some (.str y t))
  (h:∀ k,Q (.text y) { s with toks:=k }):wpAny (model prog w) A (Builtin.Str.tableLookup (.ref d) c) Q E s:=by
 refine wpAny_bind (wpAny_attempt (wpAny_bind (wpAny_mkInt (wpAny_getItem_intMap hm hv ?_))))
 exact wpAny_bind (wpAny_of_eq (a:=none) rfl (wpAny_bind (wpAny_of_eq (a:=some y) rfl (wpAny_pure (h _)))))
theorem zgF {d:Addr}{f:Int->Option Value}{c:Nat}{Q:Builtin.Str.Mapped->Shared->Prop}(hh:A.handled=none) (hd:(d==sysModules)=false) (hm:s.heap.MapOf (intKind prog w) d f) (hv:f (c:Int)=none)
  (h:∀ h' k,(∀ b o,s.heap.get? b=some o->h'.get? b=some o)->Q .keep { s with heap:=h',toks:=k }):wpAny (model prog w) A (Builtin.Str.tableLookup (.ref d) c) Q E s:=by
 refine wpAny_bind (wpAny_attempt (wpAny_bind (wpAny_mkInt (wpAny_getItem_missing_of (knd:=intKind prog w) (s:={ s with toks:=s.toks + 1 }) (key:=.int c s.toks) (by simp [intKind,Value.isInt]) hd hh hm hv λh' e hx=>?_))))
 refine zcG hx.there λob t h1 h2 h3=>?_
 refine wpAny_bind (wpAny_isInstance (T:="KeyError") (b:=true) ⟨_,h1,h2⟩ zh8 ?_)
 exact wpAny_bind (wpAny_rule (wpAny_pure (h _ _ hx.keeps)))
noncomputable def trV (c:Nat):Option Value->Option Str
 | some (.str y _)=>if y.length==2 then some y else none
 | none=>some ⟨#[c]⟩
 | _=>none
noncomputable def zgt (f:Int->Option Value) (c:Nat):Option Str:=trV c (f (c:Int))
theorem zqQ {c:Nat}{o:Option Value}{y:Str}{Q:Prop}(h:trV c o=some y) (h1:∀ t,o=some (.str y t)->(y.length==2)=true->Q) (h2:o=none->⟨#[c]⟩=y->Q):Q:=by
 cases o with
 | none=>exact h2 rfl (Option.some.inj h)
 | some v=>cases v with
  | str z t=>exact Ea (zaK (show (if (z.length==2)=true then some z else none)=some y from h)) λhl e=>h1 t (Option.some.inj e▸rfl) (Option.some.inj e▸hl)
  | _=>exact zan h
theorem zfX {d:Addr}{f:Int->Option Value}{c:Nat}{y:Str}{t:Tok}{Q:Value->Shared->Prop}(hh:A.handled=none) (hd:(d==sysModules)=false) (hm:s.heap.MapOf (intKind prog w) d f) (hc:c < 128) (hy:zgt f c=some y)
  (h:∀ h' t' k,(∀ b o,s.heap.get? b=some o->h'.get? b=some o)->Q (.str y t') { s with heap:=h',toks:=k }) :
  wpAny (model prog w) A (call (.builtin "str.translate") [.str ⟨#[c]⟩ t,.ref d]) Q E s:=by
 refine wpAny_call_entry PySem.F.slot_str_translate (typeIs_str _ _ _) PySem.F.entry_str_translate ?_ (PySem.F.args_str_translate_2 _ _)
 refine wpAny_bind (wpAny_of_eq (a:=(.str ⟨#[c]⟩ t,⟨#[c]⟩,.ref d)) (by first | rfl | kernel_rfl) ?_)
 dsimp only
 refine KFB.if_not rfl ?_
 have hall:(⟨#[c]⟩:Str).cps.all (· < 128)=true:=by simp [hc]
 refine (Eq.symm hall)▸?_
 simp only [<- Array.forIn_toList]
 rw [zsI]
 refine wpAny_bind (wpAny_bind ?_)
 refine KFB.if_not (by decide) ?_
 refine KFB.if_so rfl ?_
 refine zqQ hy (λt2 hv hlen=>?_) λhv hy=>?_
 ·skip
  have hl2:y.length=2:=by simpa using hlen
  have hl1:(y.length==1)=false:=by rw [hl2];rfl
  refine wpAny_bind (zfg hm.intMap hv λk=>?_)
  simp only [hl1,zti,zsd,if_false]
  refine wpAny_bind (wpAny_pure ?_)
  refine wpAny_bind (wpAny_rule ?_)
  refine wpAny_bind (zfg (s:={ s with toks:=k }) hm.intMap hv λk=>?_)
  refine wpAny_pure ?_
  refine wpAny_of_eq (ztH ..) ?_
  refine KFB.if_not (by simp [Builtin.Str.tooLong,hl2,sizeLine]) ?_
  refine wpAny_bind (wpAny_mkStr (wpAny_pure ⟨_,rfl,?_⟩) ?_)
  ·have e:(⟨(zuV [y]).foldl (λacc p=>acc++p.cps) #[]⟩:Str)=y:=by simp
   rw [e]
   exact h _ _ _ λZ Z e=>e
  ·show ((zuV [y]).foldl (λacc p=>acc++p.cps) #[]).size<=sizeLine
   have:y.cps.size=2:=hl2
   simp [this]
   unfold sizeLine;exact (by simp +arith)
 ·subst hy
  refine wpAny_bind (zgF hh hd hm hv λh' k hk=>?_)
  dsimp only
  refine wpAny_bind (wpAny_pure ?_)
  refine wpAny_pure ?_
  refine wpAny_of_eq (ztH ..) ?_
  dsimp only
  refine KFB.if_not (by decide) ?_
  refine wpAny_bind (wpAny_mkStr (wpAny_pure ⟨_,rfl,?_⟩) ?_)
  ·exact h _ _ _ hk
  ·show (#[c]:Array Nat).size<=sizeLine
   exact zN rfl
end
noncomputable def zkO (m:St->Option (V × HP)):St->Option (V × HP):=λst=>bV (m st) λv h=>onL (λxs=>if zbr xs.length then some (.l h.length,h++[some (xs.map V.d)]) else none) v
noncomputable def zil:HP->List V->Option (List PyData × HP)
 | hp,[]=>some ([],hp)
 | hp,v::r=>bV (zhE hp v) λy h=>onD (λx=>(zil h r).map λp=>(x::p.1,p.2)) y
theorem zeK {hp h h':HP}{v:V}{r:List V}{x:PyData}{xs:List PyData}(e1:zhE hp v=some (.d x,h)) (e2:zil h r=some (xs,h')):zil hp (v::r)=some (x::xs,h'):=
 (congrArg (bV · _) e1).trans (congrArg (Option.map _) e2)
open Classical in
noncomputable def zos (hp:HP):V->Option (V × HP):=onR λid=>bO hp[id]? λvs=>(zil hp vs).bind λp=>if p.2[id]?=some (some vs) then some (.d (.list p.1),p.2.set id none) else none
theorem zlF {hp h:HP}{id:Nat}{vs:List V}{xs:List PyData}(e1:hp[id]?=some (some vs)) (e2:zil hp vs=some (xs,h)) (e3:h[id]?=some (some vs)):zos hp (.l id)=some (.d (.list xs),h.set id none):=
 by
 show bO hp[id]? _=_
 rw [e1]
 show (zil hp vs).bind _=_
 rw [e2]
 exact if_pos e3
noncomputable def zor (m:St->Option (V × HP)):St->Option (V × HP):=λst=>bV (m st) λv h=>zos h v
noncomputable def trS (d:Addr) (f:Int->Option Value):List V->HP->Option (V × HP):=λvs hp=>on2 (λu b=>onS (λx=>match b with
 | .raw (.ref a)=>(match x.cps.toList with
  | [c]=>if a=d/\c < 128 then (zgt f c).map λy=>(.d (.str y),hp) else none
  | _=>none)
 | _=>none) u) vs
section
variable {prog:Program}{w:World}{B:Bs}{n:Nat}{F:FI}
theorem zli {value:Expr}{p pos:Pos}{ml:St->Option (V × HP)}(hl:ESound prog w B n F value ml) :
  ESound prog w B n F (.Subscript value (.Slice none none none p) pos) (zkO ml):=λst v hp' e A hA G s I X=>by
 refine zfG e λv0 h q e=>znB e λxs qv e=>Ea (zaK e) λhlen e=>?_
 cases e
 refine Subscript_ (wpAny_mono (hl st _ _ q A hA G s I X) (λca s1 p1=>wpAny_Slice ?_) λZ Z x=>x)
 refine PostV.E p1 λG1 I1 S1 r1=>?_
 rw [evalPart_none]
 refine wpAny_pure ?_
 refine wpAny_pure ?_
 refine wpAny_pure ?_
 have hs:∀ o i,subscripted (.Slice none none none p) false o i=operate [i,o] (getItem o i):=λZ Z=>rfl
 obtain ⟨J,T⟩:=I1.grow (s':={ s1 with heap:=s1.heap.push { cls:=.type "slice",data:=.fields #[.none,.none,.none] } }) (λa o e=>Heap.get?_push_of_some _ e) rfl rfl
 obtain ⟨l,items,rfl,h1,h2⟩:=zdc I1 (v:=.d (.list xs)) (xs:=xs.map V.d) rfl (qv▸r1)
 have hsz:items.size=(xs.map V.d).length:=h2.asize
 have hl2:=za1 hlen
 refine tail_any (h1.push _).typeIs slot_list_getitem.lookup (wpAny_getItem_list_slice (h1.push _) (Heap.IsSliceOf.new ..) .none .none .none (by decide) ?_ (by rw [hsz];simp only [zrN];exact zrn hl2 (by decide))) (hs _ _)
 have pick:RVs G1 (slicePick items none none none).toList (xs.map V.d):=by
  rw [zfl]
  have:zaY items.toList none none=items.toList:=by
   show (items.toList.take items.toList.length).drop 0=items.toList
   refine (congrArg _ zs2).trans ?_;rfl
  rw [this];exact h2
 obtain ⟨G',a1,a2,a3⟩:=zgk (G:=G1) (hp:=h) (k:=s1.toks) (n:=0) J pick
 exact ⟨G',a1,(S1.trans0 I1 T).trans0 J a2,a3⟩
theorem zm0 {vs:List V}{c:Cfg}{cvs:List Value}{xs:List PyData}{hp':HP}(I:BInv B c) (r:RVs c.G cvs vs) (h:zil c.hp vs=some (xs,hp')) :
  ∃ g',BInv B ⟨⟨g',c.G.f⟩,hp',c.s⟩/\Stp B [] c ⟨⟨g',c.G.f⟩,hp',c.s⟩/\RVs ⟨g',c.G.f⟩ cvs (xs.map V.d):=by
 induction vs generalizing c cvs xs hp' with
 | nil=>cases r;refine zcy h ?_;exact ⟨c.G.g,I,Stp.refl _,.nil⟩
 | cons v vs ih=>
  refine RVs.cons_elim r λc1 cs r1 r2=>?_
  refine zfG (show bV (zhE c.hp v) _=some (xs,hp') from h) λy h1 e1 h=>zfA h λx q h=>Eea (zr8.mp h) λp e2 h=>?_
  cases p with | mk ys h2=>
  refine zcy (congrArg some h) ?_
  refine zkE (zlU I r1 e1) λg1 I1 S1 k1 Z=>zkD (ih (c:=⟨⟨g1,c.G.f⟩,h1,c.s⟩) I1 (r2.step S1) e2) λg2 I2 S2 k2=>?_
  exact ⟨g2,I2,S1.trans0 I1 S2,.cons ((q▸k1:RV ⟨g1,c.G.f⟩ c1 (.d x)).step S2) k2⟩
theorem BInv.retell {c:Cfg}(I:BInv B c) {id:Nat}{a:Addr}{old vs:List V}(hid:c.hp[id]?=some (some old)) (hf:c.G.f id=some a) (h:∀ items,c.s.heap.PlainList a items->RVs c.G items.toList old->RVs c.G items.toList vs) :
  BInv B ⟨c.G,c.hp.set id (some vs),c.s⟩/\Stp B [] c ⟨c.G,c.hp.set id (some vs),c.s⟩:=by
 refine LstAt.E (I.lst id old hid) λa' items e1 e2 e3 e4=>?_
 rw [hf] at e1;cases e1
 exact I.setList (s':=c.s) hid hf (Heap.SameBut.refl ..) rfl rfl e3 (h items e3 e4)
theorem zlj {t:Sem Value}{m:St->Option (V × HP)}(h:TSound prog w B n F t m):TSound prog w B n F t (zor m):=λst v hp' e A hA G s I X=>by
 refine zfG e λv1 h1 q e=>?_
 refine h.use q hA I X λcv s' G' I' S' r=>?_
 refine ziN e λid qv e=>zmQ e λvs hid e=>Eea (ztS.mp e) λp q2 e=>Ea (zhL e) λhsame e=>?_
 cases p with | mk xs h2=>
 refine zcy e ?_
 refine (qv▸r:RV G' cv (.l id)).l_elim λa hf=>?_
 refine LstAt.E (I'.lst id vs hid) λa' items e1 e2 e3 e4=>?_
 rw [hf] at e1;cases e1
 refine zkD (zm0 I' e4 q2) λg1 I1 S1 k1=>?_
 obtain ⟨I2,S2⟩:=I1.retell (vs:=xs.map V.d) hsame hf (λitems' hp' Z=>by
  refine Ee hp' λn1 p1=>?_
  refine Ee e3 λn2 p2=>?_
  rw [show (⟨⟨g1,G'.f⟩,h2,s'⟩:Cfg).s.heap.get? a=s'.heap.get? a from rfl,show (⟨G',h1,s'⟩:Cfg).s.heap.get? a=s'.heap.get? a from rfl] at *
  rw [p2] at p1;cases p1;exact k1)
 have hlen:id < h2.length:=(zr0.mp hsame).1
 obtain ⟨g3,I3,S3,r3⟩:=I2.freeze (id:=id) (a:=a) (xs:=xs) (by show (h2.set id (some (xs.map V.d)))[id]?=_;exact (zru hlen)) hf
 refine ⟨⟨g3,G'.f⟩,?_,?_,r3⟩
 ·have:=I3;simpa using this
 ·have:=((S'.trans0 I' S1).trans0 I1 S2).trans0 I2 S3;simpa using this
theorem zkK {d:Addr}{f:Int->Option Value}(hd:(d==sysModules)=false) (hm:B.h.MapOf (intKind prog w) d f):zaM prog w B n (.builtin "str.translate") (trS d f):=λhp vs v hp' e A hA G s cvs I r=>by
 refine zlb e λu b q e=>zd8 e λx qx e=>?_
 have hb:∃ a,b=.raw (.ref a):=by
  cases b with
  | raw z=>
   cases z with
   | ref a=>exact ⟨a,rfl⟩
   | _=>exact zan e
  | _=>exact zan e
 obtain ⟨a,rfl⟩:=hb
 generalize hx:x.cps.toList=l at e
 cases l with
 | nil=>exact zan e
 | cons c l=>
 cases l with
 | cons _ _=>exact zan e
 | nil=>
 refine Ea (zaK e) λhc e=>opM e λy hy e=>?_
 cases e
 obtain ⟨rfl,hc⟩:=hc
 refine (qx▸q▸r:RVs G cvs [.d (.str x),.raw (.ref a)]).two_elim λc1 c2 h1 h2=>?_
 cases h2
 refine h1.str_elim λt=>?_
 refine (zoa hx)▸?_
 refine zfq hm λo es ep m1 m2=>?_
 refine zfX hA.1 hd ⟨o,es,ep,I.baseIn _ _ m1,m2⟩ hc hy λh' t' k hk=>?_
 obtain ⟨I2,S2⟩:=I.grow (s':={ s with heap:=h',toks:=k }) hk rfl rfl
 exact ⟨G,I2,S2,.d (.str _ _)⟩
end
section
variable {prog:Program}{w:World}{B:Bs}{n:Nat}{F:FI}
theorem zbZ {o i value:Expr}{pos' pos:Pos}{m:St->Option (V × HP)}{u:V->St->Option St}(he:ESound prog w B n F value m) (hu:zcI prog w B n F (assign (.Subscript o i pos') F.env) u)
  (hs:swapsWith value (some (.Subscript o i pos')) pos.line F.env=pure false):SSound prog w B n F (exec (.Assign [.Subscript o i pos'] value pos) F.env) (doM m u):=λst fl st' h A hA G s I X=>by
 refine mPV h λv h1 q h=>?_
 cases q2:u v ⟨st.loc,h1⟩ with
 | none=>rw [q2] at h;exact zan h
 | some st1=>
  rw [q2] at h;cases h
  refine (exec_Assign_Subscript o i pos' value pos hs)▸?_
  refine wpAny_bind (wpAny_standAt (wpAny_bind (he.use q hA I X λcv s1 G1 I1 S1 r1=>?_)))
  refine wpAny_bind (wpAny_mono (hu ⟨st.loc,h1⟩ v _ q2 A hA G1 s1 cv I1 (X.step S1) r1) (λZ s2 p=>wpAny_pure ?_) λZ Z x=>x)
  refine PostU.E p λG2 I2 X2 S2=>?_
  exact ⟨G2,I2,X2,S1.weak.trans I1 S2 (λZ h=>h),.next⟩
theorem za0 {nm:List (Option PySem.Str)}(h:∀ i < nm.length,∀ j < nm.length,nm[i]?=nm[j]?->i=j):∀ (i j:Nat) (x:PySem.Str),nm[i]?=some (some x)->nm[j]?=some (some x)->i=j:=λi j x h1 h2=>
 h i (zr0.mp h1).1 j (zr0.mp h2).1 (h1.trans h2.symm)
theorem zci {pn:List PySem.Str}{rest:List (Option PySem.Str)}:∀ (k:Nat) (x:PySem.Str),pn[k]?=some x->(pn.map some++rest)[k]?=some (some x):=λk x h=>by
 have hk:=(zr0.mp h).1
 rw [zrC (by simpa using hk),zr7,h];rfl
theorem zk9 {α:Type}{l:List α}(h:l.length=1):∃ a,l=[a]:=List.length_eq_one_iff.mp h
theorem zqk {α:Type}{l:List α}(h:l.length=2):∃ a b,l=[a,b]:=by
 refine Eee (zs0 h) λa t q=>?_
 subst q
 exact Ee (zk9 (Nat.succ.inj h)) λb q=>⟨a,b,q▸rfl⟩
theorem zq2 {α:Type}{l:List α}(h:l.length=3):∃ a b c,l=[a,b,c]:=by
 refine Eee (zs0 h) λa t q=>?_
 subst q
 exact Eee (zqk (Nat.succ.inj h)) λb c q=>⟨a,b,c,q▸rfl⟩
end
end Mine
namespace Mine
open PySem PySem.W PySem.Spec PySem.Calls PyProof.Rows PySem.Sre
noncomputable def zcH (c:Nat):Bool:=c==38 || c==124 || c==126
noncomputable def ampW:Array Nat:=#[14,14,4,1,1,9,0,64,0,1342177280,0,0,0,0,0,17,0,13,11,9,0,64,0,1342177280,0,0,0,0,0,17,1,1]
structure zc4 (code:Array Nat):Prop where
 eq:code=ampW
noncomputable def zj1 (i c:Nat):Bool:=decide (c < 256) && (ampW.getD (i + (1 + c / 32)) 0).testBit (c % 32)
theorem zie {i:Nat}(h:∀ c,c < 256->(ampW.getD (i + (1 + c / 32)) 0).testBit (c % 32)=zcH c) (c:Nat):zj1 i c=zcH c:=by
 unfold zj1
 by_cases hc:c < 256
 ·rw [h c hc,decide_eq_true hc,zuO]
 ·rw [decide_eq_false hc,zti]
  refine Eq.symm ?_
  unfold zcH
  simp only [ztq,beq_eq_false_iff_ne]
  exact ⟨⟨(zrV (fk (zsv hc) (by lia))),(zrV (fk (zsv hc) (by lia)))⟩,(zrV (fk (zsv hc) (by lia)))⟩
theorem zn3 {b:Bool}{s s':Sre.Seen}:∃ t,(if b=true then Except.ok (true,s) else Except.ok (false,s'))=(Except.ok (b,t):Except String (Bool × Sre.Seen)):=by
 cases b <;> exact ⟨_,rfl⟩
theorem zpP (fuel c:Nat) (seen:Sre.Seen):∃ seen',inSet ampW c (fuel + 2) 5 true seen=.ok (zcH c,seen'):=
 zie (i:=5) (by decide +kernel) c▸zn3 (b:=zj1 5 c) (s:=seen.add 9) (s':=(seen.add 9).add 0)
theorem zoG (fuel c:Nat) (seen:Sre.Seen):∃ seen',inSet ampW c (fuel + 2) 19 true seen=.ok (zcH c,seen'):=
 zie (i:=19) (by decide +kernel) c▸zn3 (b:=zj1 19 c) (s:=seen.add 9) (s':=(seen.add 9).add 0)
noncomputable def zce (text:Array Nat) (lim:Nat):Nat->Nat->Option Nat
 | 0,_=>none
 | fuel + 1,s=>if s ≥ lim then none else if zcH (text.getD s 0) then some s else zce text lim fuel (s + 1)
theorem zid {m:Sre.M}(C:zc4 m.code):∀ (fuel s:Nat) (seen:Sre.Seen),∃ seen',Sre.M.admitted m fuel s seen=.ok (zce m.text m.lim fuel s,seen'):=by
 intro zz
 induction zz with
 | zero=>
  intro s seen
  exact ⟨_,rfl⟩
 | succ fuel ih=>
  intro s seen
  unfold Sre.M.admitted zce
  by_cases hs:s ≥ m.lim
  ·simp only [hs,if_true];exact ⟨_,rfl⟩
  ·simp only [hs,if_false]
   obtain ⟨seen',e⟩:=zpP 30 (m.text.getD s 0) seen
   refine C.eq▸(show ampW.size=32 from rfl)▸e▸?_
   cases hq:zcH (m.text.getD s 0) with
   | true=>exact ⟨_,rfl⟩
   | false=>
    dsimp
    exact ih (s + 1) seen'
theorem zc9 {text:Array Nat}{lim:Nat}:∀ {fuel s j:Nat},zce text lim fuel s=some j->s<=j/\j < lim/\zcH (text.getD j 0)=true/\∀ i,s<=i->i < j->zcH (text.getD i 0)=false
 | 0,_,_,h=>by exact zan h
 | fuel + 1,s,j,h=>by
  unfold zce at h
  split at h
  ·exact zan h
  ·split at h
   ·refine zfx h ?_;exact ⟨zrv _,by exact ztX (by assumption),by assumption,λi h1 h2=>by exact absurd h1 (ztv.mpr h2)⟩
   ·rename_i h1 h2
    refine zi6 (zc9 h) λa b c d=>?_
    refine ⟨by exact zrP (by assumption),b,c,λi h3 h4=>?_⟩
    rcases zum h3 with rfl | h5
    ·simpa using h2
    ·exact d i h5 h4
theorem zep {text:Array Nat}{lim:Nat}:∀ {fuel s:Nat},zce text lim fuel s=none->lim<=s + fuel->∀ i,s<=i->i < lim->zcH (text.getD i 0)=false
 | 0,s,_,hl,i,h1,h2=>by exact absurd h2 (zsQ.mpr (zrn hl h1))
 | fuel + 1,s,h,hl,i,h1,h2=>by
  unfold zce at h
  split at h
  ·lia
  ·split at h
   ·exact ziK h
   ·rename_i h3 h4
    rcases zum h1 with rfl | h5
    ·simpa using h4
    ·exact zep h (zrn hl (by lia)) i h5 h2
noncomputable abbrev mk (code text:Array Nat) (lim j pc pos handed:Nat) (marks:Array (Option Nat)) (lm li:Int) (frames:List Sre.Frame) (weight:Nat) (answer:Option Bool) (seen:Sre.Seen) (outcome:Option Sre.Outcome):Sre.M:=
 { code,text,lim,start:=j,lastStart:=lim,pc,pos,handed,marks,lastmark:=lm,lastindex:=li,frames,weight,answer,seen,outcome }
theorem zlm {code text:Array Nat}{lim j:Nat}{fs:List Sre.Frame}{wt:Nat}{seen:Sre.Seen}(C:zc4 code) :
  ∃ seen',(mk code text lim j 15 j j #[none,none] (-1) (-1) fs wt none seen none).step=mk code text lim j 17 j j #[some j,none] 0 (-1) fs wt none seen' none:=by
 obtain ⟨rfl⟩:=C;exact ⟨_,rfl⟩
theorem zpe {code text:Array Nat}{lim j:Nat}{fs:List Sre.Frame}{wt:Nat}{seen:Sre.Seen}(C:zc4 code) (hj:j < lim) (ha:zcH (text.getD j 0)=true) :
  ∃ seen',(mk code text lim j 17 j j #[some j,none] 0 (-1) fs wt none seen none).step=mk code text lim j 29 (j + 1) j #[some j,none] 0 (-1) fs wt none seen' none:=by
 obtain ⟨rfl⟩:=C
 obtain ⟨seen',e⟩:=zoG 30 (text.getD j 0) (seen.add 13)
 rw [ha] at e
 have e':Sre.accepts ampW 17 (text.getD j 0) (seen.add 13)=.ok (true,seen'):=e
 refine ⟨seen',?_⟩
 refine (if_neg (ztv.mpr hj):ite (j ≥ lim) _ _=_).trans ?_
 generalize hx:accepts _ _ _ _=x
 obtain rfl:x=.ok (true,seen'):=hx.symm.trans e'
 rfl
theorem zln {code text:Array Nat}{lim j:Nat}{fs:List Sre.Frame}{wt:Nat}{seen:Sre.Seen}(C:zc4 code) :
  ∃ seen',(mk code text lim j 29 (j + 1) j #[some j,none] 0 (-1) fs wt none seen none).step=mk code text lim j 31 (j + 1) j #[some j,some (j + 1)] 1 1 fs wt none seen' none:=by
 obtain ⟨rfl⟩:=C;exact ⟨seen.add 17,by kernel_rfl⟩
theorem zi0 {code text:Array Nat}{lim j:Nat}{fs:List Sre.Frame}{wt:Nat}{seen:Sre.Seen}(C:zc4 code) :
  ∃ seen',(mk code text lim j 31 (j + 1) j #[some j,some (j + 1)] 1 1 fs wt none seen none).step=mk code text lim j 31 (j + 1) (j + 1) #[some j,some (j + 1)] 1 1 fs wt (some true) seen' none:=by
 obtain ⟨rfl⟩:=C;exact ⟨_,rfl⟩
theorem zjQ {code text:Array Nat}{lim j:Nat}{f:Sre.Frame}{wt:Nat}{seen:Sre.Seen}(hf:f.wait=.nextStart) :
  ∃ m',(mk code text lim j 31 (j + 1) (j + 1) #[some j,some (j + 1)] 1 1 [f] wt (some true) seen none).step=m'/\m'.outcome=none/\m'.step.outcome=some .matched/\m'.step.start=j/\m'.step.handed=j + 1/\m'.step.marks=#[some j,some (j + 1)]/\m'.step.lastmark=1/\m'.step.lastindex=1:=by
 cases f
 subst hf
 exact ⟨_,rfl,rfl,rfl,rfl,rfl,rfl,rfl,rfl⟩
structure Hit (m:Sre.M) (j:Nat):Prop where
 start:m.start=j
 handed:m.handed=j + 1
 marks:m.marks=#[some j,some (j + 1)]
 last:m.lastmark=1
 index:m.lastindex=1
 out:m.outcome=some .matched
theorem zo3 {code text:Array Nat}{lim j:Nat}{f:Sre.Frame}{wt:Nat}{seen:Sre.Seen}(C:zc4 code) (hj:j < lim) (ha:zcH (text.getD j 0)=true) (hf:f.wait=.nextStart) :
  ((mk code text lim j 15 j j #[none,none] (-1) (-1) [f] wt none seen none).runFor 4).outcome=none/\Hit (((mk code text lim j 15 j j #[none,none] (-1) (-1) [f] wt none seen none).runFor 4).runFor 4) j:=by
 obtain ⟨s1,e1⟩:=zlm (code:=code) (text:=text) (lim:=lim) (j:=j) (fs:=[f]) (wt:=wt) (seen:=seen) C
 obtain ⟨s2,e2⟩:=zpe (code:=code) (text:=text) (lim:=lim) (j:=j) (fs:=[f]) (wt:=wt) (seen:=s1) C hj ha
 obtain ⟨s3,e3⟩:=zln (code:=code) (text:=text) (lim:=lim) (j:=j) (fs:=[f]) (wt:=wt) (seen:=s2) C
 obtain ⟨s4,e4⟩:=zi0 (code:=code) (text:=text) (lim:=lim) (j:=j) (fs:=[f]) (wt:=wt) (seen:=s3) C
 obtain ⟨m5,e5,o5,o6,h1,h2,h3,h4,h5⟩:=zjQ (code:=code) (text:=text) (lim:=lim) (j:=j) (f:=f) (wt:=wt) (seen:=s4) hf
 have r4:(mk code text lim j 15 j j #[none,none] (-1) (-1) [f] wt none seen none).runFor 4=mk code text lim j 31 (j + 1) (j + 1) #[some j,some (j + 1)] 1 1 [f] wt (some true) s4 none:=by
  rw [Sre.M.runFor,if_neg (by simp),e1,Sre.M.runFor,if_neg (by simp),e2,Sre.M.runFor,if_neg (by simp),e3,Sre.M.runFor,if_neg (by simp),e4,Sre.M.runFor]
 refine r4▸?_
 refine ⟨rfl,?_⟩
 have r8:(mk code text lim j 31 (j + 1) (j + 1) #[some j,some (j + 1)] 1 1 [f] wt (some true) s4 none).runFor 4=m5.step:=by
  (rw [Sre.M.runFor,if_neg (by simp),e5,Sre.M.runFor,if_neg (by rw [o5];simp),Sre.M.runFor];exact (if_pos (by refine (congrArg _ o6).trans ?_;rfl)))
 rw [r8]
 exact ⟨h1,h2,h3,h4,h5,o6⟩
section
open PySem.Builtin PySem.Builtin.Re
variable {M:Model}{A:Around}{E:Value->Shared->Prop}{s:Shared}
theorem zg9 {m:Sre.M}{Q:PUnit->Shared->Prop}:∀ (l:List Nat),Q ⟨⟩ s->wpAny M A (forIn l PUnit.unit λi Z=>if m.seen.has i=true then (do rule (Sre.names.getD i "");pure (ForInStep.yield PUnit.unit)) else pure (ForInStep.yield PUnit.unit)) Q E s:=by
 intro zz
 induction zz with
 | nil=>
  intro h
  rw [ztH];exact wpAny_pure h
 | cons x r ih=>
  intro h
  rw [zsI]
  refine wpAny_bind ?_
  by_cases hx:m.seen.has x=true
  ·refine (if_pos hx)▸?_
   exact wpAny_bind (wpAny_rule (wpAny_pure (ih h)))
  ·refine (if_neg hx)▸?_
   exact wpAny_pure (ih h)
theorem zlJ {m:Sre.M}{n:Nat}{Q:Sre.M->Shared->Prop}(h1:(m.runFor 4).outcome=none) (h2:((m.runFor 4).runFor 4).outcome.isSome=true) (h:Q ((m.runFor 4).runFor 4) s):wpAny M A (reDrive (n + 2) m) Q E s:=by
 unfold reDrive
 simp only [reTurnSteps,h1,zun,zsd,if_false]
 refine wpAny_bind (wpAny_rule ?_)
 unfold reDrive
 simp only [reTurnSteps,h2,if_true]
 exact wpAny_pure h
theorem zlI {m:Sre.M}{n:Nat}{Q:Sre.M->Shared->Prop}(h2:(m.runFor 4).outcome.isSome=true) (h:Q (m.runFor 4) s):wpAny M A (reDrive (n + 1) m) Q E s:=by
 unfold reDrive
 simp only [reTurnSteps,h2,if_true]
 exact wpAny_pure h
theorem ziU {m:Sre.M}{j:Nat}{Q:Option Sre.M->Shared->Prop}(h1:(m.runFor 4).outcome=none) (h2:Hit ((m.runFor 4).runFor 4) j) (h:Q (some ((m.runFor 4).runFor 4)) s):wpAny M A (reRunToEnd m) Q E s:=by
 refine wpAny_bind ?_
 refine (show (2 ^ 64:Nat)=18446744073709551614 + 2 from rfl)▸?_
 refine zlJ h1 (by refine (congrArg _ h2.out).trans ?_;rfl) ?_
 refine wpAny_bind (zg9 _ ?_)
 refine h2.out▸?_
 exact wpAny_pure h
theorem zhX {m:Sre.M}{Q:Option Sre.M->Shared->Prop}(h1:(m.runFor 4).outcome=some .failed) (h:Q none s):wpAny M A (reRunToEnd m) Q E s:=by
 refine wpAny_bind ?_
 refine (show (2 ^ 64:Nat)=18446744073709551615 + 1 from rfl)▸?_
 refine zlI (by refine (congrArg _ h1).trans ?_;rfl) ?_
 refine wpAny_bind (zg9 _ ?_)
 refine h1▸?_
 exact wpAny_pure h
noncomputable def mk0 (code text:Array Nat) (lim pos:Nat) (must:Bool) (body last:Nat):Sre.M:=
 { code,text,lim,start:=pos,lastStart:=last,pc:=body,pos,handed:=pos,marks:=Array.replicate (2 * 1) none,mustAdvance:=must,seen:=if body==0 then {} else ({}:Sre.Seen).add 14 }
theorem ziv (code text:Array Nat) (pos lim:Nat) (must:Bool):Sre.forSearch code text 1 pos lim must =
  (if decide (pos > lim) || decide (lim - pos < (Sre.header code).1) then (mk0 code text lim pos must (Sre.header code).2 0).say false
  else (mk0 code text lim pos must (Sre.header code).2 (if decide ((Sre.header code).1 > 1) && !((Sre.header code).2 != 0 && code.getD 2 0 &&& 5 != 0) then max pos (lim - ((Sre.header code).1 - 1)) else lim)).attemptFrom pos true):=rfl
theorem zlg {code text:Array Nat}{pos:Nat}{must:Bool}(C:zc4 code) :
  (∃ j,zce text text.size (text.size + 1 - pos) pos=some j/\((Sre.forSearch code text 1 pos text.size must).runFor 4).outcome=none/\Hit (((Sre.forSearch code text 1 pos text.size must).runFor 4).runFor 4) j)\/
  ((∀ i,pos<=i->i < text.size->zcH (text.getD i 0)=false)/\((Sre.forSearch code text 1 pos text.size must).runFor 4).outcome=some .failed):=by
 have hh:Sre.header code=(1,15):=by
  refine (congrArg _ C.eq).trans ?_;rfl
 have failed:∀ m:Sre.M,m.outcome=none->m.frames=[]->((m.say false).runFor 4).outcome=some .failed:=λm h1 h2=>by
  have e:(m.say false).step.outcome=some .failed:=by
   unfold Sre.M.step Sre.M.say
   simp only [h1,h2,zun,zsd,if_false]
  rw [Sre.M.runFor,if_neg (by show ¬ m.outcome.isSome=true;rw [h1];simp),Sre.M.runFor,if_pos (by rw [e];rfl)]
  exact e
 (rw [ziv];refine (Eq.symm hh)▸?_)
 by_cases hp:(decide (pos > text.size) || decide (text.size - pos < 1))=true
 ·refine .inr ⟨λi h1 h2=>?_,?_⟩
  ·simp only [zsJ,decide_eq_true_eq] at hp
   exact hp.elim (λq=>absurd (zrt h1 h2) (zsQ.mpr (zrP q))) (λq=>absurd (ztM (zrt h1 h2)) (zsQ.mpr (zsb q)))
  ·refine (if_pos hp)▸?_
   exact failed _ rfl rfl
 ·refine (if_neg hp)▸?_
  simp only [zsJ,decide_eq_true_eq] at hp
  refine (Eq.symm (show (if decide ((1,15).1 > 1) && !((1,15).2 != 0 && code.getD 2 0 &&& 5 != 0) then max pos (text.size - ((1,15).1 - 1)) else text.size)=text.size from rfl))▸?_
  have hfs:(mk0 code text text.size pos must 15 text.size).hasFirstSet=true:=by
   refine C.eq▸?_;rfl
  show (∃ j,_/\(((mk0 code text text.size pos must 15 text.size).attemptFrom pos true).runFor 4).outcome=none/\Hit ((((mk0 code text text.size pos must 15 text.size).attemptFrom pos true).runFor 4).runFor 4) j)\/_/\(((mk0 code text text.size pos must 15 text.size).attemptFrom pos true).runFor 4).outcome=some .failed
  unfold Sre.M.attemptFrom
  refine (Eq.symm hfs)▸?_
  dsimp
  obtain ⟨seen',e⟩:=zid (m:=mk0 code text text.size pos must 15 text.size) C (text.size + 1 - pos) pos ((mk0 code text text.size pos must 15 text.size).seen)
  have e':(mk0 code text text.size pos must 15 text.size).admitted ((mk0 code text text.size pos must 15 text.size).lim + 1 - pos) pos (mk0 code text text.size pos must 15 text.size).seen=.ok (zce text text.size (text.size + 1 - pos) pos,seen'):=e
  refine e'▸?_
  cases hq:zce text text.size (text.size + 1 - pos) pos with
  | none=>
   refine .inr ⟨zep hq (by exact zst _ _▸zrn (zsl _) (Nat.sub_le_iff_le_add.mp (zrv _))),?_⟩
   exact failed { mk0 code text text.size pos must 15 text.size with seen:=seen' } rfl rfl
  | some j=>
   refine zi6 (zc9 hq) λh1 h2 h3 h4=>?_
   refine .inl ⟨j,rfl,?_⟩
   dsimp only
   have ee:Sre.M.attemptAt { mk0 code text text.size pos must 15 text.size with mustAdvance:=false,seen:=seen' } j true=mk code text text.size j 15 j j #[none,none] (-1) (-1) [{ wait:=.nextStart,pc:=15,pos:=j,outermost:=true }] 1 none seen' none:=by
    rfl
   refine ee▸?_
   exact zo3 C h2 h3 rfl
end
end Mine
namespace Mine
open PySem PySem.W PySem.Spec PySem.Calls PyProof.Rows PySem.Builtin PySem.Builtin.Re
structure PatAt (h:Heap) (pA:Addr):Prop where
 ex:∃ fs cA xs,h.get? pA=some { cls:=.type "re.Pattern",data:=.fields fs }/\reRawNat (fs.getD 2 .none)=1/\fs.getD 5 .none=.ref cA/\reRawNat (fs.getD 6 .none)=0/\
  h.get? cA=some { cls:=.type "tuple",data:=.seq xs }/\zc4 ((xs.map reRawOf).map (·.toNat))
theorem PatAt.keeps {h h':Heap}{pA:Addr}(x:PatAt h pA) (k:∀ b o,h.get? b=some o->h'.get? b=some o):PatAt h' pA:=by
 obtain ⟨fs,cA,xs,e1,e2,e3,e4,e5,e6⟩:=x
 exact ⟨fs,cA,xs,k _ _ e1,e2,e3,e4,k _ _ e5,e6⟩
section
variable {prog:Program}{w:World}{A:Around}{E:Value->Shared->Prop}{s:Shared}
theorem zfp {pA:Addr}{x:PySem.Str}{t:Tok}{Q:ReTarget->Shared->Prop}(P:PatAt s.heap pA)
  (h:∀ code,zc4 code->Q { pattern:=.ref pA,string:=.str x t,code,text:=x.cps,kind:=0,groups:=1,pos:=0,lim:=x.cps.size } s):wpAny (model prog w) A (reWholeTarget (.ref pA) (.str x t)) Q E s:=by
 obtain ⟨fs,cA,xs,e1,e2,e3,e4,e5,e6⟩:=P
 refine wpAny_bind (m:=fieldsOf (.ref pA)) ?_
 refine wpAny_bind (wpAny_load e1 ?_)
 refine wpAny_pure ?_
 refine wpAny_bind (m:=reTextOf (.str x t)) (wpAny_of_eq (a:=(x.cps,0)) rfl ?_)
 refine (Eq.symm e4)▸?_
 refine KFB.if_not rfl ?_
 refine KFB.if_not rfl ?_
 refine wpAny_bind (wpAny_of_eq (a:=()) rfl ?_)
 refine e3▸?_
 refine wpAny_bind (m:=reRawItems (.ref cA)) ?_
 refine wpAny_bind (wpAny_seqItems e5 rfl ?_)
 refine wpAny_pure ?_
 refine wpAny_pure ?_
 refine e2▸?_
 exact h _ e6
noncomputable def zdS:List Nat->List Nat
 | []=>[]
 | c::r=>if zcH c then 92::c::zdS r else c::zdS r
theorem zbE:∀ a b:List Nat,zdS (a++b)=zdS a++zdS b:=by
 intro zz
 induction zz with
 | nil=>
  intro _
  exact rfl
 | cons c r ih=>
  intro b
  show (if zcH c then 92::c::zdS (r++b) else c::zdS (r++b))=(if zcH c then 92::c::zdS r else c::zdS r)++zdS b
  refine (ih b)▸?_;split <;> rfl
theorem zif:∀ l:List Nat,(∀ c ∈ l,zcH c=false)->zdS l=l:=by
 intro zz
 induction zz with
 | nil=>
  intro _
  exact rfl
 | cons c r ih=>
  intro h
  unfold zdS
  (refine (Eq.symm (h c (.head _)))▸(Eq.symm (ih λd hd=>h d (.tail _ hd)))▸?_);rfl
noncomputable def zcu (x:PySem.Str) (t:Tok) (pA tA:Addr) (lim:Nat):Obj:={ cls:=.type "re.Match",data:=.fields #[.str x t,.ref pA,rawInt 0,rawInt lim,rawInt 1,.ref tA] }
noncomputable def zcT (j:Nat):Obj:={ cls:=.type "tuple",data:=.seq #[rawInt j,rawInt ((j + 1:Nat):Int),rawInt j,rawInt ((j + 1:Nat):Int)] }
theorem zmf {pA:Addr}{x:PySem.Str}{t:Tok}{m:Sre.M}{j:Nat}{Q:Value->Shared->Prop}(H:Hit m j)
  (h:Q (.ref (s.heap.objs.size + 1)) { s with heap:=(s.heap.push (zcT j)).push (zcu x t pA s.heap.objs.size x.cps.size) }):wpAny (model prog w) A (reNewMatch (.ref pA) (.str x t) 1 0 x.cps.size m) Q E s:=by
 unfold reNewMatch
 refine (Eq.symm H.marks)▸(Eq.symm H.last)▸(Eq.symm H.index)▸(Eq.symm H.start)▸(Eq.symm H.handed)▸?_
 show wpAny _ _ (if ((decide (((2 * 0 + 1:Nat):Int)<=1) && decide (j + 1 < j)) || false)=true then _ else (newTuple [rawInt j,rawInt ((j + 1:Nat):Int),rawInt j,rawInt ((j + 1:Nat):Int)] >>= λd=>newFields "re.Match" [Value.str x t,Value.ref pA,rawInt ((0:Nat):Int),rawInt ((x.cps.size:Nat):Int),rawInt 1,d])) _ _ _
 refine KFB.if_not (by simp) ?_
 refine wpAny_bind ?_
 refine wpAny_newObj_type ?_ (zN rfl)
 refine wpAny_newObj_type ?_ (zN rfl)
 have e:(s.heap.push (zcT j)).objs.size=s.heap.objs.size + 1:=Heap.size_push ..
 rw [<- e] at h
 exact h
theorem zdM {text:Array Nat}{b e:Nat}{Q:Value->Shared->Prop}(hl:text.size<=2 ^ 20) (h:Q (.str ⟨text.extract b e⟩ s.toks) { s with toks:=s.toks + 1 }):wpAny (model prog w) A (reSlice text 0 b e) Q E s:=by
 refine KFB.if_so rfl (wpAny_mkStr h ?_)
 show (text.extract b e).size<=sizeLine
 have:(text.extract b e).size<=text.size:=by rw [Array.size_extract];exact zrn (ztu _ _) (ztn _ _)
 unfold sizeLine;exact (fk (r:=16777216) (al2 (b:=1048576) hl this) (by lia))
theorem zhW {D:Addr}{items:Array Value}{v:Value}{Q:Unit->Shared->Prop}(hl:s.heap.PlainList D items) (hsz:items.size<=2 ^ 22) (hQ:∀ h',h'.PlainList D (items.push v)->Heap.SameBut D s.heap h'->Q () { s with heap:=h' }) :
  wpAny (model prog w) A (updateSeq D (·.push v)) Q E s:=by
 refine Ee hl λnn ho=>?_
 refine wpAny_updateSeq ho rfl (hQ _ ⟨nn + 1,?_⟩ (Heap.SameBut.update ..))
 rw [Heap.get?_update_self _ ho (by rw [Obj.mapSeq_push_plain];rfl),Obj.mapSeq_push_plain]
theorem zhA:entryFor table "re.Pattern.sub.loop"=some Builtin.«re.Pattern.sub.loop»:=entryFor_of_tree (by kernel_rfl)
theorem zdg:plainId "re.Pattern.sub.loop"=true:=by decide +kernel
noncomputable def zfT (D:Addr) (h h':Heap):Prop:=∀ b o,b≠D->h.get? b=some o->h'.get? b=some o
theorem zdG {vs:List Value}{ys:List PySem.Str}{y:PySem.Str}{t:Tok}(h:StrsAre vs ys):StrsAre (vs++[.str y t]) (ys++[y]):=by
 induction h with
 | nil=>exact .cons y t .nil
 | cons a b _ ih=>exact .cons a b ih
noncomputable def zls (ys:List PySem.Str):List Nat:=ys.flatMap λy=>y.cps.toList
theorem zff:∀ ys:List PySem.Str,(PySem.Str.join ⟨#[]⟩ ys).cps.toList=zls ys
 | []=>rfl
 | [y]=>by simp [zls,PySem.Str.join]
 | y::z::r=>by
  have ih:=zff (z::r)
  show (y++⟨#[]⟩++PySem.Str.join ⟨#[]⟩ (z::r)).cps.toList=_
  simp only [Str.cps_append,ztz]
  refine (congrArg _ ih).trans ?_
  exact zrx _ _ _
theorem zmX (ys:List PySem.Str):(ys.map (·.length)).sum=(zls ys).length:=by
 induction ys with
 | nil=>rfl
 | cons y r ih=>
  show y.length + (r.map (·.length)).sum=(y.cps.toList++zls r).length
  rw [ih,zro,zr6];rfl
theorem zmO:∀ l:List Nat,(zdS l).length<=2 * l.length:=by
 intro zz
 induction zz with
 | nil=>
  exact zrv _
 | cons c r ih=>
  have:=ih
  unfold zdS
  split <;> simp only [zrr] <;> lia
theorem znP {pA fa D:Addr}{x:PySem.Str}{t:Tok}{R:Result->Shared->Prop}(hx:x.cps.size<=2 ^ 19) (lam:Heap->Prop) (hlam:∀ h h',zfT D h h'->lam h->lam h')
  (hpat:∀ h,lam h->PatAt h pA)
  (hcall:∀ (s':Shared) (mA tA:Addr) (j:Nat) (Q:Value->Shared->Prop),lam s'.heap->(∃ hh tk,s'={ s with heap:=hh,toks:=tk }/\s.toks<=tk)->s'.heap.get? mA=some (zcu x t pA tA x.cps.size)->s'.heap.get? tA=some (zcT j)->j < x.cps.size->
   (∀ h' k t',(∀ b o,s'.heap.get? b=some o->h'.get? b=some o)->s'.toks<=k->Q (.str ⟨#[92,x.cps.getD j 0]⟩ t') { s' with heap:=h',toks:=k })->wpAny (model prog w) A.in1 (call (.ref fa) [.ref mA]) Q NoE s') :
  ∀ (k p nn:Nat) (s₁:Shared) (items:Array Value) (ys:List PySem.Str),p<=x.cps.size->x.cps.size - p<=k->(∃ hh tk,s₁={ s with heap:=hh,toks:=tk }/\s.toks<=tk)->lam s₁.heap->s₁.heap.PlainList D items->StrsAre items.toList ys->
   zls ys=zdS (x.cps.toList.take p)->items.size<=2 * p->
   (∀ h' tk t',zfT D s₁.heap h'->R (.ok (.ret (.str ⟨(zdS x.cps.toList).toArray⟩ t'))) { s with heap:=h',toks:=tk })->
   codeAny (model prog w) A (.builtin "re.Pattern.sub.loop" ⟨[.ref pA,.str x t,.ref fa,rawInt 1,rawInt 0,rawInt nn,rawInt p,rawInt p,.bool false,.ref D,.bool false],[]⟩) R s₁:=by
 intro k
 induction k using Nat.strongRecOn with
 | ind k ih=>
 rintro p nn s₁ items ys hp hk ⟨hh,tk,rfl,htk⟩ hl hD hys hcat hsz hR
 refine codeAny_builtin zhA ?_
 rw [Around.under_plainId zdg]
 refine wpAny_bind (zfp (hpat _ hl) λcode C=>?_)
 dsimp only
 refine KFB.if_not rfl ?_
 refine wpAny_bind ?_
 refine KFB.if_not rfl ?_
 unfold reNextFound
 dsimp only
 rw [zsp]
 rcases zlg (code:=code) (text:=x.cps) (pos:=p) (must:=false) C with ⟨j,hj,h1,h2⟩ | ⟨hn,h1⟩
 ·refine zi6 (zc9 hj) λj1 j2 j3 j4=>?_
  refine ziU h1 h2 ?_
  generalize hM:Sre.M.runFor 4 (Sre.M.runFor 4 (Sre.forSearch code x.cps 1 p x.cps.size false))=M' at h2
  dsimp only
  refine h2.start▸h2.handed▸?_
  have tail:∀ (hh₂:Heap) (tk₂:Nat) (items₂:Array Value) (ys₂:List PySem.Str),zfT D hh hh₂->s.toks<=tk₂->hh₂.PlainList D items₂->StrsAre items₂.toList ys₂->zls ys₂=zdS (x.cps.toList.take j)->items₂.size<=2 * p + 1->items₂.size<=2 * j->
    wpAny (model prog w) A.in1 (do
      let found <- reNewMatch (.ref pA) (.str x t) 1 0 x.cps.size M'
      let item <- holding [found] (if ((1:Int)==1)=true then call (.ref fa) [found] else do let f <- reFound found;reExpand (.ref fa) f)
      if (item != Value.none)=true then do
       updateSeq D λx=>x.push item
       again (.builtin "re.Pattern.sub.loop" ⟨[.ref pA,.str x t,.ref fa,.int 1 0,.int 0 0,.int (↑nn + 1) 0,.int ↑(j + 1) 0,.int ↑(j + 1) 0,.bool (j + 1==j),.ref D,.bool false],[]⟩)
      else again (.builtin "re.Pattern.sub.loop" ⟨[.ref pA,.str x t,.ref fa,.int 1 0,.int 0 0,.int (↑nn + 1) 0,.int ↑(j + 1) 0,.int ↑(j + 1) 0,.bool (j + 1==j),.ref D,.bool false],[]⟩))
     (λfin s'=>match fin with | .done f=>R (.ok f) s' | .again c'=>c'.quiet=true/\codeAny (model prog w) A c' R s') (λe s'=>R (.error e) s') { s with heap:=hh₂,toks:=tk₂ }:=by
   intro hh₂ tk₂ items₂ ys₂ hk₂ htk₂ hD₂ hys₂ hcat₂ hsz₂ hsz₃
   refine wpAny_bind (zmf h2 ?_)
   have up:∀ b o,hh₂.get? b=some o->((hh₂.push (zcT j)).push (zcu x t pA hh₂.objs.size x.cps.size)).get? b=some o:=λb o e=>Heap.get?_push_of_some _ (Heap.get?_push_of_some _ e)
   refine wpAny_bind (wpAny_holding ?_)
   refine KFB.if_so rfl ?_
   refine wpAny_mono (hcall { s with heap:=(hh₂.push (zcT j)).push (zcu x t pA hh₂.objs.size x.cps.size),toks:=tk₂ } (hh₂.objs.size + 1) hh₂.objs.size j
    (λv s'=>∃ t' h' k,v=.str ⟨#[92,x.cps.getD j 0]⟩ t'/\s'={ s with heap:=h',toks:=k }/\tk₂<=k/\∀ b o,((hh₂.push (zcT j)).push (zcu x t pA hh₂.objs.size x.cps.size)).get? b=some o->h'.get? b=some o)
    (hlam _ _ (λb o hb e=>up b o (hk₂ b o hb e)) hl) ⟨_,_,rfl,htk₂⟩ ?_ ?_ j2 λh' k t' hk' htk'=>⟨t',h',k,rfl,rfl,htk',hk'⟩) (λv s' hv=>?_) λZ Z x=>x.elim
   ·have e:(hh₂.push (zcT j)).objs.size=hh₂.objs.size + 1:=Heap.size_push ..
    refine e▸?_;exact Heap.get?_push_size _ rfl
   ·exact Heap.get?_push_of_some _ (Heap.get?_push_size _ rfl)
   ·(refine zhm hv λt' h' k' q0 q1 htk' hk'=>?_;subst q0;subst q1)
    refine KFB.if_so rfl ?_
    have hD3:h'.PlainList D items₂:=hD₂.at λo e=>hk' _ o (up _ o e)
    have hpow:x.cps.size<=2 ^ 19:=hx
    refine wpAny_bind (zhW (s:={ s with heap:=h',toks:=k' }) hD3 (b22 hsz₃ (zrP j2) hx) λh4 hD4 hs4=>wpAny_pure ⟨plainId_quiet zdg _,?_⟩)
    have hkeep:zfT D hh h4:=λb o hb e=>(hs4.2 b hb).trans (hk' b o (up b o (hk₂ b o hb e)))
    have hjj:((j + 1==j):Bool)=false:=by simp
    refine (Eq.symm hjj)▸?_
    have hcast:((nn:Int) + 1)=((nn + 1:Nat):Int):=rfl
    refine hcast▸?_
    refine ih (x.cps.size - (j + 1)) (zry (zs8 (zrt j1 j2) (ztg j1)) hk) (j + 1) (nn + 1) _ (items₂.push _) (ys₂++[⟨#[92,x.cps.getD j 0]⟩]) (by assumption) (zrv _) ⟨h4,k',rfl,by exact zrn htk₂ htk'⟩ (hlam _ _ hkeep hl) hD4 (by rw [zsK];exact zdG hys₂) ?_ (by simp;exact (zrt hsz₃ (by lia))) λh5 tk5 t5 hk5=>hR h5 tk5 t5 λb o hb e=>hk5 b o hb (hkeep b o hb e)
    have hget:x.cps.toList.take (j + 1)=x.cps.toList.take j++[x.cps.getD j 0]:=by
     have hjl:j < x.cps.toList.length:=by rw [zr6];exact j2
     refine Eq.trans (List.take_succ_eq_append_getElem hjl) ?_
     congr 1
     simp [zuu,j2]
    (rw [hget,zbE];refine hcat₂▸?_)
    show zls (ys₂++_)=zls ys₂++(if zcH (x.cps.getD j 0) then _ else _)
    refine (Eq.symm j3)▸?_
    simp [zls,zdS]
  by_cases hpj:p < j
  ·refine (if_pos hpj)▸?_
   refine wpAny_bind (zdM (by exact zrn hx (zN rfl)) ?_)
   have hpow:x.cps.size<=2 ^ 19:=hx
   refine wpAny_bind (zhW (s:={ s with heap:=hh,toks:=tk + 1 }) hD (b22 hsz hp hx) λh4 hD4 hs4=>?_)
   refine KFB.if_not rfl ?_
   refine tail h4 (tk + 1) (items.push _) (ys++[⟨x.cps.extract p j⟩]) (λb o hb e=>(hs4.2 b hb).trans e) (by exact zsc (by assumption)) hD4 (by rw [zsK];exact zdG hys) ?_ (by simp;omega) (by simp;exact (fk (al2 hsz (ml2 2 hpj)) (by lia)))
   have hfree:zdS ((x.cps.toList.take j).drop p)=(x.cps.toList.take j).drop p:=zif _ λc hc=>by
    obtain ⟨i,hi,rfl⟩:=zuf hc
    have hlen:p + i < j:=by simp at hi;exact ztm (zry hi (zub (zty _ _) _))
    have:=j4 (p + i) (by exact zrI _ _) hlen
    simp only [zuv,List.getElem_take]
    have e:x.cps.getD (p + i) 0=x.cps.toList[p + i]'(by rw [zr6];exact zrZ hlen j2):=by simp [zuu,show p + i < x.cps.size by exact zrZ hlen j2]
    rw [<- e];exact this
   have hsplit:x.cps.toList.take j=x.cps.toList.take p++(x.cps.toList.take j).drop p:=by
    conv=>lhs;rw [<- zt5 p (x.cps.toList.take j)]
    rw [List.take_take,zse (by omega)]
   (rw [hsplit,zbE,hfree];refine hcat▸?_)
   simp [zls,ztr,ztK,List.drop_take]
  ·refine (if_neg hpj)▸?_
   refine KFB.if_not rfl ?_
   have:p=j:=(ztx (fk j1 (by lia)) (fk (zsv hpj) (by lia)))
   subst this
   exact tail hh tk items ys (λb o Z e=>e) htk hD hys hcat (by exact zsc (by assumption)) hsz
 ·refine zhX h1 ?_
  dsimp only
  have tail:∀ (hh₂:Heap) (tk₂:Nat) (items₂:Array Value) (ys₂:List PySem.Str),zfT D hh hh₂->hh₂.PlainList D items₂->StrsAre items₂.toList ys₂->zls ys₂=zdS x.cps.toList->items₂.size<=2 * x.cps.size->
    wpAny (model prog w) A.in1 (do
      let joiner <- reSlice x.cps 0 0 0
      let xs <- seqItems? (.ref D)
      if (xs.getD #[]).isEmpty=true then do
       let text <- pure joiner
       if false=true then (holding [text] (do let k <- mkInt ↑nn;newTuple [text,k]) >>= λr=>ret r) else ret text
      else do
       let text <- call (.builtin (if ((0:Nat)==0)=true then "str.join" else "bytes.join")) [joiner,.ref D]
       if false=true then (holding [text] (do let k <- mkInt ↑nn;newTuple [text,k]) >>= λr=>ret r) else ret text)
     (λfin s'=>match fin with | .done f=>R (.ok f) s' | .again c'=>c'.quiet=true/\codeAny (model prog w) A c' R s') (λe s'=>R (.error e) s') { s with heap:=hh₂,toks:=tk₂ }:=by
   intro hh₂ tk₂ items₂ ys₂ hk₂ hD₂ hys₂ hcat₂ hsz₂
   refine wpAny_bind (zdM (zrn (m:=524288) (k:=1048576) hx (by lia)) ?_)
   obtain ⟨n2,ho2⟩:=id hD₂
   refine wpAny_bind (wpAny_seqItems ho2 rfl ?_)
   dsimp only [Option.getD_some]
   by_cases he:items₂.isEmpty=true
   ·refine (if_pos he)▸?_
    refine wpAny_bind (wpAny_pure ?_)
    refine KFB.if_not rfl (wpAny_pure ?_)
    have hi0:items₂=#[]:=by simpa using he
    subst hi0
    cases hys₂
    have:(zdS x.cps.toList).toArray=#[]:=by refine hcat₂▸?_;rfl
    have e:(⟨x.cps.extract 0 0⟩:PySem.Str)=⟨(zdS x.cps.toList).toArray⟩:=by rw [this];simp
    refine e▸?_
    exact hR _ _ _ hk₂
   ·refine (if_neg he)▸?_
    refine wpAny_bind ?_
    refine join_list (x:=⟨x.cps.extract 0 0⟩) (s:={ s with heap:=hh₂,toks:=tk₂ + 1 }) hD₂.isList hys₂ ?_ λt' k'=>?_
    ·have h0:(⟨x.cps.extract 0 0⟩:PySem.Str).length=0:=by show (x.cps.extract 0 0).size=0;simp
     have h1:=zmO x.cps.toList
     have h2:x.cps.toList.length=x.cps.size:=zr6
     rw [h0,zmX,hcat₂]
     exact zrn (zrY (zrn h1 (zsg 2 (h2▸hx))) (zss (Nat.mul_zero _))) (by decide)
    ·refine KFB.if_not rfl (wpAny_pure ?_)
     have e:Txt.join ⟨x.cps.extract 0 0⟩ ys₂=⟨(zdS x.cps.toList).toArray⟩:=by
      have h0:(⟨x.cps.extract 0 0⟩:PySem.Str)=⟨#[]⟩:=by simp
      refine h0▸?_
      show PySem.Builtin.Str.glued ⟨#[]⟩ ys₂=_
      rw [StrLaws.glued_eq_join]
      have:=zff ys₂
      rw [hcat₂] at this
      exact this▸rfl
     refine e▸?_
     exact hR _ _ _ hk₂
  by_cases hpj:p < x.cps.size
  ·refine (if_pos hpj)▸?_
   refine wpAny_bind (zdM (zrn (m:=524288) (k:=1048576) hx (by lia)) ?_)
   have hpow:x.cps.size<=2 ^ 19:=hx
   refine wpAny_bind (zhW (s:={ s with heap:=hh,toks:=tk + 1 }) hD (b22 hsz (zrP hpj) hx) λh4 hD4 hs4=>?_)
   refine tail h4 (tk + 1) (items.push _) (ys++[⟨x.cps.extract p x.cps.size⟩]) (λb o hb e=>(hs4.2 b hb).trans e) hD4 (by rw [zsK];exact zdG hys) ?_ (by simp;exact zus (zrt hsz ((Nat.mul_lt_mul_left (by decide)).mpr hpj)))
   have hfree:zdS (x.cps.toList.drop p)=x.cps.toList.drop p:=zif _ λc hc=>by
    obtain ⟨i,hi,rfl⟩:=zuf hc
    have hlen:p + i < x.cps.size:=by simp at hi;exact ztm hi
    have:=hn (p + i) (by exact zrI _ _) hlen
    simp only [zuv]
    have e:x.cps.getD (p + i) 0=x.cps.toList[p + i]'(by rw [zr6];omega):=by simp [zuu,hlen]
    refine e▸?_;exact this
   have hsplit:x.cps.toList=x.cps.toList.take p++x.cps.toList.drop p:=(zt5 ..).symm
   (rw [hsplit,zbE,hfree];refine hcat▸?_)
   simp [zls,ztr]
   exact zsC (by simp)
  ·refine (if_neg hpj)▸?_
   have:p=x.cps.size:=(ztx (fk hp (by lia)) (fk (zsv hpj) (by lia)))
   subst this
   exact tail hh tk items ys (λb o Z e=>e) hD hys (by rw [hcat,zsC (by rw [zr6];omega)]) hsz
end
end Mine
namespace Mine
open PySem PySem.W PySem.Spec PySem.Calls PyProof.Rows PySem.Builtin PySem.Builtin.Re
theorem slot_pat_sub:Slot "re.Pattern" "sub" "re.Pattern.sub":=
 .of (owner:="re.Pattern") (n:="sub") (by rw [typeLookup_type,builtinLookup_eq_fast];kernel_rfl) (by decide +kernel) (by decide +kernel) (by decide +kernel)
  (by first | exact .inl (by decide +kernel) | exact .inr (by decide +kernel)) (by rw [isSubtype_type];kernel_rfl)
theorem zi4:typeOf (.builtin "re.Pattern.sub")=pure (.type "method_descriptor"):=by show builtinType _=_;rw [builtinType_eq_fast];kernel_rfl
theorem zhz:entryFor table "re.Pattern.sub"=some Builtin.«re.Pattern.sub»:=entryFor_of_tree (by kernel_rfl)
theorem zgz (a b c:Value):argsOk "re.Pattern.sub" ⟨[a,b,c],[]⟩:=by unfold argsOk;kernel_rfl
theorem zgG:PlainAttrs "re.Pattern" where
 ga:=⟨"object.__getattribute__",by rw [typeLookup_type,builtinLookup_eq_fast];kernel_rfl,by decide +kernel⟩
 noGetattr:=by rw [typeLookup_type,builtinLookup_eq_fast];kernel_rfl
theorem zdn:Slot "re.Match" "group" "re.Match.group":=
 .of (owner:="re.Match") (n:="group") (by rw [typeLookup_type,builtinLookup_eq_fast];kernel_rfl) (by decide +kernel) (by decide +kernel) (by decide +kernel)
  (by first | exact .inl (by decide +kernel) | exact .inr (by decide +kernel)) (by rw [isSubtype_type];kernel_rfl)
theorem zfF:typeOf (.builtin "re.Match.group")=pure (.type "method_descriptor"):=by show builtinType _=_;rw [builtinType_eq_fast];kernel_rfl
theorem zeN:entryFor table "re.Match.group"=some Builtin.«re.Match.group»:=entryFor_of_tree (by kernel_rfl)
theorem zei (a b:Value):argsOk "re.Match.group" ⟨[a,b],[]⟩:=by unfold argsOk;kernel_rfl
theorem zfC:PlainAttrs "re.Match" where
 ga:=⟨"object.__getattribute__",by rw [typeLookup_type,builtinLookup_eq_fast];kernel_rfl,by decide +kernel⟩
 noGetattr:=by rw [typeLookup_type,builtinLookup_eq_fast];kernel_rfl
theorem znb:typeLookup (.type "function") "__call__"=pure (some (.builtin "function.__call__")):=by rw [typeLookup_type,builtinLookup_eq_fast];kernel_rfl
theorem ze7:isSubtype (.type "str") (.type "bytearray")=pure false:=by rw [isSubtype_type];kernel_rfl
section
variable {prog:Program}{w:World}{A:Around}{E:Value->Shared->Prop}{s:Shared}
theorem zjb {mA pA tA:Addr}{x:PySem.Str}{t u:Tok}{j:Nat}{Q:Value->Shared->Prop}(hm:s.heap.get? mA=some (zcu x t pA tA x.cps.size)) (ht:s.heap.get? tA=some (zcT j)) (hj:j < x.cps.size) (hx:x.cps.size<=2 ^ 19)
  (h:Q (.str ⟨#[x.cps.getD j 0]⟩ s.toks) { s with toks:=s.toks + 1 }):wpAny (model prog w) A (call (.builtin "re.Match.group") [.ref mA,.int 1 u]) Q E s:=by
 refine wpAny_call_entry zdn ⟨_,hm,rfl⟩ zeN ?_ (zei _ _)
 unfold Builtin.«re.Match.group»
 refine wpAny_bind (wpAny_of_eq (a:=()) (by first | rfl | kernel_rfl) ?_)
 dsimp only
 refine wpAny_bind (m:=reFound (.ref mA)) ?_
 unfold reFound fieldsOf
 dsimp only
 refine wpAny_bind (wpAny_bind (wpAny_load hm ?_))
 dsimp only [zcu]
 refine wpAny_pure ?_
 refine wpAny_bind (m:=reRawItems (.ref tA)) ?_
 unfold reRawItems
 refine wpAny_bind (wpAny_seqItems ht rfl ?_)
 refine wpAny_pure ?_
 refine wpAny_pure ?_
 have hsp:Array.map reRawOf ((some #[rawInt (j:Int),rawInt ((j + 1:Nat):Int),rawInt (j:Int),rawInt ((j + 1:Nat):Int)]).getD #[])=#[(j:Int),((j + 1:Nat):Int),(j:Int),((j + 1:Nat):Int)]:=by
  simp [rawInt,reRawOf]
 refine hsp▸?_
 refine wpAny_bind (m:=reGroupNumber _ _) ?_
 unfold reGroupNumber
 refine wpAny_bind (wpAny_of_eq (a:=some 1) rfl ?_)
 dsimp only
 refine KFB.if_so rfl ?_
 refine wpAny_bind (wpAny_of_eq (a:=1) rfl ?_)
 refine KFB.if_not rfl ?_
 refine wpAny_pure ?_
 refine wpAny_bind (m:=reGroupText _ _ _) ?_
 show wpAny _ _ (if (decide ((j:Int) < 0) || decide (((j + 1:Nat):Int) < 0))=true then pure Value.none else do
  let (text,kind) <- reTextOf (.str x t)
  reSlice text kind (j:Int).toNat ((j + 1:Nat):Int).toNat) _ _ _
 refine KFB.if_not (by simp;exact zrB _) ?_
 refine wpAny_bind (wpAny_of_eq (a:=(x.cps,0)) rfl ?_)
 dsimp only
 refine zdM (zrn (m:=524288) (k:=1048576) hx (by lia)) ?_
 refine wpAny_pure ⟨_,rfl,?_⟩
 have e:(⟨x.cps.extract (j:Int).toNat ((j + 1:Nat):Int).toNat⟩:PySem.Str)=⟨#[x.cps.getD j 0]⟩:=by
  congr 1
  rw [zsp,zsp]
  apply Array.toList_inj.mp
  refine Eq.trans ztr ?_
  have hjl:j < x.cps.toList.length:=by rw [zr6];exact hj
  rw [ztK,zsN,ztL hjl]
  simp [zuu,hj]
 refine e▸?_
 exact h
theorem zmW {pA fa:Addr}{x:PySem.Str}{t:Tok}{of:Obj}{Q:Value->Shared->Prop}(hx:x.cps.size<=2 ^ 19) (hP:PatAt s.heap pA) (hpt:s.TypeIs (.ref pA) "re.Pattern") (hf:s.heap.get? fa=some of) (hfc:of.cls=.type "function")
  (hcall:∀ (s':Shared) (mA tA:Addr) (j:Nat) (Q:Value->Shared->Prop),(∃ hh tk,s'={ s with heap:=hh,toks:=tk }/\s.toks<=tk/\∀ b o,s.heap.get? b=some o->hh.get? b=some o)->s'.heap.get? mA=some (zcu x t pA tA x.cps.size)->s'.heap.get? tA=some (zcT j)->j < x.cps.size->
   (∀ h' k t',(∀ b o,s'.heap.get? b=some o->h'.get? b=some o)->s'.toks<=k->Q (.str ⟨#[92,x.cps.getD j 0]⟩ t') { s' with heap:=h',toks:=k })->wpAny (model prog w) A.in1 (call (.ref fa) [.ref mA]) Q NoE s')
  (h:∀ h' tk t',(∀ b o,s.heap.get? b=some o->h'.get? b=some o)->Q (.str ⟨(zdS x.cps.toList).toArray⟩ t') { s with heap:=h',toks:=tk }) :
  wpAny (model prog w) A (call (.builtin "re.Pattern.sub") [.ref pA,.ref fa,.str x t]) Q NoE s:=by
 refine wpAny_call (codeAny_call_builtin slot_pat_sub.plain zhz (slot_pat_sub.check _ _ _ _ _ _ _ _ hpt (zgz _ _ _) ?_))
 unfold Builtin.«re.Pattern.sub» reSubstitute
 dsimp only
 refine wpAny_bind (wpAny_of_eq (a:=[some (.ref fa),some (.str x t),none]) (by first | rfl | kernel_rfl) ?_)
 dsimp only
 refine wpAny_bind (wpAny_pure ?_)
 refine wpAny_bind (wpAny_specialOf ⟨_,hf,hfc⟩ znb ?_)
 dsimp only [Option.isSome_some]
 refine KFB.if_so rfl ?_
 refine wpAny_bind (wpAny_pure ?_)
 refine KFB.if_so rfl ?_
 refine wpAny_bind (wpAny_pure ?_)
 dsimp only
 refine wpAny_bind (wpAny_holding (zfp hP λcode C=>?_))
 refine KFB.if_so rfl ?_
 refine wpAny_bind (m:=reNotHeld _ _) ?_
 unfold reNotHeld
 refine wpAny_bind (wpAny_isInstance (T:="str") (b:=false) (typeIs_str _ _ _) ze7 ?_)
 refine KFB.if_not rfl ?_
 refine wpAny_pure ?_
 refine wpAny_bind (wpAny_newObj_type (wpAny_pure ⟨plainId_quiet zdg _,?_⟩) (by size_fits))
 have hn:s.heap.get? s.heap.objs.size=none:=zaJ (zrv _)
 have up:∀ b o,s.heap.get? b=some o->(s.heap.push { cls:=.type "list",data:=.seq ([]:List Value).toArray }).get? b=some o:=λb o e=>Heap.get?_push_of_some _ e
 refine znP (s:=s) (D:=s.heap.objs.size) hx (λh=>∀ b o,s.heap.get? b=some o->h.get? b=some o) (λh h' hk hl b o e=>hk b o (λq=>by rw [q,hn] at e;exact zan e) (hl b o e)) (λh hl=>hP.keeps hl) (λs' mA tA j Q' hl hs' hm ht hj hQ=>?_) x.cps.size 0 0 _ #[] [] (zr2 _) (ztu _ _) ⟨_,s.toks,rfl,zrv _⟩ up ⟨_,Heap.get?_push_size _ rfl⟩ .nil rfl (zr2 _) λh' tk t' hk=>?_
 ·(refine zgy hs' λhh tk q0 htk=>?_;subst q0)
  exact hcall _ mA tA j Q' ⟨hh,tk,rfl,htk,hl⟩ hm ht hj hQ
 ·exact h h' tk t' λb o e=>hk b o (λq=>by rw [q,hn] at e;exact zan e) (up b o e)
end
end Mine
namespace Mine
open PySem PySem.W PySem.Spec PySem.Calls PyProof.Rows PySem.Builtin PySem.Builtin.Re
noncomputable def zhi (known:List (Pos × PySem.Str)) (g:Heap) (ps:Array Value):Prop:=TriplesOk ps.toList/\∀ p ∈ known,∀ cv,codeAmong p.1 ps.toList=some cv->g.CodeRec cv p.2
theorem zjU {known:List (Pos × PySem.Str)}(g g':Heap) (ps:Array Value) (k:∀ a o,g.get? a=some o->g'.get? a=some o) (h:zhi known g ps):zhi known g' ps:=⟨h.1,λp hp cv e=>(h.2 p hp cv e).keeps k⟩
theorem zgu {P:List Value->Prop}(h0:P []) (h1:∀ a t b u x r,P r->P (.int a t::.int b u::x::r)):∀ {l:List Value},TriplesOk l->P l:=by
 intro l ht
 fun_induction TriplesOk l with
 | case1=>exact h0
 | case2 a t b u x rest ih=>exact h1 a t b u x rest (ih ht)
 | case3 l h1 h2=>exact ht.elim
theorem zjr {b:Bool}{α:Type}{x y z:α}{Q:Prop}(h:(if b=true then x else y)=z) (h1:b=true->x=z->Q) (h2:¬ b=true->y=z->Q):Q:=by
 by_cases hb:b=true
 ·exact h1 hb ((if_pos hb).symm.trans h)
 ·exact h2 hb ((if_neg hb).symm.trans h)
theorem zhw {p:Pos}{cv:Value}{e l:List Value}(ht:TriplesOk l):codeAmong p l=some cv->codeAmong p (l++e)=some cv:=
 zgu (P:=λl=>codeAmong p l=some cv->codeAmong p (l++e)=some cv) (λh=>zan h) (λa t b u x r ih h=>by
  refine zjr (show (if (a==p.line && b==p.col)=true then some x else codeAmong p r)=some cv from h) (λhb h=>?_) λhb h=>?_
  ·exact (if_pos hb).trans h
  ·exact (if_neg hb).trans (ih h)) ht
theorem zel {p q:Pos}{c cv:Value}{l:List Value}(ht:TriplesOk l):codeAmong p l=none->codeAmong p (l++[rawInt q.line,rawInt q.col,c])=some cv->cv=c/\q.line=p.line/\q.col=p.col:=
 zgu (P:=λl=>codeAmong p l=none->codeAmong p (l++[rawInt q.line,rawInt q.col,c])=some cv->cv=c/\q.line=p.line/\q.col=p.col) (λZ h=>by
  refine zjr (show (if (((q.line:Int)==p.line) && ((q.col:Int)==p.col))=true then some c else none)=some cv from h) (λhb h=>?_) λZ h=>zan h
  have hb:=zsZ.mp hb
  exact ⟨(Option.some.inj h).symm,zul.mp (eq_of_beq hb.1),zul.mp (eq_of_beq hb.2)⟩) (λa t b u x r ih hn h=>by
  refine zjr (show (if (a==p.line && b==p.col)=true then some x else codeAmong p r)=none from hn) (λZ h=>ziK h) λhb hn=>?_
  exact ih hn ((if_neg hb).symm.trans h)) ht
section
variable {B:Bs}{c:Cfg}
theorem BInv.table {known:List (Pos × PySem.Str)}(hB:B.tabOk=zhi known) (I:BInv B c) {s':Shared}{ps:Array Value}{c':Addr}{pos:Pos}{qual:PySem.Str}(hp:c.s.heap.get? B.tbl=some (tabObj ps)) (hok:B.tabOk c.G.g ps) (hn:codeAmong pos ps.toList=none)
  (hx:Heap.ExtBut B.tbl c.s.heap s'.heap) (hc:c.s.heap.objs.size<=c') (hrec:s'.heap.CodeRec (.ref c') qual) (ht:s'.heap.get? B.tbl=some (tabObj (ps++#[rawInt pos.line,rawInt pos.col,.ref c'])))
  (hk:∀ p ∈ known,p.1.line=pos.line->p.1.col=pos.col->p.2=qual) (hg:s'.gens=c.s.gens) (hos:s'.os=c.s.os) :
  ∃ g',g'.CodeRec (.ref c') qual/\BInv B ⟨⟨g',c.G.f⟩,c.hp,s'⟩/\Stp B [] c ⟨⟨g',c.G.f⟩,c.hp,s'⟩:=by
 refine zjZ hrec λcc o vs tq hce hco hcd hcq=>?_
 cases hce
 have hcn:c.s.heap.get? c'=none:=zaJ hc
 have hct:c'≠B.tbl:=λe=>by obtain ⟨_,q⟩:=I.tbl_lt;rw [<- e,hcn] at q;exact zan q
 refine Eea (zcx c.G.g c' o (Heap.get?_some_iff.mp hco).2) λg' e1 e2=>?_
 have hgn:=I.g_none hcn
 have gg:∀ b x,c.G.g.get? b=some x->g'.get? b=some x:=λb x e=>by
  by_cases hb:b=c'
  ·subst hb;rw [hgn] at e;exact zan e
  ·refine Eq.trans (e2 b hb) ?_;exact e
 have hkp:∀ b x,c.s.heap.get? b=some x->b≠B.tbl->s'.heap.get? b=some x:=λb x e hb=>hx b x hb e
 have hrec':g'.CodeRec (.ref c') qual:=⟨c',o,vs,tq,rfl,e1,hcd,hcq⟩
 replace hok:=hB▸hok
 have hok':zhi known g' (ps++#[rawInt pos.line,rawInt pos.col,.ref c']):=by
  refine ⟨?_,λp hp cv e=>?_⟩
  ·have:=TriplesOk_snoc pos.line pos.col (.ref c') ps.toList hok.1
   simpa using this
  ·have e':codeAmong p.1 (ps.toList++[rawInt pos.line,rawInt pos.col,.ref c'])=some cv:=by simpa using e
   cases hq:codeAmong p.1 ps.toList with
   | some cv'=>
    rw [zhw hok.1 hq] at e';cases e'
    exact (hok.2 p hp _ hq).keeps gg
   | none=>
    (refine Eaa (zel hok.1 hq e') λq0 k1 k2=>?_;subst q0)
    rw [hk p hp k1.symm k2.symm];exact hrec'
 have hfx:∀ id a,c.G.f id=some a->a≠B.tbl:=λid a e h=>I.tabg.2 id (h▸e)
 refine ⟨g',hrec',⟨λb x e=>?_,λb x e=>gg b x (I.base b x e),λid b e=>?_,I.inj,I.fr,λid us e=>?_,⟨_,ht,by rw [hB];exact hok'⟩,⟨?_,I.tabg.2⟩,by show AllBare s'.gens;rw [hg];exact I.bare⟩,?_⟩
 ·by_cases hb:b=c'
  ·subst hb;rw [show (⟨⟨g',c.G.f⟩,c.hp,s'⟩:Cfg).G.g.get? b=g'.get? b from rfl,e1] at e;refine zfx e ?_;exact hco
  ·have e3:c.G.g.get? b=some x:=by refine (e2 b hb)▸?_;exact e
   exact hkp b x (I.keep b x e3) λh=>by rw [h,I.tabg.1] at e3;exact zan e3
 ·obtain ⟨x,hx'⟩:=I.lt id b e
  exact ⟨x,hkp b x hx' (hfx id b e)⟩
 ·refine LstAt.E (I.lst id us e) λb its h1 h2 h3 h4=>?_
  have hne:b≠c':=λh=>by obtain ⟨_,q⟩:=I.lt id b h1;rw [h,hcn] at q;exact zan q
  exact ⟨b,its,h1,(e2 b hne).trans h2,h3.at λo q=>hkp b o q (hfx id b h1),RVs.mono (G:=c.G) (G':=⟨g',c.G.f⟩) gg (λZ Z e=>e) h4⟩
 ·exact (e2 _ (Ne.symm hct)).trans I.tabg.1
 ·refine ⟨gg,λZ Z e=>e,λb x e Z Z hb=>hkp b x e hb,λb hb h1 h2=>⟨?_,h2⟩,λb ⟨x,e⟩=>?_,λi x e=>by show s'.gens[i]?=some x;refine hg▸?_;exact e,hos,λZ Z e=>.inl e⟩
  ·have hne:b≠c':=λh=>by obtain ⟨_,q⟩:=hb;rw [h,hcn] at q;exact zan q
   exact (e2 b hne).trans h1
  ·by_cases hb:b=B.tbl
   ·exact ⟨_,hb▸ht⟩
   ·exact ⟨x,hkp b x e hb⟩
end
end Mine
namespace Mine
open PySem PySem.W PySem.Spec PySem.Calls PyProof.Rows PySem.Builtin PySem.Builtin.Re
structure zfa (B:Bs) (mg:PySem.Str->Option Value) (known:List (Pos × PySem.Str)) (cC:Addr):Prop where
 code:CodeHd B.h cC B.tbl
 glob:mainGlobals≠B.tbl
 blt:B.h.BuiltinsAt mg B.tbl
 tab:B.tabOk=zhi known
 g:B.h.Ns mainGlobals mg
 lim:B.h.NoLimit
section
variable {prog:Program}{w:World}{B:Bs}{n:Nat}{F:FI}{mg:PySem.Str->Option Value}{known:List (Pos × PySem.Str)}{cC:Addr}
noncomputable def zpt (h:Heap) (fa:Addr) (params:Arguments) (body:Expr) (scope:Scope) (qual:PySem.Str):Prop:=
 ∃ pm cd ct,h.get? fa=some { cls:=.type "function",data:=.func (kla_fn "<lambda>" qual params body scope [] pm cd ct) }/\h.CodeRec cd qual
inductive zpw (B:Bs) (c:Cfg) (params:Arguments) (body:Expr) (scope:Scope) (q:Str) (v:Value) (s':Shared):Prop
 | mk (fa:Addr) (G':Gh):v=.ref fa->BInv B ⟨G',c.hp,s'⟩->Stp B [] c ⟨G',c.hp,s'⟩->zpt G'.g fa params body scope q->zpw B c params body scope q v s'
theorem zoL {params:Arguments}{body:Expr}{scope:Scope}{pos:Pos}(T:zfa B mg known cC) (hdef:defaultsOf params F.env=([],[])) (hcl:closureFor scope F.env=pure []) (hcode:F.env.code=.ref cC)
  (hk:(pos,F.env.qual++"<lambda>") ∈ known) (hk2:∀ p ∈ known,p.1.line=pos.line->p.1.col=pos.col->p.2=F.env.qual++"<lambda>")
  {A:Around} {c:Cfg} (I:BInv B c) (ok:FOk F) :
  wpAny (model prog w) A (eval (.Lambda params body scope pos) F.env) (zpw B c params body scope (F.env.qual++"<lambda>")) NoE c.s:=by
 refine kla_eval hdef ?_
 refine Eea I.tab λps hp hok=>?_
 have hok2:=hok
 rw [T.tab] at hok2
 have hg:c.s.heap.Ns mainGlobals mg:=T.g.keeps I.baseIn
 have hC:CodeHd c.s.heap cC B.tbl:=T.code.keeps I.baseIn
 have hb:c.s.heap.BuiltinsAt mg B.tbl:=by
  refine zjY T.blt λbm o e1 e2 e3 e4 e5 e6=>?_
  exact ⟨bm,o,e1,e2,e3,e4,I.baseIn _ _ e5,e6⟩
 cases hf:codeAmong pos ps.toList with
 | some cv=>
  refine kla_makeFunctionHit hcl ok.glob hg hcode hC hp hok2.1 hf hb λctv h' tk hkp hsz=>?_
  obtain ⟨I2,S2⟩:=I.grow (s':={ c.s with heap:=h',toks:=tk }) hkp rfl rfl
  obtain ⟨g',k1,k2,I3,S3⟩:=I2.froze (s':={ c.s with heap:=h'.push { cls:=.type "function",data:=.func (kla_fn "<lambda>" (F.env.qual++"<lambda>") params body scope [] ((mg "__name__").getD .none) cv ctv) },toks:=tk }) (a:=h'.objs.size) (λb o e=>Heap.get?_push_of_some _ e) rfl rfl (zaJ (zrv _)) (Heap.get?_push_size _ rfl)
  exact ⟨_,_,rfl,I3,S2.trans0 I2 S3,_,_,_,k1,(hok2.2 _ hk cv hf).keeps S3.gg⟩
 | none=>
  refine kla_makeFunction hcl ok.glob hg hcode hC hp hok2.1 hf T.glob hb λc' ctv h' tk hx hc hc2 hrec ht=>?_
  obtain ⟨g',hr,I2,S2⟩:=I.table (s':={ c.s with heap:=h',toks:=tk }) T.tab hp hok hf hx hc hrec ht hk2 rfl rfl
  obtain ⟨g2,k1,k2,I3,S3⟩:=I2.froze (s':={ c.s with heap:=h'.push (kla_obj "<lambda>" (F.env.qual++"<lambda>") params body scope [] ((mg "__name__").getD .none) c' ctv),toks:=tk }) (a:=h'.objs.size) (λb o e=>Heap.get?_push_of_some _ e) rfl rfl (zaJ (zrv _)) (Heap.get?_push_size _ rfl)
  exact ⟨_,_,rfl,I3,S2.trans0 I2 S3,_,_,_,k1,hr.keeps S3.gg⟩
theorem zja {c:Bool}{a b:Prop}(hc:c=true) (h:a):if c=true then a else b:=by rw [if_pos hc];exact h
theorem zmU {params:Arguments}{scope:Scope}{qual:PySem.Str}{k1 k2 k3:Nat}{p1 p2 p3 p4 p5 p6 p7 p8:Pos}{fa mA pA tA:Addr}{x:PySem.Str}{t:Tok}{j:Nat}{s:Shared}{A:Around}{Q:Value->Shared->Prop}(pl:Env->Sem Bool)
  (L:zpt s.heap fa params (.BinOp (.Constant (.str ⟨#[92]⟩) k1 p1) .Add (.BoolOp .Or [.Call (.Attribute (.Name "_m" p2) "group" p3) [.Constant (.int 1) k2 p4] [] p5,.Constant (.str PySem.Str.empty) k3 p6] p7) p8) scope qual)
  (hbind:∀ pm cd ct v,bindArgs (kla_fn "<lambda>" qual params (.BinOp (.Constant (.str ⟨#[92]⟩) k1 p1) .Add (.BoolOp .Or [.Call (.Attribute (.Name "_m" p2) "group" p3) [.Constant (.int 1) k2 p4] [] p5,.Constant (.str PySem.Str.empty) k3 p6] p7) p8) scope [] pm cd ct) ⟨[v],[]⟩=pure [(("_m":zS),v)])
  (hloc:scope.names.lookup ("_m":zS)=some .local) (hcell:∀ y ∈ scope.names,y.2≠.cell) (hco:scope.isCoroutine=false) (hgen:scope.isGenerator=false) (hkd:scope.kind=.function)
  (he:∀ env:Env,eval (.Call (.Attribute (.Name "_m" p2) "group" p3) [.Constant (.int 1) k2 p4] [] p5) env=(do
   let ov <- eval (.Name "_m" p2) env
   standAt p3.atName
   let (f,first) <- holding [ov] (getMethod ov "group" (pl env))
   callWith p5 f first (backTo p5 (starEach [.Constant (.int 1) k2 p4] env)) []))
  (hroom:A.depth < recursionLimit) (hlim:s.heap.NoLimit) (hm:s.heap.get? mA=some (zcu x t pA tA x.cps.size)) (ht:s.heap.get? tA=some (zcT j)) (hj:j < x.cps.size) (hx:x.cps.size<=2 ^ 19)
  (hQ:∀ h' k t',(∀ b o,s.heap.get? b=some o->h'.get? b=some o)->s.toks<=k->Q (.str ⟨#[92,x.cps.getD j 0]⟩ t') { s with heap:=h',toks:=k }):wpAny (model prog w) A (call (.ref fa) [.ref mA]) Q NoE s:=by
 refine zfq L λpm cd ct hf hrec=>?_
 refine wpAny_with_toks (n:=s.toks) (zrv _) ?_
 refine wpAny_call (kla_callFunE hroom hf rfl hco hgen rfl hrec ?_)
 rw [hbind]
 refine wpAny_pure (wpAny_newFunctionEnv hcell (by intro y hy;simp at hy;subst hy;exact hloc) (λh₁ hns hsb=>?_) hkd)
 have hk₁:∀ b o,s.heap.get? b=some o->h₁.get? b=some o:=λb o e=>hsb.extBut b o (zr5 (Heap.lt_size e)) (Heap.get?_push_of_some _ e)
 refine ⟨hlim.keeps hk₁,?_⟩
 refine kla_codeExpr ?_
 generalize henv:newEnv scope s.heap.objs.size mainGlobals [] (qual++".<locals>.") (some fa) cd none builtinsNs=env
 have hL:env.locals=s.heap.objs.size:=by refine henv▸?_;rfl
 have hsc:env.scope=scope:=by refine henv▸?_;rfl
 have hkind:env.kindOf "_m"=some .local:=by unfold Env.kindOf;refine hsc▸?_;exact hloc
 refine wpAny_BinOp (wpAny_Constant_str ?_)
 refine BoolOp_or (MethodCall_ (pl:=pl env) (wpAny_Name (wpAny_loadName_local (v:=.ref mA) (m:=λy=>([(("_m":zS),Value.ref mA)]:List _).reverse.lookup y) (by refine (congrArg _ hsc).trans ?_;exact hkd) hkind (by rw [hL];exact hns) rfl ?_) rfl) (he env))
 refine getMethod_builtin ⟨_,hk₁ _ _ hm,rfl⟩ zfC zdn zfF (λb e=>by cases e;exact ⟨_,hk₁ _ _ hm,rfl⟩) ?_
 refine callWith_method1 (spliced_more (wpAny_Constant_int (spliced_none ?_)))
 refine zjb (hk₁ _ _ hm) (hk₁ _ _ ht) hj hx ?_
 have h1:(⟨#[x.cps.getD j 0]⟩:PySem.Str).length=1:=rfl
 refine PySem.P.truthy_str (by refine h1▸?_;decide) ?_
 refine zja (by refine h1▸?_;rfl) ?_
 refine add_str (λt' k=>?_) (by show 1 + 1<=sizeLine;decide)
 intro htk
 exact hQ h₁ k t' hk₁ htk
end
end Mine
namespace Mine
open PySem PySem.W PySem.Spec PySem.Calls PyProof.Rows PySem.Builtin PySem.Builtin.Re
noncomputable def zh6 (m:St->Option (V × HP)):St->Option (V × HP):=λst=>bV (m st) λv h=>onS (λx=>if x.cps.size<=2 ^ 19 then some (.d (.str ⟨(zdS x.cps.toList).toArray⟩),h) else none) v
section
variable {prog:Program}{w:World}{B:Bs}{n:Nat}{F:FI}{mg:PySem.Str->Option Value}{known:List (Pos × PySem.Str)}{cC:Addr}
theorem zjP {params:Arguments}{scope:Scope}{k1 k2 k3:Nat}{p1 p2 p3 p4 p5 p6 p7 p8 np ap pos lpos:Pos}{pA:Addr}{nm:PySem.Str}{arg:Expr}{m:St->Option (V × HP)}(pl:Sem Bool) (pl2:Env->Sem Bool)
  (T:zfa B mg known cC) (hP:PatAt B.h pA) (hn:ESound prog w B n F (.Name nm np) (zmo (.ref pA))) (harg:ESound prog w B n F arg m)
  (hdef:defaultsOf params F.env=([],[])) (hcl:closureFor scope F.env=pure []) (hcode:F.env.code=.ref cC)
  (hk:(lpos,F.env.qual++"<lambda>") ∈ known) (hk2:∀ p ∈ known,p.1.line=lpos.line->p.1.col=lpos.col->p.2=F.env.qual++"<lambda>")
  (hbind:∀ pm cd ct v,bindArgs (kla_fn "<lambda>" (F.env.qual++"<lambda>") params (.BinOp (.Constant (.str ⟨#[92]⟩) k1 p1) .Add (.BoolOp .Or [.Call (.Attribute (.Name "_m" p2) "group" p3) [.Constant (.int 1) k2 p4] [] p5,.Constant (.str PySem.Str.empty) k3 p6] p7) p8) scope [] pm cd ct) ⟨[v],[]⟩=pure [(("_m":zS),v)])
  (hloc:scope.names.lookup ("_m":zS)=some .local) (hcell:∀ y ∈ scope.names,y.2≠.cell) (hco:scope.isCoroutine=false) (hgen:scope.isGenerator=false) (hkd:scope.kind=.function)
  (he2:∀ env:Env,eval (.Call (.Attribute (.Name "_m" p2) "group" p3) [.Constant (.int 1) k2 p4] [] p5) env=(do
   let ov <- eval (.Name "_m" p2) env
   standAt p3.atName
   let (f,first) <- holding [ov] (getMethod ov "group" (pl2 env))
   callWith p5 f first (backTo p5 (starEach [.Constant (.int 1) k2 p4] env)) []))
  (hse:starEach [arg] F.env=[(false,eval arg F.env)])
  (he:eval (.Call (.Attribute (.Name nm np) "sub" ap) [.Lambda params (.BinOp (.Constant (.str ⟨#[92]⟩) k1 p1) .Add (.BoolOp .Or [.Call (.Attribute (.Name "_m" p2) "group" p3) [.Constant (.int 1) k2 p4] [] p5,.Constant (.str PySem.Str.empty) k3 p6] p7) p8) scope lpos,arg] [] pos) F.env=(do
   let ov <- eval (.Name nm np) F.env
   standAt ap.atName
   let (f,first) <- holding [ov] (getMethod ov "sub" pl)
   callWith pos f first (backTo pos (starEach [.Lambda params (.BinOp (.Constant (.str ⟨#[92]⟩) k1 p1) .Add (.BoolOp .Or [.Call (.Attribute (.Name "_m" p2) "group" p3) [.Constant (.int 1) k2 p4] [] p5,.Constant (.str PySem.Str.empty) k3 p6] p7) p8) scope lpos,arg] F.env)) [])) :
  ESound prog w B (n + 2) F (.Call (.Attribute (.Name nm np) "sub" ap) [.Lambda params (.BinOp (.Constant (.str ⟨#[92]⟩) k1 p1) .Add (.BoolOp .Or [.Call (.Attribute (.Name "_m" p2) "group" p3) [.Constant (.int 1) k2 p4] [] p5,.Constant (.str PySem.Str.empty) k3 p6] p7) p8) scope lpos,arg] [] pos) (zh6 m):=λst v hp' e A hA G s I X=>by
 refine zfG e λv0 h q e=>zd8 e λx qv e=>Ea (zaK e) λhx e=>?_
 refine zcy e ?_
 have hA':AOk n A:=hA.le (by exact zrI _ _)
 refine MethodCall_ (pl:=pl) (wpAny_mono (hn st _ _ rfl A hA' G s I X) (λcv s1 pp=>?_) λZ Z x=>x) he
 refine PostV.E pp λG1 I1 S1 r1=>?_
 cases r1
 obtain ⟨fs,cA,xs,e1,e2,e3,e4,e5,e6⟩:=hP
 refine getMethod_builtin ⟨_,I1.baseIn _ _ e1,rfl⟩ zgG slot_pat_sub zi4 (λb e=>by cases e;exact ⟨_,I1.baseIn _ _ e1,rfl⟩) ?_
 refine callWith_method1 (spliced_more (wpAny_mono (zoL (c:=⟨G1,st.hp,s1⟩) T hdef hcl hcode hk hk2 I1 X.ok) (λcl s2 p2=>?_) λZ Z x=>x) rfl) rfl (by refine hse▸?_;rfl)
 obtain ⟨fa,G2,rfl,I2,S2,L⟩:=p2
 have S12:=S1.trans0 I1 S2
 refine spliced_more (wpAny_mono (harg st _ _ q A hA' G2 s2 I2 (X.step S12)) (λca s3 p3=>spliced_none ?_) λZ Z x=>x) hse
 refine PostV.E p3 λG3 I3 S3 r3=>?_
 refine (qv▸r3:RV G3 ca (.d (.str x))).str_elim λt=>?_
 refine zfq L λpm cd ct f1 f2=>?_
 have f1':=I3.keep _ _ (S3.gg _ _ f1)
 have f2':s3.heap.CodeRec cd (F.env.qual++"<lambda>"):=f2.keeps λa o e=>I3.keep _ _ (S3.gg _ _ e)
 have hPA:PatAt s3.heap pA:=⟨fs,cA,xs,I3.baseIn _ _ e1,e2,e3,e4,I3.baseIn _ _ e5,e6⟩
 refine zmW (x:=x) (t:=t) hx hPA ⟨_,I3.baseIn _ _ e1,rfl⟩ f1' rfl (λs' mA tA j Q hs' hm ht hj hQ=>?_) λh' tk t' hk=>?_
 ·(refine zcG hs' λhh tk q0 htk hkp=>?_;subst q0)
  refine zmU pl2 ⟨pm,cd,ct,hkp _ _ f1',f2'.keeps hkp⟩ hbind hloc hcell hco hgen hkd he2 (by have:=hA.2.1;show A.in1.depth < 1000;show A.depth < 1000;exact (fk this (by lia))) ?_ hm ht hj hx hQ
  exact (T.lim.keeps I3.baseIn).keeps hkp
 ·obtain ⟨I4,S4⟩:=I3.grow (s':={ s3 with heap:=h',toks:=tk }) hk rfl rfl
  exact ⟨G3,I4,(S12.trans0 I2 S3).trans0 I3 S4,.d (.str _ _)⟩
end
end Mine
namespace Mine
open PySem PySem.W PySem.Spec PySem.Calls PyProof.Rows
noncomputable def zjp (C:Addr) (fp wr:List Addr) (outs:List PySem.Str):Protocol:=λm s₀ v s kap=>
 (∃ y t,outs[outs.length - 1 - m]?=some y/\v=.str y t)/\GenSince C wr s₀ s/\1<=s.toks/\
  ∀ s'':Shared,1<=s''.toks->(∀ b ∈ C::fp,∀ o,s.heap.get? b=some o->s''.heap.get? b=some o)->kap (.send .none) s''
noncomputable abbrev zoE (C:Addr) (wr:List Addr):GenEnd:=λn s₀ r s₁=>r=.ok .next/\(n=0/\GenSince C wr s₀ s₁)
section
variable {prog:Program}{w:World}{A:Around}
theorem zp7 {elt iter:Expr}{x:PySem.Str}{px:Pos}{scope:Scope}{pos:Pos}{I:Addr}{fp wr:List Addr}{n₀:Nat}{P:Nat->Value->Prop}{St₀:Nat->Heap->Prop}{cenv:Env}{ins:List PySem.Str}(f:PySem.Str->PySem.Str)
  (hh:A.handled=none) (W₀:∀ A':Around,A'.handled=none->Walks prog w A' I fp wr n₀ P St₀) (hn₀:n₀=ins.length) (hP:∀ i v,P i v->∃ y t,ins[i]?=some y/\v=.str y t)
  (hx:cenv.kindOf x=some .local) (hp:(cenv.scope.kind==.class || (cenv.scope.kind==.module && cenv.locals != cenv.globals))=false)
  (hco:cenv.scope.isCoroutine=false) (hCf:cenv.locals ∉ fp)
  (helt:∀ (A':Around) E' (y:PySem.Str) (t:Tok) (s₂:Shared) m₂,A'.handled=none->y ∈ ins->s₂.heap.Ns cenv.locals m₂->m₂ x=some (.str y t)->1<=s₂.toks->wpAny (model prog w) A' (eval elt cenv) (λz s₃=>(∃ t',z=.str (f y) t')/\Keeps s₂ s₃) E' s₂) :
  ∀ (k i:Nat) (s₀ s:Shared) (m:PySem.Str->Option Value),n₀ - i=k->i<=n₀->St₀ i s.heap->s.heap.Ns cenv.locals m->GenSince cenv.locals wr s₀ s->1<=s.toks->
   Seg (model prog w) A (zoE cenv.locals wr) (zjp cenv.locals fp wr (ins.map f)) (n₀ - i) s₀
    (.compLoop (.GeneratorExp elt [⟨.Name x px,iter,[],0⟩] scope pos) 0 (.ref I) .none cenv)
    ((model prog w).den (.compLoop (.GeneratorExp elt [⟨.Name x px,iter,[],0⟩] scope pos) 0 (.ref I) .none cenv)) [] s:=by
 have hh':(A.over (.compLoop (.GeneratorExp elt [⟨.Name x px,iter,[],0⟩] scope pos) 0 (.ref I) .none cenv) []).handled=none:=hh
 have hCw:cenv.locals ∉ wr:=λh=>hCf ((W₀ A hh).sub _ h)
 intro k
 induction k with
 | zero=>
  intro i s₀ s m hk hi hst hn hsince htk
  have hin:i=n₀:=zec hk hi
  refine (Eq.symm hk)▸?_
  rw [hin] at hst
  show Seg _ A _ _ _ s₀ _ ((compTurn (.GeneratorExp elt [⟨.Name x px,iter,[],0⟩] scope pos) 0 (.ref I) .none cenv).onRaise (leaving cenv)) [] s
  rw [compTurn_gen,Sem.onRaise_eq_wrap]
  refine seg_bind_wrap (wpAny_standAt ?_)
  refine seg_bind_wrap ((W₀ _ hh').done s _ _ hst λh' tk hk'=>?_)
  exact seg_end (.ok .next) ⟨rfl,rfl,hsince.step λb o Z hw e=>hk' b o hw e⟩
 | succ k ih=>
  intro i s₀ s m hk hi hst hn hsince htk
  have hlt:i < n₀:=zia hk
  refine hk▸?_
  show Seg _ A _ _ _ s₀ _ ((compTurn (.GeneratorExp elt [⟨.Name x px,iter,[],0⟩] scope pos) 0 (.ref I) .none cenv).onRaise (leaving cenv)) [] s
  rw [compTurn_gen,Sem.onRaise_eq_wrap]
  refine seg_bind_wrap (wpAny_standAt ?_)
  refine seg_bind_wrap (wpAny_with_toks (n:=1) htk ((W₀ _ hh').item i s _ _ hlt hst λv h₁ tk₁ hPv hst₁ hk₁ htk₁=>?_))
  refine seg_bind_wrap (wpAny_of_eq (rfl:letOwnedTupleGo (.Name x px) (.ref I) v=pure ()) ?_)
  (refine zgy (hP i v hPv) λy t hy q0=>?_;subst q0)
  refine seg_bind_wrap (wpAny_assign_Name (wpAny_storeName_local hx (hn.at' λo e=>hk₁ _ o hCw e) (λh₂ hn₂ hs₂=>?_) hp))
  have up₂:∀ b o,b≠cenv.locals->b ∉ wr->s.heap.get? b=some o->h₂.get? b=some o:=λb o hbC hbw e=>hs₂.extBut b o hbC (hk₁ b o hbw e)
  have hst₂:St₀ (i + 1) h₂:=(W₀ A hh).frame _ _ _ hst₁ λb hb o e=>hs₂.extBut b o (λh=>hCf (h▸hb)) e
  refine seg_bind_wrap (wpAny_tests_nil ?_)
  have hsince₃:GenSince cenv.locals wr s₀ { s with heap:=h₂,toks:=tk₁ + 1 }:=hsince.step λb o hbC hbw e=>up₂ b o hbC hbw e
  dsimp
  have hyo:∀ v,yieldOut cenv v=yieldValue v:=λv=>by simp only [yieldOut,hco,zsd,if_false]
  simp only [hyo]
  rw [Sem.bind_eq_wrap',Sem.bind_eq_wrap',Sem.wrap_wrap,Sem.wrap_wrap]
  have htk2:1<=tk₁ + 1:=by exact zrw _
  refine seg_wrap (wpAny_with_toks (n:=1) htk2 (wpAny_mono (helt _ _ y t _ _ hh' (zsH hy) hn₂ (by simp) htk2) (λz s₄ h₄ htk₄=>?_) λZ Z e Z=>e))
  obtain ⟨⟨t',rfl⟩,h₄,tk₄,rfl,hk₄⟩:=h₄
  have hidx:(ins.map f)[(ins.map f).length - 1 - k]?=some (f y):=by
   have:(ins.map f).length - 1 - k=i:=by rw [zrN];exact zjS (hn₀▸hk)
   refine this▸zr7▸hy▸?_;rfl
  refine seg_at (seg_yield rfl rfl rfl ⟨⟨f y,t',hidx,rfl⟩,hsince₃.step λb o Z Z e=>hk₄ b o e,htk₄,λs'' htk'' hal=>?_⟩)
  have hki:k=n₀ - (i + 1):=(zjT hk).symm
  refine hki▸?_
  refine seg_again rfl (ih (i + 1) s'' s'' _ (by exact Eq.symm (by assumption)) hlt ((W₀ A hh).frame _ _ _ hst₂ λb hb o e=>hal b (zrL _ hb) o (hk₄ b o e))
   ((hn₂.keeps hk₄).at' λo e=>hal _ (zsn ..) o e) (GenSince.refl _ _ _) htk'')
theorem zjG {elt iter:Expr}{x:PySem.Str}{px:Pos}{scope:Scope}{pos:Pos}{I:Addr}{fp wr:List Addr}{n₀:Nat}{P:Nat->Value->Prop}{St₀:Nat->Heap->Prop}{cenv:Env}{ins:List PySem.Str}(f:PySem.Str->PySem.Str)
  (hh:A.handled=none) (W₀:∀ A':Around,A'.handled=none->Walks prog w A' I fp wr n₀ P St₀) (hn₀:n₀=ins.length) (hP:∀ i v,P i v->∃ y t,ins[i]?=some y/\v=.str y t)
  (hx:cenv.kindOf x=some .local) (hp:(cenv.scope.kind==.class || (cenv.scope.kind==.module && cenv.locals != cenv.globals))=false)
  (hco:cenv.scope.isCoroutine=false) (hCf:cenv.locals ∉ fp)
  (helt:∀ (A':Around) E' (y:PySem.Str) (t:Tok) (s₂:Shared) m₂,A'.handled=none->y ∈ ins->s₂.heap.Ns cenv.locals m₂->m₂ x=some (.str y t)->1<=s₂.toks->wpAny (model prog w) A' (eval elt cenv) (λz s₃=>(∃ t',z=.str (f y) t')/\Keeps s₂ s₃) E' s₂)
  (s:Shared) (m:PySem.Str->Option Value) (hst:St₀ 0 s.heap) (hn:s.heap.Ns cenv.locals m) (htk:1<=s.toks) :
  Seg (model prog w) A (zoE cenv.locals wr) (zjp cenv.locals fp wr (ins.map f)) n₀ s
   (.compStart (.GeneratorExp elt [⟨.Name x px,iter,[],0⟩] scope pos) 0 (.ref I) .none cenv)
   ((model prog w).den (.compStart (.GeneratorExp elt [⟨.Name x px,iter,[],0⟩] scope pos) 0 (.ref I) .none cenv)) [] s:=by
 have hh':(A.over (.compStart (.GeneratorExp elt [⟨.Name x px,iter,[],0⟩] scope pos) 0 (.ref I) .none cenv) []).handled=none:=hh
 have loop:=zp7 (iter:=iter) (px:=px) (scope:=scope) (pos:=pos) f hh W₀ hn₀ hP hx hp hco hCf helt n₀ 0 s s m (zuw _) (zr2 _) hst hn (GenSince.refl _ _ _) htk
 rw [zuw] at loop
 show Seg _ A _ _ _ s _ ((compStart (.GeneratorExp elt [⟨.Name x px,iter,[],0⟩] scope pos) 0 (.ref I) .none cenv).onRaise (leaving cenv)) [] s
 rw [Sem.onRaise_eq_wrap]
 refine seg_bind_wrap (wpAny_askSetting ?_)
 split
 ·exact seg_again rfl loop
 ·first
   | exact seg_bind_wrap (wpAny_rule (seg_bind_wrap (wpAny_standAt (seg_bind_wrap ((W₀ _ hh').self 0 s _ _ hst (seg_again rfl loop))))))
   | (refine seg_bind_wrap (wpAny_rule ?_);show Seg _ A _ _ _ s _ ((standAt iter.pos >>= _).wrap _ _ _ _) [] s;exact seg_bind_wrap (wpAny_standAt (seg_bind_wrap ((W₀ _ hh').self 0 s _ _ hst (seg_again rfl loop)))))
noncomputable def zqV (prog:Program) (w:World) (A:Around) (a:Addr) (g:Nat) (C:Addr) (fp wr:List Addr) (outs:List PySem.Str) (j:Nat) (s:Shared):Prop:=
 s.heap.IsGen a g/\s.heap.NoLimit/\1<=s.toks/\∃ gs,s.gens[g]?=some gs/\∀ s'':Shared,1<=s''.toks->(∀ b ∈ C::fp,∀ o,s.heap.get? b=some o->s''.heap.get? b=some o)->
  gs.Goes (model prog w) A.in1 (zoE C wr) (zjp C fp wr outs) (outs.length - j) (.send .none) s''
theorem WalksS.gx (hh:A.handled=none) (a:Addr) (g:Nat) (C:Addr) (fp wr:List Addr) (outs:List PySem.Str) (haC:a≠C) (haf:a ∉ fp) (hsub:∀ b ∈ wr,b ∈ fp)
  (hroom:A.depth < recursionLimit) (hcs:cStatics ∈ fp) (hcC:cStatics≠C) (hcw:cStatics ∉ wr) :
  WalksS prog w A a (a::C::fp) (C::wr) (GenOnlyQ g) outs.length (λj v=>∃ y t,outs[j]?=some y/\v=.str y t) (zqV prog w A a g C fp wr outs) where
 sub:=λb hb=>by
  rcases zrs.mp hb with rfl | hb
  ·simp
  ·exact zrL _ (zrL _ (hsub b hb))
 grefl:=λZ=>.inl rfl
 gtrans:=λZ Z Z x y=>x.trans y
 frame:=λj s h' tk st htk hk=>
  ⟨let ⟨o,nm,qn,ho,r⟩:=st.1;⟨o,nm,qn,hk a (zsn ..) o ho,r⟩,
  (let ⟨mc,hns,hnn⟩:=st.2.1;⟨mc,hns.at' λo e=>hk cStatics (zrL _ (zrL _ hcs)) o e,hnn⟩),zrn st.2.2.1 htk,
  let ⟨gs,hgs,hgo⟩:=st.2.2.2;⟨gs,hgs,λs'' ht hal=>hgo s'' ht λb hb o e=>hal b hb o (hk b (zrL _ hb) o e)⟩⟩
 item:=λj s Q E hj st hQ=>by
  obtain ⟨hg,hl,htk0,gs,hgs,hgo⟩:=st
  obtain ⟨m,hm⟩:∃ m,outs.length - j=m + 1:=⟨outs.length - j - 1,zi2 hj⟩
  rw [hm] at hgo
  refine wpAny_with_toks (zrv s.toks) ?_
  refine wpAny_pyNext_genexpQ (P:=λn s₀ s₁=>n=0/\GenSince C wr s₀ s₁) hh hl hroom hg hgs (hgo _ htk0 λZ Z Z e=>e) (λv s₁ gs' hb hv=>?_) (λs₁ hp h' hk=>?_)
  ·obtain ⟨⟨y,t,hi,rfl⟩,⟨h₁,tk₁,rfl,hk₁⟩,htk1,hkap⟩:=hv
   have hidx:outs.length - 1 - (m + 1 - 1)=j:=zjS hm
   rw [hidx] at hi
   have haw:a ∉ wr:=λh=>haf (hsub a h)
   intro htk
   refine hQ _ _ ⟨y,t,hi,rfl⟩ ⟨let ⟨o,nm,qn,ho,r⟩:=hg;⟨o,nm,qn,hk₁ a o haC haw ho,r⟩,(let ⟨mc,hns,hnn⟩:=hl;⟨mc,hns.at' λo e=>hk₁ cStatics o hcC hcw e,hnn⟩),htk1,gs',setGen_self (gs:=.running) (setGen_self hgs),λs'' ht hal=>?_⟩
    ⟨λb o hb e=>hk₁ b o (λh=>hb (h▸zsn ..)) (λh=>hb (zrL _ h)) e,GenOnlyQ.of ((GenOnly.setGen s g .running).trans (GenOnly.setGen _ g gs')) (setGen_self (gs:=.running) (setGen_self hgs)) hb,rfl,rfl,htk⟩
   have e:outs.length - (j + 1)=m:=zjT hm
   refine e▸?_
   exact hkap s'' ht hal
  ·exact absurd hp.1 (zs3 m)
 done:=λs Q E st hQ=>by
  obtain ⟨hg,hl,htk0,gs,hgs,hgo⟩:=st
  rw [zta] at hgo
  refine wpAny_with_toks (zrv s.toks) ?_
  refine wpAny_pyNext_genexpQ (P:=λn s₀ s₁=>n=0/\GenSince C wr s₀ s₁) hh hl hroom hg hgs (hgo _ htk0 λZ Z Z e=>e) (λv s₁ gs' hb hv=>?_) (λs₁ hp h' hk=>?_)
  ·refine zi6 hv λZ Z Z hkap=>?_
   exact False.elim (hkap _ (by omega) λZ Z Z e=>e)
  ·(refine zqo hp λZ h₁ tk₁ q0 hk₁=>?_;subst q0)
   intro htk
   exact hQ _ ⟨λb o hb e=>hk b o (hk₁ b o (λh=>hb (h▸zsn ..)) (λh=>hb (zrL _ h)) e),GenOnlyQ.of ((GenOnly.setGen s g .running).trans (GenOnly.setGen _ g .finished)) (setGen_self (gs:=.running) (setGen_self hgs)) rfl,rfl,rfl,htk⟩
 self:=λZ Z Z Z st hQ=>wpAny_pyIter_gen st.1 hQ
end
section
variable {B:Bs}{c:Cfg}
theorem BInv.privsG (I:BInv B c) {wr:List Addr}{gx:Nat->Prop}{s':Shared}(p:Priv B wr c) (hk:∀ b o,b ∉ wr->c.s.heap.get? b=some o->s'.heap.get? b=some o) (hgn:∀ (i:Nat) (x:GenState),¬ gx i->c.s.gens[i]?=some x->s'.gens[i]?=some x) (hb:AllBare s'.gens) (hos:s'.os=c.s.os) :
  BInv B ⟨c.G,c.hp,s'⟩/\zgM B wr gx c ⟨c.G,c.hp,s'⟩:=by
 have hx:∀ b,b ∉ wr->Ex c.s.heap b->Ex s'.heap b:=λb hb ⟨o,e⟩=>⟨o,hk b o hb e⟩
 refine ⟨⟨λb x e=>?_,I.base,λj b e=>hx b (λh=>(p b h).2.2.2.2 j e) (I.lt j b e),I.inj,I.fr,λj us e=>?_,?_,I.tabg,hb⟩,?_⟩
 ·exact hk b x (λh=>by rw [(p b h).2.1] at e;exact zan e) (I.keep b x e)
 ·refine LstAt.E (I.lst j us e) λb its h1 h2 h3 h4=>?_
  exact ⟨b,its,h1,h2,h3.at λo q=>hk b o (λh=>(p b h).2.2.2.2 j h1) q,h4⟩
 ·refine Eea I.tab λps h1 h2=>?_
  exact ⟨ps,hk _ _ (λh=>(p _ h).2.2.2.1 rfl) h1,h2⟩
 ·exact ⟨λZ Z e=>e,λZ Z e=>e,λb x e hb Z Z=>hk b x hb e,λb Z h1 h2=>⟨h1,h2⟩,hx,hgn,hos,λZ Z e=>.inl e⟩
end
noncomputable def zhN (sep:PySem.Str) (f:PySem.Str->PySem.Str) (ok:PySem.Str->Bool) (m:St->Option (V × HP)):St->Option (V × HP):=λst=>bV (m st) λv h=>onL (λxs=>(zh5 (xs.map V.d)).bind λys=>if ys.all ok && decide (((ys.map f).map (·.length)).sum + ys.length * sep.length<=16777216) && decide (ys.length<=2 ^ 20) then some (.d (.str (Txt.join sep (ys.map f))),h) else none) v
section
variable {prog:Program}{w:World}{B:Bs}{n:Nat}{F:FI}{mg:PySem.Str->Option Value}{known:List (Pos × PySem.Str)}{cC:Addr}
theorem ziz {scope:Scope}{pos:Pos}(T:zfa B mg known cC) (hcode:F.env.code=.ref cC)
  (hk2:∀ p ∈ known,p.1.line=pos.line->p.1.col=pos.col->p.2=F.env.qual++"<genexpr>")
  {A:Around} {c:Cfg} (I:BInv B c) :
  wpAny (model prog w) A (genexprCode F.env pos (F.env.qual++"<genexpr>") scope) (λv s'=>∃ G',BInv B ⟨G',c.hp,s'⟩/\Stp B [] c ⟨G',c.hp,s'⟩/\s'.gens=c.s.gens) NoE c.s:=by
 refine Eea I.tab λps hp hok=>?_
 have hok2:=hok
 rw [T.tab] at hok2
 have hC:CodeHd c.s.heap cC B.tbl:=T.code.keeps I.baseIn
 cases hf:codeAmong pos ps.toList with
 | some cv=>exact wpAny_genexprCode_hit hcode (hC.code hp hok2.1) hf ⟨c.G,I,Stp.refl _,rfl⟩
 | none=>
  refine wpAny_genexprCodeX hcode (hC.code hp hok2.1) (hC.tab hp) hf λc' h' tk hx hc Z Z hrec htb Z=>?_
  obtain ⟨g',hr,I2,S2⟩:=I.table (s':={ c.s with heap:=h',toks:=tk }) T.tab hp hok hf hx hc hrec htb.2 hk2 rfl rfl
  exact ⟨_,I2,S2,rfl⟩
theorem ziZ {elt iter:Expr}{x sep:PySem.Str}{px gpos ap pos cp:Pos}{kc:Nat}{scope:Scope}{f:PySem.Str->PySem.Str}{ok:PySem.Str->Bool}{m:St->Option (V × HP)}(pl:Sem Bool) (T:zfa B mg known cC) (hi:ESound prog w B n F iter m) (hcode:F.env.code=.ref cC)
  (hk2:∀ p ∈ known,p.1.line=gpos.line->p.1.col=gpos.col->p.2=F.env.qual++"<genexpr>")
  (hco:scope.isCoroutine=false) (hclos:closureFor scope F.env=pure []) (hcell:∀ y ∈ scope.names,y.2≠.cell) (h0:scope.names.lookup (".0":zS)=some NameKind.local) (hx:scope.names.lookup x=some .local) (hkind:scope.kind=.function)
  (hs:∀ v,genFold iter F.env v=pure v)
  (helt:∀ (cenv:Env),cenv.scope=scope->∀ (A':Around) E' (y:PySem.Str) (t:Tok) (s₂:Shared) m₂,A'.handled=none->ok y=true->s₂.heap.Ns cenv.locals m₂->m₂ x=some (.str y t)->1<=s₂.toks->wpAny (model prog w) A' (eval elt cenv) (λz s₃=>(∃ t',z=.str (f y) t')/\Keeps s₂ s₃) E' s₂)
  (hse:starEach [.GeneratorExp elt [⟨.Name x px,iter,[],0⟩] scope gpos] F.env=[(false,eval (.GeneratorExp elt [⟨.Name x px,iter,[],0⟩] scope gpos) F.env)])
  (he:eval (.Call (.Attribute (.Constant (.str sep) kc cp) "join" ap) [.GeneratorExp elt [⟨.Name x px,iter,[],0⟩] scope gpos] [] pos) F.env=(do
   let ov <- eval (.Constant (.str sep) kc cp) F.env
   standAt ap.atName
   let (f,first) <- holding [ov] (getMethod ov "join" pl)
   callWith pos f first (backTo pos (starEach [.GeneratorExp elt [⟨.Name x px,iter,[],0⟩] scope gpos] F.env)) [])) :
  ESound prog w B n F (.Call (.Attribute (.Constant (.str sep) kc cp) "join" ap) [.GeneratorExp elt [⟨.Name x px,iter,[],0⟩] scope gpos] [] pos) (zhN sep f ok m):=λst v hp' e A hA G s I X=>by
 refine zfG e λv0 h q e=>znB e λxs qv e=>opB e λys hys e=>Ea (zaK e) λhb e=>?_
 refine zcy e ?_
 subst qv
 simp only [zrA,decide_eq_true_eq] at hb
 have hok:=hb.1.1
 have hlen:=hb.1.2
 have hcount:=hb.2
 refine MethodCall_ (pl:=pl) (wpAny_Constant_str ?_) he
 refine Ea (I.toks (s.toks + 1)) λI0 S0=>?_
 have X0:=X.step S0
 refine PySem.GM.join ?_
 have hse':starEach (.GeneratorExp elt [⟨.Name x px,iter,[],0⟩] scope gpos::[]) F.env=(false,eval (.GeneratorExp elt [⟨.Name x px,iter,[],0⟩] scope gpos) F.env)::starEach [] F.env:=hse
 refine callWith_method1 ?_ hse' rfl
 refine spliced_more ?_ hse'
 refine wpAny_GeneratorExp_make hco hclos hcell h0 hkind hA.room (hi.use q hA I0 X0 λxv s1 G1 I1 S1 r1=>?_) hs
 refine r1.list_elim λax items as k1 k2=>?_
 have k1':s1.heap.IsList ax items:=IsList.keep k1 I1.keep
 have hstrs:StrsAre items.toList ys:=zhg (RVs.of_reads k2) hys
 refine wpAny_pyIter_list k1' ?_
 have hIn:s1.heap.get? s1.heap.objs.size=none:=zaJ (zrv _)
 obtain ⟨I2,S2⟩:=I1.grow (s':={ s1 with heap:=s1.heap.push { cls:=.type "list_iterator",data:=.fields #[.ref ax,.int 0 0] } }) (λb o e=>Heap.get?_push_of_some _ e) rfl rfl
 have p2:=Priv.fresh (own:=[s1.heap.objs.size]) (c:=⟨G1,_,s1⟩) (c':=⟨G1,_,{ s1 with heap:=s1.heap.push { cls:=.type "list_iterator",data:=.fields #[.ref ax,.int 0 0] } }⟩) I1 rfl rfl (λb hb=>by simp at hb;subst hb;exact hIn) (λb hb=>by simp at hb;subst hb;exact ⟨_,Heap.get?_push_size _ rfl⟩)
 refine ⟨T.lim.keeps I2.baseIn,?_⟩
 refine wpAny_mono (ziz T hcode hk2 I2) (λcode s3 p3=>?_) λZ Z x=>x
 refine zkD p3 λG3 I3 S3 hg3=>?_
 have pr3:=p2.step S3
 have hg:s3.heap.Ns mainGlobals mg:=T.g.keeps I3.baseIn
 obtain ⟨bm,ob,hbm,hne0,_,_,hbo,hcls,hdict,hdata⟩:=T.blt
 refine X.ok.glob▸?_
 refine wpAny_builtinsFor hg hbm hne0 (I3.baseIn _ _ hbo) hcls hdict hdata ?_
 intro h' hn' hs'
 have hlen2:items.size=ys.length:=by have:=hstrs.length;simpa using this
 have hsz:h'.objs.size=s3.heap.objs.size + 1:=by rw [hs'.1,Heap.size_push]
 have hCn:s3.heap.get? s3.heap.objs.size=none:=zaJ (zrv _)
 have keep':∀ b o,s3.heap.get? b=some o->h'.get? b=some o:=λb o e=>hs'.extBut b o (λq=>by rw [q,hCn] at e;exact zan e) (Heap.get?_push_of_some _ e)
 have hit3:s3.heap.get? s1.heap.objs.size=some { cls:=.type "list_iterator",data:=.fields #[.ref ax,.int 0 0] }:=p2.keep (S3.toX (gx:=λZ=>False)) (λZ Z h=>nomatch h) _ (.head _) _ (Heap.get?_push_size _ rfl)
 have hax3:s3.heap.IsList ax items:=IsList.keep k1 λa o e=>I3.keep a o (S3.gg a o (S2.gg a o e))
 have hIa:s1.heap.objs.size < s3.heap.objs.size:=Heap.lt_size hit3
 have haxlt:ax < s3.heap.objs.size:=by (refine Eea hax3 λo ho Z=>?_);exact Heap.lt_size ho
 have hne:ax≠s1.heap.objs.size:=λe=>by (refine Eea k1' λo ho Z=>?_);rw [e,hIn] at ho;exact zan ho
 have hlim3:s3.heap.NoLimit:=T.lim.keeps I3.baseIn
 have hcs:cStatics < s3.heap.objs.size:=let ⟨_,hn,_⟩:=hlim3;hn.lt
 have hcsne:cStatics≠s1.heap.objs.size:=λe=>by
  obtain ⟨_,⟨o,_,_,ho,_⟩,_⟩:=(T.lim.keeps I1.baseIn:s1.heap.NoLimit)
  rw [e,hIn] at ho;exact zan ho
 have hh4:A.in1.in1.handled=none:=hA.1
 have hroom:A.in1.in1.depth < recursionLimit:=hA.room
 generalize hgo:({ cls:=.type "generator",data:=.fields #[.int s3.gens.size 0,.str "<genexpr>" (s3.toks + 1),.str (F.env.qual++"<genexpr>") (s3.toks + 1 + 1)] }:Obj)=gob
 have keep5:∀ b o,s3.heap.get? b=some o->(h'.push gob).get? b=some o:=λb o e=>Heap.get?_push_of_some _ (keep' b o e)
 have haC:h'.objs.size≠s3.heap.objs.size:=by rw [hsz];exact zuC _
 have haf:h'.objs.size ∉ zsR s3.heap.objs.size:=λhm=>by have:=zsk.mp hm;exact absurd (hsz▸this) (zsQ.mpr (zsl _))
 have W:=WalksS.gx (prog:=prog) (w:=w) hh4 h'.objs.size s3.gens.size s3.heap.objs.size (zsR s3.heap.objs.size) [s1.heap.objs.size] (ys.map f) haC haf (λb hb=>by simp at hb;subst hb;exact zsk.mpr hIa) hroom (zsk.mpr hcs) (zr5 hcs) (by simpa using hcsne)
 have hin1:∀ A':Around,A'.handled=none->Walks prog w A' s1.heap.objs.size (zsR s3.heap.objs.size) [s1.heap.objs.size] items.size (λi v=>items[i]?=some v) (λi h=>h.IsListIter s1.heap.objs.size ax i/\h.IsList ax items):=λA' hA'=>
  (Walks.list hA' s1.heap.objs.size ax hne items).mono_fp λb hb=>by
   simp at hb
   rcases hb with rfl | rfl
   ·exact zsk.mpr hIa
   ·exact zsk.mpr haxlt
 have hPs:∀ (i:Nat) (v:Value),items[i]?=some v->∃ y t,ys[i]?=some y/\v=.str y t:=λi v hv=>by
  have hlt:i < ys.length:=by refine hlen2▸?_;exact (zsX.mp hv).1
  obtain ⟨t,ht⟩:=hstrs.get i ys[i] (zrG hlt)
  have hv':items.toList[i]?=some v:=by simpa using hv
  rw [hv'] at ht
  exact ⟨_,t,zrG hlt,Option.some.inj ht⟩
 have hst:zqV prog w A.in1.in1 h'.objs.size s3.gens.size s3.heap.objs.size (zsR s3.heap.objs.size) [s1.heap.objs.size] (ys.map f) 0 { s3 with gens:=s3.gens.push (.fresh (.compStart (.GeneratorExp elt [⟨.Name x px,iter,[],0⟩] scope gpos) 0 (.ref s1.heap.objs.size) .none (genEnv scope [] s3.heap.objs.size code builtinsNs F.env))),toks:=s3.toks + 1 + 1 + 1,heap:=h'.push gob }:=by
  refine ⟨⟨gob,Value.str "<genexpr>" (s3.toks + 1),Value.str (F.env.qual++"<genexpr>") (s3.toks + 1 + 1),by refine hgo▸?_;exact Heap.get?_push_size _ rfl,by exact hgo▸rfl,by exact hgo▸rfl,by exact hgo▸rfl⟩,hlim3.keeps keep5,by show 1<=s3.toks + 1 + 1 + 1;exact zrw _,_,ztQ ..,λs'' htk hal=>⟨rfl,?_⟩⟩
  have hN:(ys.map f).length - 0=items.size:=by rw [zrN,hlen2,zuw]
  refine hN▸?_
  refine zjG (A:=A.in1.in1.in1) (cenv:=genEnv scope [] s3.heap.objs.size code builtinsNs F.env) f hA.1 hin1 hlen2 hPs hx (by simp [genEnv,hkind]) hco (λhm=>ztt _ (zsk.mp hm)) (λA' E' y t s₂ m₂ hA' hy hns hm htk=>helt _ rfl A' E' y t s₂ m₂ hA' (zs4.mp hok y hy) hns hm htk) s'' (λy=>if y=".0" then some (.ref s1.heap.objs.size) else none) ⟨⟨_,hal _ (zrL _ (zsk.mpr hIa)) _ (keep5 _ _ hit3),rfl,rfl⟩,?_⟩ ?_ htk
  ·exact hax3.at λo e=>hal _ (zrL _ (zsk.mpr haxlt)) o (keep5 _ o e)
  ·exact (hn'.push gob).at' λo e=>hal _ (zsn ..) o e
 refine spliced_none (SC.joinGen W (λi s st=>st.1.typeIs) hst ?_ (zsn ..) (λi v hv=>by (refine zgy hv λy t Z e=>?_);exact ⟨y,t,e⟩) (λs' l hm hacc=>?_) ?_)
 ·intro b hb
  have hfin:(h'.push gob).objs.size=s3.heap.objs.size + 1 + 1:=by rw [Heap.size_push,hsz]
  show b < (h'.push gob).objs.size
  rw [hfin]
  rcases zrs.mp hb with e | hb
  ·rw [e,hsz];exact zrD _
  ·rcases zrs.mp hb with e | hb
   ·rw [e];exact zsi (zrD _)
   ·exact zsi (zsi (zsk.mp hb))
 ·have hsv:∀ l:List (PySem.Str × Tok),strValues l=l.map λp=>Value.str p.1 p.2:=λl=>by
   induction l with
   | nil=>rfl
   | cons p r ih=>obtain ⟨a,b⟩:=p;show Value.str a b::strValues r=_;refine (congrArg _ ih).trans ?_;rfl
  have hl:l.map (·.1)=ys.map f:=by
   refine Ea hacc λn1 n2=>?_
   rw [hsv] at n1 n2
   have n1':l.length=(ys.map f).length:=by simpa using n1
   apply ztN
   intro j
   rcases zr4 j l.length with hj | hj
   ·have:=n2 j (Value.str l[j].1 l[j].2) (by simp [hj])
    refine zgy this λy t h1 h2=>?_
    cases h2
    refine h1▸zr7▸(zrG hj)▸?_;rfl
   ·rw [zrH (by simpa using hj),zrH (by rw [<- n1'];exact hj)]
  refine (Eq.symm hl)▸?_
  refine ⟨joinOk_of (by rw [zrN];exact hlen),λt' k=>?_⟩
  have hkeep:∀ b o,b ∉ [s1.heap.objs.size]->s3.heap.get? b=some o->s'.heap.get? b=some o:=λb o hb e=>hm.heap b o (λhq=>by
   rcases zrs.mp hq with e2 | hq
   ·rw [e2,hCn] at e;exact zan e
   ·exact hb hq) (keep5 b o e)
  have hbare:AllBare (s3.gens.push (.fresh (.compStart (.GeneratorExp elt [⟨.Name x px,iter,[],0⟩] scope gpos) 0 (.ref s1.heap.objs.size) .none (genEnv scope [] s3.heap.objs.size code builtinsNs F.env)))):=AllBare.push I3.bare rfl
  have hgens:∀ (i:Nat) (x:GenState),¬ False->s3.gens[i]?=some x->s'.gens[i]?=some x:=λi gsx Z e=>by
   have hi:i < s3.gens.size:=(zsX.mp e).1
   have e2:(s3.gens.push (.fresh (.compStart (.GeneratorExp elt [⟨.Name x px,iter,[],0⟩] scope gpos) 0 (.ref s1.heap.objs.size) .none (genEnv scope [] s3.heap.objs.size code builtinsNs F.env))))[i]?=some gsx:=by
    refine Eq.trans (ztZ hi) ?_;refine e▸?_;simp [hi]
   rcases hm.gens with q | ⟨q,_⟩
   ·refine q▸?_;exact e2
   ·refine Eq.trans (q.2 i (by exact zr5 hi)) ?_;exact e2
  obtain ⟨I5,S5⟩:=I3.privsG (gx:=λZ=>False) (s':={ s' with toks:=k }) pr3 hkeep hgens (GenOnlyQ.bare hm.gens hbare) hm.os
  have hback:∀ a ∈ [s1.heap.objs.size],s.heap.get? a=none:=λa ha=>by
   have:a=s1.heap.objs.size:=by simpa using ha
   subst this
   cases hq:s.heap.get? s1.heap.objs.size with
   | none=>rfl
   | some o=>(refine Ee ((S0.trans0 I0 S1).sz _ ⟨o,hq⟩) λo' h'=>?_);rw [show (⟨G1,_,s1⟩:Cfg).s.heap.get? s1.heap.objs.size=s1.heap.get? s1.heap.objs.size from rfl,hIn] at h';exact zan h'
  have Sa:=((S0.trans0 I0 S1).trans0 I1 S2).trans0 I2 S3
  exact ⟨G3,I5,Sa.thenX I3 S5 hback (λi h=>h.elim),.d (.str _ _)⟩
 ·rw [zrN];exact zrn hcount (zN rfl)
end
noncomputable def zg7 (y1 z1 y2 z2 y:PySem.Str):Bool:=decide (y.length + (y.length + 1) * z1.length<=16777216) && decide ((Txt.replace y y1 z1).length + ((Txt.replace y y1 z1).length + 1) * z2.length<=16777216)
section
variable {prog:Program}{w:World}
theorem zm4 {x y1 z1 y2 z2:PySem.Str}{k1 k2 k3 k4:Nat}{p0 a1 c1 c2 p1 a2 c3 c4 p2:Pos}(pl1 pl2:Env->Sem Bool) {cenv:Env}{scope:Scope}(hsc:cenv.scope=scope) (hx:scope.names.lookup x=some .local) (hkind:scope.kind=.function) (hd:(x==("__debug__":zS))=false)
  (hyz1:(y1==z1)=false) (hyz2:(y2==z2)=false)
  (he1:∀ env:Env,eval (.Call (.Attribute (.Name x p0) "replace" a1) [.Constant (.str y1) k1 c1,.Constant (.str z1) k2 c2] [] p1) env=(do
   let ov <- eval (.Name x p0) env
   standAt a1.atName
   let (f,first) <- holding [ov] (getMethod ov "replace" (pl1 env))
   callWith p1 f first (backTo p1 (starEach [.Constant (.str y1) k1 c1,.Constant (.str z1) k2 c2] env)) []))
  (he2:∀ env:Env,eval (.Call (.Attribute (.Call (.Attribute (.Name x p0) "replace" a1) [.Constant (.str y1) k1 c1,.Constant (.str z1) k2 c2] [] p1) "replace" a2) [.Constant (.str y2) k3 c3,.Constant (.str z2) k4 c4] [] p2) env=(do
   let ov <- eval (.Call (.Attribute (.Name x p0) "replace" a1) [.Constant (.str y1) k1 c1,.Constant (.str z1) k2 c2] [] p1) env
   standAt a2.atName
   let (f,first) <- holding [ov] (getMethod ov "replace" (pl2 env))
   callWith p2 f first (backTo p2 (starEach [.Constant (.str y2) k3 c3,.Constant (.str z2) k4 c4] env)) []))
  (A':Around) (E':Value->Shared->Prop) (y:PySem.Str) (t:Tok) (s₂:Shared) (m₂:PySem.Str->Option Value) (hok:zg7 y1 z1 y2 z2 y=true) (hns:s₂.heap.Ns cenv.locals m₂) (hm:m₂ x=some (.str y t)) (htk:1<=s₂.toks) :
  wpAny (model prog w) A' (eval (.Call (.Attribute (.Call (.Attribute (.Name x p0) "replace" a1) [.Constant (.str y1) k1 c1,.Constant (.str z1) k2 c2] [] p1) "replace" a2) [.Constant (.str y2) k3 c3,.Constant (.str z2) k4 c4] [] p2) cenv)
   (λz s₃=>(∃ t',z=.str (Txt.replace (Txt.replace y y1 z1) y2 z2) t')/\Keeps s₂ s₃) E' s₂:=by
 unfold zg7 at hok
 simp only [zrA,decide_eq_true_eq] at hok
 have hkd:cenv.kindOf x=some .local:=by unfold Env.kindOf;refine hsc▸?_;exact hx
 have zhK:wpAny (model prog w) A' (eval (.Call (.Attribute (.Name x p0) "replace" a1) [.Constant (.str y1) k1 c1,.Constant (.str z1) k2 c2] [] p1) cenv) (λv s'=>∃ t' k,v=.str (Txt.replace y y1 z1) t'/\s'={ s₂ with toks:=k }) E' s₂:=by
  refine MethodCall_ (pl:=pl1 cenv) (wpAny_Name (wpAny_loadName_local (by refine (congrArg _ hsc).trans ?_;exact hkind) hkd hns hm ?_) hd) (he1 cenv)
  refine PySem.GM.replace ?_
  refine callWith_method1 (spliced_more (wpAny_Constant_str (spliced_more (wpAny_Constant_str (spliced_none ?_)))))
  refine SC.replace ?h1 ?h2 ?h3 hyz1 hok.1 λt' k=>⟨t',k,rfl,rfl⟩
  case h1=>exact zrV htk
  case h2=>exact zs3 _
  case h3=>exact zr5 (zrD _)
 refine MethodCall_ (pl:=pl2 cenv) (wpAny_mono (wpAny_toks_of htk zhK) (λv s' hv=>?_) λZ Z e=>e.2) (he2 cenv)
 obtain ⟨htk',t',k,rfl,rfl⟩:=hv
 refine PySem.GM.replace ?_
 refine callWith_method1 (spliced_more (wpAny_Constant_str (spliced_more (wpAny_Constant_str (spliced_none ?_)))))
 refine SC.replace ?h1 ?h2 ?h3 hyz2 hok.2 λt' k=>⟨⟨t',rfl⟩,s₂.heap,k,rfl,λZ Z e=>e⟩
 case h1=>exact zrV htk'
 case h2=>exact zs3 _
 case h3=>exact zr5 (zrD _)
end
noncomputable def Bs.pin (B:Bs) (ps:Array Value):Bs:=⟨B.h,B.tbl,λZ qs=>qs=ps,λZ Z Z Z h=>h⟩
noncomputable def bG (B:Bs):Gh:=⟨B.h,λZ=>none⟩
noncomputable def Alive (B:Bs) (s:Shared):Prop:=(∀ a o,B.h.get? a=some o->s.heap.get? a=some o)/\(∃ ps,s.heap.get? B.tbl=some (tabObj ps))/\AllBare s.gens
noncomputable def GX (own:List Addr) (s s':Shared):Prop:=(∀ b o,b ∉ own->s.heap.get? b=some o->s'.heap.get? b=some o)/\(∀ (i:Nat) (x:GenState),s.gens[i]?=some x->s'.gens[i]?=some x)/\s'.os=s.os
theorem GX.refl {own:List Addr}(s:Shared):GX own s s:=⟨λZ Z Z e=>e,λZ Z e=>e,rfl⟩
theorem GX.trans {own own':List Addr}{s s' s'':Shared}(x:GX own s s') (y:GX own' s' s'') (h:∀ b ∈ own',b ∈ own):GX own s s'':=
 ⟨λb o hb e=>y.1 b o (λq=>hb (h b q)) (x.1 b o hb e),λi v e=>y.2.1 i v (x.2.1 i v e),y.2.2.trans x.2.2⟩
theorem GX.weak {own own':List Addr}{s s':Shared}(x:GX own s s') (h:∀ b ∈ own,b ∈ own'):GX own' s s':=⟨λb o hb e=>x.1 b o (λq=>hb (h b q)) e,x.2⟩
noncomputable def zdZ:V->Prop
 | .d (.int _)=>True
 | .d (.bool _)=>True
 | .d (.str _)=>True
 | _=>False
theorem RV.atom {G G':Gh}{cv:Value}{v:V}(h:RV G cv v) (a:zdZ v):RV G' cv v:=by
 cases v with
 | d x=>
  cases x with
  | int i=>(refine Ee h.int_inv λt q0=>?_;subst q0);exact .d (.int _ _)
  | bool b=>have:=h.bool_inv;subst this;exact .d (.bool _)
  | str y=>(refine Ee h.str_inv λt q0=>?_;subst q0);exact .d (.str _ _)
  | _=>exact a.elim
 | _=>exact a.elim
noncomputable def zkH (loc:List (Option V)):Prop:=∀ (k:Nat) (v:V),loc[k]?=some (some v)->zdZ v
structure Lv (B:Bs) (F:FI) (loc:List (Option V)) (s:Shared):Prop where
 al:Alive B s
 fr:FrInv B F loc ⟨bG B,[],s⟩
theorem Alive.inv {B:Bs}{s:Shared}(h:Alive B s) (hB:B.h.get? B.tbl=none):∃ ps,s.heap.get? B.tbl=some (tabObj ps)/\BInv (B.pin ps) ⟨bG B,[],s⟩:=by
 obtain ⟨h1,⟨ps,h2⟩,h3⟩:=h
 exact ⟨ps,h2,h1,λZ Z e=>e,λZ Z e=>(nomatch e),λZ Z Z e=>(nomatch e),λZ Z=>rfl,λZ Z e=>by contradiction,⟨ps,h2,rfl⟩,⟨hB,λZ e=>(nomatch e)⟩,h3⟩
theorem FrInv.pin {B:Bs}{ps:Array Value}{F:FI}{loc:List (Option V)}{c:Cfg}(X:FrInv B F loc c):FrInv (B.pin ps) F loc c:=⟨X.ok,X.ns,X.pvs,X.loc,X.cel,X.lown⟩
theorem FrInv.unpin {B:Bs}{ps:Array Value}{F:FI}{loc:List (Option V)}{c:Cfg}(X:FrInv (B.pin ps) F loc c):FrInv B F loc c:=⟨X.ok,X.ns,X.pvs,X.loc,X.cel,X.lown⟩
theorem FrInv.base {B:Bs}{F:FI}{loc:List (Option V)}{G:Gh}{s:Shared}(X:FrInv B F loc ⟨G,[],s⟩) (hb:∀ a o,B.h.get? a=some o->G.g.get? a=some o) (ha:zkH loc):FrInv B F loc ⟨bG B,[],s⟩:=by
 refine ⟨X.ok,X.ns,λa h=>?_,λk x v h1 h2=>?_,X.cel,X.lown⟩
 ·refine zi6 (X.pvs a h) λh1 h2 h3 h4=>?_
  refine ⟨h1,?_,λ⟨_,_,e,_⟩=>by contradiction,h4⟩
  show B.h.get? a=none
  cases q:B.h.get? a with
  | none=>rfl
  | some o=>have:=hb a o q;rw [show (⟨G,[],s⟩:Cfg).G.g.get? a=G.g.get? a from rfl,this] at h2;exact ziK h2
 ·refine Eea (X.loc k x v h1 h2) λcv L r=>?_
  exact ⟨cv,L,r.atom (ha k v h2)⟩
theorem Lv.out {B:Bs}{F:FI}{loc:List (Option V)}{ps:Array Value}{G:Gh}{s:Shared}(I:BInv (B.pin ps) ⟨G,[],s⟩) (X:FrInv (B.pin ps) F loc ⟨G,[],s⟩) (ha:zkH loc):Lv B F loc s:=by
 (refine Eea I.tab λqs h1 q0=>?_;subst q0)
 exact ⟨⟨λa o e=>I.keep a o (I.base a o e),⟨_,h1⟩,I.bare⟩,X.unpin.base I.base ha⟩
theorem GX.of {B:Bs}{pv:List Addr}{ps:Array Value}{G G':Gh}{s s':Shared}(ht:s.heap.get? B.tbl=some (tabObj ps)) (I:BInv (B.pin ps) ⟨G',[],s'⟩) (S:Stp (B.pin ps) pv ⟨G,[],s⟩ ⟨G',[],s'⟩):GX pv s s':=by
 refine ⟨λb o hb e=>?_,S.gn,S.os⟩
 by_cases h:b=B.tbl
 ·subst h
  (refine Eea I.tab λqs h1 q0=>?_;subst q0)
  rw [ht] at e;refine zfx e ?_;exact h1
 ·exact S.kp b o e hb (λ⟨_,_,q,_⟩=>by contradiction) h
theorem Lv.keep {B:Bs}{F:FI}{loc:List (Option V)}{s s':Shared}(L:Lv B F loc s) (al:Alive B s') (hk:∀ a ∈ F.pv,∀ o,s.heap.get? a=some o->s'.heap.get? a=some o):Lv B F loc s':=by
 refine ⟨al,L.fr.ok,?_,λa ha=>?_,λk x v h1 h2=>?_,λx hx hc=>?_,L.fr.lown⟩
 ·obtain ⟨m,h⟩:=L.fr.ns
  exact ⟨m,h.at' (hk _ L.fr.ok.loc)⟩
 ·obtain ⟨⟨o,h1⟩,h2,h3,h4⟩:=L.fr.pvs a ha
  exact ⟨⟨o,hk a ha o h1⟩,h2,λ⟨_,_,e,_⟩=>by contradiction,h4⟩
 ·refine Eea (L.fr.loc k x v h1 h2) λcv q r=>?_
  exact ⟨cv,q.keep L.fr.ok hk,r⟩
 ·obtain ⟨a,v,h1,h2,o,ho,hd⟩:=L.fr.cel x hx hc
  exact ⟨a,v,h1,h2,o,hk a (L.fr.ok.own a h2) o ho,hd⟩
section
variable {prog:Program}{w:World}{B:Bs}{n:Nat}{F:FI}
noncomputable def zhp (prog:Program) (w:World) (B:Bs) (n:Nat) (F:FI) (t:Sem Flow) (m:St->Option (Fl × St)):Prop:=∀ ps,SSound prog w (B.pin ps) n F t m
noncomputable def zfU (prog:Program) (w:World) (B:Bs) (n:Nat) (F:FI) (e:Expr) (m:St->Option (Bool × HP)):Prop:=∀ ps,QSound prog w (B.pin ps) n F e m
noncomputable def zho (prog:Program) (w:World) (B:Bs) (n:Nat) (F:FI) (pos:Pos) (es:List Expr) (m:St->Option (List V × HP)):Prop:=∀ ps,LSound prog w (B.pin ps) n F pos es m
noncomputable def zlz (prog:Program) (w:World) (B:Bs) (n:Nat) (F:FI) (t:Value->Sem Unit) (m:V->St->Option St):Prop:=∀ ps,zcI prog w (B.pin ps) n F t m
theorem zoR {t:Sem Flow}{m:St->Option (Fl × St)}(hs:zhp prog w B n F t m) (hB:B.h.get? B.tbl=none) {loc loc':List (Option V)}(e:m ⟨loc,[]⟩=some (.next,⟨loc',[]⟩)) (ha:zkH loc') {A:Around}(hA:AOk n A) {s:Shared}(L:Lv B F loc s)
  {Q:Flow->Shared->Prop} {E:Value->Shared->Prop} (h:∀ s',Lv B F loc' s'->GX F.own s s'->Q .next s'):wpAny (model prog w) A t Q E s:=by
 refine Eea (L.al.inv hB) λps ht I=>?_
 refine wpAny_mono (hs ps _ _ _ e A hA _ s I L.fr.pin) (λf s' p=>?_) λZ Z x=>x.elim
 refine PostS.E p λG' I' X' S' hf=>?_
 cases hf
 exact h s' (Lv.out I' X' ha) (GX.of ht I' S')
theorem zjy {t:Expr}{m:St->Option (Bool × HP)}(hs:zfU prog w B n F t m) (hB:B.h.get? B.tbl=none) {loc:List (Option V)}{b:Bool}(e:m ⟨loc,[]⟩=some (b,[])) {A:Around}(hA:AOk n A) {s:Shared}(L:Lv B F loc s)
  {Q:Bool->Shared->Prop} {E:Value->Shared->Prop} (h:∀ s',Lv B F loc s'->GX [] s s'->Q b s'):wpAny (model prog w) A (isTrue t F.env (eval t F.env)) Q E s:=by
 refine Eea (L.al.inv hB) λps ht I=>?_
 refine wpAny_mono (hs ps _ _ _ e A hA _ s I L.fr.pin) (λf s' p=>?_) λZ Z x=>x.elim
 (refine PostQ.E p λq0 G' I' S'=>?_;subst q0)
 have g:=GX.of ht I' S'
 exact h s' (L.keep ⟨λa o e=>I'.keep a o (I'.base a o e),⟨ps,g.1 _ _ zrq ht⟩,I'.bare⟩ λa Z o q=>g.1 a o zrq q) g
theorem zoQ {pos:Pos}{es:List Expr}{m:St->Option (List V × HP)}(hs:zho prog w B n F pos es m) (hB:B.h.get? B.tbl=none) {loc:List (Option V)}{p:Int}{y:Str}(e:m ⟨loc,[]⟩=some ([.d (.int p),.d (.str y)],[])) {A:Around}(hA:AOk n A) {s:Shared}(L:Lv B F loc s)
  {Q:List Value->Shared->Prop} {E:Value->Shared->Prop} (h:∀ s' t1 t2,Lv B F loc s'->GX [] s s'->Q [.int p t1,.str y t2] s'):wpAny (model prog w) A (spliced (backTo pos (starEach es F.env))) Q E s:=by
 refine Eea (L.al.inv hB) λps ht I=>?_
 refine wpAny_mono (hs ps _ _ _ e A hA _ s I L.fr.pin) (λcvs s' p=>?_) λZ Z x=>x.elim
 refine PostL.E p λG' I' S' r=>?_
 have g:=GX.of ht I' S'
 have L':=L.keep ⟨λa o e=>I'.keep a o (I'.base a o e),⟨ps,g.1 _ _ zrq ht⟩,I'.bare⟩ λa Z o q=>g.1 a o zrq q
 cases r with
 | cons r1 r=>
  cases r with
  | cons r2 r=>
   cases r
   (refine Ee r1.int_inv λt1 q0=>?_;subst q0)
   (refine Ee r2.str_inv λt2 q0=>?_;subst q0)
   exact h s' t1 t2 L' g
theorem znx {t:Value->Sem Unit}{m:V->St->Option St}(hs:zlz prog w B n F t m) (hB:B.h.get? B.tbl=none) {loc loc':List (Option V)}{p:Int}{y:Str}(e:m (.d (.tuple [.int p,.str y])) ⟨loc,[]⟩=some ⟨loc',[]⟩) (ha:zkH loc') {A:Around}(hA:AOk n A) {s:Shared}(L:Lv B F loc s) {T:Addr}{t1 t2:Tok}
  (hT:s.heap.get? T=some { cls:=.type "tuple",data:=.seq #[.int p t1,.str y t2] }) (hTB:B.h.get? T=none) (hTp:T ∉ F.pv) (hTt:T≠B.tbl)
  {Q:Unit->Shared->Prop} {E:Value->Shared->Prop} (h:∀ s',Lv B F loc' s'->GX F.own s s'->Q () s'):wpAny (model prog w) A (t (.ref T)) Q E s:=by
 refine Eea (L.al.inv hB) λps ht I=>?_
 refine Eea (zcx B.h T _ (Heap.get?_some_iff.mp hT).2) λg' e1 e2=>?_
 have I2:BInv (B.pin ps) ⟨⟨g',λZ=>none⟩,[],s⟩:=by
  refine ⟨λa o q=>?_,λa o q=>?_,λZ Z e=>(nomatch e),λZ Z Z e=>(nomatch e),λZ Z=>rfl,λZ Z e=>by contradiction,⟨ps,ht,rfl⟩,⟨?_,λZ e=>(nomatch e)⟩,I.bare⟩
  ·by_cases h:a=T
   ·subst h;rw [show (⟨⟨g',λZ=>none⟩,[],s⟩:Cfg).G.g.get? a=g'.get? a from rfl,e1] at q;refine zfx q ?_;exact hT
   ·exact I.keep a o (by refine q▸?_;exact (e2 a h).symm)
  ·have:a≠T:=λh=>by rw [show (B.pin ps).h.get? a=B.h.get? a from rfl,h,hTB] at q;exact zan q
   exact (e2 a this).trans q
  ·exact (e2 _ (Ne.symm hTt)).trans hB
 have X2:FrInv (B.pin ps) F loc ⟨⟨g',λZ=>none⟩,[],s⟩:=by
  refine ⟨L.fr.ok,L.fr.ns,λa ha=>?_,λk x v h1 h2=>?_,L.fr.cel,L.fr.lown⟩
  ·refine zi6 (L.fr.pvs a ha) λh1 h2 h3 h4=>?_
   exact ⟨h1,(e2 a λq=>hTp (q▸ha)).trans h2,λ⟨_,_,e,_⟩=>by contradiction,h4⟩
  ·refine Eea (L.fr.loc k x v h1 h2) λcv q r=>?_
   exact ⟨cv,q,RV.mono (G:=bG B) (G':=⟨g',λZ=>none⟩) (λa o q=>by
    have:a≠T:=λh=>by rw [show (bG B).g.get? a=B.h.get? a from rfl,h,hTB] at q;exact zan q
    exact (e2 a this).trans q) (λZ Z e=>e) r⟩
 have r2:RV ⟨g',λZ=>none⟩ (.ref T) (.d (.tuple [.int p,.str y])):=.d (reads_tuple_at e1 rfl rfl (.cons (.int _ _) (.cons (.str _ _) .nil)))
 refine wpAny_mono (hs ps _ _ _ e A hA _ s _ I2 X2 r2) (λZ s' p=>?_) λZ Z x=>x.elim
 refine PostU.E p λG' I' X' S'=>?_
 exact h s' (Lv.out I' X' ha) (GX.of ht I' S')
end
noncomputable def zcP:Int->Bool->List Nat->List (Int × PySem.Str)
 | _,_,[]=>[]
 | i,esc,c::r=>if esc then (i,⟨#[92,c]⟩)::zcP (i + 1) false r else if c=92 then zcP (i + 1) true r else (i,⟨#[c]⟩)::zcP (i + 1) false r
noncomputable def za7:Bool->List Nat->Bool
 | esc,[]=>esc
 | esc,c::r=>if esc then za7 false r else if c=92 then za7 true r else za7 false r
noncomputable def zpn (B:Bs) (own:List Addr) (outs:List (Int × PySem.Str)):Protocol:=λm s₀ v s kap=>
 (∃ p y a t1 t2,outs[outs.length - 1 - m]?=some (p,y)/\v=.ref a/\s₀.heap.get? a=none/\a ∉ own/\s.heap.get? a=some { cls:=.type "tuple",data:=.seq #[.int p t1,.str y t2] })/\
 GX own s₀ s/\Alive B s/\(∀ b ∈ own,Ex s.heap b)/\
 ∀ s'':Shared,Alive B s''->(∀ b ∈ own,∀ o,s.heap.get? b=some o->s''.heap.get? b=some o)->kap (.send .none) s''
noncomputable abbrev zj6 (own:List Addr):GenEnd:=λn s₀ r s₁=>r=.ok (.ret .none)/\(n=0/\GX own s₀ s₁/\AllBare s₁.gens)
section
variable {prog:Program}{w:World}{B:Bs}{n:Nat}{F:FI}
theorem ze4 {M:Model}{A:Around}{R:GenEnd}{Y:Protocol}{k:Nat}{s₀ s:Shared}{c:Code}{fs:List Frame}{env:Env}{K:Flow->Sem Fin}{H:Value->Sem Fin}{gd:Bool->Bool}{lv:List Value->List Value}{test:Expr}{body orelse:List Stmt}{pos:Pos}
  (h:wpAny M (A.over c fs) (isTrue test env (eval test env)) (λb s'=>Seg M A R Y k s₀ c ((if b=true then execs body env else execs orelse env).wrap K H gd lv) fs s') NoE s) :
  Seg M A R Y k s₀ c ((exec (.If test body orelse pos) env).wrap K H gd lv) fs s:=by
 rw [exec_If]
 refine seg_bind_wrap (wpAny_standAt (seg_bind_wrap (wpAny_mono h (λb s' h'=>?_) λZ Z x=>x.elim)))
 exact h'
theorem zkt {A:Around}{R:GenEnd}{own:List Addr}{outs:List (Int × PySem.Str)}{k:Nat}{s₀ s:Shared}{c:Code}{fs:List Frame}{K:Flow->Sem Fin}{H:Value->Sem Fin}{gd:Bool->Bool}{lv:List Value->List Value}{elts:List Expr}{kt:Nat}{tp yp xp:Pos}{m:St->Option (List V × HP)}{loc:List (Option V)}{p:Int}{y:PySem.Str}
  (hfs:splitAtGen fs=none) (hgd:gd false=false) (hfg:fs.any Frame.guarded=false) (hco:F.env.scope.isCoroutine=false) (hin:interactive F.env=false)
  (hB:B.h.get? B.tbl=none) (hl:zho prog w B n F tp elts m) (e:m ⟨loc,[]⟩=some ([.d (.int p),.d (.str y)],[])) (hA:AOk n (A.over c fs)) (hi:outs[outs.length - 1 - k]?=some (p,y)) (hpv:∀ a ∈ F.pv,a ∈ own)
  (L:Lv B F loc s) (g:GX own s₀ s) (hx:∀ b ∈ own,Ex s.heap b)
  (cont:∀ s' s'',GX [] s s'->(∀ b ∈ own,∀ o,s'.heap.get? b=some o->s''.heap.get? b=some o)->Lv B F loc s''->Seg (model prog w) A R (zpn B own outs) k s'' c (K .next) fs s'') :
  Seg (model prog w) A R (zpn B own outs) (k + 1) s₀ c ((exec (.Expr (.Yield (some (.Tuple elts kt tp)) yp) xp) F.env).wrap K H gd lv) fs s:=by
 refine seg_Expr_Yield hfs hgd hfg ?_ hco hin
 refine wpAny_Tuple (zoQ hl hB e hA L λs' t1 t2 L' g'=>⟨by show 2<=sizeLine;decide,λkap hk=>?_⟩)
 have hT:s'.heap.get? s'.heap.objs.size=none:=zaJ (zrv _)
 have up:∀ b o,s'.heap.get? b=some o->(s'.heap.push { cls:=.type "tuple",data:=.seq #[.int p t1,.str y t2] }).get? b=some o:=λb o q=>Heap.get?_push_of_some _ q
 have gg:GX own s₀ { s' with heap:=s'.heap.push { cls:=.type "tuple",data:=.seq #[.int p t1,.str y t2] } }:=
  (g.trans (own':=[]) g' (λZ h=>nomatch h)).trans (own':=[]) ⟨λb o Z q=>up b o q,λZ Z q=>q,rfl⟩ (λZ h=>nomatch h)
 have hx':∀ b ∈ own,Ex s'.heap b:=λb hb=>let ⟨o,q⟩:=hx b hb;⟨o,g'.1 b o zrq q⟩
 refine ⟨⟨p,y,_,t1,t2,hi,rfl,?_,λhb=>(by (refine Ee (hx' _ hb) λo' q'=>?_);rw [hT] at q';exact zan q'),Heap.get?_push_size _ rfl⟩,gg,⟨λa o q=>up a o (L'.al.1 a o q),let ⟨ps,q⟩:=L'.al.2.1;⟨ps,up _ _ q⟩,L'.al.2.2⟩,λb hb=>let ⟨o,q⟩:=hx' b hb;⟨o,up b o q⟩,λs'' al hk''=>?_⟩
 ·cases q:s₀.heap.get? s'.heap.objs.size with
  | none=>rfl
  | some o=>
   by_cases hb:s'.heap.objs.size ∈ own
   ·(refine Ee (hx' _ hb) λo' q'=>?_);rw [hT] at q';exact zan q'
   ·have:=(g.trans (own':=[]) g' (λZ h=>nomatch h)).1 _ _ hb q
    rw [hT] at this;exact zan this
 ·refine hk _ _ ?_
  have hk2:∀ b ∈ own,∀ o,s'.heap.get? b=some o->s''.heap.get? b=some o:=λb hb o q=>hk'' b hb o (up b o q)
  exact cont s' s'' g' hk2 (L'.keep al λa ha o q=>hk2 a (hpv a ha) o q)
theorem zku {A:Around}{R:GenEnd}{Y:Protocol}{k:Nat}{s₀ s:Shared}{c:Code}{fs:List Frame}{K:Flow->Sem Fin}{H:Value->Sem Fin}{gd:Bool->Bool}{lv:List Value->List Value}{t:Sem Flow}{m:St->Option (Fl × St)}(hs:zhp prog w B n F t m) (hB:B.h.get? B.tbl=none) {loc loc':List (Option V)}
  (e:m ⟨loc,[]⟩=some (.next,⟨loc',[]⟩)) (ha:zkH loc') (hA:AOk n (A.over c fs)) (L:Lv B F loc s) (h:∀ s',Lv B F loc' s'->GX F.own s s'->Seg (model prog w) A R Y k s₀ c (K .next) fs s') :
  Seg (model prog w) A R Y k s₀ c (t.wrap K H gd lv) fs s:=seg_wrap (zoR hs hB e ha hA L h)
end
theorem zlY {α:Type}{outs pre rest:List α}{y:α}{k:Nat}(h:outs=pre++y::rest) (hk:k=rest.length):outs[outs.length - 1 - k]?=some y:=by
 subst h hk
 have:(pre++y::rest).length - 1 - rest.length=pre.length:=by simp
 refine (congrArg _ this).trans ?_;simp
structure EscFn (prog:Program) (w:World) (B:Bs) (n:Nat) (F:FI) where
 target:Expr
 tgt:∃ elts kt tp,target=.Tuple elts kt tp
 t1:Expr
 el1:List Expr
 k1:Nat
 tp1:Pos
 yp1:Pos
 xp1:Pos
 a1:Stmt
 t2:Expr
 a2:Stmt
 el2:List Expr
 k2:Nat
 tp2:Pos
 yp2:Pos
 xp2:Pos
 ip2:Pos
 ip1:Pos
 u:V->St->Option St
 hu:zlz prog w B n F (assign target F.env) u
 eu:∀ x0 po es ch p y,u (.d (.tuple [.int p,.str y])) ⟨[x0,po,es,ch],[]⟩=some ⟨[x0,some (.d (.int p)),es,some (.d (.str y))],[]⟩
 q1:St->Option (Bool × HP)
 h1:zfU prog w B n F t1 q1
 e1:∀ x0 po b ch,q1 ⟨[x0,po,some (.d (.bool b)),ch],[]⟩=some (b,[])
 m1:St->Option (Fl × St)
 ha1:zhp prog w B n F (exec a1 F.env) m1
 ea1:∀ x0 po es ch,m1 ⟨[x0,po,es,ch],[]⟩=some (.next,⟨[x0,po,some (.d (.bool false)),ch],[]⟩)
 q2:St->Option (Bool × HP)
 h2:zfU prog w B n F t2 q2
 e2:∀ x0 po es (c:Nat),c < 1114112->q2 ⟨[x0,po,es,some (.d (.str ⟨#[c]⟩))],[]⟩=some (decide (c=92),[])
 m2:St->Option (Fl × St)
 ha2:zhp prog w B n F (exec a2 F.env) m2
 ea2:∀ x0 po es ch,m2 ⟨[x0,po,es,ch],[]⟩=some (.next,⟨[x0,po,some (.d (.bool true)),ch],[]⟩)
 r1:St->Option (List V × HP)
 hl1:zho prog w B n F tp1 el1 r1
 el1e:∀ x0 p es (c:Nat),r1 ⟨[x0,some (.d (.int p)),es,some (.d (.str ⟨#[c]⟩))],[]⟩=some ([.d (.int p),.d (.str ⟨#[92,c]⟩)],[])
 r2:St->Option (List V × HP)
 hl2:zho prog w B n F tp2 el2 r2
 el2e:∀ x0 p es (c:Nat),r2 ⟨[x0,some (.d (.int p)),es,some (.d (.str ⟨#[c]⟩))],[]⟩=some ([.d (.int p),.d (.str ⟨#[c]⟩)],[])
noncomputable def EscFn.body {prog:Program}{w:World}{B:Bs}{n:Nat}{F:FI}(f:EscFn prog w B n F):List Stmt:=
 [.If f.t1 [.Expr (.Yield (some (.Tuple f.el1 f.k1 f.tp1)) f.yp1) f.xp1,f.a1] [.If f.t2 [f.a2] [.Expr (.Yield (some (.Tuple f.el2 f.k2 f.tp2)) f.yp2) f.xp2] f.ip2] f.ip1]
section
variable {prog:Program}{w:World}{B:Bs}{n:Nat}{F:FI}
theorem znI (f:EscFn prog w B n F) {A:Around}{e it:Addr}{x:PySem.Str}{St:Nat->Heap->Prop}{outs:List (Int × PySem.Str)}{x0:Option V}{kk:Result->Sem Fin}{hd:Option Value}{lv':List Value}{c₁:Code}{p₁:Pos}{kp:List Value}{fs':List Frame}
  (hB:B.h.get? B.tbl=none) (hco:F.env.scope.isCoroutine=false) (hin:interactive F.env=false) (hpv:F.pv=[F.env.locals]) (hown:F.own=[F.env.locals])
  (hei:e≠it) (heC:e≠F.env.locals) (hiC:it≠F.env.locals) (heB:B.h.get? e=none) (hiB:B.h.get? it=none) (het:e≠B.tbl) (hit:it≠B.tbl) (hx0:∀ v,x0=some v->zdZ v)
  (hxc:∀ c ∈ x.cps.toList,c < 1114112)
  (D:∀ A':Around,A'.handled=none->Draws prog w A' it [it] x.cps.size (λi v=>∃ c u,x.cps[i]?=some c/\v=.str ⟨#[c]⟩ u) St)
  (hfs:splitAtGen (.ret kk hd false lv' c₁ p₁ kp::fs')=none) (hfg:(Frame.ret kk hd false lv' c₁ p₁ kp::fs').any Frame.guarded=false)
  (hA:AOk n (A.over (.forLoop f.target (.ref e) f.body [] F.env) (.ret kk hd false lv' c₁ p₁ kp::fs')))
  (hend:∀ po ch s₀ s,(∀ v,po=some v->zdZ v)->(∀ v,ch=some v->zdZ v)->Lv B F [x0,po,some (.d (.bool false)),ch] s->GX [F.env.locals,e,it] s₀ s->
   Seg (model prog w) A (zj6 [F.env.locals,e,it]) (zpn B [F.env.locals,e,it] outs) 0 s₀ c₁ (kk (.ok .next)) fs' s) :
  ∀ (r:List Nat) (i:Nat) (esc:Bool) (po ch:Option V) (pre:List (Int × PySem.Str)) (s₀ s:Shared) (k:Nat),x.cps.toList.drop i=r->i<=x.cps.size->(∀ v,po=some v->zdZ v)->(∀ v,ch=some v->zdZ v)->za7 esc r=false->
   k=(zcP i esc r).length->outs=pre++zcP i esc r->Lv B F [x0,po,some (.d (.bool esc)),ch] s->GX [F.env.locals,e,it] s₀ s->(∃ old,IsEnum s.heap e it i old)->St i s.heap->
   Seg (model prog w) A (zj6 [F.env.locals,e,it]) (zpn B [F.env.locals,e,it] outs) k s₀ (.forLoop f.target (.ref e) f.body [] F.env) ((model prog w).den (.forLoop f.target (.ref e) f.body [] F.env)) (.ret kk hd false lv' c₁ p₁ kp::fs') s:=by
 have hh:(A.over (.forLoop f.target (.ref e) f.body [] F.env) (.ret kk hd false lv' c₁ p₁ kp::fs')).handled=none:=hA.1
 have hCown:∀ a ∈ F.pv,a ∈ [F.env.locals,e,it]:=λa ha=>by rw [hpv] at ha;exact zrs.mpr (.inl (zr3.mp ha))
 have hatom:∀ (po es ch:Option V),(∀ v,po=some v->zdZ v)->(∀ v,es=some v->zdZ v)->(∀ v,ch=some v->zdZ v)->zkH [x0,po,es,ch]:=λpo es ch h1 h2 h3 j v hj=>by
  match j,hj with
  | 0,hj=>exact hx0 v (by simpa using hj)
  | 1,hj=>exact h1 v (by simpa using hj)
  | 2,hj=>exact h2 v (by simpa using hj)
  | 3,hj=>exact h3 v (by simpa using hj)
  | j + 4,hj=>contradiction
 have ab:∀ b:Bool,∀ v,some (V.d (.bool b))=some v->zdZ v:=λb v h=>by refine zfx h ?_;trivial
 have ai:∀ b:Int,∀ v,some (V.d (.int b))=some v->zdZ v:=λb v h=>by refine zfx h ?_;trivial
 have as:∀ b:PySem.Str,∀ v,some (V.d (.str b))=some v->zdZ v:=λb v h=>by refine zfx h ?_;trivial
 have hexs:∀ s:Shared,Ex s.heap F.env.locals->(∃ i old,IsEnum s.heap e it i old)->(∃ i,St i s.heap)->∀ b ∈ [F.env.locals,e,it],Ex s.heap b:=λs h1 h2 h3 b hb=>by
  simp only [zrs,zrq,or_false] at hb
  rcases hb with rfl | rfl | rfl
  ·exact h1
  ·obtain ⟨_,_,q⟩:=h2;exact ⟨_,q⟩
  ·refine Ee h3 λj q=>?_;exact (D _ hh).live j _ q
 intro r
 induction r with
 | nil=>
  intro i esc po ch pre s₀ s k hr hi hpo hch hep hk hout L g henum hst
  refine Ee henum λold he=>?_
  have hin':i=x.cps.size:=by
   have:=congrArg zsB hr
   simp at this;exact zec this hi
  subst hin'
  show Seg _ A _ _ _ s₀ _ ((forTurn f.target (.ref e) f.body [] F.env).onRaise (λx=>do noteFrame x F.env;theTreesLotGoes x)) _ s
  rw [Sem.onRaise_eq_wrap]
  refine seg_bind_wrap (wpAny_standAt (seg_bind_wrap (wpAny_onRaise (wpAny_pyNext_enum_endD (D _ hh) he hst λh' hx=>?_))))
  have hk':∀ b o,b≠it->s.heap.get? b=some o->h'.get? b=some o:=hx
  have hne:∀ (b:Addr) (o:Obj),B.h.get? b=some o->b≠it:=λb o q h=>by rw [h,hiB] at q;exact zan q
  have g2:GX [F.env.locals,e,it] s { s with heap:=h' }:=⟨λb o hb q=>hk' b o (λh=>hb (h▸by simp)) q,λZ Z q=>q,rfl⟩
  have L2:Lv B F [x0,po,some (.d (.bool esc)),ch] { s with heap:=h' }:=L.keep ⟨λa o q=>hk' a o (hne a o q) (L.al.1 a o q),let ⟨ps,q⟩:=L.al.2.1;⟨ps,hk' _ _ hit.symm q⟩,L.al.2.2⟩ λa ha o q=>hk' a o (λh=>by rw [hpv] at ha;exact hiC (h▸zr3.mp ha)) q
  refine seg_again rfl ?_
  have he0:esc=false:=hep
  subst he0
  subst hk
  exact seg_leaf (.ok .next) (hend po ch s₀ _ hpo hch L2 (g.trans g2 λZ h=>h))
 | cons c r ih=>
  intro i esc po ch pre s₀ s k hr hi hpo hch hep hk hout L g henum hst
  refine Ee henum λold he=>?_
  have hlt:i < x.cps.size:=by
   have:=congrArg zsB hr
   simp at this;exact zia this
  have hci:x.cps[i]?=some c:=by
   have:(x.cps.toList.drop i)[0]?=some c:=by refine hr▸?_;rfl
   simpa using this
  have hr':x.cps.toList.drop (i + 1)=r:=by refine zuM▸hr▸?_;rfl
  show Seg _ A _ _ _ s₀ _ ((forTurn f.target (.ref e) f.body [] F.env).onRaise (λx=>do noteFrame x F.env;theTreesLotGoes x)) _ s
  rw [Sem.onRaise_eq_wrap]
  refine seg_bind_wrap (wpAny_standAt (seg_bind_wrap (wpAny_onRaise (wpAny_pyNext_enum_itemD (D _ hh) he hst hlt hei (by simpa using hei) λv h' tk hPv heo hst' hT hsz hk'=>?_))))
  (refine zgy hPv λc' u hc' q0=>?_;subst q0)
  rw [hci] at hc';cases hc'
  refine zpq f.tgt λelts kt tp htgt=>?_
  have hTe:s.heap.objs.size≠e:=zrV (Heap.lt_size he)
  have hTn:s.heap.get? s.heap.objs.size=none:=zaJ (zrv _)
  refine seg_bind_wrap (α:=Unit) ?_
  have go:∀ (Q:Unit->Shared->Prop) (E:Value->Shared->Prop) (A':Around),(∀ h₂,IsEnum h₂ e it ((i:Int) + 1) (.str ⟨#[c]⟩ u)->Heap.SameBut e h' h₂->Q () { s with heap:=h₂,toks:=tk + 1 })->wpAny (model prog w) A' (letOwnedTupleGo f.target (.ref e) (.ref s.heap.objs.size)) Q E { s with heap:=h',toks:=tk + 1 }:=λQ E A' h=>by
   refine htgt▸?_;exact wpAny_letOwnedTupleGo_enum heo h
  refine go _ _ _ λh₂ he₂ hs₂=>?_
  have k₂:∀ b o,b≠e->b≠it->s.heap.get? b=some o->h₂.get? b=some o:=λb o h1 h2 q=>(hs₂.2 b h1).trans (hk' b o h1 h2 q)
  have hneB:∀ (b:Addr) (o:Obj),B.h.get? b=some o->b≠e/\b≠it:=λb o q=>⟨λh=>(by rw [h,heB] at q;exact zan q),λh=>(by rw [h,hiB] at q;exact zan q)⟩
  have hneP:∀ a ∈ F.pv,a≠e/\a≠it:=λa ha=>by
   rw [hpv] at ha
   have:=zr3.mp ha
   subst this
   exact ⟨λh=>heC h.symm,λh=>hiC h.symm⟩
  have g2:GX [F.env.locals,e,it] s { s with heap:=h₂,toks:=tk + 1 }:=⟨λb o hb q=>k₂ b o (λh=>hb (h▸by simp)) (λh=>hb (h▸by simp)) q,λZ Z q=>q,rfl⟩
  have L2:Lv B F [x0,po,some (.d (.bool esc)),ch] { s with heap:=h₂,toks:=tk + 1 }:=L.keep ⟨λa o q=>k₂ a o (hneB a o q).1 (hneB a o q).2 (L.al.1 a o q),let ⟨ps,q⟩:=L.al.2.1;⟨ps,k₂ _ _ het.symm hit.symm q⟩,L.al.2.2⟩ λa ha o q=>k₂ a o (hneP a ha).1 (hneP a ha).2 q
  have hT2:h₂.get? s.heap.objs.size=some { cls:=.type "tuple",data:=.seq #[.int i tk,.str ⟨#[c]⟩ u] }:=(hs₂.2 _ hTe).trans hT
  have hst2:St (i + 1) h₂:=(D _ hh).frame _ _ _ hst' λb hb o q=>by
   have:b=it:=by simpa using hb
   subst this
   exact (hs₂.2 b (Ne.symm hei)).trans q
  have hTB:B.h.get? s.heap.objs.size=none:=by
   cases q:B.h.get? s.heap.objs.size with
   | none=>rfl
   | some o=>have:=L.al.1 _ o q;rw [hTn] at this;exact zan this
  have hTp:s.heap.objs.size ∉ F.pv:=λh=>by obtain ⟨⟨o,q⟩,_⟩:=L.fr.pvs _ h;rw [show (⟨bG B,[],s⟩:Cfg).s.heap.get? s.heap.objs.size=s.heap.get? s.heap.objs.size from rfl,hTn] at q;exact zan q
  have hTt:s.heap.objs.size≠B.tbl:=λh=>by obtain ⟨ps,q⟩:=L.al.2.1;rw [<- h,hTn] at q;exact zan q
  refine seg_bind_wrap (znx f.hu hB (f.eu x0 po (some (.d (.bool esc))) ch i ⟨#[c]⟩) (hatom _ _ _ (ai _) (ab _) (as _)) hA L2 hT2 hTB hTp hTt λs3 L3 g3=>?_)
  have hF:∀ a ∈ F.own,a=F.env.locals:=λa ha=>by rw [hown] at ha;exact zr3.mp ha
  have hFo:∀ a ∈ F.own,a ∈ [F.env.locals,e,it]:=λa ha=>by rw [hF a ha];exact zsn ..
  have heF:e ∉ F.own:=λh=>heC (hF e h)
  have hiF:it ∉ F.own:=λh=>hiC (hF it h)
  have g3':GX [F.env.locals,e,it] s₀ s3:=(g.trans g2 λZ h=>h).trans g3 hFo
  have tn:∀ s4 s5:Shared,(∀ o,s4.heap.get? e=some o->s5.heap.get? e=some o)->(∀ o,s4.heap.get? it=some o->s5.heap.get? it=some o)->((∃ old,IsEnum s4.heap e it ((i:Int) + 1) old)/\St (i + 1) s4.heap)->(∃ old,IsEnum s5.heap e it ((i:Int) + 1) old)/\St (i + 1) s5.heap:=λs4 s5 h1 h2 h=>by
   obtain ⟨⟨old,q⟩,h3⟩:=h
   refine ⟨⟨old,h1 _ q⟩,(D _ hh).frame _ _ _ h3 λb hb o q2=>?_⟩
   have:b=it:=by simpa using hb
   subst this
   exact h2 o q2
  have tng:∀ s4 s5:Shared,GX F.own s4 s5->((∃ old,IsEnum s4.heap e it ((i:Int) + 1) old)/\St (i + 1) s4.heap)->(∃ old,IsEnum s5.heap e it ((i:Int) + 1) old)/\St (i + 1) s5.heap:=λs4 s5 g=>tn s4 s5 (λo q=>g.1 e o heF q) (λo q=>g.1 it o hiF q)
  have t3:=tng _ s3 g3 ⟨⟨_,he₂⟩,hst2⟩
  have nilw:∀ {s s':Shared},GX [] s s'->GX F.own s s':=λg=>g.weak λZ h=>nomatch h
  rw [Sem.bind_eq_wrap',Sem.wrap_wrap]
  have ih':=λes po ch pre s₀ s k=>ih (i + 1) es po ch pre s₀ s k hr' hlt
  rw [show ((i + 1:Nat):Int)=(i:Int) + 1 by push_cast;rfl] at ih'
  have hxs:∀ s:Shared,Lv B F [x0,some (.d (.int i)),some (.d (.bool esc)),some (.d (.str ⟨#[c]⟩))] s->((∃ old,IsEnum s.heap e it ((i:Int) + 1) old)/\St (i + 1) s.heap)->∀ b ∈ [F.env.locals,e,it],Ex s.heap b:=λs L t=>hexs s (let ⟨m,o,_,_,q,_⟩:=L.fr.ns;⟨o,q⟩) (let ⟨old,q⟩:=t.1;⟨_,old,q⟩) ⟨_,t.2⟩
  refine seg_execs_cons (ze4 (zjy f.h1 hB (f.e1 x0 _ esc _) hA L3 λs4 L4 g4=>?_))
  have t4:=tng _ _ (nilw g4) t3
  have g4':GX [F.env.locals,e,it] s₀ s4:=g3'.trans g4 λZ h=>nomatch h
  cases esc with
  | true=>
   simp only [if_true]
   have hk1:k=(zcP ((i:Int) + 1) false r).length + 1:=by rw [hk];simp [zcP]
   have ho1:outs=pre++((i:Int),⟨#[92,c]⟩)::zcP ((i:Int) + 1) false r:=by rw [hout];simp [zcP]
   subst hk1
   refine seg_execs_cons (zkt hfs rfl hfg hco hin hB f.hl1 (f.el1e x0 i _ c) hA (zlY ho1 rfl) hCown L4 g4' (hxs s4 L4 t4) λs5 s6 g5 k6 L6=>?_)
   have t6:=tn s5 s6 (k6 e (by simp)) (k6 it (by simp)) (tng s4 s5 (nilw g5) t4)
   refine seg_execs_cons (zku f.ha1 hB (f.ea1 x0 _ _ _) (hatom _ _ _ (ai _) (ab _) (as _)) hA L6 λs7 L7 g7=>?_)
   have t7:=tng _ _ g7 t6
   refine seg_again rfl ?_
   exact ih' false _ _ (pre++[((i:Int),⟨#[92,c]⟩)]) s6 s7 _ (ai _) (as _) (by simpa [za7] using hep) rfl (by rw [ho1];simp) L7 ((GX.refl s6).trans g7 hFo) t7.1 t7.2
  | false=>
   refine seg_execs_cons (ze4 (zjy f.h2 hB (f.e2 x0 _ _ c (hxc c (List.mem_of_mem_drop (by rw [hr];exact .head _)))) hA L4 λs5 L5 g5=>?_))
   have t5:=tng _ _ (nilw g5) t4
   have g5':GX [F.env.locals,e,it] s₀ s5:=g4'.trans g5 λZ h=>nomatch h
   by_cases h92:c=92
   ·rw [decide_eq_true h92]
    refine seg_execs_cons (zku f.ha2 hB (f.ea2 x0 _ _ _) (hatom _ _ _ (ai _) (ab _) (as _)) hA L5 λs7 L7 g7=>?_)
    have t7:=tng _ _ g7 t5
    refine seg_again rfl ?_
    exact ih' true _ _ pre s₀ s7 k (ai _) (as _) (by simpa [za7,h92] using hep) (by rw [hk];simp [zcP,h92]) (by rw [hout];simp [zcP,h92]) L7 (g5'.trans g7 hFo) t7.1 t7.2
   ·rw [decide_eq_false h92]
    have hk1:k=(zcP ((i:Int) + 1) false r).length + 1:=by rw [hk];simp [zcP,h92]
    have ho1:outs=pre++((i:Int),⟨#[c]⟩)::zcP ((i:Int) + 1) false r:=by rw [hout];simp [zcP,h92]
    subst hk1
    refine seg_execs_cons (zkt hfs rfl hfg hco hin hB f.hl2 (f.el2e x0 i _ c) hA (zlY ho1 rfl) hCown L5 g5' (hxs s5 L5 t5) λs6 s7 g6 k7 L7=>?_)
    have t7:=tn s6 s7 (k7 e (by simp)) (k7 it (by simp)) (tng s5 s6 (nilw g6) t5)
    refine seg_again rfl ?_
    exact ih' false _ _ (pre++[((i:Int),⟨#[c]⟩)]) s7 s7 _ (ai _) (as _) (by simpa [za7,h92] using hep) rfl (by rw [ho1];simp) L7 (GX.refl s7) t7.1 t7.2
end
section
variable {prog:Program}{w:World}{B:Bs}{n:Nat}{F:FI}
structure zhn (F:FI):Prop where
 nm:F.nm=[some ("addr":zS),some ("pos":zS),some ("escape":zS),some ("ch":zS)]
 kaddr:F.env.kindOf "addr"=some .local
 kpos:F.env.kindOf "pos"=some .local
 kesc:F.env.kindOf "escape"=some .local
 pv:F.pv=[F.env.locals]
 own:F.own=[F.env.locals]
 cs:F.cs=[]
 co:F.env.scope.isCoroutine=false
 int:interactive F.env=false
 plain:(F.env.scope.kind==.class || (F.env.scope.kind==.module && F.env.locals != F.env.globals))=false
theorem Lv.make (N:zhn F) (ok:FOk F) (hCB:B.h.get? F.env.locals=none) (hCt:F.env.locals≠B.tbl) {s:Shared}(al:Alive B s) {m:PySem.Str->Option Value}(hn:s.heap.Ns F.env.locals m) {x:PySem.Str}{t t0:Tok}(h1:m "addr"=some (.str x t)) (h2:m "pos"=some (.int 0 t0)) (h3:m "escape"=some (.bool false)) :
  Lv B F [some (.d (.str x)),some (.d (.int 0)),some (.d (.bool false)),none] s:=by
 refine ⟨al,ok,⟨m,hn⟩,λa ha=>?_,λk y v q1 q2=>?_,λy hy=>(by rw [N.cs] at hy;exact (nomatch hy)),by rw [N.own];exact .head _⟩
 ·have:a=F.env.locals:=by rw [N.pv] at ha;exact zr3.mp ha
  subst this
  exact ⟨let ⟨o,_,_,q,_⟩:=hn;⟨o,q⟩,hCB,λ⟨_,_,e,_⟩=>by contradiction,hCt⟩
 ·rw [N.nm] at q1
  match k,q1,q2 with
  | 0,q1,q2=>cases q1;cases q2;exact ⟨_,.inl ⟨N.kaddr,m,hn,h1⟩,.d (.str _ _)⟩
  | 1,q1,q2=>cases q1;cases q2;exact ⟨_,.inl ⟨N.kpos,m,hn,h2⟩,.d (.int _ _)⟩
  | 2,q1,q2=>cases q1;cases q2;exact ⟨_,.inl ⟨N.kesc,m,hn,h3⟩,.d (.bool _)⟩
  | 3,q1,q2=>cases q2
  | k + 4,q1,q2=>contradiction
theorem AOk.over {n k:Nat}{A:Around}{c:Code}{fs:List Frame}(h:AOk (n + k) A) (hm:(marksOver fs (A.handled,A.handled)).1=A.handled) (hd:frameCount (fs.map Frame.where_) + c.weight<=k) (hu:PySem.unitsOf (fs.map Frame.where_) + c.cUnits<=10 * k):AOk n (A.over c fs):=by
 refine Eaa h λh1 h2 h3=>?_
 refine ⟨?_,?_,?_⟩
 ·show (marksOver fs (A.handled,A.handled)).1=none
  refine Eq.trans hm ?_;exact h1
 ·show A.depth + frameCount (fs.map Frame.where_) + c.weight + n<=600
  exact zrn (by rw [zsO A.depth,zsO A.depth,zst n k];exact zr9 (zsw hd n) _) h2
 ·show A.units + PySem.unitsOf (fs.map Frame.where_) + c.cUnits + 10 * n<=9000
  exact zrn (by rw [Nat.mul_add,zsO A.units,zsO A.units,zst (10 * n)];exact zr9 (zsw hu _) _) h3
theorem zo7 (f:EscFn prog w B n F) (N:zhn F) (ok:FOk F) {mg mb:PySem.Str->Option Value}(T:Tp B mg mb) (hg:mg "enumerate"=none) (hb:mb "enumerate"=some (.type "enumerate")) (hke:F.env.kindOf "enumerate"=some .globalImplicit)
  {A:Around} {x:PySem.Str} {t:Tok} {pA pB pC pD pE pF pG pH pI pJ pK:Pos} {k1 k2:Nat} {t3:Expr} {y3:List Stmt} {q3:St->Option (Bool × HP)}
  (h3:zfU prog w B n F t3 q3) (e3:∀ x0 po b ch,q3 ⟨[x0,po,some (.d (.bool b)),ch],[]⟩=some (b,[]))
  (hB:B.h.get? B.tbl=none) (hCB:B.h.get? F.env.locals=none) (hCt:F.env.locals≠B.tbl) (hA:AOk (n + 4) A)
  (hs1:swapsWith (.Constant (.int 0) k1 pB) (some (.Name "pos" pA)) pC.line F.env=pure false) (hs2:swapsWith (.Constant (.bool false) k2 pE) (some (.Name "escape" pD)) pF.line F.env=pure false)
  (hse:backTo pI (starEach [.Name "addr" pH] F.env)=[(false,eval (.Name "addr" pH) F.env)])
  (hfold:∀ v,foldedSetIterable (.Call (.Name "enumerate" pG) [.Name "addr" pH] [] pI) F.env v=pure v)
  (hfin:za7 false x.cps.toList=false) (hxc:∀ c ∈ x.cps.toList,c < 1114112) {s:Shared} (al:Alive B s) {m:PySem.Str->Option Value} (hn:s.heap.Ns F.env.locals m) (hm:m "addr"=some (.str x t)) :
  Seg (model prog w) A (zj6 [F.env.locals,s.heap.objs.size + 1,s.heap.objs.size]) (zpn B [F.env.locals,s.heap.objs.size + 1,s.heap.objs.size] (zcP 0 false x.cps.toList)) (zcP 0 false x.cps.toList).length s
   (.func [.Assign [.Name "pos" pA] (.Constant (.int 0) k1 pB) pC,.Assign [.Name "escape" pD] (.Constant (.bool false) k2 pE) pF,.For f.target (.Call (.Name "enumerate" pG) [.Name "addr" pH] [] pI) f.body [] pJ,.If t3 y3 [] pK] F.env)
   ((model prog w).den (.func [.Assign [.Name "pos" pA] (.Constant (.int 0) k1 pB) pC,.Assign [.Name "escape" pD] (.Constant (.bool false) k2 pE) pF,.For f.target (.Call (.Name "enumerate" pG) [.Name "addr" pH] [] pI) f.body [] pJ,.If t3 y3 [] pK] F.env)) [] s:=by
 refine seg_func ?_
 refine seg_execs_cons (seg_wrap (wpAny_Assign_Name (wpAny_Constant_int (wpAny_storeName_local N.kpos (m:=m) hn (λh₁ hn₁ hs₁=>?_) N.plain)) hs1))
 refine seg_execs_cons (seg_wrap (wpAny_Assign_Name (wpAny_Constant_bool (wpAny_storeName_local N.kesc hn₁ (λh₂ hn₂ hs₂=>?_) N.plain)) hs2))
 have sb:Heap.SameBut F.env.locals s.heap h₂:=⟨(hs₂.1.trans hs₁.1:_),λb hb=>(hs₂.2 b hb).trans (hs₁.2 b hb)⟩
 refine seg_execs_cons ?_
 rw [exec_For]
 refine seg_bind_wrap (wpAny_standAt (seg_bind_wrap ?_))
 have al2:Alive B { s with heap:=h₂,toks:=s.toks + 1 + 1 + 1 }:=⟨λa o e=>(sb.2 a λq=>by rw [q,hCB] at e;exact zan e).trans (al.1 a o e),let ⟨ps,q⟩:=al.2.1;⟨ps,(sb.2 _ (Ne.symm hCt)).trans q⟩,al.2.2⟩
 refine wpAny_Call_NameR (wpAny_Name (zdz (mg:=mg) (mb:=mb) ok hke (T.g.keeps al2.1) (T.b.keeps al2.1) (.inr ⟨hg,hb⟩) ?_))
 refine hse▸?_
 refine PySem.callWith_type rfl (Calls.evalArgs_plain (Calls.spliced_cons (wpAny_Name (wpAny_loadName_local (name:=("addr":zS)) (v:=.str x t) ok.kind N.kaddr hn₂ ?_ (Calls.spliced_nil ?_)))))
 ·show (if ("addr":zS)="escape" then _ else if ("addr":zS)="pos" then _ else m "addr")=_
  rw [if_neg (by decide),if_neg (by decide)];exact hm
 have hsz:h₂.objs.size=s.heap.objs.size:=sb.1
 refine call_enumerate_str λh₃ he hi hs₃ hk₃=>?_
 rw [show ({ s with heap:=h₂,toks:=s.toks + 1 + 1 + 1 }:Shared).heap.objs.size=s.heap.objs.size from hsz] at he hi
 refine seg_bind_wrap (wpAny_of_eq (hfold _) (seg_bind_wrap (wpAny_standAt (seg_bind_wrap (wpAny_holding ?_)))))
 refine (Eq.symm hsz)▸?_
 refine wpAny_pyIter_enum he ?_
 refine seg_call λp=>?_
 have hCs:F.env.locals < s.heap.objs.size:=hn.lt
 have hCe:s.heap.objs.size + 1≠F.env.locals:=zrV (zsi hCs)
 have hCi:s.heap.objs.size≠F.env.locals:=zrV hCs
 have hei:s.heap.objs.size + 1≠s.heap.objs.size:=zuC _
 have noB:∀ b:Addr,s.heap.objs.size<=b->B.h.get? b=none:=λb hb=>by
  cases q:B.h.get? b with
  | none=>rfl
  | some o=>have:=al.1 b o q;rw [zaJ hb] at this;exact zan this
 have noT:∀ b:Addr,s.heap.objs.size<=b->b≠B.tbl:=λb hb q=>by obtain ⟨ps,e⟩:=al.2.1;rw [<- q,zaJ hb] at e;exact zan e
 have al3:Alive B { s with heap:=h₃,toks:=s.toks + 1 + 1 + 1 }:=⟨λa o e=>hk₃ a o (al2.1 a o e),let ⟨ps,q⟩:=al2.2.1;⟨ps,hk₃ _ _ q⟩,al2.2.2⟩
 have hn₃:h₃.Ns F.env.locals _:=hn₂.at' λo e=>hk₃ _ o e
 have L3:Lv B F [some (.d (.str x)),some (.d (.int 0)),some (.d (.bool false)),none] { s with heap:=h₃,toks:=s.toks + 1 + 1 + 1 }:=
  Lv.make N ok hCB hCt al3 hn₃ (t:=t) (t0:=s.toks) (by rw [if_neg (by decide),if_neg (by decide)];exact hm) (by rfl) (by rfl)
 have g3:GX [F.env.locals,s.heap.objs.size + 1,s.heap.objs.size] s { s with heap:=h₃,toks:=s.toks + 1 + 1 + 1 }:=⟨λb o hb e=>hk₃ b o ((sb.2 b λq=>hb (q▸by constructor)).trans e),λZ Z e=>e,rfl⟩
 have D:∀ A':Around,A'.handled=none->Draws prog w A' s.heap.objs.size [s.heap.objs.size] x.cps.size (λi v=>∃ c u,x.cps[i]?=some c/\v=.str ⟨#[c]⟩ u) (λi h=>h.IsStrIter s.heap.objs.size (strIterType x) x t i):=λA' hA'=>by
  unfold strIterType
  split
  ·exact Draws.strAscii hA' _ x t
  ·exact Draws.strWide hA' _ x t
 have ai:∀ b:Int,∀ v,some (V.d (.int b))=some v->zdZ v:=λb v h=>by refine zfx h ?_;trivial
 have as:∀ b:PySem.Str,∀ v,some (V.d (.str b))=some v->zdZ v:=λb v h=>by refine zfx h ?_;trivial
 have hA2:∀ (c:Code) (fs:List Frame),(marksOver fs (A.handled,A.handled)).1=A.handled->frameCount (fs.map Frame.where_) + c.weight<=4->PySem.unitsOf (fs.map Frame.where_) + c.cUnits<=40->AOk n (A.over c fs):=λc fs h1 h2 h3=>AOk.over hA h1 h2 h3
 refine znI f (A:=A) (St:=λi h=>h.IsStrIter s.heap.objs.size (strIterType x) x t i) (outs:=zcP 0 false x.cps.toList) (x0:=some (.d (.str x))) hB N.co N.int N.pv N.own hei hCe hCi (noB _ (zsl _)) (noB _ (zrv _)) (noT _ (zsl _)) (noT _ (zrv _)) (as x) hxc D rfl rfl
  (hA2 _ _ rfl (zN rfl) (zN rfl)) (λpo ch s₀ s4 hpo hch L4 g4=>?_) x.cps.toList 0 false (some (.d (.int 0))) none [] s _ _ rfl (zr2 _) (ai 0) (λv h=>nomatch h) hfin rfl rfl L3 g3 ⟨_,he⟩ hi
 refine seg_execs_cons (ze4 (zjy h3 hB (e3 _ _ false _) (hA2 _ _ rfl (zN rfl) (zN rfl)) L4 λs5 L5 g5=>?_))
 dsimp
 exact seg_end (.ok (.ret .none)) ⟨rfl,rfl,g4.trans g5 (λZ h=>nomatch h),L5.al.2.2⟩
end
structure zqW (prog:Program) (w:World) (B:Bs) (A:Around) (it:Value) (gx:Nat->Prop) (P:List Addr->List V->Cfg->Prop):Prop where
 frame:∀ own xs c c',P own xs c->(∀ a ∈ own,∀ o,c.s.heap.get? a=some o->c'.s.heap.get? a=some o)->
  (∀ (i:Nat) (x:GenState),gx i->c.s.gens[i]?=some x->c'.s.gens[i]?=some x)->BInv B c'->P own xs c'
 next:∀ own v xs c Q,BInv B c->Priv B own c->P own (v::xs) c->(∀ cv G' s' own',BInv B ⟨G',c.hp,s'⟩->zgM B own gx c ⟨G',c.hp,s'⟩->RV G' cv v->P own' xs ⟨G',c.hp,s'⟩->Priv B own' ⟨G',c.hp,s'⟩->
   (∀ a ∈ own',a ∈ own\/c.s.heap.get? a=none)->(∀ (target:Expr) (Q':Unit->Shared->Prop),Q' () s'->wpAny (model prog w) A (letOwnedTupleGo target it cv) Q' NoE s')->Q (some cv) s')->wpAny (model prog w) A (pyNext it) Q NoE c.s
 done:∀ own c Q,BInv B c->Priv B own c->P own [] c->(∀ G' s',BInv B ⟨G',c.hp,s'⟩->zgM B own gx c ⟨G',c.hp,s'⟩->Q none s')->wpAny (model prog w) A (pyNext it) Q NoE c.s
inductive zpv (prog:Program) (w:World) (B:Bs) (A:Around) (c:Cfg) (hp':HP) (vs:List V) (it:Value) (s₂:Shared):Prop
 | mk:∀ G':Gh,∀ own:List Addr,∀ gx:Nat->Prop,∀ P:List Addr->List V->Cfg->Prop,BInv B ⟨G',hp',s₂⟩->Stp B [] c ⟨G',hp',s₂⟩->zqW prog w B A it gx P->P own vs ⟨G',hp',s₂⟩->Priv B own ⟨G',hp',s₂⟩->(∀ a ∈ own,c.s.heap.get? a=none)->(∀ i,gx i->c.s.gens[i]?=none)->zpv prog w B A c hp' vs it s₂
noncomputable def zi9 (prog:Program) (w:World) (B:Bs) (n:Nat) (F:FI) (t:Sem Value) (src:St->Option (List V × HP)):Prop:=
 ∀ st vs hp',src st=some (vs,hp')->∀ A,AOk n A->∀ G s,BInv B ⟨G,st.hp,s⟩->FrInv B F st.loc ⟨G,st.hp,s⟩->
  wpAny (model prog w) A t (λxv s₁=>wpAny (model prog w) A (pyIter xv) (zpv prog w B A ⟨G,st.hp,s⟩ hp' vs) NoE s₁) NoE s
section
variable {prog:Program}{w:World}{B:Bs}{n:Nat}{F:FI}
inductive LD (B:Bs) (F:FI) (c0:Cfg) (s:Shared) (u:V->St->Option St) (b:St->Option (Fl × St)) (fl:Fl) (st':St) (P:List Addr->List V->Cfg->Prop) (k:Nat) (s3:Shared):Prop
 | mk:∀ st3:St,∀ G3:Gh,∀ xs:List V,∀ own:List Addr,k=xs.length->forL u b xs st3=some (fl,st')->BInv B ⟨G3,st3.hp,s3⟩->FrInv B F st3.loc ⟨G3,st3.hp,s3⟩->Stp B F.own c0 ⟨G3,st3.hp,s3⟩->Priv B own ⟨G3,st3.hp,s3⟩->P own xs ⟨G3,st3.hp,s3⟩->(∀ a ∈ own,s.heap.get? a=none)->LD B F c0 s u b fl st' P k s3
theorem zlk {target iter:Expr}{body:List Stmt}{pos:Pos}{src:St->Option (List V × HP)}{u:V->St->Option St}{b:St->Option (Fl × St)}(hi:zi9 prog w B n F (eval iter F.env) src) (hu:zcI prog w B n F (assign target F.env) u)
  (hb:SSound prog w B n F (execs body F.env) b) (hs:∀ x,foldedSetIterable iter F.env x=pure x):SSound prog w B n F (exec (.For target iter body [] pos) F.env) (zfJ src u b):=λst fl st' h A hA G s I X=>by
 refine mPL h λvs hp1 e h=>?_
 refine wpAny_For (wpAny_mono (hi st vs hp1 e A hA G s I X) (λxv s1 h1=>wpAny_mono h1 (λit s2 h2=>?_) λZ Z x=>x) λZ Z x=>x) hs
 obtain ⟨G2,own,gx,P,I2,S2,It,hP,hPr,hfr,hgx⟩:=h2
 have hdis:∀ own:List Addr,(∀ a ∈ own,s.heap.get? a=none)->∀ a ∈ F.pv,a ∉ own:=λown hfr a ha ho=>by obtain ⟨o,q⟩:=(X.pvs a ha).1;have:=hfr a ho;rw [show (⟨G,st.hp,s⟩:Cfg).s.heap.get? a=s.heap.get? a from rfl,this] at q;exact zan q
 refine codeAny_forLoop_any (LD B F ⟨G,st.hp,s⟩ s u b fl st' P) ?_ vs.length
  ⟨⟨st.loc,hp1⟩,G2,vs,own,rfl,h,I2,X.step S2,S2.weak,hPr,hP,hfr⟩
 rintro k s3 ⟨st3,G3,xs,own,rfl,h3,I3,X3,S3,hPr3,hP3,hfr⟩
 cases xs with
 | nil=>
  cases h3
  refine wpAny_mono (It.done own ⟨G3,st'.hp,s3⟩ (λr s'=>r=none/\∃ G',BInv B ⟨G',st'.hp,s'⟩/\zgM B own gx ⟨G3,st'.hp,s3⟩ ⟨G',st'.hp,s'⟩) I3 hPr3 hP3 λG' s' I' S'=>⟨rfl,G',I',S'⟩) (λr s' hr=>?_) λZ Z x=>x.elim
  (refine zqn hr λq0 G' I' S'=>?_;subst q0)
  exact wpAny_execs_nil ⟨G',I',X3.keepX S' (hdis own hfr),S3.thenX I3 S' hfr hgx,.next⟩
 | cons v xs=>
  unfold forL at h3
  refine wpAny_mono (It.next own v xs ⟨G3,st3.hp,s3⟩ (λr s'=>∃ cv,r=some cv/\∃ G2 own',BInv B ⟨G2,st3.hp,s'⟩/\zgM B own gx ⟨G3,st3.hp,s3⟩ ⟨G2,st3.hp,s'⟩/\RV G2 cv v/\P own' xs ⟨G2,st3.hp,s'⟩/\Priv B own' ⟨G2,st3.hp,s'⟩/\(∀ a ∈ own',a ∈ own\/s3.heap.get? a=none)/\
    (∀ (target:Expr) (Q':Unit->Shared->Prop),Q' () s'->wpAny (model prog w) A (letOwnedTupleGo target it cv) Q' NoE s')) I3 hPr3 hP3
   λcv G' s' own' I' S' hr hP' hPr' hown hgo=>⟨cv,rfl,G',own',I',S',hr,hP',hPr',hown,hgo⟩) (λr s5 hr=>?_) λZ Z x=>x.elim
  obtain ⟨cv,rfl,G5,own',I5,S5,r5,hP5,hPr5,hown,hgo⟩:=hr
  refine wpAny_mono (hgo target (λZ s=>s=s5) rfl) (λZ s5' h5=>?_) λZ Z x=>x.elim
  subst h5
  have hfr5:∀ a ∈ own',s.heap.get? a=none:=λa ha=>by
   rcases hown a ha with q | q
   ·exact hfr a q
   ·cases q2:s.heap.get? a with
    | none=>rfl
    | some o=>(refine Ee (S3.sz a ⟨o,q2⟩) λo' q3=>?_);rw [show (⟨G3,st3.hp,s3⟩:Cfg).s.heap.get? a=s3.heap.get? a from rfl,q] at q3;exact zan q3
  have X5:=X3.keepX S5 (hdis own hfr)
  have T5:=S3.thenX I3 S5 hfr hgx
  cases e2:u v st3 with
  | none=>rw [e2] at h3;exact zan h3
  | some st4=>
   rw [e2] at h3
   dsimp only at h3
   refine wpAny_mono (hu st3 v st4 e2 A hA G5 s5' cv I5 X5 r5) (λZ s6 h6=>?_) λZ Z x=>x.elim
   refine PostU.E h6 λG6 I6 X6 S6=>?_
   have T6:=T5.trans I5 S6 λZ h=>h
   have hdo:∀ a ∈ own',a ∉ F.own:=λa ha ho=>hdis own' hfr5 a (X.ok.own a ho) ha
   have hP6:P own' xs ⟨G6,st4.hp,s6⟩:=It.frame _ _ _ _ hP5 (hPr5.keep (S6.toX (gx:=gx)) hdo) (λi x Z e=>S6.gn i x e) I6
   have hPr6:=hPr5.step S6
   cases e3:b st4 with
   | none=>rw [e3] at h3;exact zan h3
   | some r2=>
    obtain ⟨f2,st7⟩:=r2
    rw [e3] at h3
    refine hb.use e3 hA I6 X6 λf s7 G7 I7 X7 S7 hf=>?_
    have T7:=T6.trans I6 S7 λZ h=>h
    have hP7:P own' xs ⟨G7,st7.hp,s7⟩:=It.frame _ _ _ _ hP6 (hPr6.keep (S7.toX (gx:=gx)) hdo) (λi x Z e=>S7.gn i x e) I7
    have hPr7:=hPr6.step S7
    cases hf with
    | next=>exact ⟨xs.length,by exact zrD _,st7,G7,xs,own',rfl,h3,I7,X7,T7,hPr7,hP7,hfr5⟩
    | cont=>exact ⟨xs.length,by exact zrD _,st7,G7,xs,own',rfl,h3,I7,X7,T7,hPr7,hP7,hfr5⟩
    | brk=>cases h3;exact ⟨G7,I7,X7,T7,.next⟩
    | ret r=>cases h3;exact ⟨G7,I7,X7,T7,.ret r⟩
end
section
variable {prog:Program}{w:World}{A:Around}{E:Value->Shared->Prop}{s:Shared}
theorem zgl {a:Addr}{g n:Nat}{gs:GenState}{P:Nat->Shared->Shared->Prop}{Y:Protocol}{Q:Option Value->Shared->Prop}(hh:A.handled=none)
  (hl:s.heap.NoLimit) (hroom:A.depth < recursionLimit) (hg:s.heap.IsGen a g) (hgs:s.gens[g]?=some gs)
  (hgo:gs.Goes (model prog w) A.in1 (λn s₀ r s₁=>r=.ok (.ret .none)/\P n s₀ s₁) Y n (.send .none) (s.setGen g .running))
  (hY:∀ v s₁ gs',gs'.bare=true->Y (n - 1) (s.setGen g .running) v s₁ (λr' s''=>match n with
    | 0=>False
    | m + 1=>gs'.Goes (model prog w) A.in1 (λn s₀ r s₁=>r=.ok (.ret .none)/\P n s₀ s₁) Y m r' s'')->Q (some v) (s₁.setGen g gs'))
  (hP:∀ s₁,P n (s.setGen g .running) s₁->∀ h',(∀ b o,s₁.heap.get? b=some o->h'.get? b=some o)->Q none { s₁.setGen g .finished with heap:=h' }) :
  wpAny (model prog w) A (pyNext (.ref a)) Q E s:=by
 refine wpAny_bind (wpAny_attempt (wpAny_callSpecial?_slot (name:=Str.ofString "__next__") hg.typeIs slot_gen_next (wpAny_call_entry slot_gen_next hg.typeIs entry_gen_next ?_ (args_gen_next _))))
 show wpAny _ A.in1 (Builtin.Generator.genWake (.ref a) (.send .none)) _ _ s
 refine wpAny_bind (wpAny_holding (wpAny_genNumber hg (wpAny_bind (wpAny_genState hgs ?_))))
 cases gs with
 | running=>exact hgo.elim
 | finished=>exact hgo.elim
 | _=>
  refine wpAny_bind (wpAny_roomToWake hl hroom ?_)
  refine wpAny_resumeQ hgs hgo (λx s₁ hx=>?_) (λv s₁ gs' hb hv=>wpAny_pure ⟨v,rfl,wpAny_pure (hY v s₁ gs' hb hv)⟩)
  obtain ⟨rfl,hp⟩:=hx
  show wpAny _ A.in1 (newExc (.type "StopIteration") [] >>= _) _ _ _
  refine wpAny_bind ?_
  refine wpAny_bind (wpAny_newObj_type ?_ (by size_fits))
  refine wpAny_bind (m:=firstArgMember _ _) (wpAny_of_eq (a:=Value.none) (by first | rfl | (simp only [firstArgMember];rfl)) ?_)
  refine wpAny_newObj_type ?_ (by size_fits)
  dsimp only [raiseNew]
  refine wpAny_bind (wpAny_bind (wpAny_handled ?_))
  first | refine (Eq.symm (show A.in1.handled=none from hh))▸?_ | rw [hh]
  refine wpAny_throw (wpAny_bind (wpAny_isInstance (T:="StopIteration") (b:=true) ⟨_,Heap.get?_push_size _ rfl,rfl⟩ isSubtype_stop (wpAny_pure (hP s₁ hp _ λb o hb=>Heap.get?_push_of_some _ (Heap.get?_push_of_some _ hb)))))
end
theorem zez {s:Shared}{g i:Nat}{x:GenState}(h:i≠g):(s.setGen g x).gens[i]?=s.gens[i]?:=by
 simp [Shared.setGen,Ne.symm h]
theorem zd0 {s:Shared}{g:Nat}{x:GenState}(h:AllBare s.gens) (hx:x.bare=true):AllBare (s.setGen g x).gens:=by
 intro y hy
 unfold Shared.setGen at hy
 rcases Array.mem_or_eq_of_mem_setIfInBounds hy with q | q
 ·exact h _ q
 ·refine (congrArg _ q).trans ?_;exact hx
section
variable {B:Bs}{c₀ c:Cfg}
theorem BInv.adoptX {pv:List Addr}{gx:Nat->Prop}{a:Addr}{o:Obj}(I:BInv B c) (S:zgM B pv gx c₀ c) (hp:Priv B [a] c) (hf:c₀.s.heap.get? a=none) (ho:c.s.heap.get? a=some o) :
  ∃ g',g'.get? a=some o/\(∀ b,b≠a->g'.get? b=c.G.g.get? b)/\(∀ b x,c.G.g.get? b=some x->g'.get? b=some x)/\BInv B ⟨⟨g',c.G.f⟩,c.hp,c.s⟩/\zgM B pv gx c₀ ⟨⟨g',c.G.f⟩,c.hp,c.s⟩:=by
 refine Eea (zcx c.G.g a o (Heap.get?_some_iff.mp ho).2) λg' e1 e2=>?_
 refine zfS (hp a (.head _)) λh1 hgn hm ht Z=>?_
 have gg:∀ b x,c.G.g.get? b=some x->g'.get? b=some x:=λb x e=>by
  by_cases hb:b=a
  ·subst hb;rw [hgn] at e;exact zan e
  ·refine Eq.trans (e2 b hb) ?_;exact e
 refine ⟨g',e1,e2,gg,⟨λb x e=>?_,λb x e=>gg b x (I.base b x e),I.lt,I.inj,I.fr,λid vs e=>?_,?_,⟨?_,I.tabg.2⟩,I.bare⟩,?_⟩
 ·by_cases hb:b=a
  ·subst hb;rw [show (⟨⟨g',c.G.f⟩,c.hp,c.s⟩:Cfg).G.g.get? b=g'.get? b from rfl,e1] at e;refine zfx e ?_;exact ho
  ·exact I.keep b x (by refine (e2 b hb)▸?_;exact e)
 ·refine LstAt.E (I.lst id vs e) λb its h1 h2 h3 h4=>?_
  have:b≠a:=λh=>hm (h▸⟨id,vs,e,h1⟩)
  exact ⟨b,its,h1,(e2 b this).trans h2,h3,RVs.mono (G:=c.G) (G':=⟨g',c.G.f⟩) gg (λZ Z e=>e) h4⟩
 ·refine Eea I.tab λps h1 h2=>?_
  exact ⟨ps,h1,B.mono _ _ _ gg h2⟩
 ·exact (e2 _ (Ne.symm ht)).trans I.tabg.1
 ·refine ⟨λb x e=>gg b x (S.gg b x e),S.ff,S.kp,λb k1 k2 k3=>?_,S.sz,S.gn,S.os,S.nf⟩
  obtain ⟨q1,q2⟩:=S.old b k1 k2 k3
  refine ⟨?_,q2⟩
  have:b≠a:=λh=>by refine Ee k1 λo k=>?_;rw [h,hf] at k;exact zan k
  exact (e2 b this).trans q1
end
noncomputable def ziP (p:Int × PySem.Str):V:=.d (.tuple [.int p.1,.str p.2])
inductive zok (prog:Program) (w:World) (B:Bs) (A:Around) (a:Addr) (g:Nat) (outs:List (Int × PySem.Str)) (own:List Addr) (xs:List V) (c:Cfg):Prop
 | mk:c.s.heap.IsGen a g->a ∈ own->∀ (gs:GenState) (j:Nat),c.s.gens[g]?=some gs->j<=outs.length->xs=(outs.drop j).map ziP->
  (∀ s'':Shared,Alive B s''->(∀ b ∈ own,∀ o,c.s.heap.get? b=some o->s''.heap.get? b=some o)->
   ∃ ow,(∀ b ∈ ow,b≠a/\(b ∈ own\/s''.heap.get? b=none))/\gs.Goes (model prog w) A.in1 (zj6 ow) (zpn B ow outs) (outs.length - j) (.send .none) s'')->zok prog w B A a g outs own xs c
section
variable {prog:Program}{w:World}{B:Bs}{A:Around}
theorem BInv.alive {c:Cfg}(I:BInv B c):Alive B c.s:=⟨λa o e=>I.keep a o (I.base a o e),let ⟨ps,h,_⟩:=I.tab;⟨ps,h⟩,I.bare⟩
theorem Alive.setGen {s:Shared}(h:Alive B s) {g:Nat}{x:GenState}(hx:x.bare=true):Alive B (s.setGen g x):=⟨h.1,h.2.1,zd0 h.2.2 hx⟩
theorem zno (hh:A.handled=none) (hroom:A.depth < recursionLimit) (hl:B.h.NoLimit) (a:Addr) (g:Nat) (outs:List (Int × PySem.Str)):zqW prog w B A (.ref a) (λi=>i=g) (zok prog w B A a g outs) where
 frame own xs c c' h hk hgn I':=by
  obtain ⟨h1,h2,gs,j,h3,h4,h5,h6⟩:=h
  refine ⟨let ⟨o,nm,qn,ho,r⟩:=h1;⟨o,nm,qn,hk a h2 o ho,r⟩,h2,gs,j,hgn g gs rfl h3,h4,h5,λs'' al hk2=>h6 s'' al λb hb o e=>hk2 b hb o (hk b hb o e)⟩
 next own v xs c Q I p h hQ:=by
  obtain ⟨h1,h2,gs,j,h3,h4,h5,h6⟩:=h
  have hj:j < outs.length:=by
   rcases zr4 j outs.length with q | q
   ·exact q
   ·rw [ztY q] at h5;contradiction
  obtain ⟨m,hm⟩:∃ m,outs.length - j=m + 1:=⟨outs.length - j - 1,zi2 hj⟩
  refine Eea (h6 (c.s.setGen g .running) (I.alive.setGen rfl) λZ Z Z e=>e) λow how hgo=>?_
  rw [hm] at hgo
  refine zgl (P:=λn s₀ s₁=>n=0/\GX ow s₀ s₁/\AllBare s₁.gens) hh (hl.keeps I.baseIn) hroom h1 h3 hgo (λv' s₁ gs' hb hv=>?_) (λs₁ hp h' hk=>absurd hp.1 (zs3 m))
  obtain ⟨⟨pp,y,a2,t1,t2,hi,rfl,hf2,hno,ho2⟩,hgx,hal,hex,hk⟩:=hv
  have hidx:outs.length - 1 - (m + 1 - 1)=j:=zjS hm
  rw [hidx] at hi
  have hkeep:∀ b o,b ∉ own->c.s.heap.get? b=some o->(s₁.setGen g gs').heap.get? b=some o:=λb o hb e=>hgx.1 b o (λq=>by
   rcases (how b q).2 with q2 | q2
   ·exact hb q2
   ·rw [show (c.s.setGen g .running).heap.get? b=c.s.heap.get? b from rfl,e] at q2;exact ziK q2) e
  obtain ⟨I2,S2⟩:=I.privsG (gx:=λi=>i=g) (s':=s₁.setGen g gs') p hkeep (λi x hi e=>by rw [zez hi];exact hgx.2.1 i x (by rw [zez hi];exact e)) (zd0 hal.2.2 hb) hgx.2.2
  have hfresh:∀ b,c.s.heap.get? b=none->Ex s₁.heap b->Priv B [b] ⟨c.G,c.hp,s₁.setGen g gs'⟩:=λb hb hx b' hb'=>by
   have:b'=b:=zr3.mp hb'
   subst this
   exact ⟨hx,I.g_none hb,I.not_mu hb,λq=>(by obtain ⟨_,q2⟩:=I.tbl_lt;rw [<- q,hb] at q2;exact zan q2),λid e=>(I.lt _ _ e).ne hb rfl⟩
  refine zjX (I2.adoptX S2 (hfresh a2 hf2 ⟨_,ho2⟩) hf2 ho2) λg' e1 ene egg I3 S3=>?_
  have haow:a ∉ ow:=λq=>(how a q).1 rfl
  have hag:s₁.heap.IsGen a g:=let ⟨o,nm,qn,ho,r⟩:=h1;⟨o,nm,qn,hgx.1 a o haow ho,r⟩
  have hxs:v=ziP (pp,y)/\xs=(outs.drop (j + 1)).map ziP:=by
   have:outs.drop j=(pp,y)::outs.drop (j + 1):=by
    refine Eq.trans (ztL hj) ?_
    rw [zrG hj] at hi
    exact (Option.some.inj hi)▸rfl
   rw [this] at h5
   simp only [zsm,List.cons.injEq] at h5
   exact h5
  have hne2:∀ b ∈ a::ow,b≠a2:=λb hb q=>by
   rcases zrs.mp hb with r | r
   ·refine zfq h1 λo Z Z ho Z=>?_
    have:c.s.heap.get? a2=some o:=by refine q▸r▸?_;exact ho
    replace hf2:=this▸((show (c.s.setGen g .running).heap.get? a2=c.s.heap.get? a2 from rfl)▸hf2);exact ziK hf2
   ·exact hno (q▸r)
  have hPr:Priv B (a::ow) ⟨⟨g',c.G.f⟩,c.hp,s₁.setGen g gs'⟩:=λb hb=>by
   have hex2:Ex s₁.heap b:=by
    rcases zrs.mp hb with r | r
    ·(refine zfq hag λo Z Z ho Z=>?_);exact ⟨o,r▸ho⟩
    ·exact hex b r
   have base:Ex s₁.heap b/\c.G.g.get? b=none/\¬ mu c b/\b≠B.tbl/\∀ id,c.G.f id≠some b:=by
    have old:b ∈ own->Ex s₁.heap b/\c.G.g.get? b=none/\¬ mu c b/\b≠B.tbl/\∀ id,c.G.f id≠some b:=λq=>⟨hex2,(p b q).2⟩
    rcases zrs.mp hb with r | r
    ·exact old (r▸h2)
    ·rcases (how b r).2 with q | q
     ·exact old q
     ·exact hfresh b q hex2 b (.head _)
   exact ⟨base.1,(ene b (hne2 b hb)).trans base.2.1,base.2.2.1,base.2.2.2.1,base.2.2.2.2⟩
  refine hQ _ ⟨g',c.G.f⟩ _ (a::ow) I3 S3 ?_ ⟨hag,.head _,gs',j + 1,setGen_self (gs:=.running) ?_,hj,hxs.2,λs'' al hk''=>⟨ow,λb hb=>⟨(how b hb).1,.inl (zrL _ hb)⟩,?_⟩⟩ hPr (λb hb=>?_) λtarget Q' hq=>?_
  ·rw [hxs.1]
   exact .d (reads_tuple_at e1 rfl rfl (.cons (.int _ _) (.cons (.str _ _) .nil)))
  ·exact hgx.2.1 g _ (setGen_self h3)
  ·have:=hk s'' al λb hb o e=>hk'' b (zrL _ hb) o e
   have e:outs.length - (j + 1)=m:=zjT hm
   refine e▸?_
   exact this
  ·rcases zrs.mp hb with r | r
   ·exact .inl (r▸h2)
   ·rcases (how b r).2 with q | q
    ·exact .inl q
    ·exact .inr q
  ·refine zic hag λo Z Z ho hc Z=>?_
   exact zfL ho hc (by decide) hq
 done own c Q I p h hQ:=by
  obtain ⟨h1,h2,gs,j,h3,h4,h5,h6⟩:=h
  have hj:j=outs.length:=by
   have:=congrArg zsB h5
   simp at this;exact zec this.symm h4
  refine Eea (h6 (c.s.setGen g .running) (I.alive.setGen rfl) λZ Z Z e=>e) λow how hgo=>?_
  rw [hj,zta] at hgo
  refine zgl (P:=λn s₀ s₁=>n=0/\GX ow s₀ s₁/\AllBare s₁.gens) hh (hl.keeps I.baseIn) hroom h1 h3 hgo (λv' s₁ gs' hb hv=>?_) (λs₁ hp h' hk=>?_)
  ·exact False.elim (hv.2.2.2.2 s₁ hv.2.2.1 λZ Z Z e=>e)
  ·refine Eaa hp λZ hgx hbare=>?_
   have hkeep:∀ b o,b ∉ own->c.s.heap.get? b=some o->h'.get? b=some o:=λb o hb e=>hk b o (hgx.1 b o (λq=>by
    rcases (how b q).2 with q2 | q2
    ·exact hb q2
    ·rw [show (c.s.setGen g .running).heap.get? b=c.s.heap.get? b from rfl,e] at q2;exact ziK q2) e)
   obtain ⟨I2,S2⟩:=I.privsG (gx:=λi=>i=g) (s':={ s₁.setGen g .finished with heap:=h' }) p hkeep (λi x hi e=>by
    rw [zez hi];exact hgx.2.1 i x (by rw [zez hi];exact e)) (zd0 hbare rfl) hgx.2.2
   exact hQ c.G _ I2 S2
end
noncomputable def zlP (fd:FuncData) (a L:Addr):FI where
 env:=newEnv fd.scope L fd.globals [] (fd.qualname++".<locals>.") (some a) fd.code none fd.builtins
 nm:=[some ("addr":zS),some ("pos":zS),some ("escape":zS),some ("ch":zS)]
 pv:=[L]
 own:=[L]
 cs:=[]
theorem zkQ:∀ i < 4,∀ j < 4,[some ("addr":zS),some ("pos":zS),some ("escape":zS),some ("ch":zS)][i]?=[some ("addr":zS),some ("pos":zS),some ("escape":zS),some ("ch":zS)][j]?->i=j:=by decide
noncomputable def zpI (r:St->Option (List V × HP)):St->Option (List V × HP):=λst=>bL (r st) λvs h=>on1 (onS λx=>if za7 false x.cps.toList=false/\∀ c ∈ x.cps.toList,c < 1114112 then some ((zcP 0 false x.cps.toList).map ziP,h) else none) vs
section
variable {prog:Program}{w:World}{B:Bs}{n:Nat}{F:FI}{mg mb:PySem.Str->Option Value}
theorem zk0 {fx:PySem.Str}{p pos:Pos}{fa:Addr}{o:Obj}{fd:FuncData}{args:List Expr}{r:St->Option (List V × HP)}(T:Tp B mg mb)
  (hnm:ESound prog w B (n + 5) F (.Name fx p) (zmo (.ref fa))) (hr:LSound prog w B (n + 5) F pos args r) (hplain:(backTo pos (starEach args F.env)).any (·.1)=false) (hne:∃ x rest,backTo pos (starEach args F.env)=(false,x)::rest)
  (ho:B.h.get? fa=some o) (hd:o.data=.func fd) (hco:fd.scope.isCoroutine=false) (hgen:fd.scope.isGenerator=true) (hcd:B.h.CodeRec fd.code fd.qualname) (hcl:fd.closure=[]) (hk:fd.scope.kind=.function) (hgl:fd.globals=mainGlobals) (hbl:fd.builtins=builtinsNs)
  (hbind:∀ v:Value,bindArgs fd ⟨[v],[]⟩=pure [(("addr":zS),v)]) (hcells:∀ x ∈ fd.scope.names,x.2≠.cell) (hloc:∀ x,x ∈ [("addr":zS),"pos","escape","ch"]->fd.scope.names.lookup x=some .local)
  (hint:∀ L,interactive (zlP fd fa L).env=false) (hken:∀ L,(zlP fd fa L).env.kindOf "enumerate"=some .globalImplicit) (hg:mg "enumerate"=none) (hb:mb "enumerate"=some (.type "enumerate"))
  (f:∀ L,EscFn prog w B n (zlP fd fa L)) {pA pB pC pD pE pF pG pH pI pJ pK:Pos} {k1 k2:Nat} {t3:Expr} {y3:List Stmt} {q3:St->Option (Bool × HP)}
  (hbody:∀ L,fd.body=.stmts [.Assign [.Name "pos" pA] (.Constant (.int 0) k1 pB) pC,.Assign [.Name "escape" pD] (.Constant (.bool false) k2 pE) pF,.For (f L).target (.Call (.Name "enumerate" pG) [.Name "addr" pH] [] pI) (f L).body [] pJ,.If t3 y3 [] pK])
  (h3:∀ L,zfU prog w B n (zlP fd fa L) t3 q3) (e3:∀ x0 po b ch,q3 ⟨[x0,po,some (.d (.bool b)),ch],[]⟩=some (b,[]))
  (hs1:∀ L,swapsWith (.Constant (.int 0) k1 pB) (some (.Name "pos" pA)) pC.line (zlP fd fa L).env=pure false) (hs2:∀ L,swapsWith (.Constant (.bool false) k2 pE) (some (.Name "escape" pD)) pF.line (zlP fd fa L).env=pure false)
  (hse:∀ L,backTo pI (starEach [.Name "addr" pH] (zlP fd fa L).env)=[(false,eval (.Name "addr" pH) (zlP fd fa L).env)])
  (hfold:∀ L v,foldedSetIterable (.Call (.Name "enumerate" pG) [.Name "addr" pH] [] pI) (zlP fd fa L).env v=pure v) :
  zi9 prog w B (n + 5) F (eval (.Call (.Name fx p) args [] pos) F.env) (zpI r):=λst vs hp' e A hA G s I X=>by
 refine zqh e λl h q e=>ziM e λu qu e=>zd8 e λx qx e=>Ea (zaK e) λhfin e=>?_
 refine zcy e ?_
 refine wpAny_Call_NameR (hnm.use rfl hA I X λcf s1 G1 I1 S1 r1=>?_)
 cases r1
 refine zbV (.inr ⟨fa,o,fd,rfl,ho,hd⟩) hr hplain q hA I1 (X.step S1) (λG2 s2 cvs I2 S2 r2=>?_) hne
 refine (qx▸qu▸r2:RVs G2 cvs [.d (.str x)]).one_elim λcv2 r2=>?_
 ·refine r2.str_elim λt=>?_
  have hb2:=I2.baseIn
  refine wpAny_call (codeAny_call_generator hA.room (hb2 _ _ ho) hd hco hgen (hbody s2.heap.objs.size) (hcd.keeps hb2) ?_)
  refine wpAny_of_eq (hbind _) ?_
  refine hcl▸?_
  refine wpAny_newFunctionEnv hcells (λy hy=>?_) (λh' hns hs=>?_) hk
  ·have:y=(("addr":zS),Value.str x t):=by simpa using hy
   subst this
   exact hloc _ (.head _)
  generalize hbs:s2.heap.push { cls:=.type (if (none:Option Env).isSome then "dict" else "frame"),data:=.dict #[] }=hp0 at hs
  have hCn:s2.heap.get? s2.heap.objs.size=none:=zaJ (zrv _)
  have keep1:∀ b o,s2.heap.get? b=some o->h'.get? b=some o:=λb o e=>by
   refine (hs.2 b λq=>by rw [q,hCn] at e;exact zan e).trans ?_
   refine hbs▸?_;exact Heap.get?_push_of_some _ e
  have hsz:h'.objs.size=s2.heap.objs.size + 1:=by rw [hs.1,<- hbs,Heap.size_push]
  refine ⟨(T.lim.keeps hb2).keeps keep1,?_⟩
  generalize hgo:({ cls:=.type "generator",data:=.fields #[.int s2.gens.size 0,.str fd.name (s2.toks + 1),.str fd.qualname (s2.toks + 1 + 1)] }:Obj)=gob
  have keep2:∀ b o,s2.heap.get? b=some o->(h'.push gob).get? b=some o:=λb o e=>Heap.get?_push_of_some _ (keep1 b o e)
  have hIG:(h'.push gob).IsGen h'.objs.size s2.gens.size:=⟨gob,_,_,by rw [<- hgo];exact Heap.get?_push_size _ rfl,by rw [<- hgo],by rw [<- hgo],by rw [<- hgo]⟩
  refine wpAny_pyIter_gen hIG ?_
  have hns2:(h'.push gob).Ns s2.heap.objs.size (λy=>([(("addr":zS),Value.str x t)]:List _).reverse.lookup y):=hns.push gob
  have hCB:B.h.get? s2.heap.objs.size=none:=by
   cases q2:B.h.get? s2.heap.objs.size with
   | none=>rfl
   | some o=>have:=hb2 _ o q2;rw [hCn] at this;exact zan this
  have hCt:s2.heap.objs.size≠B.tbl:=λq2=>by (refine Ee I2.tbl_lt λo e=>?_);rw [<- q2,hCn] at e;exact zan e
  have hAn:s2.heap.get? h'.objs.size=none:=zaJ (by rw [hsz];exact zsl _)
  have Sa:=S1.trans0 I1 S2
  have back:∀ b,s2.heap.get? b=none->s.heap.get? b=none:=λb hb=>by
   cases q2:s.heap.get? b with
   | none=>rfl
   | some o=>(refine Ee (Sa.sz b ⟨o,q2⟩) λo' e=>?_);rw [show (⟨G2,h,s2⟩:Cfg).s.heap.get? b=s2.heap.get? b from rfl,hb] at e;exact zan e
  have backg:∀ i:Nat,s2.gens[i]?=none->s.gens[i]?=none:=λi hb=>by
   cases q2:s.gens[i]? with
   | none=>rfl
   | some y=>have:=Sa.gn i y q2;rw [show (⟨G2,h,s2⟩:Cfg).s.gens[i]?=s2.gens[i]? from rfl,hb] at this;exact zan this
  generalize hcode:Code.func _ _=code
  obtain ⟨I3,S3⟩:=I2.privsG (wr:=[]) (gx:=λZ=>False) (s':={ heap:=h'.push gob,gens:=s2.gens.push (.fresh code),drawn:=s2.drawn,toks:=s2.toks + [(("addr":zS),Value.str x t)].length + 1 + 1,os:=s2.os }) (λb hb=>nomatch hb) (λb o Z e=>keep2 b o e)
   (λi y Z e=>by
    have hi:i < s2.gens.size:=(zsX.mp e).1
    refine Eq.trans (ztZ hi) ?_;refine e▸?_;simp [hi]) (AllBare.push I2.bare rfl) rfl
  have S4:=Sa.thenX I2 S3 (λb hb=>nomatch hb) (λi hi=>hi.elim)
  refine ⟨G2,[h'.objs.size,s2.heap.objs.size],λi=>i=s2.gens.size,zok prog w B A h'.objs.size s2.gens.size (zcP 0 false x.cps.toList),I3,S4,zno hA.1 hA.room T.lim _ _ _,⟨hIG,.head _,.fresh code,0,ztQ ..,zr2 _,rfl,λs'' al hk2=>?_⟩,λb hb=>?_,λb hb=>?_,λi hi=>backg i (by refine (congrArg _ hi).trans ?_;simp)⟩
  ·have hCa:s2.heap.objs.size≠h'.objs.size:=by rw [hsz];exact zr5 (zrD _)
   have hga:h'.objs.size < s''.heap.objs.size:=by (refine zfq hIG λo Z Z q2 Z=>?_);exact Heap.lt_size (hk2 _ (.head _) o q2)
   refine ⟨[s2.heap.objs.size,s''.heap.objs.size + 1,s''.heap.objs.size],λb hb=>?_,rfl,?_⟩
   ·simp only [zrs,zrq,or_false] at hb
    rcases hb with rfl | rfl | rfl
    ·exact ⟨hCa,.inl (by simp)⟩
    ·exact ⟨zrV (zsi hga),.inr (zaJ (zsl _))⟩
    ·exact ⟨zrV hga,.inr (zaJ (zrv _))⟩
   ·subst hcode
    have N:zhn (zlP fd fa s2.heap.objs.size):=⟨rfl,?_,?_,?_,rfl,rfl,rfl,hco,hint _,?_⟩
    ·have ok:FOk (zlP fd fa s2.heap.objs.size):=⟨hk,hgl,hbl,.head _,λZ h=>h,λi j y q1 q2=>?_,λy z c h1 h2=>by contradiction⟩
     ·exact zo7 (f s2.heap.objs.size) N ok T hg hb (hken _) (h3 _) e3 (by
       cases q2:B.h.get? B.tbl with
       | none=>rfl
       | some o=>have:=I2.base _ o q2;rw [I2.tabg.1] at this;exact zan this) hCB hCt hA.in1 (hs1 _) (hs2 _) (hse _) (hfold _) hfin.1 hfin.2 al (hns2.at' λo e=>hk2 _ (.tail _ (.head _)) o e) rfl
     ·have hi4:i < 4:=(zr0.mp q1).1
      have hj4:j < 4:=(zr0.mp q2).1
      exact zkQ i hi4 j hj4 (q1.trans q2.symm)
    ·exact hloc _ (by constructor)
    ·exact hloc _ (by decide)
    ·exact hloc _ (by decide)
    ·show (fd.scope.kind==.class || (fd.scope.kind==.module && _))=false
     refine hk▸?_;rfl
  ·have hbn:s2.heap.get? b=none:=by
    simp only [zrs,zrq,or_false] at hb
    rcases hb with rfl | rfl
    ·exact hAn
    ·exact hCn
   have hbe:Ex (h'.push gob) b:=by
    simp only [zrs,zrq,or_false] at hb
    rcases hb with rfl | rfl
    ·(refine zfq hIG λo Z Z q2 Z=>?_);exact ⟨o,q2⟩
    ·(refine zfq hns2 λo Z Z q2 Z=>?_);exact ⟨o,q2⟩
   exact ⟨hbe,I2.g_none hbn,I2.not_mu hbn,λq2=>(by (refine Ee I2.tbl_lt λo e=>?_);rw [<- q2,hbn] at e;exact zan e),λid e=>(I2.lt _ _ e).ne hbn rfl⟩
  ·refine back b ?_
   simp only [zrs,zrq,or_false] at hb
   rcases hb with rfl | rfl
   ·exact hAn
   ·exact hCn
end
noncomputable def zrd (i:Nat):PySem.Str:=match (PySem.Challenge.pw_kl0418_01).main.body[i]? with
 | some (.FunctionDef name _ _ _ _ _ _ _ _ _)=>name
 | _=>default
noncomputable def zqI (i:Nat):Arguments:=match (PySem.Challenge.pw_kl0418_01).main.body[i]? with
 | some (.FunctionDef _ params _ _ _ _ _ _ _ _)=>params
 | _=>default
noncomputable def zpy (i:Nat):List Stmt:=match (PySem.Challenge.pw_kl0418_01).main.body[i]? with
 | some (.FunctionDef _ _ body _ _ _ _ _ _ _)=>body
 | _=>default
noncomputable def zg8 (i:Nat):Scope:=match (PySem.Challenge.pw_kl0418_01).main.body[i]? with
 | some (.FunctionDef _ _ _ _ _ _ scope _ _ _)=>scope
 | _=>default
noncomputable def zqz (i:Nat) (pm cd:Value):FuncData:=docDef (zrd i) (zqI i) (zpy i) (zg8 i) pm cd .none
structure zqU (h:Heap) (a i:Nat):Prop where
 ex:∃ o pm,h.get? a=some o/\o.data=.func (zqz i pm (.ref (a - 1)))/\h.CodeRec (zqz i pm (.ref (a - 1))).code (zqz i pm (.ref (a - 1))).qualname
noncomputable def fnL:List (Nat × Nat):=[(43,3),(55,6),(62,8),(69,9),(76,11),(83,13),(90,14),(97,15),(104,16),(109,18),(116,19),(123,20),(130,21),(137,22),(142,23),(147,24),(152,25),(157,26)]
noncomputable def glL:List (PySem.Str × Nat):=[("translate",43),("escape",55),("_translate",62),("_join_translated_parts",69),("_iter_escaped_chars",76),("heappop",83),("heapify",90),("_siftdown",97),("_siftup",104),("_law_drawn",109),("_law_parted",116),("_law_code",123),("_law_read",130),("_law_swept",137),("_law_edges",142),("_law_turns",147),("_law_due",152),("law",157),("_special_chars_map",45),("_twin_re_1",36)]
noncomputable def blL:List PySem.Str:=["len","ord","chr","isinstance","sorted","object","str","range","reversed","enumerate"]
structure E0 (tf:Int->Option Value) (B:Bs) (mg mb:PySem.Str->Option Value):Prop where
 fn:∀ p ∈ fnL,zqU B.h p.1 p.2
 gN:∀ p ∈ glL,mg p.1=some (.ref p.2)
 gB:∀ x ∈ blL,mg x=none
 map:∀ (prog:Program) (w:World),B.h.MapOf (intKind prog w) 45 tf
 T:Tp B mg mb
 bl:∀ x:PySem.Str,x≠"__name__"->mb x=bootBuiltins x
section
variable {tf:Int->Option Value}{B:Bs}{mg mb:PySem.Str->Option Value}
theorem E0.cal (E:E0 tf B mg mb) {a i:Nat}(h:(a,i) ∈ fnL):∃ x o fd,Value.ref a=Value.ref x/\B.h.get? x=some o/\o.data=.func fd:=let ⟨o,_,h1,h2,_⟩:=(E.fn (a,i) h).ex;⟨a,o,_,rfl,h1,h2⟩
theorem zmS:bootBuiltins "chr"=some (.builtin "chr"):=by decide +kernel
theorem E0.g_translate (E:E0 tf B mg mb):mg ("translate":zS)=some (.ref 43)\/(mg ("translate":zS)=none/\mb ("translate":zS)=some (.ref 43)):=.inl (E.gN ("translate",43) (by decide +kernel))
theorem E0.g_escape (E:E0 tf B mg mb):mg ("escape":zS)=some (.ref 55)\/(mg ("escape":zS)=none/\mb ("escape":zS)=some (.ref 55)):=.inl (E.gN ("escape",55) (by decide +kernel))
theorem E0.g__translate (E:E0 tf B mg mb):mg ("_translate":zS)=some (.ref 62)\/(mg ("_translate":zS)=none/\mb ("_translate":zS)=some (.ref 62)):=.inl (E.gN ("_translate",62) (by decide +kernel))
theorem E0.g__join_translated_parts (E:E0 tf B mg mb):mg ("_join_translated_parts":zS)=some (.ref 69)\/(mg ("_join_translated_parts":zS)=none/\mb ("_join_translated_parts":zS)=some (.ref 69)):=.inl (E.gN ("_join_translated_parts",69) (by decide +kernel))
theorem E0.g__iter_escaped_chars (E:E0 tf B mg mb):mg ("_iter_escaped_chars":zS)=some (.ref 76)\/(mg ("_iter_escaped_chars":zS)=none/\mb ("_iter_escaped_chars":zS)=some (.ref 76)):=.inl (E.gN ("_iter_escaped_chars",76) (by decide +kernel))
theorem E0.g_heappop (E:E0 tf B mg mb):mg ("heappop":zS)=some (.ref 83)\/(mg ("heappop":zS)=none/\mb ("heappop":zS)=some (.ref 83)):=.inl (E.gN ("heappop",83) (by decide +kernel))
theorem E0.g_heapify (E:E0 tf B mg mb):mg ("heapify":zS)=some (.ref 90)\/(mg ("heapify":zS)=none/\mb ("heapify":zS)=some (.ref 90)):=.inl (E.gN ("heapify",90) (by decide +kernel))
theorem E0.g__siftdown (E:E0 tf B mg mb):mg ("_siftdown":zS)=some (.ref 97)\/(mg ("_siftdown":zS)=none/\mb ("_siftdown":zS)=some (.ref 97)):=.inl (E.gN ("_siftdown",97) (by decide +kernel))
theorem E0.g__siftup (E:E0 tf B mg mb):mg ("_siftup":zS)=some (.ref 104)\/(mg ("_siftup":zS)=none/\mb ("_siftup":zS)=some (.ref 104)):=.inl (E.gN ("_siftup",104) (by decide +kernel))
theorem E0.g__law_drawn (E:E0 tf B mg mb):mg ("_law_drawn":zS)=some (.ref 109)\/(mg ("_law_drawn":zS)=none/\mb ("_law_drawn":zS)=some (.ref 109)):=.inl (E.gN ("_law_drawn",109) (by decide +kernel))
theorem E0.g__law_parted (E:E0 tf B mg mb):mg ("_law_parted":zS)=some (.ref 116)\/(mg ("_law_parted":zS)=none/\mb ("_law_parted":zS)=some (.ref 116)):=.inl (E.gN ("_law_parted",116) (by decide +kernel))
theorem E0.g__law_code (E:E0 tf B mg mb):mg ("_law_code":zS)=some (.ref 123)\/(mg ("_law_code":zS)=none/\mb ("_law_code":zS)=some (.ref 123)):=.inl (E.gN ("_law_code",123) (by decide +kernel))
theorem E0.g__law_read (E:E0 tf B mg mb):mg ("_law_read":zS)=some (.ref 130)\/(mg ("_law_read":zS)=none/\mb ("_law_read":zS)=some (.ref 130)):=.inl (E.gN ("_law_read",130) (by decide +kernel))
theorem E0.g__law_swept (E:E0 tf B mg mb):mg ("_law_swept":zS)=some (.ref 137)\/(mg ("_law_swept":zS)=none/\mb ("_law_swept":zS)=some (.ref 137)):=.inl (E.gN ("_law_swept",137) (by decide +kernel))
theorem E0.g__law_edges (E:E0 tf B mg mb):mg ("_law_edges":zS)=some (.ref 142)\/(mg ("_law_edges":zS)=none/\mb ("_law_edges":zS)=some (.ref 142)):=.inl (E.gN ("_law_edges",142) (by decide +kernel))
theorem E0.g__law_turns (E:E0 tf B mg mb):mg ("_law_turns":zS)=some (.ref 147)\/(mg ("_law_turns":zS)=none/\mb ("_law_turns":zS)=some (.ref 147)):=.inl (E.gN ("_law_turns",147) (by decide +kernel))
theorem E0.g__law_due (E:E0 tf B mg mb):mg ("_law_due":zS)=some (.ref 152)\/(mg ("_law_due":zS)=none/\mb ("_law_due":zS)=some (.ref 152)):=.inl (E.gN ("_law_due",152) (by decide +kernel))
theorem E0.g_law (E:E0 tf B mg mb):mg ("law":zS)=some (.ref 157)\/(mg ("law":zS)=none/\mb ("law":zS)=some (.ref 157)):=.inl (E.gN ("law",157) (by decide +kernel))
theorem E0.g__special_chars_map (E:E0 tf B mg mb):mg ("_special_chars_map":zS)=some (.ref 45)\/(mg ("_special_chars_map":zS)=none/\mb ("_special_chars_map":zS)=some (.ref 45)):=.inl (E.gN ("_special_chars_map",45) (by decide +kernel))
theorem E0.g__twin_re_1 (E:E0 tf B mg mb):mg ("_twin_re_1":zS)=some (.ref 36)\/(mg ("_twin_re_1":zS)=none/\mb ("_twin_re_1":zS)=some (.ref 36)):=.inl (E.gN ("_twin_re_1",36) (by decide +kernel))
theorem E0.g_len (E:E0 tf B mg mb):mg ("len":zS)=some (.builtin "len")\/(mg ("len":zS)=none/\mb ("len":zS)=some (.builtin "len")):=.inr ⟨E.gB "len" (by decide +kernel),(E.bl _ (by decide)).trans PySem.boot_len⟩
theorem E0.g_ord (E:E0 tf B mg mb):mg ("ord":zS)=some (.builtin "ord")\/(mg ("ord":zS)=none/\mb ("ord":zS)=some (.builtin "ord")):=.inr ⟨E.gB "ord" (by decide +kernel),(E.bl _ (by decide)).trans PyProof.Rows.boot_ord⟩
theorem E0.g_chr (E:E0 tf B mg mb):mg ("chr":zS)=some (.builtin "chr")\/(mg ("chr":zS)=none/\mb ("chr":zS)=some (.builtin "chr")):=.inr ⟨E.gB "chr" (by decide +kernel),(E.bl _ (by decide)).trans zmS⟩
theorem E0.g_isinstance (E:E0 tf B mg mb):mg ("isinstance":zS)=some (.builtin "isinstance")\/(mg ("isinstance":zS)=none/\mb ("isinstance":zS)=some (.builtin "isinstance")):=.inr ⟨E.gB "isinstance" (by decide +kernel),(E.bl _ (by decide)).trans PyProof.Rows.boot_isinstance⟩
theorem E0.g_sorted (E:E0 tf B mg mb):mg ("sorted":zS)=some (.builtin "sorted")\/(mg ("sorted":zS)=none/\mb ("sorted":zS)=some (.builtin "sorted")):=.inr ⟨E.gB "sorted" (by decide +kernel),(E.bl _ (by decide)).trans PyProof.Rows.boot_sorted⟩
theorem E0.g_object (E:E0 tf B mg mb):mg ("object":zS)=some (.type "object")\/(mg ("object":zS)=none/\mb ("object":zS)=some (.type "object")):=.inr ⟨E.gB "object" (by decide +kernel),(E.bl _ (by decide)).trans PyProof.Rows.boot_object⟩
theorem E0.g_str (E:E0 tf B mg mb):mg ("str":zS)=some (.type "str")\/(mg ("str":zS)=none/\mb ("str":zS)=some (.type "str")):=.inr ⟨E.gB "str" (by decide +kernel),(E.bl _ (by decide)).trans PyProof.Rows.boot_str⟩
theorem E0.g_range (E:E0 tf B mg mb):mg ("range":zS)=some (.type "range")\/(mg ("range":zS)=none/\mb ("range":zS)=some (.type "range")):=.inr ⟨E.gB "range" (by decide +kernel),(E.bl _ (by decide)).trans PyProof.Rows.boot_range⟩
theorem E0.g_reversed (E:E0 tf B mg mb):mg ("reversed":zS)=some (.type "reversed")\/(mg ("reversed":zS)=none/\mb ("reversed":zS)=some (.type "reversed")):=.inr ⟨E.gB "reversed" (by decide +kernel),(E.bl _ (by decide)).trans PyProof.Rows.boot_reversed⟩
theorem E0.g_enumerate (E:E0 tf B mg mb):mg ("enumerate":zS)=some (.type "enumerate")\/(mg ("enumerate":zS)=none/\mb ("enumerate":zS)=some (.type "enumerate")):=.inr ⟨E.gB "enumerate" (by decide +kernel),(E.bl _ (by decide)).trans PyProof.Rows.boot_enumerate⟩
end
noncomputable def zeF:HP->V->Bool:=λhp v=>match v with | .l _=>isL hp v | _=>false
section
variable {prog:Program}{w:World}{B:Bs}{n:Nat}{F:FI}
theorem zbS {env:Env}{names:List (PySem.Str × NameKind)}(h:∀ x ∈ names,x.2≠.free):zih env names:=λx hx e=>absurd e (h x hx)
theorem zeJ {env:Env}{names:List (PySem.Str × NameKind)}{y:PySem.Str}(h:∀ x ∈ names,x.2=.free->x.1=y) (hy:(env.cells.lookup y).isSome=true):zih env names:=λx hx e=>by refine (h x hx e)▸?_;exact hy
theorem ziI {l:List (PySem.Str × NameKind)}{x:PySem.Str}{kd:NameKind}(h:l.lookup x=some kd):x ∈ l.map (·.1):=zsz.mpr ⟨(x,kd),mem_of_lookup h,rfl⟩
noncomputable def zqR (m:St->Option (Bool × HP)):St->Option (V × HP):=λst=>match m st with
 | some (b,h)=>some (.d (.bool b),h)
 | none=>none
theorem zll {x:Expr}{pos:Pos}{m:St->Option (V × HP)}(hx:ESound prog w B n F x m):ESound prog w B n F (.UnaryOp .Not x pos) (zqR (zmK (zbf m))):=λst v hp' e A hA G s I X=>by
 unfold zqR zmK zbf at e
 cases q:m st with
 | none=>rw [q] at e;exact zan e
 | some r=>
  obtain ⟨v1,h1⟩:=r
  rw [q] at e
  dsimp only at e
  cases q2:zfo h1 v1 with
  | none=>rw [q2] at e;exact zan e
  | some b'=>
   rw [q2] at e;cases e
   refine wpAny_UnaryOp (hx.use q hA I X λcv s1 G1 I1 S1 r1=>?_)
   refine wpAny_holding ?_
   dsimp only
   rw [if_pos (by decide)]
   refine wpAny_bind (wpAny_mono (zhj (c:=⟨G1,hp',s1⟩) I1 q2 r1) (λcb s2 p=>wpAny_pure ?_) λZ Z x=>x)
   (refine Eaa p λq0 I2 S2=>?_;subst q0)
   exact ⟨G1,I2,S1.trans0 I1 S2,.d (.bool _)⟩
theorem zbu:zc5 prog w B zeF "append" "list.append":=zkc slot_list_append PySem.F.type_list_append
theorem zoC:zc5 prog w B zeF "pop" "list.pop":=zkc PySem.F.slot_list_pop PySem.F.type_list_pop
theorem zkb:zc5 prog w B isS "join" "str.join":=λc cv v I r hs A pl Q h=>zpR hs λx q=>by
 refine Ee (q▸r:RV c.G cv (.d (.str x))).str_inv λt q0=>?_
 subst q0
 exact PySem.GM.join h
theorem znc:zc5 prog w B isS "find" "str.find":=zlX PySem.F.slot_str_find PySem.F.type_str_find
theorem zhI:zc5 prog w B isS "translate" "str.translate":=zlX PySem.F.slot_str_translate PySem.F.type_str_translate
end
section
variable {prog:Program}{w:World}{tf:Int->Option Value}{B:Bs}{mg mb:PySem.Str->Option Value}{n:Nat}
noncomputable def zdi (k:Nat):St->Option (Fl × St):=
 zau (doM (za4 (zae 0) (zae 2)) (zaC 3)) (zau (zba (zay (zat (zac gtD) (zae 2) (zae 1))) (zau (doM (zat (zac (zaP zqM)) (zat (zac (zaP zh7)) (zae 2) (zal (.int 1))) (zal (.int 1))) (zaC 4)) (zau (doM (za4 (zae 0) (zae 4)) (zaC 5)) (zau (zbC (zay (zat (zac ltD) (zae 3) (zae 5))) (zau (doM (zae 5) (zjR (zae 0) (zae 2))) (zau (doM (zae 4) (zaC 2)) (zau (zas .cont) (zas .next)))) (zas .next)) (zau (zas .brk) (zas .next))))) k) (zau (doM (zae 3) (zjR (zae 0) (zae 2))) (zas .next)))
noncomputable def zdb (k:Nat):List V->HP->Option (V × HP):=zfK 3 6 (zdi k)
theorem zjk (E:E0 tf B mg mb) (k:Nat):zaM prog w B (n + 1) (.ref 97) (zdb k):=by
 obtain ⟨o,pm,ho,hd,hcode⟩:=(E.fn (97,15) (by decide)).ex
 refine zch (n:=n + 0) (pn:=[("heap":zS),("startpos":zS),("pos":zS)]) (nm:=[some ("heap":zS),some ("startpos":zS),some ("pos":zS),some ("newitem":zS),some ("parentpos":zS),some ("parent":zS)]) E.T ho hd rfl rfl rfl hcode rfl rfl rfl rfl ?_ (show ∀ x ∈ ([("heap":zS),("startpos":zS),("pos":zS)]:List PySem.Str),(zg8 15).names.lookup x=some .local by decide +kernel) (by decide +kernel) (zci (pn:=[("heap":zS),("startpos":zS),("pos":zS)]) (rest:=[some ("newitem":zS),some ("parentpos":zS),some ("parent":zS)])) (za0 (by decide +kernel)) (by decide) ?_
 ·intro args h
  obtain ⟨a,b,c,rfl⟩:=zq2 h
  rfl
 ·intro L
  refine zab (zah (zax (zaa (k:=0) rfl rfl rfl) (zaa (k:=2) rfl rfl rfl) (λZ Z=>rfl)) (k:=3) rfl (.inl rfl) rfl) ?_
  refine zab (zby (za5 zlc (zaa (k:=2) rfl rfl rfl) (zaa (k:=1) rfl rfl rfl) rfl) ?_) ?_
  ·
   refine zab (zah (zaq zp0 (zaq zg2 (zaa (k:=2) rfl rfl rfl) (zad)) (zad)) (k:=4) rfl (.inl rfl) rfl) ?_
   refine zab (zah (zax (zaa (k:=0) rfl rfl rfl) (zaa (k:=4) rfl rfl rfl) (λZ Z=>rfl)) (k:=5) rfl (.inl rfl) rfl) ?_
   refine zab (zaS (za5 zfB (zaa (k:=3) rfl rfl rfl) (zaa (k:=5) rfl rfl rfl) rfl) ?_ ?_) ?_
   ·
    refine zab (zbZ (zaa (k:=5) rfl rfl rfl) (zcA (zaa (k:=0) rfl rfl rfl) (zaa (k:=2) rfl rfl rfl)) rfl) ?_
    refine zab (zah (zaa (k:=4) rfl rfl rfl) (k:=2) rfl (.inl rfl) rfl) ?_
    refine zab (zgK) ?_
    exact zai
   ·
    exact zai
   refine zab (zgr) ?_
   exact zai
  refine zab (zbZ (zaa (k:=3) rfl rfl rfl) (zcA (zaa (k:=0) rfl rfl rfl) (zaa (k:=2) rfl rfl rfl)) rfl) ?_
  exact zai
noncomputable def zeB (k:Nat):St->Option (Fl × St):=
 zau (doM (zaV (zeG) (zaf (zae 0) (zaw))) (zaC 2)) (zau (doM (zae 1) (zaC 3)) (zau (doM (za4 (zae 0) (zae 1)) (zaC 4)) (zau (doM (zat (zac zbg) (zat (zac (zaP zlt)) (zal (.int 2)) (zae 1)) (zal (.int 1))) (zaC 5)) (zau (zba (zay (zat (zac ltD) (zae 5) (zae 2))) (zau (doM (zat (zac zbg) (zae 5) (zal (.int 1))) (zaC 6)) (zau (zbC (zcV (zay (zat (zac ltD) (zae 6) (zae 2))) (zcV (zmK (zay (zat (zac ltD) (za4 (zae 0) (zae 5)) (za4 (zae 0) (zae 6))))) (zbq true))) (zau (doM (zae 6) (zaC 5)) (zas .next)) (zas .next)) (zau (doM (za4 (zae 0) (zae 5)) (zjR (zae 0) (zae 1))) (zau (doM (zae 5) (zaC 1)) (zau (doM (zat (zac zbg) (zat (zac (zaP zlt)) (zal (.int 2)) (zae 1)) (zal (.int 1))) (zaC 5)) (zas .next)))))) k) (zau (doM (zae 4) (zjR (zae 0) (zae 1))) (zau (zbm (zaV (zdb k) (zaf (zae 0) (zaf (zae 3) (zaf (zae 1) (zaw)))))) (zas .next)))))))
noncomputable def zdv (k:Nat):List V->HP->Option (V × HP):=zfK 2 7 (zeB k)
theorem zit (E:E0 tf B mg mb) (k:Nat):zaM prog w B (n + 2) (.ref 104) (zdv k):=by
 obtain ⟨o,pm,ho,hd,hcode⟩:=(E.fn (104,16) (by decide)).ex
 refine zch (n:=n + 1) (pn:=[("heap":zS),("pos":zS)]) (nm:=[some ("heap":zS),some ("pos":zS),some ("endpos":zS),some ("startpos":zS),some ("newitem":zS),some ("childpos":zS),some ("rightpos":zS)]) E.T ho hd rfl rfl rfl hcode rfl rfl rfl rfl ?_ (show ∀ x ∈ ([("heap":zS),("pos":zS)]:List PySem.Str),(zg8 16).names.lookup x=some .local by decide +kernel) (by decide +kernel) (zci (pn:=[("heap":zS),("pos":zS)]) (rest:=[some ("endpos":zS),some ("startpos":zS),some ("newitem":zS),some ("childpos":zS),some ("rightpos":zS)])) (za0 (by decide +kernel)) (by decide) ?_
 ·intro args h
  obtain ⟨a,b,rfl⟩:=zqk h
  rfl
 ·intro L
  refine zab (zah (zaz (zao E.T rfl E.g_len rfl) (.inl λZ h=>by cases h) (zak (zaa (k:=0) rfl rfl rfl) (zaA) rfl) (zcd) rfl ⟨_,_,rfl⟩) (k:=2) rfl (.inl rfl) rfl) ?_
  refine zab (zah (zaa (k:=1) rfl rfl rfl) (k:=3) rfl (.inl rfl) rfl) ?_
  refine zab (zah (zax (zaa (k:=0) rfl rfl rfl) (zaa (k:=1) rfl rfl rfl) (λZ Z=>rfl)) (k:=4) rfl (.inl rfl) rfl) ?_
  refine zab (zah (zaq za8 (zaq zmj (zad) (zaa (k:=1) rfl rfl rfl)) (zad)) (k:=5) rfl (.inl rfl) rfl) ?_
  refine zab (zby (za5 zfB (zaa (k:=5) rfl rfl rfl) (zaa (k:=2) rfl rfl rfl) rfl) ?_) ?_
  ·
   refine zab (zah (zaq za8 (zaa (k:=5) rfl rfl rfl) (zad)) (k:=6) rfl (.inl rfl) rfl) ?_
   refine zab (zaS (zdl (zbs (za5 zfB (zaa (k:=6) rfl rfl rfl) (zaa (k:=2) rfl rfl rfl) rfl) (zbs (zp5 (za5 zfB (zax (zaa (k:=0) rfl rfl rfl) (zaa (k:=5) rfl rfl rfl) (λZ Z=>rfl)) (zax (zaa (k:=0) rfl rfl rfl) (zaa (k:=6) rfl rfl rfl) (λZ Z=>rfl)) rfl)) (zdp)))) ?_ ?_) ?_
   ·
    refine zab (zah (zaa (k:=6) rfl rfl rfl) (k:=5) rfl (.inl rfl) rfl) ?_
    exact zai
   ·
    exact zai
   refine zab (zbZ (zax (zaa (k:=0) rfl rfl rfl) (zaa (k:=5) rfl rfl rfl) (λZ Z=>rfl)) (zcA (zaa (k:=0) rfl rfl rfl) (zaa (k:=1) rfl rfl rfl)) rfl) ?_
   refine zab (zah (zaa (k:=5) rfl rfl rfl) (k:=1) rfl (.inl rfl) rfl) ?_
   refine zab (zah (zaq za8 (zaq zmj (zad) (zaa (k:=1) rfl rfl rfl)) (zad)) (k:=5) rfl (.inl rfl) rfl) ?_
   exact zai
  refine zab (zbZ (zaa (k:=4) rfl rfl rfl) (zcA (zaa (k:=0) rfl rfl rfl) (zaa (k:=1) rfl rfl rfl)) rfl) ?_
  refine zab (zaW (zaz (zao E.T rfl E.g__siftdown rfl) (.inr (E.cal (a:=97) (i:=15) (by decide))) (zak (zaa (k:=0) rfl rfl rfl) (zak (zaa (k:=3) rfl rfl rfl) (zak (zaa (k:=1) rfl rfl rfl) (zaA) rfl) rfl) rfl) (zjk E k) rfl ⟨_,_,rfl⟩) rfl rfl) ?_
  exact zai
noncomputable def zdL (k:Nat):St->Option (Fl × St):=
 zau (doM (zaV (zeG) (zaf (zae 0) (zaw))) (zaC 1)) (zau (zfJ (zp6 (zaf (zat (zac (zaP zed)) (zae 1) (zal (.int 2))) (zaw))) (zaC 2) (zau (zbm (zaV (zdv k) (zaf (zae 0) (zaf (zae 2) (zaw))))) (zas .next))) (zas .next))
noncomputable def zdJ (k:Nat):List V->HP->Option (V × HP):=zfK 1 3 (zdL k)
theorem zkS (E:E0 tf B mg mb) (k:Nat):zaM prog w B (n + 3) (.ref 90) (zdJ k):=by
 obtain ⟨o,pm,ho,hd,hcode⟩:=(E.fn (90,14) (by decide)).ex
 refine zch (n:=n + 2) (pn:=[("x":zS)]) (nm:=[some ("x":zS),some ("n":zS),some ("i":zS)]) E.T ho hd rfl rfl rfl hcode rfl rfl rfl rfl ?_ (show ∀ x ∈ ([("x":zS)]:List PySem.Str),(zg8 14).names.lookup x=some .local by decide +kernel) (by decide +kernel) (zci (pn:=[("x":zS)]) (rest:=[some ("n":zS),some ("i":zS)])) (za0 (by decide +kernel)) (by decide) ?_
 ·intro args h
  obtain ⟨a,rfl⟩:=zk9 h
  rfl
 ·intro L
  refine zab (zah (zaz (zao E.T rfl E.g_len rfl) (.inl λZ h=>by cases h) (zak (zaa (k:=0) rfl rfl rfl) (zaA) rfl) (zcd) rfl ⟨_,_,rfl⟩) (k:=1) rfl (.inl rfl) rfl) ?_
  refine zab (zcj (zgd (zao E.T rfl E.g_reversed rfl) (zao E.T rfl E.g_range rfl) (zak (zaq zfh (zaa (k:=1) rfl rfl rfl) (zad)) (zaA) rfl) rfl ⟨_,_,rfl⟩) (zav (k:=2) rfl (.inl rfl)) ?_ (λZ=>rfl)) ?_
  ·
   refine zab (zaW (zaz (zao E.T rfl E.g__siftup rfl) (.inr (E.cal (a:=104) (i:=16) (by decide))) (zak (zaa (k:=0) rfl rfl rfl) (zak (zaa (k:=2) rfl rfl rfl) (zaA) rfl) rfl) (zit E k) rfl ⟨_,_,rfl⟩) rfl rfl) ?_
   exact zai
  exact zai
noncomputable def zc0 (k:Nat):St->Option (Fl × St):=
 zau (doM (zbz zeF zp2 (zae 0) zaw) (zaC 1)) (zau (zbC (zbf (zae 0)) (zau (doM (za4 (zae 0) (zal (.int 0))) (zaC 2)) (zau (doM (zae 1) (zjR (zae 0) (zal (.int 0)))) (zau (zbm (zaV (zdv k) (zaf (zae 0) (zaf (zal (.int 0)) (zaw))))) (zau (zdC (zae 2)) (zas .next))))) (zas .next)) (zau (zdC (zae 1)) (zas .next)))
noncomputable def zeS (k:Nat):List V->HP->Option (V × HP):=zfK 1 3 (zc0 k)
theorem zkT (E:E0 tf B mg mb) (k:Nat):zaM prog w B (n + 3) (.ref 83) (zeS k):=by
 obtain ⟨o,pm,ho,hd,hcode⟩:=(E.fn (83,13) (by decide)).ex
 refine zch (n:=n + 2) (pn:=[("heap":zS)]) (nm:=[some ("heap":zS),some ("lastelt":zS),some ("returnitem":zS)]) E.T ho hd rfl rfl rfl hcode rfl rfl rfl rfl ?_ (show ∀ x ∈ ([("heap":zS)]:List PySem.Str),(zg8 13).names.lookup x=some .local by decide +kernel) (by decide +kernel) (zci (pn:=[("heap":zS)]) (rest:=[some ("lastelt":zS),some ("returnitem":zS)])) (za0 (by decide +kernel)) (by decide) ?_
 ·intro args h
  obtain ⟨a,rfl⟩:=zk9 h
  rfl
 ·intro L
  refine zab (zah (zjO _ zoC zmV (zaa (k:=0) rfl rfl rfl) rfl) (k:=1) rfl (.inl rfl) rfl) ?_
  refine zab (zaS (zfD (zaa (k:=0) rfl rfl rfl) rfl) ?_ ?_) ?_
  ·
   refine zab (zah (zax (zaa (k:=0) rfl rfl rfl) (zad) (λZ Z=>rfl)) (k:=2) rfl (.inl rfl) rfl) ?_
   refine zab (zbZ (zaa (k:=1) rfl rfl rfl) (zcA (zaa (k:=0) rfl rfl rfl) (zad)) rfl) ?_
   refine zab (zaW (zaz (zao E.T rfl E.g__siftup rfl) (.inr (E.cal (a:=104) (i:=16) (by decide))) (zak (zaa (k:=0) rfl rfl rfl) (zak (zad) (zaA) rfl) rfl) (zit E k) rfl ⟨_,_,rfl⟩) rfl rfl) ?_
   refine zab (zaL (zaa (k:=2) rfl rfl rfl)) ?_
   exact zai
  ·
   exact zai
  refine zab (zaL (zaa (k:=1) rfl rfl rfl)) ?_
  exact zai
end
section
variable {prog:Program}{w:World}{tf:Int->Option Value}{B:Bs}{mg mb:PySem.Str->Option Value}{n:Nat}
noncomputable def zgp (k:Nat):St->Option (Fl × St):=
 zau (doM (zdT (zay (zat (zac (inD false)) (za4 (zae 0) (zde (zal (.int 1)))) (zal (.str ("&-\\|~":zS))))) (zat (zac zbg) (zal (.str ("\\":PySem.Str))) (za4 (zae 0) (zde (zal (.int 1))))) (za4 (zae 0) (zde (zal (.int 1))))) (zaC 1)) (zau (zdC (zdT (zay (zat (zac (inD false)) (zae 0) (zbD (zaf (zae 1) (zaf (zal (.str ("\\^":zS))) (zaf (zal (.str ("\\[":zS))) (zaw))))))) (zaV (zgx) (zaf (za4 (zae 0) (zde (zal (.int 1)))) (zaw))) (zde (zal (.int 1))))) (zas .next))
noncomputable def zcb (k:Nat):List V->HP->Option (V × HP):=zfK 1 2 (zgp k)
theorem zf6 (E:E0 tf B mg mb) (k:Nat):zaM prog w B (n + 1) (.ref 123) (zcb k):=by
 refine zcG ((E.fn (123,20) (by decide)).ex) λo pm ho hd hcode=>?_
 refine zch (n:=n + 0) (pn:=[("unit":zS)]) (nm:=[some ("unit":zS),some ("plain":zS)]) E.T ho hd rfl rfl rfl hcode rfl rfl rfl rfl ?_ (show ∀ x ∈ ([("unit":zS)]:List PySem.Str),(zg8 20).names.lookup x=some .local by decide +kernel) (by decide +kernel) (zci (pn:=[("unit":zS)]) (rest:=[some ("plain":zS)])) (za0 (by decide +kernel)) (by decide) ?_
 ·intro args h
  (refine Ee (zk9 h) λa q0=>?_;subst q0)
  rfl
 ·intro L
  refine zab (zah (zbp (za5 zmi (zax (zaa (k:=0) rfl rfl rfl) (zbd (zad)) (λZ Z=>rfl)) (zar) rfl) (zaq za8 (zar) (zax (zaa (k:=0) rfl rfl rfl) (zbd (zad)) (λZ Z=>rfl))) (zax (zaa (k:=0) rfl rfl rfl) (zbd (zad)) (λZ Z=>rfl))) (k:=1) rfl (.inl rfl) rfl) ?_
  refine zab (zaL (zbp (za5 zmi (zaa (k:=0) rfl rfl rfl) (zaH (zak (zaa (k:=1) rfl rfl rfl) (zak (zar) (zak (zar) (zaA) rfl) rfl) rfl)) rfl) (zaz (zao E.T rfl E.g_ord rfl) (.inl λZ h=>by contradiction) (zak (zax (zaa (k:=0) rfl rfl rfl) (zbd (zad)) (λZ Z=>rfl)) (zaA) rfl) (zcq) rfl ⟨_,_,rfl⟩) (zbd (zad)))) ?_
  exact zai
noncomputable def zjI (k:Nat):St->Option (Fl × St):=
 zau (doM (zaR (zae 0) (zal (.int 4)) (zde (zal (.int 2)))) (zaC 1)) (zau (zbC (orM (zay (zat (za6 true) (zat (zac zbg) (zaR (zae 0) (zal .none) (zal (.int 4))) (zaR (zae 0) (zde (zal (.int 2))) (zal .none))) (zbD (zaf (zal (.str ("(":zS))) (zaf (zal (.str ("?":zS))) (zaf (zal (.str ("s":zS))) (zaf (zal (.str (":":zS))) (zaf (zal (.str (")":zS))) (zaf (zal (.str ("\\Z":zS))) (zaw)))))))))) (orM (zay (zat (za6 false) (zae 1) (zbD (zaw)))) (zbq false))) (zau (zdC (zal .none)) (zas .next)) (zas .next)) (zau (zbC (zay (zat (zac (inD false)) (zae 1) (zbD (zaf (zbD (zaf (zal (.str (".":zS))) (zaw))) (zaf (zbD (zaf (zal (.str ("(":zS))) (zaf (zal (.str ("?":zS))) (zaf (zal (.str ("!":zS))) (zaf (zal (.str (")":zS))) (zaw)))))) (zaw)))))) (zau (zdC (zc1 (zaf (zat (za6 false) (zae 1) (zbD (zaf (zal (.str (".":zS))) (zaw)))) (zaf (zbD (zaw)) (zaw))))) (zas .next)) (zas .next)) (zau (zbC (zay (zat (za6 false) (zaV (zeG) (zaf (zae 1) (zaw))) (zal (.int 1)))) (zau (doM (za4 (za4 (zae 1) (zal (.int 0))) (zde (zal (.int 1)))) (zaC 2)) (zau (doM (zdT (zay (zat (zac (inD false)) (zae 2) (zal (.str (" #$&()*+-.?[\\]^{|}~":zS))))) (zat (zac zbg) (zal (.str ("\\":PySem.Str))) (zae 2)) (zae 2)) (zaC 3)) (zau (zdC (zdT (zay (zat (za6 false) (za4 (zae 1) (zal (.int 0))) (zae 3))) (zc1 (zaf (zal (.bool false)) (zaf (zbD (zaf (zc1 (zaf (zaV (zgx) (zaf (zae 2) (zaw))) (zaf (zaV (zgx) (zaf (zae 2) (zaw))) (zaw)))) (zaw))) (zaw)))) (zal .none))) (zas .next)))) (zas .next)) (zau (zcm 2 (zaf (zat (za6 false) (za4 (zae 1) (zal (.int 1))) (zal (.str ("^":zS)))) (zaf (zgj (zaw)) (zaw))) (λvs=>(zaI (zaC 5) (zaI (zaC 4) (zcD))) vs.reverse)) (zau (doM (zdT (zbf (zae 4)) (zaR (zae 1) (zal (.int 2)) (zde (zal (.int 1)))) (zaR (zae 1) (zal (.int 1)) (zde (zal (.int 1))))) (zaC 6)) (zau (zbC (orM (zay (zat (za6 true) (za4 (zae 1) (zal (.int 0))) (zal (.str ("[":zS))))) (orM (zay (zat (za6 true) (za4 (zae 1) (zde (zal (.int 1)))) (zal (.str ("]":zS))))) (orM (zay (zat (za6 false) (za4 (zae 1) (zal (.int 1))) (zal (.str ("[":zS))))) (orM (zay (zat (za6 false) (zae 6) (zbD (zaw)))) (zbq false))))) (zau (zdC (zal .none)) (zas .next)) (zas .next)) (zau (zba (zay (zat (za6 true) (zae 6) (zbD (zaw)))) (zau (doM (zdT (zcV (zay (zat (za6 false) (zaR (zae 6) (zal (.int 1)) (zal (.int 2))) (zbD (zaf (zal (.str ("-":zS))) (zaw))))) (zcV (zay (zat (zac gtD) (zaV (zeG) (zaf (zae 6) (zaw))) (zal (.int 2)))) (zbq true))) (zbD (zaf (za4 (zae 6) (zal (.int 0))) (zaf (za4 (zae 6) (zal (.int 2))) (zaw)))) (zbD (zaf (za4 (zae 6) (zal (.int 0))) (zaf (za4 (zae 6) (zal (.int 0))) (zaw))))) (zaC 7)) (zau (zbm (zbz zeF zeh (zae 5) (zaf (zc1 (zaf (zaV (zcb k) (zaf (za4 (zae 7) (zal (.int 0))) (zaw))) (zaf (zaV (zcb k) (zaf (za4 (zae 7) (zal (.int 1))) (zaw))) (zaw)))) (zaw)))) (zau (doM (zdT (zcV (zay (zat (za6 false) (zaR (zae 6) (zal (.int 1)) (zal (.int 2))) (zbD (zaf (zal (.str ("-":zS))) (zaw))))) (zcV (zay (zat (zac gtD) (zaV (zeG) (zaf (zae 6) (zaw))) (zal (.int 2)))) (zbq true))) (zaR (zae 6) (zal (.int 3)) (zal .none)) (zaR (zae 6) (zal (.int 1)) (zal .none))) (zaC 6)) (zas .next)))) k) (zau (zdC (zc1 (zaf (zae 4) (zaf (zgB (zae 5)) (zaw))))) (zas .next)))))))))
noncomputable def zbT (k:Nat):List V->HP->Option (V × HP):=zfK 1 8 (zjI k)
theorem zjj (E:E0 tf B mg mb) (k:Nat):zaM prog w B (n + 2) (.ref 130) (zbT k):=by
 refine zcG ((E.fn (130,21) (by decide)).ex) λo pm ho hd hcode=>?_
 refine zch (n:=n + 1) (pn:=[("units":zS)]) (nm:=[some ("units":zS),some ("inner":zS),some ("sign":zS),some ("plain":zS),some ("barred":zS),some ("ranges":zS),some ("left":zS),some ("ends":zS)]) E.T ho hd rfl rfl rfl hcode rfl rfl rfl rfl ?_ (show ∀ x ∈ ([("units":zS)]:List PySem.Str),(zg8 21).names.lookup x=some .local by decide +kernel) (by decide +kernel) (zci (pn:=[("units":zS)]) (rest:=[some ("inner":zS),some ("sign":zS),some ("plain":zS),some ("barred":zS),some ("ranges":zS),some ("left":zS),some ("ends":zS)])) (za0 (by decide +kernel)) (by decide) ?_
 ·intro args h
  (refine Ee (zk9 h) λa q0=>?_;subst q0)
  rfl
 ·intro L
  refine zab (zah (zaT (zaa (k:=0) rfl rfl rfl) (zaQ (zad)) (zaQ (zbd (zad)))) (k:=1) rfl (.inl rfl) rfl) ?_
  refine zab (zaS (zdl (zcS (za5 zdP (zaq za8 (zaT (zaa (k:=0) rfl rfl rfl) (zbQ) (zaQ (zad))) (zaT (zaa (k:=0) rfl rfl rfl) (zaQ (zbd (zad))) (zbQ))) (zaH (zak (zar) (zak (zar) (zak (zar) (zak (zar) (zak (zar) (zak (zar) (zaA) rfl) rfl) rfl) rfl) rfl) rfl)) rfl) (zcS (za5 zbU (zaa (k:=1) rfl rfl rfl) (zaH (zaA)) rfl) (zkl)))) ?_ ?_) ?_
  ·
   refine zab (zaL (ze6)) ?_
   exact zai
  ·
   exact zai
  refine zab (zaS (za5 zmi (zaa (k:=1) rfl rfl rfl) (zaH (zak (zaH (zak (zar) (zaA) rfl)) (zak (zaH (zak (zar) (zak (zar) (zak (zar) (zak (zar) (zaA) rfl) rfl) rfl) rfl)) (zaA) rfl) rfl)) rfl) ?_ ?_) ?_
  ·
   refine zab (zaL (zaU (zak (zb8 zbU (zaa (k:=1) rfl rfl rfl) (zaH (zak (zar) (zaA) rfl)) rfl) (zak (zaH (zaA)) (zaA) rfl) rfl))) ?_
   exact zai
  ·
   exact zai
  refine zab (zaS (za5 zbU (zaz (zao E.T rfl E.g_len rfl) (.inl λZ h=>by contradiction) (zak (zaa (k:=1) rfl rfl rfl) (zaA) rfl) (zcd) rfl ⟨_,_,rfl⟩) (zad) rfl) ?_ ?_) ?_
  ·
   refine zab (zah (zax (zax (zaa (k:=1) rfl rfl rfl) (zad) (λZ Z=>rfl)) (zbd (zad)) (λZ Z=>rfl)) (k:=2) rfl (.inl rfl) rfl) ?_
   refine zab (zah (zbp (za5 zmi (zaa (k:=2) rfl rfl rfl) (zar) rfl) (zaq za8 (zar) (zaa (k:=2) rfl rfl rfl)) (zaa (k:=2) rfl rfl rfl)) (k:=3) rfl (.inl rfl) rfl) ?_
   refine zab (zaL (zbp (za5 zbU (zax (zaa (k:=1) rfl rfl rfl) (zad) (λZ Z=>rfl)) (zaa (k:=3) rfl rfl rfl) rfl) (zaU (zak (zcz) (zak (zaH (zak (zaU (zak (zaz (zao E.T rfl E.g_ord rfl) (.inl λZ h=>by contradiction) (zak (zaa (k:=2) rfl rfl rfl) (zaA) rfl) (zcq) rfl ⟨_,_,rfl⟩) (zak (zaz (zao E.T rfl E.g_ord rfl) (.inl λZ h=>by contradiction) (zak (zaa (k:=2) rfl rfl rfl) (zaA) rfl) (zcq) rfl ⟨_,_,rfl⟩) (zaA) rfl) rfl)) (zaA) rfl)) (zaA) rfl) rfl)) (ze6))) ?_
   exact zai
  ·
   exact zai
  refine zab (zbJ (names:=[("barred":zS),("ranges":zS)]) (zak (zb8 zbU (zax (zaa (k:=1) rfl rfl rfl) (zad) (λZ Z=>rfl)) (zar) rfl) (zak (zbK (zaA)) (zaA) rfl) rfl) (zaO (zaX (k:=5) rfl (.inl rfl)) (zaO (zaX (k:=4) rfl (.inl rfl)) (zbO))) rfl rfl rfl) ?_
  refine zab (zah (zbp (zfD (zaa (k:=4) rfl rfl rfl) rfl) (zaT (zaa (k:=1) rfl rfl rfl) (zaQ (zad)) (zaQ (zbd (zad)))) (zaT (zaa (k:=1) rfl rfl rfl) (zaQ (zad)) (zaQ (zbd (zad))))) (k:=6) rfl (.inl rfl) rfl) ?_
  refine zab (zaS (zdl (zcS (za5 zdP (zax (zaa (k:=1) rfl rfl rfl) (zad) (λZ Z=>rfl)) (zar) rfl) (zcS (za5 zdP (zax (zaa (k:=1) rfl rfl rfl) (zbd (zad)) (λZ Z=>rfl)) (zar) rfl) (zcS (za5 zbU (zax (zaa (k:=1) rfl rfl rfl) (zad) (λZ Z=>rfl)) (zar) rfl) (zcS (za5 zbU (zaa (k:=6) rfl rfl rfl) (zaH (zaA)) rfl) (zkl)))))) ?_ ?_) ?_
  ·
   refine zab (zaL (ze6)) ?_
   exact zai
  ·
   exact zai
  refine zab (zby (za5 zdP (zaa (k:=6) rfl rfl rfl) (zaH (zaA)) rfl) ?_) ?_
  ·
   refine zab (zah (zbp (zdl (zbs (za5 zbU (zaT (zaa (k:=6) rfl rfl rfl) (zaQ (zad)) (zaQ (zad))) (zaH (zak (zar) (zaA) rfl)) rfl) (zbs (za5 zlc (zaz (zao E.T rfl E.g_len rfl) (.inl λZ h=>by contradiction) (zak (zaa (k:=6) rfl rfl rfl) (zaA) rfl) (zcd) rfl ⟨_,_,rfl⟩) (zad) rfl) (zdp)))) (zaH (zak (zax (zaa (k:=6) rfl rfl rfl) (zad) (λZ Z=>rfl)) (zak (zax (zaa (k:=6) rfl rfl rfl) (zad) (λZ Z=>rfl)) (zaA) rfl) rfl)) (zaH (zak (zax (zaa (k:=6) rfl rfl rfl) (zad) (λZ Z=>rfl)) (zak (zax (zaa (k:=6) rfl rfl rfl) (zad) (λZ Z=>rfl)) (zaA) rfl) rfl))) (k:=7) rfl (.inl rfl) rfl) ?_
   refine zab (zaW (zbc _ zbu zbj (zaa (k:=5) rfl rfl rfl) (zak (zaU (zak (zaz (zao E.T rfl E.g__law_code rfl) (.inr (E.cal (a:=123) (i:=20) (by decide))) (zak (zax (zaa (k:=7) rfl rfl rfl) (zad) (λZ Z=>rfl)) (zaA) rfl) (zf6 E k) rfl ⟨_,_,rfl⟩) (zak (zaz (zao E.T rfl E.g__law_code rfl) (.inr (E.cal (a:=123) (i:=20) (by decide))) (zak (zax (zaa (k:=7) rfl rfl rfl) (zad) (λZ Z=>rfl)) (zaA) rfl) (zf6 E k) rfl ⟨_,_,rfl⟩) (zaA) rfl) rfl)) (zaA) rfl) rfl rfl ⟨_,_,rfl⟩) rfl rfl) ?_
   refine zab (zah (zbp (zdl (zbs (za5 zbU (zaT (zaa (k:=6) rfl rfl rfl) (zaQ (zad)) (zaQ (zad))) (zaH (zak (zar) (zaA) rfl)) rfl) (zbs (za5 zlc (zaz (zao E.T rfl E.g_len rfl) (.inl λZ h=>by contradiction) (zak (zaa (k:=6) rfl rfl rfl) (zaA) rfl) (zcd) rfl ⟨_,_,rfl⟩) (zad) rfl) (zdp)))) (zaT (zaa (k:=6) rfl rfl rfl) (zaQ (zad)) (zbQ)) (zaT (zaa (k:=6) rfl rfl rfl) (zaQ (zad)) (zbQ))) (k:=6) rfl (.inl rfl) rfl) ?_
   exact zai
  refine zab (zaL (zaU (zak (zaa (k:=4) rfl rfl rfl) (zak (zb9 (zaa (k:=5) rfl rfl rfl)) (zaA) rfl) rfl))) ?_
  exact zai
noncomputable def zdD (k:Nat):St->Option (Fl × St):=
 zau (zcm 4 (zaf (zkO (zae 0)) (zaf (zal (.int 0)) (zaf (zal (.int 0)) (zaf (zgj (zaw)) (zaw))))) (zaI (zaC 1) (zaI (zaC 2) (zaI (zaC 3) (zaI (zaC 4) (zcD)))))) (zau (zbm (zaV (zdJ k) (zaf (zae 1) (zaw)))) (zau (zba (zay (zat (za6 true) (zae 1) (zbD (zaw)))) (zau (doM (zaV (zeS k) (zaf (zae 1) (zaw))) (zeE 2 (zaI (zaC 5) (zaI (zaC 6) (zcD))))) (zau (doM (zat (zac zbg) (zae 2) (zae 6)) (zaC 2)) (zau (zbC (orM (zay (zat (za6 false) (zae 1) (zbD (zaw)))) (orM (zay (zat (zac gtD) (za4 (za4 (zae 1) (zal (.int 0))) (zal (.int 0))) (zae 5))) (zbq false))) (zau (zbC (zay (zat (za6 true) (zae 2) (zae 3))) (zau (zbm (zbz zeF zeh (zae 4) (zaf (zc1 (zaf (zae 5) (zaf (zae 2) (zaw)))) (zaw)))) (zas .next)) (zas .next)) (zau (doM (zae 2) (zaC 3)) (zas .next))) (zas .next)) (zas .next)))) k) (zau (zdC (zgB (zae 4))) (zas .next))))
noncomputable def zcg (k:Nat):List V->HP->Option (V × HP):=zfK 1 7 (zdD k)
theorem zfc (E:E0 tf B mg mb) (k:Nat):zaM prog w B (n + 4) (.ref 137) (zcg k):=by
 refine zcG ((E.fn (137,22) (by decide)).ex) λo pm ho hd hcode=>?_
 refine zch (n:=n + 3) (pn:=[("events":zS)]) (nm:=[some ("events":zS),some ("heap":zS),some ("depth":zS),some ("last":zS),some ("profile":zS),some ("place":zS),some ("change":zS)]) E.T ho hd rfl rfl rfl hcode rfl rfl rfl rfl ?_ (show ∀ x ∈ ([("events":zS)]:List PySem.Str),(zg8 22).names.lookup x=some .local by decide +kernel) (by decide +kernel) (zci (pn:=[("events":zS)]) (rest:=[some ("heap":zS),some ("depth":zS),some ("last":zS),some ("profile":zS),some ("place":zS),some ("change":zS)])) (za0 (by decide +kernel)) (by decide) ?_
 ·intro args h
  (refine Ee (zk9 h) λa q0=>?_;subst q0)
  rfl
 ·intro L
  refine zab (zhe (zak (zli (zaa (k:=0) rfl rfl rfl)) (zak (zad) (zak (zad) (zak (zbK (zaA)) (zaA) rfl) rfl) rfl) rfl) (zaO (zav (k:=1) rfl (.inl rfl)) (zaO (zav (k:=2) rfl (.inl rfl)) (zaO (zav (k:=3) rfl (.inl rfl)) (zaO (zav (k:=4) rfl (.inl rfl)) (zbO))))) rfl rfl rfl rfl) ?_
  refine zab (zaW (zaz (zao E.T rfl E.g_heapify rfl) (.inr (E.cal (a:=90) (i:=14) (by decide))) (zak (zaa (k:=1) rfl rfl rfl) (zaA) rfl) (zkS E k) rfl ⟨_,_,rfl⟩) rfl rfl) ?_
  refine zab (zby (za5 zdP (zaa (k:=1) rfl rfl rfl) (zaH (zaA)) rfl) ?_) ?_
  ·
   refine zab (znM rfl (zaz (zao E.T rfl E.g_heappop rfl) (.inr (E.cal (a:=83) (i:=13) (by decide))) (zak (zaa (k:=1) rfl rfl rfl) (zaA) rfl) (zkT E k) rfl ⟨_,_,rfl⟩) (zbe (zaO (zav (k:=5) rfl (.inl rfl)) (zaO (zav (k:=6) rfl (.inl rfl)) (zbO))) rfl rfl) rfl rfl) ?_
   refine zab (zah (zaq za8 (zaa (k:=2) rfl rfl rfl) (zaa (k:=6) rfl rfl rfl)) (k:=2) rfl (.inl rfl) rfl) ?_
   refine zab (zaS (zdl (zcS (za5 zbU (zaa (k:=1) rfl rfl rfl) (zaH (zaA)) rfl) (zcS (za5 zlc (zax (zax (zaa (k:=1) rfl rfl rfl) (zad) (λZ Z=>rfl)) (zad) (λZ Z=>rfl)) (zaa (k:=5) rfl rfl rfl) rfl) (zkl)))) ?_ ?_) ?_
   ·
    refine zab (zaS (za5 zdP (zaa (k:=2) rfl rfl rfl) (zaa (k:=3) rfl rfl rfl) rfl) ?_ ?_) ?_
    ·
     refine zab (zaW (zbc _ zbu zbj (zaa (k:=4) rfl rfl rfl) (zak (zaU (zak (zaa (k:=5) rfl rfl rfl) (zak (zaa (k:=2) rfl rfl rfl) (zaA) rfl) rfl)) (zaA) rfl) rfl rfl ⟨_,_,rfl⟩) rfl rfl) ?_
     exact zai
    ·
     exact zai
    refine zab (zah (zaa (k:=2) rfl rfl rfl) (k:=3) rfl (.inl rfl) rfl) ?_
    exact zai
   ·
    exact zai
   exact zai
  refine zab (zaL (zb9 (zaa (k:=4) rfl rfl rfl))) ?_
  exact zai
end
noncomputable def leD:PyData->PyData->Option PyData:=λx y=>match x with
 | .int a=>dI (λb=>some (.bool (decide (a<=b)))) y
 | .str x=>dS (λy=>some (.bool (!decide (y.cps.toList < x.cps.toList)))) y
 | _=>none
section
variable {prog:Program}{w:World}{B:Bs}{n:Nat}
theorem zpY:zbi prog w B n (compareOp .LtE) (zac leD):=zdf λhp x y z e1 A hA G s ca cb I r1 r2=>by
 cases x with
 | int a=>
  refine zj3 e1 λb q e1=>?_
  cases e1
  refine r1.int_elim λt=>?_
  refine (q▸r2:RV G cb (.d (.int b))).int_elim λu=>?_
  exact le_int (za3 I (.d (.bool _)))
 | str x=>
  refine zpm e1 λy q e1=>?_
  cases e1
  refine r1.str_elim λt=>?_
  refine (q▸r2:RV G cb (.d (.str y))).str_elim λu=>?_
  exact PySem.P.le_str (za3 I (.d (.bool _)))
 | _=>exact zan e1
end
section
variable {prog:Program}{w:World}{tf:Int->Option Value}{B:Bs}{mg mb:PySem.Str->Option Value}{n:Nat}
noncomputable def zfj (k:Nat):St->Option (Fl × St):=
 zau (zcm 3 (zaf (zat (zac (zaP zdd)) (zae 0) (zal (.int 4))) (zaf (zat (zac (zaP zed)) (zae 0) (zal (.int 4))) (zaf (zal (.str (⟨#[34,38,39,40,41,42,43,45,63,91,92,94,97,124,126,1114111]⟩:PySem.Str))) (zaw)))) (λvs=>(zaI (zaC 3) (zaI (zaC 2) (zaI (zaC 1) (zcD)))) vs.reverse)) (zau (zbC (zay (zat (za6 false) (zae 1) (zal (.int 3)))) (zau (doM (zdT (zay (zat (za6 false) (zat (zac (zaP zdd)) (zae 2) (zal (.int 95))) (zal (.int 10)))) (zal (.str ("?":zS))) (zaV (zqt) (zaf (zat (zac zbg) (zal (.int 32)) (zat (zac (zaP zdd)) (zae 2) (zal (.int 95)))) (zaw)))) (zaC 4)) (zau (zdC (zc1 (zaf (zae 4) (zaf (zat (za6 false) (zae 4) (zal (.str ("?":zS)))) (zaf (zdT (zay (zat (za6 true) (zae 4) (zal (.str ("?":zS))))) (zbD (zaf (zc1 (zaf (zaV (zgx) (zaf (zae 4) (zaw))) (zaf (zaV (zgx) (zaf (zae 4) (zaw))) (zaw)))) (zaw))) (zbD (zaw))) (zaw)))))) (zas .next))) (zas .next)) (zau (doM (za4 (zbD (zaf (zal (.str ("":zS))) (zaf (zal (.str ("]":zS))) (zaf (zal (.str ("-":zS))) (zaw))))) (zat (zac (zaP zdd)) (zae 2) (zal (.int 3)))) (zaC 5)) (zau (zcm 2 (zaf (zpA (zbP (zqc (zae 5)) 1 none (zaC 0) (zbq true) (zc1 (zaf (zaV (zgx) (zaf (zae 0) (zaw))) (zaf (zaV (zgx) (zaf (zae 0) (zaw))) (zaw)))))) (zaf (zat (za6 true) (zae 5) (zal (.str ("":zS)))) (zaw))) (λvs=>(zaI (zaC 7) (zaI (zaC 6) (zcD))) vs.reverse)) (zau (zfJ (zdm (zaf (zat (zac zbg) (zat (zac (zaP zdd)) (zat (zac (zaP zed)) (zae 2) (zal (.int 6))) (zal (.int 3))) (zal (.int 1))) (zaw))) (zaC 8) (zau (doM (zat (zac (zaP zdd)) (zat (zac (zaP zed)) (zat (zac (zaP zed)) (zae 2) (zal (.int 18))) (zat (zac (zaP zod)) (zal (.int 512)) (zae 8))) (zal (.int 512))) (zaC 9)) (zau (zcm 2 (zaf (za4 (zae 3) (zat (zac (zaP zdd)) (zat (zac (zaP zed)) (zae 9) (zal (.int 2))) (zal (.int 16)))) (zaf (za4 (zae 3) (zat (zac (zaP zed)) (zae 9) (zal (.int 32)))) (zaw))) (λvs=>(zaI (zaC 11) (zaI (zaC 10) (zcD))) vs.reverse)) (zau (zbC (zcV (zbf (zae 7)) (zcV (zay (zat (za6 false) (zae 10) (zal (.str ("-":zS))))) (zbq true))) (zau (doM (zal (.str ("+":zS))) (zaC 10)) (zas .next)) (zas .next)) (zau (doM (zat (za6 false) (zat (zac (zaP zdd)) (zae 9) (zal (.int 2))) (zal (.int 1))) (zaC 7)) (zau (zbC (zbf (zae 7)) (zau (doM (zae 10) (zaC 11)) (zas .next)) (zas .next)) (zau (doM (zat (zac zbg) (zae 5) (zdT (zbf (zae 7)) (zae 10) (zat (zac zbg) (zat (zac zbg) (zae 10) (zal (.str ("-":zS)))) (zae 11)))) (zaC 5)) (zau (zbC (zay (zat (zac leD) (zae 10) (zae 11))) (zau (zbm (zbz zeF zeh (zae 6) (zaf (zc1 (zaf (zaV (zgx) (zaf (zae 10) (zaw))) (zaf (zaV (zgx) (zaf (zae 11) (zaw))) (zaw)))) (zaw)))) (zas .next)) (zas .next)) (zas .next))))))))) (zau (zbC (zay (zat (za6 false) (zat (zac (zaP zdd)) (zat (zac (zaP zed)) (zae 2) (zal (.int 3))) (zal (.int 2))) (zal (.int 1)))) (zau (doM (zat (zac zbg) (zae 5) (zal (.str ("-":zS)))) (zaC 5)) (zau (zbm (zbz zeF zeh (zae 6) (zaf (zc1 (zaf (zal (.int 45)) (zaf (zal (.int 45)) (zaw)))) (zaw)))) (zas .next))) (zas .next)) (zau (zdC (zc1 (zaf (zat (zac zbg) (zat (zac zbg) (zat (zac zbg) (zal (.str ("[":zS))) (zdT (zay (zat (za6 false) (zae 1) (zal (.int 2)))) (zal (.str ("!":zS))) (zal (.str ("":zS))))) (zae 5)) (zal (.str ("]":zS)))) (zaf (zat (za6 false) (zae 1) (zal (.int 2))) (zaf (zgB (zae 6)) (zaw)))))) (zas .next)))))))
noncomputable def zds (k:Nat):List V->HP->Option (V × HP):=zfK 1 12 (zfj k)
theorem ziq (E:E0 tf B mg mb) (k:Nat):zaM prog w B (n + 1) (.ref 109) (zds k):=by
 obtain ⟨o,pm,ho,hd,hcode⟩:=(E.fn (109,18) (by decide)).ex
 refine zch (n:=n + 0) (pn:=[("number":zS)]) (nm:=[some ("number":zS),some ("kind":zS),some ("more":zS),some ("signs":zS),some ("sign":zS),some ("text":zS),some ("ranges":zS),some ("lone":zS),some ("k":zS),some ("figure":zS),some ("lo":zS),some ("hi":zS)]) E.T ho hd rfl rfl rfl hcode rfl rfl rfl rfl ?_ (show ∀ x ∈ ([("number":zS)]:List PySem.Str),(zg8 18).names.lookup x=some .local by decide +kernel) (by decide +kernel) (zci (pn:=[("number":zS)]) (rest:=[some ("kind":zS),some ("more":zS),some ("signs":zS),some ("sign":zS),some ("text":zS),some ("ranges":zS),some ("lone":zS),some ("k":zS),some ("figure":zS),some ("lo":zS),some ("hi":zS)])) (za0 (by decide +kernel)) (by decide) ?_
 ·intro args h
  obtain ⟨a,rfl⟩:=zk9 h
  rfl
 ·intro L
  refine zab (zbJ (names:=[("kind":zS),("more":zS),("signs":zS)]) (zak (zaq zdU (zaa (k:=0) rfl rfl rfl) (zad)) (zak (zaq zfh (zaa (k:=0) rfl rfl rfl) (zad)) (zak (zar) (zaA) rfl) rfl) rfl) (zaO (zaX (k:=3) rfl (.inl rfl)) (zaO (zaX (k:=2) rfl (.inl rfl)) (zaO (zaX (k:=1) rfl (.inl rfl)) (zbO)))) rfl rfl rfl) ?_
  refine zab (zaS (za5 zbU (zaa (k:=1) rfl rfl rfl) (zad) rfl) ?_ ?_) ?_
  ·
   refine zab (zah (zbp (za5 zbU (zaq zdU (zaa (k:=2) rfl rfl rfl) (zad)) (zad) rfl) (zar) (zaz (zao E.T rfl E.g_chr rfl) (.inl λZ h=>by cases h) (zak (zaq za8 (zad) (zaq zdU (zaa (k:=2) rfl rfl rfl) (zad))) (zaA) rfl) (zmT) rfl ⟨_,_,rfl⟩)) (k:=4) rfl (.inl rfl) rfl) ?_
   refine zab (zaL (zaU (zak (zaa (k:=4) rfl rfl rfl) (zak (zb8 zbU (zaa (k:=4) rfl rfl rfl) (zar) rfl) (zak (zbp (za5 zdP (zaa (k:=4) rfl rfl rfl) (zar) rfl) (zaH (zak (zaU (zak (zaz (zao E.T rfl E.g_ord rfl) (.inl λZ h=>by cases h) (zak (zaa (k:=4) rfl rfl rfl) (zaA) rfl) (zcq) rfl ⟨_,_,rfl⟩) (zak (zaz (zao E.T rfl E.g_ord rfl) (.inl λZ h=>by cases h) (zak (zaa (k:=4) rfl rfl rfl) (zaA) rfl) (zcq) rfl ⟨_,_,rfl⟩) (zaA) rfl) rfl)) (zaA) rfl)) (zaH (zaA))) (zaA) rfl) rfl) rfl))) ?_
   exact zai
  ·
   exact zai
  refine zab (zah (zax (zaH (zak (zar) (zak (zar) (zak (zar) (zaA) rfl) rfl) rfl)) (zaq zdU (zaa (k:=2) rfl rfl rfl) (zad)) (λZ Z=>rfl)) (k:=5) rfl (.inl rfl) rfl) ?_
  refine zab (zbJ (names:=[("ranges":zS),("lone":zS)]) (zak (zgJ (tn:=[("sign":zS)]) (cap:=none) ⟨zbS (by decide),by decide,rfl,by decide,za0 (by decide +kernel),λZ Z h=>nomatch h⟩ (zk1 (zaa (k:=5) rfl rfl rfl)) (λC=>zav (k:=0) rfl (.inl rfl)) (λC=>zck) (λC=>zaU (zak (zaz (zao E.T rfl E.g_ord rfl) (.inl λZ h=>by cases h) (zak (zaa (k:=0) rfl rfl rfl) (zaA) rfl) (zcq) rfl ⟨_,_,rfl⟩) (zak (zaz (zao E.T rfl E.g_ord rfl) (.inl λZ h=>by cases h) (zak (zaa (k:=0) rfl rfl rfl) (zaA) rfl) (zcq) rfl ⟨_,_,rfl⟩) (zaA) rfl) rfl)) (λZ=>rfl)) (zak (zb8 zdP (zaa (k:=5) rfl rfl rfl) (zar) rfl) (zaA) rfl) rfl) (zaO (zaX (k:=7) rfl (.inl rfl)) (zaO (zaX (k:=6) rfl (.inl rfl)) (zbO))) rfl rfl rfl) ?_
  refine zab (zcj (zdx (zao E.T rfl E.g_range rfl) (zak (zaq za8 (zaq zdU (zaq zfh (zaa (k:=2) rfl rfl rfl) (zad)) (zad)) (zad)) (zaA) rfl) rfl ⟨_,_,rfl⟩) (zav (k:=8) rfl (.inl rfl)) ?_ (λZ=>rfl)) ?_
  ·
   refine zab (zah (zaq zdU (zaq zfh (zaq zfh (zaa (k:=2) rfl rfl rfl) (zad)) (zaq zpZ (zad) (zaa (k:=8) rfl rfl rfl))) (zad)) (k:=9) rfl (.inl rfl) rfl) ?_
   refine zab (zbJ (names:=[("lo":zS),("hi":zS)]) (zak (zax (zaa (k:=3) rfl rfl rfl) (zaq zdU (zaq zfh (zaa (k:=9) rfl rfl rfl) (zad)) (zad)) (λZ Z=>rfl)) (zak (zax (zaa (k:=3) rfl rfl rfl) (zaq zfh (zaa (k:=9) rfl rfl rfl) (zad)) (λZ Z=>rfl)) (zaA) rfl) rfl) (zaO (zaX (k:=11) rfl (.inl rfl)) (zaO (zaX (k:=10) rfl (.inl rfl)) (zbO))) rfl rfl rfl) ?_
   refine zab (zaS (zdl (zbs (zfD (zaa (k:=7) rfl rfl rfl) rfl) (zbs (za5 zbU (zaa (k:=10) rfl rfl rfl) (zar) rfl) (zdp)))) ?_ ?_) ?_
   ·
    refine zab (zah (zar) (k:=10) rfl (.inl rfl) rfl) ?_
    exact zai
   ·
    exact zai
   refine zab (zah (zb8 zbU (zaq zdU (zaa (k:=9) rfl rfl rfl) (zad)) (zad) rfl) (k:=7) rfl (.inl rfl) rfl) ?_
   refine zab (zaS (zfD (zaa (k:=7) rfl rfl rfl) rfl) ?_ ?_) ?_
   ·
    refine zab (zah (zaa (k:=10) rfl rfl rfl) (k:=11) rfl (.inl rfl) rfl) ?_
    exact zai
   ·
    exact zai
   refine zab (zah (zaq za8 (zaa (k:=5) rfl rfl rfl) (zbp (zfD (zaa (k:=7) rfl rfl rfl) rfl) (zaa (k:=10) rfl rfl rfl) (zaq za8 (zaq za8 (zaa (k:=10) rfl rfl rfl) (zar)) (zaa (k:=11) rfl rfl rfl)))) (k:=5) rfl (.inl rfl) rfl) ?_
   refine zab (zaS (za5 zpY (zaa (k:=10) rfl rfl rfl) (zaa (k:=11) rfl rfl rfl) rfl) ?_ ?_) ?_
   ·
    refine zab (zaW (zbc _ zbu zbj (zaa (k:=6) rfl rfl rfl) (zak (zaU (zak (zaz (zao E.T rfl E.g_ord rfl) (.inl λZ h=>by cases h) (zak (zaa (k:=10) rfl rfl rfl) (zaA) rfl) (zcq) rfl ⟨_,_,rfl⟩) (zak (zaz (zao E.T rfl E.g_ord rfl) (.inl λZ h=>by cases h) (zak (zaa (k:=11) rfl rfl rfl) (zaA) rfl) (zcq) rfl ⟨_,_,rfl⟩) (zaA) rfl) rfl)) (zaA) rfl) rfl rfl ⟨_,_,rfl⟩) rfl rfl) ?_
    exact zai
   ·
    exact zai
   exact zai
  refine zab (zaS (za5 zbU (zaq zdU (zaq zfh (zaa (k:=2) rfl rfl rfl) (zad)) (zad)) (zad) rfl) ?_ ?_) ?_
  ·
   refine zab (zah (zaq za8 (zaa (k:=5) rfl rfl rfl) (zar)) (k:=5) rfl (.inl rfl) rfl) ?_
   refine zab (zaW (zbc _ zbu zbj (zaa (k:=6) rfl rfl rfl) (zak (zaU (zak (zad) (zak (zad) (zaA) rfl) rfl)) (zaA) rfl) rfl rfl ⟨_,_,rfl⟩) rfl rfl) ?_
   exact zai
  ·
   exact zai
  refine zab (zaL (zaU (zak (zaq za8 (zaq za8 (zaq za8 (zar) (zbp (za5 zbU (zaa (k:=1) rfl rfl rfl) (zad) rfl) (zar) (zar))) (zaa (k:=5) rfl rfl rfl)) (zar)) (zak (zb8 zbU (zaa (k:=1) rfl rfl rfl) (zad) rfl) (zak (zb9 (zaa (k:=6) rfl rfl rfl)) (zaA) rfl) rfl) rfl))) ?_
  exact zai
end
section
variable {prog:Program}{w:World}{tf:Int->Option Value}{B:Bs}{mg mb:PySem.Str->Option Value}{n:Nat}
noncomputable def zfk (k:Nat):St->Option (Fl × St):=
 zau (zcm 2 (zaf (zgj (zaw)) (zaf (zal (.bool false)) (zaw))) (λvs=>(zaI (zaC 3) (zaI (zaC 2) (zcD))) vs.reverse)) (zau (zfJ (zb4 (zaV (zcg k) (zaf (zat (zac zbg) (zfI (zbP (zb4 (zae 1)) 2 none (zeE 2 (zaI (zaC 0) (zaI (zaC 1) (zcD)))) (zbq true) (zc1 (zaf (zae 0) (zaf (zal (.int 1)) (zaw)))))) (zfI (zbP (zb4 (zae 1)) 2 none (zeE 2 (zaI (zaC 0) (zaI (zaC 1) (zcD)))) (zbq true) (zc1 (zaf (zat (zac zbg) (zae 1) (zal (.int 1))) (zaf (zde (zal (.int 1))) (zaw))))))) (zaw)))) (zeE 2 (zaI (zaC 4) (zaI (zaC 5) (zcD)))) (zau (zbC (zay (zat (za6 true) (zat (zac gtD) (zae 5) (zal (.int 0))) (zae 3))) (zau (zbm (zbz zeF zeh (zae 2) (zaf (zae 4) (zaw)))) (zau (doM (zqR (zmK (zbf (zae 3)))) (zaC 3)) (zas .next))) (zas .next)) (zas .next))) (zau (zdC (zdT (zbf (zae 0)) (zat (zac zbg) (zat (zac zbg) (zbD (zaf (zal (.int 0)) (zaw))) (zgB (zae 2))) (zbD (zaf (zal (.int 1114112)) (zaw)))) (zgB (zae 2)))) (zas .next)))
noncomputable def zdt (k:Nat):List V->HP->Option (V × HP):=zfK 2 6 (zfk k)
theorem zir (E:E0 tf B mg mb) (k:Nat):zaM prog w B (n + 5) (.ref 142) (zdt k):=by
 obtain ⟨o,pm,ho,hd,hcode⟩:=(E.fn (142,23) (by decide)).ex
 refine zch (n:=n + 4) (pn:=[("barred":zS),("ranges":zS)]) (nm:=[some ("barred":zS),some ("ranges":zS),some ("edges":zS),some ("inside":zS),some ("place":zS),some ("depth":zS)]) E.T ho hd rfl rfl rfl hcode rfl rfl rfl rfl ?_ (show ∀ x ∈ ([("barred":zS),("ranges":zS)]:List PySem.Str),(zg8 23).names.lookup x=some .local by decide +kernel) (by decide +kernel) (zci (pn:=[("barred":zS),("ranges":zS)]) (rest:=[some ("edges":zS),some ("inside":zS),some ("place":zS),some ("depth":zS)])) (za0 (by decide +kernel)) (by decide) ?_
 ·intro args h
  obtain ⟨a,b,rfl⟩:=zqk h
  rfl
 ·intro L
  refine zab (zbJ (names:=[("edges":zS),("inside":zS)]) (zak (zbK (zaA)) (zak (zcz) (zaA) rfl) rfl) (zaO (zaX (k:=3) rfl (.inl rfl)) (zaO (zaX (k:=2) rfl (.inl rfl)) (zbO))) rfl rfl rfl) ?_
  refine zab (zcj (zbb (zaz (zao E.T rfl E.g__law_swept rfl) (.inr (E.cal (a:=137) (i:=22) (by decide))) (zak (zaq za8 (zcf (tn:=[("lo":zS),("hi":zS)]) (cap:=none) ⟨zbS (by decide),by decide,rfl,by decide,za0 (by decide +kernel),λZ Z h=>nomatch h⟩ (zbb (zaa (k:=1) rfl rfl rfl)) (λC=>zbe (zaO (zav (k:=0) rfl (.inl rfl)) (zaO (zav (k:=1) rfl (.inl rfl)) (zbO))) rfl rfl) (λC=>zck) (λC=>zaU (zak (zaa (k:=0) rfl rfl rfl) (zak (zad) (zaA) rfl) rfl)) (λZ=>rfl)) (zcf (tn:=[("lo":zS),("hi":zS)]) (cap:=none) ⟨zbS (by decide),by decide,rfl,by decide,za0 (by decide +kernel),λZ Z h=>nomatch h⟩ (zbb (zaa (k:=1) rfl rfl rfl)) (λC=>zbe (zaO (zav (k:=0) rfl (.inl rfl)) (zaO (zav (k:=1) rfl (.inl rfl)) (zbO))) rfl rfl) (λC=>zck) (λC=>zaU (zak (zaq za8 (zaa (k:=1) rfl rfl rfl) (zad)) (zak (zbd (zad)) (zaA) rfl) rfl)) (λZ=>rfl))) (zaA) rfl) (zfc E k) rfl ⟨_,_,rfl⟩)) (zbe (zaO (zav (k:=4) rfl (.inl rfl)) (zaO (zav (k:=5) rfl (.inl rfl)) (zbO))) rfl rfl) ?_ (λZ=>rfl)) ?_
  ·
   refine zab (zaS (za5 zdP (zb8 zlc (zaa (k:=5) rfl rfl rfl) (zad) rfl) (zaa (k:=3) rfl rfl rfl) rfl) ?_ ?_) ?_
   ·
    refine zab (zaW (zbc _ zbu zbj (zaa (k:=2) rfl rfl rfl) (zak (zaa (k:=4) rfl rfl rfl) (zaA) rfl) rfl rfl ⟨_,_,rfl⟩) rfl rfl) ?_
    refine zab (zah (zll (zaa (k:=3) rfl rfl rfl)) (k:=3) rfl (.inl rfl) rfl) ?_
    exact zai
   ·
    exact zai
   exact zai
  refine zab (zaL (zbp (zfD (zaa (k:=0) rfl rfl rfl) rfl) (zaq za8 (zaq za8 (zaH (zak (zad) (zaA) rfl)) (zb9 (zaa (k:=2) rfl rfl rfl))) (zaH (zak (zad) (zaA) rfl))) (zb9 (zaa (k:=2) rfl rfl rfl)))) ?_
  exact zai
noncomputable def zdE (k:Nat):St->Option (Fl × St):=
 zau (doM (zbD (zaw)) (zaC 1)) (zau (zfJ (zb4 (zae 0)) (zeE 2 (zaI (zaC 2) (zaI (zaC 3) (zcD)))) (zau (doM (zaV (zdt k) (zaf (zae 2) (zaf (zae 3) (zaw)))) (zaC 4)) (zau (doM (zat (zac zbg) (zae 1) (zfI (zbP (zdm (zaf (zaV (zeG) (zaf (zae 4) (zaw))) (zaw))) 1 (some (("edges":zS),4)) (zaC 0) (zbq true) (zc1 (zaf (za4 (zae 1) (zae 0)) (zaf (zat (zac (zaP zh7)) (zal (.int 1)) (zat (zac (zaP zlt)) (zat (zac (zaP zdd)) (zae 0) (zal (.int 2))) (zal (.int 2)))) (zaw))))))) (zaC 1)) (zas .next)))) (zau (zdC (zae 1)) (zas .next)))
noncomputable def zdu (k:Nat):List V->HP->Option (V × HP):=zfK 1 5 (zdE k)
theorem zis (E:E0 tf B mg mb) (k:Nat):zaM prog w B (n + 6) (.ref 147) (zdu k):=by
 obtain ⟨o,pm,ho,hd,hcode⟩:=(E.fn (147,24) (by decide)).ex
 refine zch (n:=n + 5) (pn:=[("kinds":zS)]) (nm:=[some ("kinds":zS),some ("turns":zS),some ("barred":zS),some ("ranges":zS),some ("edges":zS)]) E.T ho hd rfl rfl rfl hcode rfl rfl rfl rfl ?_ (show ∀ x ∈ ([("kinds":zS)]:List PySem.Str),(zg8 24).names.lookup x=some .local by decide +kernel) (by decide +kernel) (zci (pn:=[("kinds":zS)]) (rest:=[some ("turns":zS),some ("barred":zS),some ("ranges":zS),some ("edges":zS)])) (za0 (by decide +kernel)) (by decide) ?_
 ·intro args h
  obtain ⟨a,rfl⟩:=zk9 h
  rfl
 ·intro L
  refine zab (zah (zaH (zaA)) (k:=1) rfl (.inl rfl) rfl) ?_
  refine zab (zcj (zbb (zaa (k:=0) rfl rfl rfl)) (zbe (zaO (zav (k:=2) rfl (.inl rfl)) (zaO (zav (k:=3) rfl (.inl rfl)) (zbO))) rfl rfl) ?_ (λZ=>rfl)) ?_
  ·
   refine zab (zah (zaz (zao E.T rfl E.g__law_edges rfl) (.inr (E.cal (a:=142) (i:=23) (by decide))) (zak (zaa (k:=2) rfl rfl rfl) (zak (zaa (k:=3) rfl rfl rfl) (zaA) rfl) rfl) (zir E k) rfl ⟨_,_,rfl⟩) (k:=4) rfl (.inr ⟨rfl,ziI (kd:=.cell) rfl⟩) rfl) ?_
   refine zab (zah (zaq za8 (zaa (k:=1) rfl rfl rfl) (zcf (tn:=[("k":zS)]) (cap:=(some (("edges":zS),4))) ⟨zeJ (y:=("edges":zS)) (by decide +kernel) rfl,by decide,rfl,by decide,za0 (by decide +kernel),λZ Z h=>by cases h;exact ⟨rfl,rfl,rfl,rfl⟩⟩ (zdx (zao E.T rfl E.g_range rfl) (zak (zaz (zao E.T rfl E.g_len rfl) (.inl λZ h=>by cases h) (zak (zaa (k:=4) rfl rfl rfl) (zaA) rfl) (zcd) rfl ⟨_,_,rfl⟩) (zaA) rfl) rfl ⟨_,_,rfl⟩) (λC=>zav (k:=0) rfl (.inl rfl)) (λC=>zck) (λC=>zaU (zak (zax (zaa (k:=1) rfl rfl rfl) (zaa (k:=0) rfl rfl rfl) (λZ Z=>rfl)) (zak (zaq zg2 (zad) (zaq zmj (zaq zdU (zaa (k:=0) rfl rfl rfl) (zad)) (zad))) (zaA) rfl) rfl)) (λZ=>rfl))) (k:=1) rfl (.inl rfl) rfl) ?_
   exact zai
  refine zab (zaL (zaa (k:=1) rfl rfl rfl)) ?_
  exact zai
end
section
variable {prog:Program}{w:World}{tf:Int->Option Value}{B:Bs}{mg mb:PySem.Str->Option Value}{n:Nat}
noncomputable def zha (k:Nat):St->Option (Fl × St):=
 zau (zcm 3 (zaf (zbD (zaf (zal (.int 0)) (zaf (zal (.int 1114112)) (zaw)))) (zaf (zgj (zaw)) (zaf (zal (.int 0)) (zaw)))) (λvs=>(zaI (zaC 3) (zaI (zaC 2) (zaI (zaC 1) (zcD)))) vs.reverse)) (zau (zfJ (zb4 (zae 0)) (zeE 2 (zaI (zaC 4) (zaI (zaC 5) (zcD)))) (zau (zfJ (zb4 (zae 5)) (zeE 2 (zaI (zaC 6) (zaI (zaC 7) (zcD)))) (zau (doM (zat (zac zbg) (zae 1) (zbD (zaf (zae 6) (zaf (zat (zac zbg) (zae 7) (zal (.int 1))) (zaw))))) (zaC 1)) (zas .next))) (zas .next))) (zau (zfJ (zb4 (zaV (zgq) (zaf (zae 1) (zaw)))) (zaC 8) (zau (doM (zfI (zbP (zb4 (zae 0)) 2 (some (("place":zS),8)) (zeE 2 (zaI (zaC 0) (zaI (zaC 1) (zcD)))) (zay (zat (za6 true) (zae 0) (zat (za6 true) (zfI (zbP (zb4 (zae 1)) 2 (some (("place":zS),2)) (zeE 2 (zaI (zaC 0) (zaI (zaC 1) (zcD)))) (zgR (zae 0) (zae 2) (zae 1)) (zal (.int 1)))) (zbD (zaw))))) (zal (.int 1)))) (zaC 9)) (zau (doM (zdT (zay (zat (zac ltD) (zae 8) (zal (.int 1114112)))) (zaV (zeG) (zaf (zae 9) (zaw))) (zal (.int 0))) (zaC 10)) (zau (zbC (zay (zat (za6 true) (zae 10) (zae 3))) (zau (zbm (zbz zeF zeh (zae 2) (zaf (zc1 (zaf (zae 8) (zaf (zae 10) (zaw)))) (zaw)))) (zas .next)) (zas .next)) (zau (doM (zae 10) (zaC 3)) (zas .next)))))) (zau (zdC (zgB (zae 2))) (zas .next))))
noncomputable def zeT (k:Nat):List V->HP->Option (V × HP):=zfK 1 11 (zha k)
theorem zkU (E:E0 tf B mg mb) (k:Nat):zaM prog w B (n + 1) (.ref 152) (zeT k):=by
 obtain ⟨o,pm,ho,hd,hcode⟩:=(E.fn (152,25) (by decide)).ex
 refine zch (n:=n + 0) (pn:=[("kinds":zS)]) (nm:=[some ("kinds":zS),some ("cuts":zS),some ("due":zS),some ("last":zS),some ("barred":zS),some ("ranges":zS),some ("lo":zS),some ("hi":zS),some ("place":zS),some ("taking":zS),some ("count":zS)]) E.T ho hd rfl rfl rfl hcode rfl rfl rfl rfl ?_ (show ∀ x ∈ ([("kinds":zS)]:List PySem.Str),(zg8 25).names.lookup x=some .local by decide +kernel) (by decide +kernel) (zci (pn:=[("kinds":zS)]) (rest:=[some ("cuts":zS),some ("due":zS),some ("last":zS),some ("barred":zS),some ("ranges":zS),some ("lo":zS),some ("hi":zS),some ("place":zS),some ("taking":zS),some ("count":zS)])) (za0 (by decide +kernel)) (by decide) ?_
 ·intro args h
  obtain ⟨a,rfl⟩:=zk9 h
  rfl
 ·intro L
  refine zab (zbJ (names:=[("cuts":zS),("due":zS),("last":zS)]) (zak (zaH (zak (zad) (zak (zad) (zaA) rfl) rfl)) (zak (zbK (zaA)) (zak (zad) (zaA) rfl) rfl) rfl) (zaO (zaX (k:=3) rfl (.inl rfl)) (zaO (zaX (k:=2) rfl (.inl rfl)) (zaO (zaX (k:=1) rfl (.inl rfl)) (zbO)))) rfl rfl rfl) ?_
  refine zab (zcj (zbb (zaa (k:=0) rfl rfl rfl)) (zbe (zaO (zav (k:=4) rfl (.inl rfl)) (zaO (zav (k:=5) rfl (.inl rfl)) (zbO))) rfl rfl) ?_ (λZ=>rfl)) ?_
  ·
   refine zab (zcj (zbb (zaa (k:=5) rfl rfl rfl)) (zbe (zaO (zav (k:=6) rfl (.inl rfl)) (zaO (zav (k:=7) rfl (.inl rfl)) (zbO))) rfl rfl) ?_ (λZ=>rfl)) ?_
   ·
    refine zab (zah (zaq za8 (zaa (k:=1) rfl rfl rfl) (zaH (zak (zaa (k:=6) rfl rfl rfl) (zak (zaq za8 (zaa (k:=7) rfl rfl rfl) (zad)) (zaA) rfl) rfl))) (k:=1) rfl (.inl rfl) rfl) ?_
    exact zai
   exact zai
  refine zab (zcj (zbb (zaz (zao E.T rfl E.g_sorted rfl) (.inl λZ h=>by cases h) (zak (zaa (k:=1) rfl rfl rfl) (zaA) rfl) (zjd) rfl ⟨_,_,rfl⟩)) (zav (k:=8) rfl (.inr ⟨rfl,ziI (kd:=.cell) rfl⟩)) ?_ (λZ=>rfl)) ?_
  ·
   refine zab (zbw (tn:=[("barred":zS),("ranges":zS)]) (cap:=(some (("place":zS),8))) ⟨zeJ (y:=("place":zS)) (by decide +kernel) rfl,by decide,rfl,by decide,za0 (by decide +kernel),λZ Z h=>by cases h;exact ⟨rfl,rfl,rfl,rfl⟩⟩ (zbb (zaa (k:=0) rfl rfl rfl)) (λC=>zbe (zaO (zav (k:=0) rfl (.inl rfl)) (zaO (zav (k:=1) rfl (.inl rfl)) (zbO))) rfl rfl) (λC=>zi3 (za5 zdP (zaa (k:=0) rfl rfl rfl) (zb8 zdP (zcf (tn:=[("lo":zS),("hi":zS)]) (cap:=(some (("place":zS),2))) ⟨zeJ (y:=("place":zS)) (by decide +kernel) rfl,by decide,rfl,by decide,za0 (by decide +kernel),λZ Z h=>by cases h;exact ⟨rfl,rfl,rfl,rfl⟩⟩ (zbb (zaa (k:=1) rfl rfl rfl)) (λC=>zbe (zaO (zav (k:=0) rfl (.inl rfl)) (zaO (zav (k:=1) rfl (.inl rfl)) (zbO))) rfl rfl) (λC=>zi3 (zlr (zaa (k:=0) rfl rfl rfl) (zaa (k:=2) rfl rfl rfl) (zaa (k:=1) rfl rfl rfl) rfl)) (λC=>zad) (λZ=>rfl)) (zaH (zaA)) rfl) rfl)) (λC=>zad) (λZ=>rfl) (k:=9) rfl (.inl rfl) rfl) ?_
   refine zab (zah (zbp (za5 zfB (zaa (k:=8) rfl rfl rfl) (zad) rfl) (zaz (zao E.T rfl E.g_len rfl) (.inl λZ h=>by cases h) (zak (zaa (k:=9) rfl rfl rfl) (zaA) rfl) (zcd) rfl ⟨_,_,rfl⟩) (zad)) (k:=10) rfl (.inl rfl) rfl) ?_
   refine zab (zaS (za5 zdP (zaa (k:=10) rfl rfl rfl) (zaa (k:=3) rfl rfl rfl) rfl) ?_ ?_) ?_
   ·
    refine zab (zaW (zbc _ zbu zbj (zaa (k:=2) rfl rfl rfl) (zak (zaU (zak (zaa (k:=8) rfl rfl rfl) (zak (zaa (k:=10) rfl rfl rfl) (zaA) rfl) rfl)) (zaA) rfl) rfl rfl ⟨_,_,rfl⟩) rfl rfl) ?_
    exact zai
   ·
    exact zai
   refine zab (zah (zaa (k:=10) rfl rfl rfl) (k:=3) rfl (.inl rfl) rfl) ?_
   exact zai
  refine zab (zaL (zb9 (zaa (k:=2) rfl rfl rfl))) ?_
  exact zai
end
section
variable {prog:Program}{w:World}{tf:Int->Option Value}{B:Bs}{mg mb:PySem.Str->Option Value}{n:Nat}
noncomputable def zbX (k:Nat):St->Option (Fl × St):=
 zau (doM (zgj (zaw)) (zaC 2)) (zau (doM (bmM (zae 2)) (zaC 3)) (zau (zcm 2 (zaf (zal (.int 0)) (zaf (zaV (zeG) (zaf (zae 0) (zaw))) (zaw))) (λvs=>(zaI (zaC 5) (zaI (zaC 4) (zcD))) vs.reverse)) (zau (zba (zcV (zay (zat (zac ltD) (zae 4) (zae 5))) (zcV (zay (zat (zl3) (za4 (zae 0) (zae 4)) (zae 1))) (zbq true))) (zau (zbm (zco (zae 3) (zaf (za4 (zae 0) (zae 4)) (zaw)))) (zau (zqr 4 (zal (.int 1))) (zas .next))) k) (zau (zba (zay (zat (zac ltD) (zae 4) (zae 5))) (zgv) k) (zau (zbC (zay (zat (za6 false) (zae 4) (zae 5))) (zas .next) zgv) (zau (doM (zbz isS zjt (zal (.str ("":zS))) (zaf (zae 2) (zaw))) (zaC 2)) (zau (zdC (ziy [zal (.str ("(?s:":zS)),zoB (zae 2),zal (.str (")\\Z":zS))])) (zas .next))))))))
noncomputable def zbt (k:Nat):List V->HP->Option (V × HP):=zfK 2 7 (zbX k)
theorem zcW (E:E0 tf B mg mb) (k:Nat):zaM prog w B (n + 1) (.ref 69) (zbt k):=by
 obtain ⟨o,pm,ho,hd,hcode⟩:=(E.fn (69,9) (by decide)).ex
 refine zch (n:=n + 0) (pn:=[("inp":zS),("STAR":zS)]) (nm:=[some ("inp":zS),some ("STAR":zS),some ("res":zS),some ("add":zS),some ("i":zS),some ("n":zS),some ("fixed":zS)]) E.T ho hd rfl rfl rfl hcode rfl rfl rfl rfl ?_ (show ∀ x ∈ ([("inp":zS),("STAR":zS)]:List PySem.Str),(zg8 9).names.lookup x=some .local by decide +kernel) (by decide +kernel) (zci (pn:=[("inp":zS),("STAR":zS)]) (rest:=[some ("res":zS),some ("add":zS),some ("i":zS),some ("n":zS),some ("fixed":zS)])) (za0 (by decide +kernel)) (by decide) ?_
 ·intro args h
  obtain ⟨a,b,rfl⟩:=zqk h
  rfl
 ·intro L
  refine zab (zah (zbK (zaA)) (k:=2) rfl (.inl rfl) rfl) ?_
  refine zab (zah (zkx (zaa (k:=2) rfl rfl rfl)) (k:=3) rfl (.inl rfl) rfl) ?_
  refine zab (zbJ (names:=[("i":zS),("n":zS)]) (zak (zad) (zak (zaz (zao E.T rfl E.g_len rfl) (.inl λZ h=>by cases h) (zak (zaa (k:=0) rfl rfl rfl) (zaA) rfl) (zcd) rfl ⟨_,_,rfl⟩) (zaA) rfl) rfl) (zaO (zaX (k:=5) rfl (.inl rfl)) (zaO (zaX (k:=4) rfl (.inl rfl)) (zbO))) rfl rfl rfl) ?_
  refine zab (zby (zdl (zbs (za5 zfB (zaa (k:=4) rfl rfl rfl) (zaa (k:=5) rfl rfl rfl) rfl) (zbs (za5 znC (zax (zaa (k:=0) rfl rfl rfl) (zaa (k:=4) rfl rfl rfl) (λZ Z=>rfl)) (zaa (k:=1) rfl rfl rfl) rfl) (zdp)))) ?_) ?_
  ·
   refine zab (zaW (zbI (zaa (k:=3) rfl rfl rfl) (zak (zax (zaa (k:=0) rfl rfl rfl) (zaa (k:=4) rfl rfl rfl) (λZ Z=>rfl)) (zaA) rfl) rfl ⟨_,_,rfl⟩) rfl rfl) ?_
   refine zab (zmt (zad) (k:=4) rfl (.inl rfl) rfl) ?_
   exact zai
  refine zab (zby (za5 zfB (zaa (k:=4) rfl rfl rfl) (zaa (k:=5) rfl rfl rfl) rfl) zea) ?_
  refine zab (zfm (za5 zbU (zaa (k:=4) rfl rfl rfl) (zaa (k:=5) rfl rfl rfl) rfl)) ?_
  refine zab (zah (zbc _ zkb zig (zar) (zak (zaa (k:=2) rfl rfl rfl) (zaA) rfl) rfl rfl ⟨_,_,rfl⟩) (k:=2) rfl (.inl rfl) rfl) ?_
  refine zab (zaL (zhf (.cons (zar) (.cons (ziY (zaa (k:=2) rfl rfl rfl)) (.cons (zar) (.nil)))))) ?_
  exact zai
end
section
variable {prog:Program}{w:World}{tf:Int->Option Value}{B:Bs}{mg mb:PySem.Str->Option Value}{n:Nat}
noncomputable def zd6:List (Pos × PySem.Str):=[(⟨63,39,63,76⟩,"_translate.<locals>.<lambda>"),(⟨62,37,62,98⟩,"_translate.<locals>.<genexpr>")]
theorem zju:∀ p ∈ zd6,p.1.line=63->p.1.col=39->p.2=("_translate.<locals>.":zS)++"<lambda>":=by decide +kernel
theorem zk8:∀ p ∈ zd6,p.1.line=62->p.1.col=37->p.2=("_translate.<locals>.":zS)++"<genexpr>":=by decide +kernel
end
section
variable {prog:Program}{w:World}{tf:Int->Option Value}{B:Bs}{mg mb:PySem.Str->Option Value}{n:Nat}
noncomputable def ziV (tf:Int->Option Value) (k:Nat):St->Option (Fl × St):=
 zau (zbC (zbf (zaV (zl4) (zaf (zae 0) (zaf (zmo (.type "str")) (zaw))))) (zau (zdC (zbz isS (trS 45 tf) (zae 0) (zaf (zmo (.ref 45)) (zaw)))) (zas .next)) (zgv)) (zas .next)
noncomputable def zf7 (tf:Int->Option Value) (k:Nat):List V->HP->Option (V × HP):=zfK 1 1 (ziV tf k)
theorem zlT (E:E0 tf B mg mb) (k:Nat):zaM prog w B (n + 1) (.ref 55) (zf7 tf k):=by
 obtain ⟨o,pm,ho,hd,hcode⟩:=(E.fn (55,6) (by decide)).ex
 refine zch (n:=n + 0) (pn:=[("pattern":zS)]) (nm:=[some ("pattern":zS)]) E.T ho hd rfl rfl rfl hcode rfl rfl rfl rfl ?_ (show ∀ x ∈ ([("pattern":zS)]:List PySem.Str),(zg8 6).names.lookup x=some .local by decide +kernel) (by decide +kernel) (zci (pn:=[("pattern":zS)]) (rest:=[])) (za0 (by decide +kernel)) (by decide) ?_
 ·intro args h
  obtain ⟨a,rfl⟩:=zk9 h
  rfl
 ·intro L
  refine zab (zaS (zfD (zaz (zao E.T rfl E.g_isinstance rfl) (.inl λZ h=>by cases h) (zak (zaa (k:=0) rfl rfl rfl) (zak (zao E.T rfl E.g_str rfl) (zaA) rfl) rfl) (zkJ) rfl ⟨_,_,rfl⟩) rfl) ?_ zea) ?_
  ·
   refine zab (zaL (zbc _ zhI (zkK rfl (E.map _ _)) (zaa (k:=0) rfl rfl rfl) (zak (zao E.T rfl E.g__special_chars_map rfl) (zaA) rfl) rfl rfl ⟨_,_,rfl⟩)) ?_
   exact zai
  exact zai
end
section
variable {prog:Program}{w:World}{tf:Int->Option Value}{B:Bs}{mg mb:PySem.Str->Option Value}{n:Nat}
noncomputable def zdF (tf:Int->Option Value) (k:Nat):St->Option (Fl × St):=
 zau (doM (zgj (zaw)) (zaC 3)) (zau (doM (bmM (zae 3)) (zaC 4)) (zau (zcm 2 (zaf (zal (.int 0)) (zaf (zaV (zeG) (zaf (zae 0) (zaw))) (zaw))) (λvs=>(zaI (zaC 6) (zaI (zaC 5) (zcD))) vs.reverse)) (zau (zba (zay (zat (zac ltD) (zae 5) (zae 6))) (zau (doM (za4 (zae 0) (zae 5)) (zaC 7)) (zau (doM (zat (zac zbg) (zae 5) (zal (.int 1))) (zaC 5)) (zau (zbC (zay (zat (za6 false) (zae 7) (zal (.str ("*":zS))))) (zgv) (zau (zbC (zay (zat (za6 false) (zae 7) (zal (.str ("?":zS))))) (zau (zbm (zco (zae 4) (zaf (zae 2) (zaw)))) (zas .next)) (zau (zbC (zay (zat (za6 false) (zae 7) (zal (.str ("[":zS))))) (zau (doM (zae 5) (zaC 8)) (zau (zbC (zcV (zay (zat (zac ltD) (zae 8) (zae 6))) (zcV (zay (zat (za6 false) (za4 (zae 0) (zae 8)) (zal (.str ("!":zS))))) (zbq true))) (zau (doM (zat (zac zbg) (zae 8) (zal (.int 1))) (zaC 8)) (zas .next)) (zas .next)) (zau (zbC (zcV (zay (zat (zac ltD) (zae 8) (zae 6))) (zcV (zay (zat (za6 false) (za4 (zae 0) (zae 8)) (zal (.str ("]":zS))))) (zbq true))) (zau (doM (zat (zac zbg) (zae 8) (zal (.int 1))) (zaC 8)) (zas .next)) (zas .next)) (zau (zba (zcV (zay (zat (zac ltD) (zae 8) (zae 6))) (zcV (zay (zat (za6 true) (za4 (zae 0) (zae 8)) (zal (.str ("]":zS))))) (zbq true))) (zau (doM (zat (zac zbg) (zae 8) (zal (.int 1))) (zaC 8)) (zas .next)) k) (zau (zbC (zay (zat (zac (zqu λa b=>decide (b<=a))) (zae 8) (zae 6))) (zau (zbm (zco (zae 4) (zaf (zal (.str ("\\[":zS))) (zaw)))) (zas .next)) (zau (doM (zaR (zae 0) (zae 5) (zae 8)) (zaC 9)) (zau (zbC (zay (zat (zac (inD true)) (zal (.str ("-":zS))) (zae 9))) (zau (doM (zo2 (zae 9) ("\\":PySem.Str) ("\\\\":PySem.Str)) (zaC 9)) (zas .next)) (zau (doM (zgj (zaw)) (zaC 10)) (zau (doM (zdT (zay (zat (za6 false) (za4 (zae 0) (zae 5)) (zal (.str ("!":zS))))) (zat (zac zbg) (zae 5) (zal (.int 2))) (zat (zac zbg) (zae 5) (zal (.int 1)))) (zaC 11)) (zau (zba (zbf (zal (.bool true))) (zau (doM (zbz isS zji (zae 0) (zaf (zal (.str ("-":zS))) (zaf (zae 11) (zaf (zae 8) (zaw))))) (zaC 11)) (zau (zbC (zay (zat (zac ltD) (zae 11) (zal (.int 0)))) (zau (zas .brk) (zas .next)) (zas .next)) (zau (zbm (zbz zeF zeh (zae 10) (zaf (zaR (zae 0) (zae 5) (zae 11)) (zaw)))) (zau (doM (zat (zac zbg) (zae 11) (zal (.int 1))) (zaC 5)) (zau (doM (zat (zac zbg) (zae 11) (zal (.int 3))) (zaC 11)) (zas .next)))))) k) (zau (doM (zaR (zae 0) (zae 5) (zae 8)) (zaC 12)) (zau (zbC (zbf (zae 12)) (zau (zbm (zbz zeF zeh (zae 10) (zaf (zae 12) (zaw)))) (zas .next)) (zau (zht (zae 10) ("-":zS)) (zas .next))) (zau (zfJ (zdm (zaf (zat (zac (zaP zh7)) (zaV (zeG) (zaf (zae 10) (zaw))) (zal (.int 1))) (zaf (zal (.int 0)) (zaf (zde (zal (.int 1))) (zaw))))) (zaC 11) (zau (zbC (zay (zat (zac gtD) (za4 (za4 (zae 10) (zat (zac (zaP zh7)) (zae 11) (zal (.int 1)))) (zde (zal (.int 1)))) (za4 (za4 (zae 10) (zae 11)) (zal (.int 0))))) (zau (doM (zat (zac zbg) (zaR (za4 (zae 10) (zat (zac (zaP zh7)) (zae 11) (zal (.int 1)))) (zal .none) (zde (zal (.int 1)))) (zaR (za4 (zae 10) (zae 11)) (zal (.int 1)) (zal .none))) (zjR (zae 10) (zat (zac (zaP zh7)) (zae 11) (zal (.int 1))))) (zau (zpD (zae 10) (zae 11)) (zas .next))) (zas .next)) (zas .next))) (zau (doM (zhN ("-":zS) (λy=>Txt.replace (Txt.replace y ("\\":PySem.Str) ("\\\\":PySem.Str)) ("-":zS) ("\\-":zS)) (zg7 ("\\":PySem.Str) ("\\\\":PySem.Str) ("-":zS) ("\\-":zS)) (zgB (zae 10))) (zaC 9)) (zas .next))))))))) (zau (doM (zh6 (zae 9)) (zaC 9)) (zau (doM (zat (zac zbg) (zae 8) (zal (.int 1))) (zaC 5)) (zau (zbC (zmK (zbf (zae 9))) (zau (zbm (zco (zae 4) (zaf (zal (.str ("(?!)":zS))) (zaw)))) (zas .next)) (zau (zbC (zay (zat (za6 false) (zae 9) (zal (.str ("!":zS))))) (zau (zbm (zco (zae 4) (zaf (zal (.str (".":zS))) (zaw)))) (zas .next)) (zau (zbC (zay (zat (za6 false) (za4 (zae 9) (zal (.int 0))) (zal (.str ("!":zS))))) (zau (doM (zat (zac zbg) (zal (.str ("^":zS))) (zaR (zae 9) (zal (.int 1)) (zal .none))) (zaC 9)) (zas .next)) (zau (zbC (zay (zat (zac (inD false)) (za4 (zae 9) (zal (.int 0))) (zc1 (zaf (zal (.str ("^":zS))) (zaf (zal (.str ("[":zS))) (zaw)))))) (zau (doM (zat (zac zbg) (zal (.str ("\\":PySem.Str))) (zae 9)) (zaC 9)) (zas .next)) (zas .next)) (zas .next))) (zau (zbm (zco (zae 4) (zaf (ziy [zal (.str ("[":zS)),zoB (zae 9),zal (.str ("]":zS))]) (zaw)))) (zas .next)))) (zas .next))) (zas .next))))))) (zas .next)))))) (zau (zbm (zco (zae 4) (zaf (zaV (zf7 tf k) (zaf (zae 7) (zaw))) (zaw)))) (zas .next))) (zas .next))) (zas .next))) (zas .next)))) k) (zau (zbC (zay (zat (za6 false) (zae 5) (zae 6))) (zas .next) zgv) (zau (zdC (zgB (zae 3))) (zas .next))))))
noncomputable def zbW (tf:Int->Option Value) (k:Nat):List V->HP->Option (V × HP):=zfK 3 13 (zdF tf k)
theorem ziu (E:E0 tf B mg mb) (TE:zfa B mg zd6 61) (hP:PatAt B.h 36) (k:Nat):zaM prog w B (n + 4) (.ref 62) (zbW tf k):=by
 refine zcG ((E.fn (62,8) (by decide)).ex) λo pm ho hd hcode=>?_
 refine zch (n:=n + 3) (pn:=[("pat":zS),("STAR":zS),("QUESTION_MARK":zS)]) (nm:=[some ("pat":zS),some ("STAR":zS),some ("QUESTION_MARK":zS),some ("res":zS),some ("add":zS),some ("i":zS),some ("n":zS),some ("c":zS),some ("j":zS),some ("stuff":zS),some ("chunks":zS),some ("k":zS),some ("chunk":zS)]) E.T ho hd rfl rfl rfl hcode rfl rfl rfl rfl ?_ (show ∀ x ∈ ([("pat":zS),("STAR":zS),("QUESTION_MARK":zS)]:List PySem.Str),(zg8 8).names.lookup x=some .local by decide +kernel) (by decide +kernel) (zci (pn:=[("pat":zS),("STAR":zS),("QUESTION_MARK":zS)]) (rest:=[some ("res":zS),some ("add":zS),some ("i":zS),some ("n":zS),some ("c":zS),some ("j":zS),some ("stuff":zS),some ("chunks":zS),some ("k":zS),some ("chunk":zS)])) (za0 (by decide +kernel)) (by decide) ?_
 ·intro args h
  (refine zpq (zq2 h) λa b c q0=>?_;subst q0)
  rfl
 ·intro L
  refine zab (zah (zbK (zaA)) (k:=3) rfl (.inl rfl) rfl) ?_
  refine zab (zah (zkx (zaa (k:=3) rfl rfl rfl)) (k:=4) rfl (.inl rfl) rfl) ?_
  refine zab (zbJ (names:=[("i":zS),("n":zS)]) (zak (zad) (zak (zaz (zao E.T rfl E.g_len rfl) (.inl λZ h=>by contradiction) (zak (zaa (k:=0) rfl rfl rfl) (zaA) rfl) (zcd) rfl ⟨_,_,rfl⟩) (zaA) rfl) rfl) (zaO (zaX (k:=6) rfl (.inl rfl)) (zaO (zaX (k:=5) rfl (.inl rfl)) (zbO))) rfl rfl rfl) ?_
  refine zab (zby (za5 zfB (zaa (k:=5) rfl rfl rfl) (zaa (k:=6) rfl rfl rfl) rfl) ?_) ?_
  ·
   refine zab (zah (zax (zaa (k:=0) rfl rfl rfl) (zaa (k:=5) rfl rfl rfl) (λZ Z=>rfl)) (k:=7) rfl (.inl rfl) rfl) ?_
   refine zab (zah (zaq za8 (zaa (k:=5) rfl rfl rfl) (zad)) (k:=5) rfl (.inl rfl) rfl) ?_
   refine zab (zaS (za5 zbU (zaa (k:=7) rfl rfl rfl) (zar) rfl) zea ?_) ?_
   ·
    refine zab (zaS (za5 zbU (zaa (k:=7) rfl rfl rfl) (zar) rfl) ?_ ?_) ?_
    ·
     refine zab (zaW (zbI (zaa (k:=4) rfl rfl rfl) (zak (zaa (k:=2) rfl rfl rfl) (zaA) rfl) rfl ⟨_,_,rfl⟩) rfl rfl) ?_
     exact zai
    ·
     refine zab (zaS (za5 zbU (zaa (k:=7) rfl rfl rfl) (zar) rfl) ?_ ?_) ?_
     ·
      refine zab (zah (zaa (k:=5) rfl rfl rfl) (k:=8) rfl (.inl rfl) rfl) ?_
      refine zab (zaS (zdl (zbs (za5 zfB (zaa (k:=8) rfl rfl rfl) (zaa (k:=6) rfl rfl rfl) rfl) (zbs (za5 zbU (zax (zaa (k:=0) rfl rfl rfl) (zaa (k:=8) rfl rfl rfl) (λZ Z=>rfl)) (zar) rfl) (zdp)))) ?_ ?_) ?_
      ·
       refine zab (zah (zaq za8 (zaa (k:=8) rfl rfl rfl) (zad)) (k:=8) rfl (.inl rfl) rfl) ?_
       exact zai
      ·
       exact zai
      refine zab (zaS (zdl (zbs (za5 zfB (zaa (k:=8) rfl rfl rfl) (zaa (k:=6) rfl rfl rfl) rfl) (zbs (za5 zbU (zax (zaa (k:=0) rfl rfl rfl) (zaa (k:=8) rfl rfl rfl) (λZ Z=>rfl)) (zar) rfl) (zdp)))) ?_ ?_) ?_
      ·
       refine zab (zah (zaq za8 (zaa (k:=8) rfl rfl rfl) (zad)) (k:=8) rfl (.inl rfl) rfl) ?_
       exact zai
      ·
       exact zai
      refine zab (zby (zdl (zbs (za5 zfB (zaa (k:=8) rfl rfl rfl) (zaa (k:=6) rfl rfl rfl) rfl) (zbs (za5 zdP (zax (zaa (k:=0) rfl rfl rfl) (zaa (k:=8) rfl rfl rfl) (λZ Z=>rfl)) (zar) rfl) (zdp)))) ?_) ?_
      ·
       refine zab (zah (zaq za8 (zaa (k:=8) rfl rfl rfl) (zad)) (k:=8) rfl (.inl rfl) rfl) ?_
       exact zai
      refine zab (zaS (za5 zqG (zaa (k:=8) rfl rfl rfl) (zaa (k:=6) rfl rfl rfl) rfl) ?_ ?_) ?_
      ·
       refine zab (zaW (zbI (zaa (k:=4) rfl rfl rfl) (zak (zar) (zaA) rfl) rfl ⟨_,_,rfl⟩) rfl rfl) ?_
       exact zai
      ·
       refine zab (zah (zaT (zaa (k:=0) rfl rfl rfl) (zaQ (zaa (k:=5) rfl rfl rfl)) (zaQ (zaa (k:=8) rfl rfl rfl))) (k:=9) rfl (.inl rfl) rfl) ?_
       refine zab (zmv (zp4 znD (zaa (k:=9) rfl rfl rfl) rfl) ?_ (SSound.one ?_)) ?_
       ·exact zjN (zh2 (zh4 _ (TSound.one (zaa (k:=9) rfl rfl rfl)) (by decide) rfl) (k:=9) rfl (.inl rfl) rfl) (SSound.one zai)
       ·
        refine zab (zah (zbK (zaA)) (k:=10) rfl (.inl rfl) rfl) ?_
        refine zab (zah (zbp (za5 zbU (zax (zaa (k:=0) rfl rfl rfl) (zaa (k:=5) rfl rfl rfl) (λZ Z=>rfl)) (zar) rfl) (zaq za8 (zaa (k:=5) rfl rfl rfl) (zad)) (zaq za8 (zaa (k:=5) rfl rfl rfl) (zad))) (k:=11) rfl (.inl rfl) rfl) ?_
        refine zab (zby (zfD (zcz) rfl) ?_) ?_
        ·
         refine zab (zah (zbc _ znc zlB (zaa (k:=0) rfl rfl rfl) (zak (zar) (zak (zaa (k:=11) rfl rfl rfl) (zak (zaa (k:=8) rfl rfl rfl) (zaA) rfl) rfl) rfl) rfl rfl ⟨_,_,rfl⟩) (k:=11) rfl (.inl rfl) rfl) ?_
         refine zab (zaS (za5 zfB (zaa (k:=11) rfl rfl rfl) (zad) rfl) ?_ ?_) ?_
         ·
          refine zab (zgr) ?_
          exact zai
         ·
          exact zai
         refine zab (zaW (zbc _ zbu zbj (zaa (k:=10) rfl rfl rfl) (zak (zaT (zaa (k:=0) rfl rfl rfl) (zaQ (zaa (k:=5) rfl rfl rfl)) (zaQ (zaa (k:=11) rfl rfl rfl))) (zaA) rfl) rfl rfl ⟨_,_,rfl⟩) rfl rfl) ?_
         refine zab (zah (zaq za8 (zaa (k:=11) rfl rfl rfl) (zad)) (k:=5) rfl (.inl rfl) rfl) ?_
         refine zab (zah (zaq za8 (zaa (k:=11) rfl rfl rfl) (zad)) (k:=11) rfl (.inl rfl) rfl) ?_
         exact zai
        refine zab (zah (zaT (zaa (k:=0) rfl rfl rfl) (zaQ (zaa (k:=5) rfl rfl rfl)) (zaQ (zaa (k:=8) rfl rfl rfl))) (k:=12) rfl (.inl rfl) rfl) ?_
        refine zab (zaS (zfD (zaa (k:=12) rfl rfl rfl) rfl) ?_ ?_) ?_
        ·
         refine zab (zaW (zbc _ zbu zbj (zaa (k:=10) rfl rfl rfl) (zak (zaa (k:=12) rfl rfl rfl) (zaA) rfl) rfl rfl ⟨_,_,rfl⟩) rfl rfl) ?_
         exact zai
        ·
         refine zab (zh3 (zaa (k:=10) rfl rfl rfl) ⟨_,zbd (zad),λZ=>rfl⟩ (λZ Z Z=>rfl)) ?_
         exact zai
        refine zab (zcj (zdx (zao E.T rfl E.g_range rfl) (zak (zaq zg2 (zaz (zao E.T rfl E.g_len rfl) (.inl λZ h=>by contradiction) (zak (zaa (k:=10) rfl rfl rfl) (zaA) rfl) (zcd) rfl ⟨_,_,rfl⟩) (zad)) (zak (zad) (zak (zbd (zad)) (zaA) rfl) rfl) rfl) rfl ⟨_,_,rfl⟩) (zav (k:=11) rfl (.inl rfl)) ?_ (λZ=>rfl)) ?_
        ·
         refine zab (zaS (za5 zlc (zax (zax (zaa (k:=10) rfl rfl rfl) (zaq zg2 (zaa (k:=11) rfl rfl rfl) (zad)) (λZ Z=>rfl)) (zbd (zad)) (λZ Z=>rfl)) (zax (zax (zaa (k:=10) rfl rfl rfl) (zaa (k:=11) rfl rfl rfl) (λZ Z=>rfl)) (zad) (λZ Z=>rfl)) rfl) ?_ ?_) ?_
         ·
          refine zab (zbZ (zaq za8 (zaT (zax (zaa (k:=10) rfl rfl rfl) (zaq zg2 (zaa (k:=11) rfl rfl rfl) (zad)) (λZ Z=>rfl)) (zbQ) (zaQ (zbd (zad)))) (zaT (zax (zaa (k:=10) rfl rfl rfl) (zaa (k:=11) rfl rfl rfl) (λZ Z=>rfl)) (zaQ (zad)) (zbQ))) (zcA (zaa (k:=10) rfl rfl rfl) (zaq zg2 (zaa (k:=11) rfl rfl rfl) (zad))) rfl) ?_
          refine zab (zmu (zaa (k:=10) rfl rfl rfl) (zaa (k:=11) rfl rfl rfl)) ?_
          exact zai
         ·
          exact zai
         exact zai
        refine zab (zah (ziZ _ TE (zb9 (zaa (k:=10) rfl rfl rfl)) rfl zk8 rfl rfl (by decide) rfl rfl rfl (λZ=>rfl) (λcenv hsc A1 E1 y t s₂ m₂ Z hok hns hm htk=>zm4 (λZ=>_) (λZ=>_) hsc rfl rfl rfl (by decide) (by decide) (λZ=>rfl) (λZ=>rfl) A1 E1 y t s₂ m₂ hok hns hm htk) rfl rfl) (k:=9) rfl (.inl rfl) rfl) ?_
        exact zai
       refine zab (zah (zjP _ (λZ=>_) TE hP (zao E.T rfl E.g__twin_re_1 rfl) (zaa (k:=9) rfl rfl rfl) rfl rfl rfl (.head _) zju (λZ Z Z Z=>rfl) rfl (by decide) rfl rfl rfl (λZ=>rfl) rfl rfl) (k:=9) rfl (.inl rfl) rfl) ?_
       refine zab (zah (zaq za8 (zaa (k:=8) rfl rfl rfl) (zad)) (k:=5) rfl (.inl rfl) rfl) ?_
       refine zab (zaS (zp5 (zfD (zaa (k:=9) rfl rfl rfl) rfl)) ?_ ?_) ?_
       ·
        refine zab (zaW (zbI (zaa (k:=4) rfl rfl rfl) (zak (zar) (zaA) rfl) rfl ⟨_,_,rfl⟩) rfl rfl) ?_
        exact zai
       ·
        refine zab (zaS (za5 zbU (zaa (k:=9) rfl rfl rfl) (zar) rfl) ?_ ?_) ?_
        ·
         refine zab (zaW (zbI (zaa (k:=4) rfl rfl rfl) (zak (zar) (zaA) rfl) rfl ⟨_,_,rfl⟩) rfl rfl) ?_
         exact zai
        ·
         refine zab (zaS (za5 zbU (zax (zaa (k:=9) rfl rfl rfl) (zad) (λZ Z=>rfl)) (zar) rfl) ?_ ?_) ?_
         ·
          refine zab (zah (zaq za8 (zar) (zaT (zaa (k:=9) rfl rfl rfl) (zaQ (zad)) (zbQ))) (k:=9) rfl (.inl rfl) rfl) ?_
          exact zai
         ·
          refine zab (zaS (za5 zmi (zax (zaa (k:=9) rfl rfl rfl) (zad) (λZ Z=>rfl)) (zaU (zak (zar) (zak (zar) (zaA) rfl) rfl)) rfl) ?_ ?_) ?_
          ·
           refine zab (zah (zaq za8 (zar) (zaa (k:=9) rfl rfl rfl)) (k:=9) rfl (.inl rfl) rfl) ?_
           exact zai
          ·
           exact zai
          exact zai
         refine zab (zaW (zbI (zaa (k:=4) rfl rfl rfl) (zak (zhf (.cons (zar) (.cons (ziY (zaa (k:=9) rfl rfl rfl)) (.cons (zar) (.nil))))) (zaA) rfl) rfl ⟨_,_,rfl⟩) rfl rfl) ?_
         exact zai
        exact zai
       exact zai
      exact zai
     ·
      refine zab (zaW (zbI (zaa (k:=4) rfl rfl rfl) (zak (zaz (zao E.T rfl E.g_escape rfl) (.inr (E.cal (a:=55) (i:=6) (by decide))) (zak (zaa (k:=7) rfl rfl rfl) (zaA) rfl) (zlT E k) rfl ⟨_,_,rfl⟩) (zaA) rfl) rfl ⟨_,_,rfl⟩) rfl rfl) ?_
      exact zai
     exact zai
    exact zai
   exact zai
  refine zab (zfm (za5 zbU (zaa (k:=5) rfl rfl rfl) (zaa (k:=6) rfl rfl rfl) rfl)) ?_
  refine zab (zaL (zb9 (zaa (k:=3) rfl rfl rfl))) ?_
  exact zai
end
section
variable {prog:Program}{w:World}{tf:Int->Option Value}{B:Bs}{mg mb:PySem.Str->Option Value}{n:Nat}
noncomputable def zp8 (tf:Int->Option Value) (k:Nat):St->Option (Fl × St):=
 zau (doM (zaV (zq3) zaw) (zaC 1)) (zau (doM (zaV (zbW tf k) (zaf (zae 0) (zaf (zae 1) (zaf (zal (.str (".":zS))) (zaw))))) (zaC 2)) (zau (zdC (zaV (zbt k) (zaf (zae 2) (zaf (zae 1) (zaw))))) (zas .next)))
noncomputable def zj9 (tf:Int->Option Value) (k:Nat):List V->HP->Option (V × HP):=zfK 1 3 (zp8 tf k)
theorem zpL (E:E0 tf B mg mb) (TE:zfa B mg zd6 61) (hP:PatAt B.h 36) (k:Nat):zaM prog w B (n + 5) (.ref 43) (zj9 tf k):=by
 obtain ⟨o,pm,ho,hd,hcode⟩:=(E.fn (43,3) (by decide)).ex
 refine zch (n:=n + 4) (pn:=[("pat":zS)]) (nm:=[some ("pat":zS),some ("STAR":zS),some ("parts":zS)]) E.T ho hd rfl rfl rfl hcode rfl rfl rfl rfl ?_ (show ∀ x ∈ ([("pat":zS)]:List PySem.Str),(zg8 3).names.lookup x=some .local by decide +kernel) (by decide +kernel) (zci (pn:=[("pat":zS)]) (rest:=[some ("STAR":zS),some ("parts":zS)])) (za0 (by decide +kernel)) (by decide) ?_
 ·intro args h
  obtain ⟨a,rfl⟩:=zk9 h
  rfl
 ·intro L
  refine zab (zah (zjM (zao E.T rfl E.g_object rfl) (.inl λZ h=>by cases h) (zlC)) (k:=1) rfl (.inl rfl) rfl) ?_
  refine zab (zah (zaz (zao E.T rfl E.g__translate rfl) (.inr (E.cal (a:=62) (i:=8) (by decide))) (zak (zaa (k:=0) rfl rfl rfl) (zak (zaa (k:=1) rfl rfl rfl) (zak (zar) (zaA) rfl) rfl) rfl) (ziu E TE hP k) rfl ⟨_,_,rfl⟩) (k:=2) rfl (.inl rfl) rfl) ?_
  refine zab (zaL (zaz (zao E.T rfl E.g__join_translated_parts rfl) (.inr (E.cal (a:=69) (i:=9) (by decide))) (zak (zaa (k:=2) rfl rfl rfl) (zak (zaa (k:=1) rfl rfl rfl) (zaA) rfl) rfl) (zcW E k) rfl ⟨_,_,rfl⟩)) ?_
  exact zai
end
section
variable {prog:Program}{w:World}{tf:Int->Option Value}{B:Bs}{mg mb:PySem.Str->Option Value}{n:Nat}{F:FI}
theorem E0.n_enumerate (E:E0 tf B mg mb):mg "enumerate"=none:=E.gB "enumerate" (by decide +kernel)
theorem E0.b_enumerate (E:E0 tf B mg mb):mb "enumerate"=some (.type "enumerate"):=(E.bl _ (by decide)).trans PyProof.Rows.boot_enumerate
theorem znn (E:E0 tf B mg mb) {p pos:Pos}{args:List Expr}{r:St->Option (List V × HP)}(hk:F.env.kindOf "_iter_escaped_chars"=some .globalImplicit) (hr:LSound prog w B (n + 5) F pos args r) (hplain:(backTo pos (starEach args F.env)).any (·.1)=false) (hne:∃ x rest,backTo pos (starEach args F.env)=(false,x)::rest) :
  zi9 prog w B (n + 5) F (eval (.Call (.Name "_iter_escaped_chars" p) args [] pos) F.env) (zpI r):=by
 obtain ⟨o,pm,ho,hd,hcode⟩:=(E.fn (76,11) (by decide)).ex
 refine zk0 E.T (zao E.T hk E.g__iter_escaped_chars rfl) hr hplain hne ho hd rfl rfl hcode rfl rfl rfl rfl (λv=>rfl) (show ∀ x ∈ (zg8 11).names,x.2≠.cell by decide +kernel) (show ∀ x,x ∈ [("addr":zS),"pos","escape","ch"]->(zg8 11).names.lookup x=some .local by decide +kernel) (λL=>rfl) (λL=>rfl) E.n_enumerate E.b_enumerate
  (λL=>{ target:=_,tgt:=⟨_,_,_,rfl⟩,t1:=_,el1:=_,k1:=_,tp1:=_,yp1:=_,xp1:=_,a1:=_,t2:=_,a2:=_,el2:=_,k2:=_,tp2:=_,yp2:=_,xp2:=_,ip2:=_,ip1:=_,u:=zeE 2 (zaI (zaC 1) (zaI (zaC 3) zcD)),hu:=?_,eu:=?_,q1:=zbf (zae 2),h1:=?_,e1:=?_,m1:=doM (zal (.bool false)) (zaC 2),ha1:=?_,ea1:=?_,q2:=zay (zat (za6 false) (zae 3) (zal (.str ("\\":PySem.Str)))),h2:=?_,e2:=?_,m2:=doM (zal (.bool true)) (zaC 2),ha2:=?_,ea2:=?_,r1:=zaf (zae 1) (zaf (zat (zac zbg) (zal (.str ("\\":PySem.Str))) (zae 3)) zaw),hl1:=?_,el1e:=?_,r2:=zaf (zae 1) (zaf (zae 3) zaw),hl2:=?_,el2e:=?_ }) (λL=>rfl) (q3:=zbf (zae 2)) ?_ ?_ (λL=>rfl) (λL=>rfl) (λL=>rfl) (λL v=>rfl)
 ·exact λps=>zbe (zaO (zav (k:=1) rfl (.inl rfl)) (zaO (zav (k:=3) rfl (.inl rfl)) zbO)) rfl rfl
 ·intro x0 po es ch p y;rfl
 ·exact λps=>zfD (zaa (k:=2) rfl rfl rfl) rfl
 ·intro x0 po b ch;rfl
 ·exact λps=>zah zcz (k:=2) rfl (.inl rfl) rfl
 ·intro x0 po es ch;rfl
 ·exact λps=>za5 zbU (zaa (k:=3) rfl rfl rfl) zar rfl
 ·intro x0 po es c hc
  have h2:("\\":PySem.Str)=⟨#[92]⟩:=by decide
  rw [h2]
  have hb:((⟨#[c]⟩:PySem.Str)==⟨#[92]⟩)=decide (c=92):=by
   by_cases h:c=92
   ·subst h;decide
   ·rw [decide_eq_false h,beq_eq_false_iff_ne]
    intro q
    injection q with q
    injection q with q
    injection q with q
    exact h q
  refine (congrArg (bV · λv h=>onD (dB λb=>some (b,h)) v) (?_:zat (za6 false) (zae 3) (zal (.str ⟨#[92]⟩)) ⟨[x0,po,es,some (.d (.str ⟨#[c]⟩))],[]⟩=some (.d (.bool (decide (c=92))),[]))).trans rfl
  simp [zat,za6,zae,zal,zdr,shp,SeqAt.shaped,PyData.eqv,PyData.canLay0,PyData.depth,hb,PyData.strOk,hc]
 ·exact λps=>zah zcz (k:=2) rfl (.inl rfl) rfl
 ·intro x0 po es ch;rfl
 ·exact λps=>zak (zaa (k:=1) rfl rfl rfl) (zak (zaq za8 zar (zaa (k:=3) rfl rfl rfl)) zaA rfl) rfl
 ·intro x0 p es c
  rfl
 ·exact λps=>zak (zaa (k:=1) rfl rfl rfl) (zak (zaa (k:=3) rfl rfl rfl) zaA rfl) rfl
 ·intro x0 p es c;rfl
 ·exact λL ps=>zfD (zaa (k:=2) rfl rfl rfl) rfl
 ·intro x0 po b ch;rfl
end
section
variable {prog:Program}{w:World}{tf:Int->Option Value}{B:Bs}{mg mb:PySem.Str->Option Value}{n:Nat}
noncomputable def zeA (k:Nat):St->Option (Fl × St):=
 zau (zcm 4 (zaf (zgj (zaf (zgj (zaw)) (zaw))) (zaf (zgj (zaw)) (zaf (zal (.int 0)) (zaf (zal (.int 0)) (zaw))))) (zaI (zaC 1) (zaI (zaC 2) (zaI (zaC 3) (zaI (zaC 4) (zcD)))))) (zau (zfJ (zpI (zaf (zae 0) (zaw))) (zeE 2 (zaI (zaC 5) (zaI (zaC 6) (zcD)))) (zau (zbC (zay (zat (za6 true) (zaR (zae 0) (zae 4) (zat (zac zbg) (zae 5) (zal (.int 1)))) (zae 6))) (zau (zdC (zc1 (zaf (zbD (zaw)) (zaf (zbD (zaw)) (zaw))))) (zas .next)) (zas .next)) (zau (doM (zat (zac zbg) (zae 5) (zal (.int 1))) (zaC 4)) (zau (zbC (zay (zat (za6 false) (zae 6) (zal (.str ("|":zS))))) (zau (zbm (zbz zeF zeh (zae 1) (zaf (zgj (zaw)) (zaw)))) (zau (zbm (zbz zeF zeh (zae 2) (zaf (zaR (zae 0) (zae 3) (zae 5)) (zaw)))) (zau (doM (zae 4) (zaC 3)) (zas .next)))) (zau (zbm (zbz zeF zeh (za4 (zae 1) (zde (zal (.int 1)))) (zaf (zae 6) (zaw)))) (zas .next))) (zas .next))))) (zau (zdC (zc1 (zaf (zor (zae 1)) (zaf (zat (zac zbg) (zgB (zae 2)) (zbD (zaf (zaR (zae 0) (zae 3) (zal .none)) (zaw)))) (zaw))))) (zas .next)))
noncomputable def zda (k:Nat):List V->HP->Option (V × HP):=zfK 1 7 (zeA k)
theorem zhD (E:E0 tf B mg mb) (k:Nat):zaM prog w B (n + 6) (.ref 116) (zda k):=by
 obtain ⟨o,pm,ho,hd,hcode⟩:=(E.fn (116,19) (by decide)).ex
 refine zch (n:=n + 5) (pn:=[("text":zS)]) (nm:=[some ("text":zS),some ("pieces":zS),some ("texts":zS),some ("start":zS),some ("at":zS),some ("place":zS),some ("unit":zS)]) E.T ho hd rfl rfl rfl hcode rfl rfl rfl rfl ?_ (show ∀ x ∈ ([("text":zS)]:List PySem.Str),(zg8 19).names.lookup x=some .local by decide +kernel) (by decide +kernel) (zci (pn:=[("text":zS)]) (rest:=[some ("pieces":zS),some ("texts":zS),some ("start":zS),some ("at":zS),some ("place":zS),some ("unit":zS)])) (za0 (by decide +kernel)) (by decide) ?_
 ·intro args h
  obtain ⟨a,rfl⟩:=zk9 h
  rfl
 ·intro L
  refine zab (zhe (zak (zbK (zak (zbK (zaA)) (zaA) rfl)) (zak (zbK (zaA)) (zak (zad) (zak (zad) (zaA) rfl) rfl) rfl) rfl) (zaO (zav (k:=1) rfl (.inl rfl)) (zaO (zav (k:=2) rfl (.inl rfl)) (zaO (zav (k:=3) rfl (.inl rfl)) (zaO (zav (k:=4) rfl (.inl rfl)) (zbO))))) rfl rfl rfl rfl) ?_
  refine zab (zlk (znn E rfl (zak (zaa (k:=0) rfl rfl rfl) (zaA) rfl) rfl ⟨_,_,rfl⟩) (zbe (zaO (zav (k:=5) rfl (.inl rfl)) (zaO (zav (k:=6) rfl (.inl rfl)) (zbO))) rfl rfl) ?_ (λZ=>rfl)) ?_
  ·
   refine zab (zaS (za5 zdP (zaT (zaa (k:=0) rfl rfl rfl) (zaQ (zaa (k:=4) rfl rfl rfl)) (zaQ (zaq za8 (zaa (k:=5) rfl rfl rfl) (zad)))) (zaa (k:=6) rfl rfl rfl) rfl) ?_ ?_) ?_
   ·
    refine zab (zaL (zaU (zak (zaH (zaA)) (zak (zaH (zaA)) (zaA) rfl) rfl))) ?_
    exact zai
   ·
    exact zai
   refine zab (zah (zaq za8 (zaa (k:=5) rfl rfl rfl) (zad)) (k:=4) rfl (.inl rfl) rfl) ?_
   refine zab (zaS (za5 zbU (zaa (k:=6) rfl rfl rfl) (zar) rfl) ?_ ?_) ?_
   ·
    refine zab (zaW (zbc _ zbu zbj (zaa (k:=1) rfl rfl rfl) (zak (zbK (zaA)) (zaA) rfl) rfl rfl ⟨_,_,rfl⟩) rfl rfl) ?_
    refine zab (zaW (zbc _ zbu zbj (zaa (k:=2) rfl rfl rfl) (zak (zaT (zaa (k:=0) rfl rfl rfl) (zaQ (zaa (k:=3) rfl rfl rfl)) (zaQ (zaa (k:=5) rfl rfl rfl))) (zaA) rfl) rfl rfl ⟨_,_,rfl⟩) rfl rfl) ?_
    refine zab (zah (zaa (k:=4) rfl rfl rfl) (k:=3) rfl (.inl rfl) rfl) ?_
    exact zai
   ·
    refine zab (zaW (zbc _ zbu zbj (zax (zaa (k:=1) rfl rfl rfl) (zbd (zad)) (λZ Z=>rfl)) (zak (zaa (k:=6) rfl rfl rfl) (zaA) rfl) rfl rfl ⟨_,_,rfl⟩) rfl rfl) ?_
    exact zai
   exact zai
  refine zab (zaL (zaU (zak (zlj (zaa (k:=1) rfl rfl rfl)) (zak (zaq za8 (zb9 (zaa (k:=2) rfl rfl rfl)) (zaH (zak (zaT (zaa (k:=0) rfl rfl rfl) (zaQ (zaa (k:=3) rfl rfl rfl)) (zbQ)) (zaA) rfl))) (zaA) rfl) rfl))) ?_
  exact zai
end
section
variable {prog:Program}{w:World}{tf:Int->Option Value}{B:Bs}{mg mb:PySem.Str->Option Value}{n:Nat}
noncomputable def zog (tf:Int->Option Value) (k:Nat):St->Option (Fl × St):=
 zau (doM (zfI (zbP (zb4 (zaR (zat (zac zbg) (zaR (zae 0) (zal .none) (zal (.int 3))) (zbD (zaf (zal (.int 8501224)) (zaf (zal (.int 17254034)) (zaf (zal (.int 371)) (zaw)))))) (zal .none) (zal (.int 3)))) 1 none (zaC 0) (zbq true) (zaV (zds k) (zaf (zae 0) (zaw))))) (zaC 1)) (zau (doM (zfI (zbP (zb4 (zae 1)) 1 none (zaC 0) (zbq true) (zaV (zj9 tf k) (zaf (za4 (zae 0) (zal (.int 0))) (zaw))))) (zaC 2)) (zau (doM (zaV (zda k) (zaf (zbz isS zjt (zal (.str ("|":zS))) (zaf (zae 2) (zaw))) (zaw))) (zaC 3)) (zau (doM (zfI (zbP (zb4 (za4 (zae 3) (zal (.int 0)))) 1 none (zaC 0) (zbq true) (zaV (zbT k) (zaf (zae 0) (zaw))))) (zaC 4)) (zau (doM (zfI (zbP (zb4 (zae 1)) 1 none (zaC 0) (zbq true) (zc1 (zaf (za4 (zae 0) (zal (.int 1))) (zaf (za4 (zae 0) (zal (.int 2))) (zaw)))))) (zaC 5)) (zau (zbC (orM (zay (zat (za6 true) (za4 (zae 3) (zal (.int 1))) (zae 2))) (orM (zay (zat (za6 true) (zae 4) (zae 5))) (zbq false))) (zau (zdC (zal (.bool false))) (zas .next)) (zas .next)) (zau (zdC (zat (za6 false) (zaV (zcg k) (zaf (zaV (zdu k) (zaf (zae 4) (zaw))) (zaw))) (zaV (zeT k) (zaf (zae 5) (zaw))))) (zas .next)))))))
noncomputable def zlW (tf:Int->Option Value) (k:Nat):List V->HP->Option (V × HP):=zfK 1 6 (zog tf k)
theorem zpK (E:E0 tf B mg mb) (TE:zfa B mg zd6 61) (hP:PatAt B.h 36) (k:Nat):zaM prog w B (n + 7) (.ref 157) (zlW tf k):=by
 refine zcG ((E.fn (157,26) (by decide)).ex) λo pm ho hd hcode=>?_
 refine zch (n:=n + 6) (pn:=[("script":zS)]) (nm:=[some ("script":zS),some ("patterns":zS),some ("made":zS),some ("parted":zS),some ("met":zS),some ("told":zS)]) E.T ho hd rfl rfl rfl hcode rfl rfl rfl rfl ?_ (show ∀ x ∈ ([("script":zS)]:List PySem.Str),(zg8 26).names.lookup x=some .local by decide +kernel) (by decide +kernel) (zci (pn:=[("script":zS)]) (rest:=[some ("patterns":zS),some ("made":zS),some ("parted":zS),some ("met":zS),some ("told":zS)])) (za0 (by decide +kernel)) (by decide) ?_
 ·intro args h
  (refine Ee (zk9 h) λa q0=>?_;subst q0)
  rfl
 ·intro L
  refine zab (zbw (tn:=[("x":zS)]) (cap:=none) ⟨zbS (by decide),by decide,rfl,by decide,za0 (by decide +kernel),λZ Z h=>nomatch h⟩ (zbb (zaT (zaq za8 (zaT (zaa (k:=0) rfl rfl rfl) (zbQ) (zaQ (zad))) (zaH (zak (zad) (zak (zad) (zak (zad) (zaA) rfl) rfl) rfl))) (zbQ) (zaQ (zad)))) (λC=>zav (k:=0) rfl (.inl rfl)) (λC=>zck) (λC=>zaz (zao E.T rfl E.g__law_drawn rfl) (.inr (E.cal (a:=109) (i:=18) (by decide))) (zak (zaa (k:=0) rfl rfl rfl) (zaA) rfl) (ziq E k) rfl ⟨_,_,rfl⟩) (λZ=>rfl) (k:=1) rfl (.inl rfl) rfl) ?_
  refine zab (zbw (tn:=[("p":zS)]) (cap:=none) ⟨zbS (by decide),by decide,rfl,by decide,za0 (by decide +kernel),λZ Z h=>nomatch h⟩ (zbb (zaa (k:=1) rfl rfl rfl)) (λC=>zav (k:=0) rfl (.inl rfl)) (λC=>zck) (λC=>zaz (zao E.T rfl E.g_translate rfl) (.inr (E.cal (a:=43) (i:=3) (by decide))) (zak (zax (zaa (k:=0) rfl rfl rfl) (zad) (λZ Z=>rfl)) (zaA) rfl) (zpL E TE hP k) rfl ⟨_,_,rfl⟩) (λZ=>rfl) (k:=2) rfl (.inl rfl) rfl) ?_
  refine zab (zah (zaz (zao E.T rfl E.g__law_parted rfl) (.inr (E.cal (a:=116) (i:=19) (by decide))) (zak (zbc _ zkb zig (zar) (zak (zaa (k:=2) rfl rfl rfl) (zaA) rfl) rfl rfl ⟨_,_,rfl⟩) (zaA) rfl) (zhD E k) rfl ⟨_,_,rfl⟩) (k:=3) rfl (.inl rfl) rfl) ?_
  refine zab (zbw (tn:=[("u":zS)]) (cap:=none) ⟨zbS (by decide),by decide,rfl,by decide,za0 (by decide +kernel),λZ Z h=>nomatch h⟩ (zbb (zax (zaa (k:=3) rfl rfl rfl) (zad) (λZ Z=>rfl))) (λC=>zav (k:=0) rfl (.inl rfl)) (λC=>zck) (λC=>zaz (zao E.T rfl E.g__law_read rfl) (.inr (E.cal (a:=130) (i:=21) (by decide))) (zak (zaa (k:=0) rfl rfl rfl) (zaA) rfl) (zjj E k) rfl ⟨_,_,rfl⟩) (λZ=>rfl) (k:=4) rfl (.inl rfl) rfl) ?_
  refine zab (zbw (tn:=[("p":zS)]) (cap:=none) ⟨zbS (by decide),by decide,rfl,by decide,za0 (by decide +kernel),λZ Z h=>nomatch h⟩ (zbb (zaa (k:=1) rfl rfl rfl)) (λC=>zav (k:=0) rfl (.inl rfl)) (λC=>zck) (λC=>zaU (zak (zax (zaa (k:=0) rfl rfl rfl) (zad) (λZ Z=>rfl)) (zak (zax (zaa (k:=0) rfl rfl rfl) (zad) (λZ Z=>rfl)) (zaA) rfl) rfl)) (λZ=>rfl) (k:=5) rfl (.inl rfl) rfl) ?_
  refine zab (zaS (zdl (zcS (za5 zdP (zax (zaa (k:=3) rfl rfl rfl) (zad) (λZ Z=>rfl)) (zaa (k:=2) rfl rfl rfl) rfl) (zcS (za5 zdP (zaa (k:=4) rfl rfl rfl) (zaa (k:=5) rfl rfl rfl) rfl) (zkl)))) ?_ ?_) ?_
  ·
   refine zab (zaL (zcz)) ?_
   exact zai
  ·
   exact zai
  refine zab (zaL (zb8 zbU (zaz (zao E.T rfl E.g__law_swept rfl) (.inr (E.cal (a:=137) (i:=22) (by decide))) (zak (zaz (zao E.T rfl E.g__law_turns rfl) (.inr (E.cal (a:=147) (i:=24) (by decide))) (zak (zaa (k:=4) rfl rfl rfl) (zaA) rfl) (zis E k) rfl ⟨_,_,rfl⟩) (zaA) rfl) (zfc E k) rfl ⟨_,_,rfl⟩) (zaz (zao E.T rfl E.g__law_due rfl) (.inr (E.cal (a:=152) (i:=25) (by decide))) (zak (zaa (k:=5) rfl rfl rfl) (zaA) rfl) (zkU E k) rfl ⟨_,_,rfl⟩) rfl)) ?_
  exact zai
end
theorem zhH {np total:Nat}{m:St->Option (Fl × St)}{args:List V}{hp:HP}{v:V}{st':St}(h1:args.length=np)
  (h2:m ⟨args.map some++zsy (total - np) none,hp⟩=some (.ret v,st')) (ck:zi8 hp st'.hp v):zfK np total m args hp=some (v,st'.hp.take hp.length):=by
 unfold zfK
 refine (if_pos h1)▸h2▸?_
 exact if_pos ck
theorem zgb {np total:Nat}{m:St->Option (Fl × St)}{args:List V}{hp:HP}{st':St}(h1:args.length=np)
  (h2:m ⟨args.map some++zsy (total - np) none,hp⟩=some (.next,st')) (ck:zi8 hp st'.hp (.d .none)):zfK np total m args hp=some (.d .none,st'.hp.take hp.length):=by
 unfold zfK
 refine (if_pos h1)▸h2▸?_
 exact if_pos ck
theorem zcX {np total:Nat}{m:St->Option (Fl × St)}{args:List V}{hp:HP}{x:PyData}{loc:List (Option V)}{ext:HP}(h1:args.length=np)
  (h2:m ⟨args.map some++zsy (total - np) none,hp⟩=some (.ret (.d x),⟨loc,hp++ext⟩)):zfK np total m args hp=some (.d x,hp):=by
 refine Eq.trans (zhH h1 h2 ⟨by simp,λj hj=>.inl (by exact (zrC hj)),trivial⟩) ?_
 simp
theorem zam {a b:St->Option (Fl × St)}{st st1:St}{r:Option (Fl × St)}(h:a st=some (.next,st1)) (h2:b st1=r):zau a b st=r:=by
 unfold zau;refine h▸?_;exact h2
theorem zgo {a b:St->Option (Fl × St)}{st st1:St}{v:V}(h:a st=some (.ret v,st1)):zau a b st=some (.ret v,st1):=by
 unfold zau;exact (Eq.symm h)▸rfl
theorem zaD {m:St->Option (V × HP)}{u:V->St->Option St}{st st':St}{v:V}{h:HP}(h1:m st=some (v,h)) (h2:u v ⟨st.loc,h⟩=some st'):doM m u st=some (.next,st'):=by
 unfold doM;refine h1▸?_;dsimp only;rw [h2]
theorem zbh {m:St->Option (V × HP)}{st:St}{v:V}{h:HP}(h1:m st=some (v,h)):zbm m st=some (.next,⟨st.loc,h⟩):=by
 unfold zbm;rw [h1]
theorem zo8 {k:Nat}{v:V}{st:St}{loc:List (Option V)}(hl:decide (k < st.loc.length)=true) (h:st.loc.set k (some v)=loc):zaC k v st=some ⟨loc,st.hp⟩:=by
 unfold zaC;exact (if_pos (of_decide_eq_true hl))▸h▸rfl
theorem zaZ {c:St->Option (Bool × HP)}{a b:St->Option (Fl × St)}{st:St}{h:HP}{r:Option (Fl × St)}(hc:c st=some (true,h)) (ha:a ⟨st.loc,h⟩=r):zbC c a b st=r:=by
 unfold zbC;refine hc▸?_;exact ha
theorem zaF {c:St->Option (Bool × HP)}{a b:St->Option (Fl × St)}{st:St}{h:HP}{r:Option (Fl × St)}(hc:c st=some (false,h)) (hb:b ⟨st.loc,h⟩=r):zbC c a b st=r:=by
 unfold zbC;refine hc▸?_;exact hb
theorem zaB {m:St->Option (V × HP)}{st:St}{b:Bool}{h:HP}(e:m st=some (.d (.bool b),h)):zay m st=some (b,h):=by
 unfold zay;exact e▸rfl
theorem zd7 {m:St->Option (Bool × HP)}{st:St}{b:Bool}{h:HP}(e:m st=some (b,h)):zmK m st=some (!b,h):=by
 unfold zmK;exact e▸rfl
theorem zc6 {a b:St->Option (Bool × HP)}{st:St}{h:HP}{r:Option (Bool × HP)}(e:a st=some (true,h)) (e2:b ⟨st.loc,h⟩=r):zcV a b st=r:=by
 unfold zcV;refine e▸?_;exact e2
theorem zfr {a b:St->Option (Bool × HP)}{st:St}{h:HP}(e:a st=some (false,h)):zcV a b st=some (false,h):=by
 unfold zcV;exact (Eq.symm e)▸rfl
theorem zmk {a b:St->Option (Bool × HP)}{st:St}{h:HP}{r:Option (Bool × HP)}(e:a st=some (false,h)) (e2:b ⟨st.loc,h⟩=r):orM a b st=r:=by
 unfold orM;refine e▸?_;exact e2
theorem zq4 {a b:St->Option (Bool × HP)}{st:St}{h:HP}(e:a st=some (true,h)):orM a b st=some (true,h):=by
 unfold orM;exact (Eq.symm e)▸rfl
theorem zer {c:St->Option (Bool × HP)}{a b:St->Option (V × HP)}{st:St}{h:HP}{r:Option (V × HP)}(hc:c st=some (true,h)) (ha:a ⟨st.loc,h⟩=r):zdT c a b st=r:=by
 unfold zdT;refine hc▸?_;exact ha
theorem zfw {c:St->Option (Bool × HP)}{a b:St->Option (V × HP)}{st:St}{h:HP}{r:Option (V × HP)}(hc:c st=some (false,h)) (hb:b ⟨st.loc,h⟩=r):zdT c a b st=r:=by
 unfold zdT;refine hc▸?_;exact hb
theorem zag {op:HP->V->V->Option (V × HP)}{ml mr:St->Option (V × HP)}{st:St}{a b:V}{h1 h2:HP}{r:Option (V × HP)}(e1:ml st=some (a,h1)) (e2:mr ⟨st.loc,h1⟩=some (b,h2)) (e3:op h2 a b=r):zat op ml mr st=r:=by
 unfold zat;refine e1▸?_;dsimp only;refine e2▸?_;exact e3
theorem zaj {m:St->Option (V × HP)}{r:St->Option (List V × HP)}{st:St}{v:V}{vs:List V}{h h2:HP}(e1:m st=some (v,h)) (e2:r ⟨st.loc,h⟩=some (vs,h2)):zaf m r st=some (v::vs,h2):=by
 unfold zaf;refine e1▸?_;dsimp only;exact e2▸rfl
theorem zdH {m:St->Option (V × HP)}{st:St}{v:V}{h:HP}{b:Bool}(e:m st=some (v,h)) (e2:zfo h v=some b):zbf m st=some (b,h):=by
 unfold zbf;refine e▸?_;dsimp only;refine (congrArg _ e2).trans ?_;rfl
theorem zbk {sh:HP->V->Bool}{sem:List V->HP->Option (V × HP)}{o:St->Option (V × HP)}{r:St->Option (List V × HP)}{st:St}{v:V}{vs:List V}{h h':HP}{x:Option (V × HP)}(e1:o st=some (v,h)) (e2:sh h v=true) (e3:r ⟨st.loc,h⟩=some (vs,h')) (e4:sem (v::vs) h'=x):zbz sh sem o r st=x:=by
 unfold zbz;refine e1▸?_;dsimp only;refine (if_pos e2)▸e3▸?_;exact e4
theorem zbA {m:St->Option (V × HP)}{st:St}{v:V}{h:HP}{b:St->Option (Fl × St)}(h1:m st=some (v,h)):zau (zdC m) b st=some (.ret v,⟨st.loc,h⟩):=by
 unfold zau zdC;exact h1▸rfl
theorem zaE {sem:List V->HP->Option (V × HP)}{r:St->Option (List V × HP)}{st:St}{vs:List V}{h:HP}{x:Option (V × HP)}(h1:r st=some (vs,h)) (h2:sem vs h=x):zaV sem r st=x:=by
 unfold zaV;refine h1▸?_;exact h2
theorem ze9 {c:St->Option (Bool × HP)}{b:St->Option (Fl × St)}{k:Nat}{st st':St}{h:HP}{r:Option (Fl × St)}(hc:c st=some (true,h)) (hb:b ⟨st.loc,h⟩=some (.next,st')) (hr:zba c b k st'=r):zba c b (k + 1) st=r:=by
 unfold zba;refine hc▸?_;dsimp only;refine hb▸?_;exact hr
theorem zhl {c:St->Option (Bool × HP)}{b:St->Option (Fl × St)}{k:Nat}{st st':St}{h:HP}{r:Option (Fl × St)}(hc:c st=some (true,h)) (hb:b ⟨st.loc,h⟩=some (.cont,st')) (hr:zba c b k st'=r):zba c b (k + 1) st=r:=by
 unfold zba;refine hc▸?_;dsimp only;refine hb▸?_;exact hr
theorem zi5 {c:St->Option (Bool × HP)}{b:St->Option (Fl × St)}{k:Nat}{st st':St}{h:HP}(hc:c st=some (true,h)) (hb:b ⟨st.loc,h⟩=some (.brk,st')):zba c b (k + 1) st=some (.next,st'):=by
 unfold zba;refine hc▸?_;dsimp only;exact hb▸rfl
theorem zc3 {c:St->Option (Bool × HP)}{b:St->Option (Fl × St)}{k:Nat}{st:St}{h:HP}(hc:c st=some (false,h)):zba c b (k + 1) st=some (.next,⟨st.loc,h⟩):=by
 unfold zba;exact hc▸rfl
theorem zb2 {u:V->St->Option St}{b:St->Option (Fl × St)}{v:V}{r:List V}{st st1 st':St}{x:Option (Fl × St)}(hu:u v st=some st1) (hb:b st1=some (.next,st')) (hr:forL u b r st'=x):forL u b (v::r) st=x:=by
 unfold forL;refine hu▸?_;dsimp only;refine hb▸?_;exact hr
theorem znm {hp:HP}{a:V}{vs:List V}{i:Nat}{v:V}(ha:∀ x,a≠.d x) (h:zbl hp a=some vs) (hi:vs[i]?=some v) (hs:i < 2 ^ 62):zdk hp a (.d (.int (i:Int)))=some (v,hp):=by
 have hlt:i < vs.length:=by
  rcases zr4 i vs.length with q | q
  ·exact q
  ·rw [zrH q] at hi;exact zan hi
 have e1:zfv (i:Int)=true:=by
  unfold zfv
  simp only [zrA,decide_eq_true_eq]
  exact zni hs
 have e2:seqIndex? (i:Int) vs.length=some i:=by
  unfold seqIndex?
  have h0:¬ ((i:Int) < 0):=inn _
  simp only [h0,if_false]
  rw [if_pos (by simp;omega)]
  simp
 rw [zcc,if_pos e1]
 cases a with
 | d x=>exact absurd rfl (ha x)
 | l id=>dsimp only;rw [h];dsimp only;rw [e2];simp [hi]
 | raw v=>cases h
 | bm id=>cases h
theorem zdO {mo mi:St->Option (V × HP)}{x:V}{st:St}{id:Nat}{h1 h2:HP}{k:Nat}{old:List V}(e1:mo st=some (.l id,h1)) (e2:mi ⟨st.loc,h1⟩=some (.d (.int (k:Int)),h2)) (e3:h2[id]?=some (some old)) (hk:k < old.length) (hk2:k < 2 ^ 62) :
  zjR mo mi x st=some ⟨st.loc,h2.set id (some (old.set k x))⟩:=by
 rw [zpg e1 e2 e3,if_pos ⟨by exact zrB _,by exact ilt (by assumption),by exact zrS.mpr (by assumption)⟩]
 dsimp
theorem zcU {ml mr:St->Option (V × HP)}{st:St}{id:Nat}{h1 h2:HP}{i:Nat}{vs:List V}{v:V}(e1:ml st=some (.l id,h1)) (e2:mr ⟨st.loc,h1⟩=some (.d (.int (i:Int)),h2)) (e3:h2[id]?=some (some vs)) (hi:vs[i]?=some v) (hs:i < 2 ^ 62) :
  za4 ml mr st=some (v,h2):=by
 unfold za4 zat
 refine e1▸?_;dsimp only;rw [e2]
 exact znm (λx h=>by contradiction) (by show (match h2[id]? with | some (some vs)=>some vs | _=>none)=_;rw [e3]) hi hs
noncomputable def pv2 (p:Int × Int):PyData:=.tuple [.int p.1,.int p.2]
noncomputable def vp (p:Int × Int):V:=.d (pv2 p)
noncomputable abbrev lt2 (a b:Int × Int):Prop:=a.1 < b.1\/(a.1=b.1/\a.2 < b.2)
noncomputable def gt2 (l:List (Int × Int)) (i:Nat):Int × Int:=l.getD i (0,0)
noncomputable def sdn (s:Nat) (x:Int × Int):Nat->List (Int × Int)->Nat->List (Int × Int)
 | 0,l,p=>l.set p x
 | k + 1,l,p=>if s < p/\lt2 x (gt2 l ((p - 1) / 2)) then sdn s x k (l.set p (gt2 l ((p - 1) / 2))) ((p - 1) / 2) else l.set p x
theorem zfe {l:List (Int × Int)}{i:Nat}(h:i < l.length):(l.map vp)[i]?=some (vp (gt2 l i)):=by
 unfold gt2
 refine (Eq.symm zr7)▸(Eq.symm (zrG h))▸(Eq.symm zrM)▸(Eq.symm (zrG h))▸?_;rfl
theorem zrb (a b:Int × Int) (hp:HP):zac ltD hp (vp a) (vp b)=some (.d (.bool (decide (lt2 a b))),hp):=rfl
theorem znf {p:Nat}(h:0 < p):((p:Int) - 1).fdiv (2 ^ (1:Int).toNat)=((((p - 1) / 2:Nat)):Int):=by
 show ((p:Int) - 1).fdiv 2=_
 refine Eq.trans (zsY _ (by exact zrB _)) ?_
 lia
theorem zcp {hp:HP}{id:Nat}{o:Option (List V)}(h:hp[id]?=some o):hp.set id o=hp:=by
 apply ztN
 intro j
 by_cases hj:id=j
 ·subst hj
  have:id < hp.length:=by
   rcases zr4 id hp.length with q | q
   ·exact q
   ·rw [zrH q] at h;exact zan h
  exact (zru this)▸h▸rfl
 ·exact (zrT hj)
theorem zcr {hp:HP}{id:Nat}{o:Option (List V)}(h:hp[id]?=some o):id < hp.length:=by
 rcases zr4 id hp.length with q | q
 ·exact q
 ·rw [zrH q] at h;exact zan h
theorem zcZ (l:List (Int × Int)) (i:Nat) (x:Int × Int):(l.map vp).set i (vp x)=(l.set i x).map vp:=by exact (Eq.symm zuW)
theorem zf1 {hp:HP}{id:Nat}{l:List (Int × Int)}{v:V}(h:∃ us,hp[id]?=some us) (hv:okV hp.length v):zi8 hp (hp.set id (some (l.map vp))) v:=by
 refine Ee h λus h=>?_
 refine ⟨by simp,λj hj=>?_,hv⟩
 by_cases e:id=j
 ·subst e
  refine .inr λus h2 u hu=>?_
  rw [zru hj] at h2
  cases h2
  (refine Eea (zsz.mp hu) λx Z q0=>?_;subst q0)
  trivial
 ·exact .inl (zrT e)
theorem zeD (hp:HP) (id:Nat) (o:Option (List V)):(hp.set id o).take hp.length=hp.set id o:=zsC (by simp)
theorem zo5 {c:St->Option (Bool × HP)}{b:St->Option (Fl × St)}{id s:Nat}{x:Int × Int}
  (hc:∀ p c4 c5 hp,c ⟨[some (.l id),some (.d (.int (s:Int))),some (.d (.int p)),some (vp x),c4,c5],hp⟩=some (decide ((s:Int) < p),hp))
  (hb:∀ (p:Nat) c4 c5 hp l,hp[id]?=some (some (l.map vp))->0 < p->p < l.length->l.length<=2 ^ 20->b ⟨[some (.l id),some (.d (.int (s:Int))),some (.d (.int (p:Int))),some (vp x),c4,c5],hp⟩ =
   if lt2 x (gt2 l ((p - 1) / 2)) then some (.cont,⟨[some (.l id),some (.d (.int (s:Int))),some (.d (.int (((p - 1) / 2:Nat):Int))),some (vp x),some (.d (.int (((p - 1) / 2:Nat):Int))),some (vp (gt2 l ((p - 1) / 2)))],hp.set id (some ((l.set p (gt2 l ((p - 1) / 2))).map vp))⟩)
   else some (.brk,⟨[some (.l id),some (.d (.int (s:Int))),some (.d (.int (p:Int))),some (vp x),some (.d (.int (((p - 1) / 2:Nat):Int))),some (vp (gt2 l ((p - 1) / 2)))],hp⟩)) :
  ∀ (k n:Nat) (p:Nat) l c4 c5 hp,hp[id]?=some (some (l.map vp))->p < l.length->l.length<=2 ^ 20->p < k->p<=n->
   ∃ (l':List (Int × Int)) (p':Nat) (c4' c5':Option V),zba c b k ⟨[some (.l id),some (.d (.int (s:Int))),some (.d (.int (p:Int))),some (vp x),c4,c5],hp⟩=some (.next,⟨[some (.l id),some (.d (.int (s:Int))),some (.d (.int (p':Int))),some (vp x),c4',c5'],hp.set id (some (l'.map vp))⟩)/\
    p' < l'.length/\l'.length=l.length/\l'.set p' x=sdn s x n l p:=by
 intro zz
 induction zz with
 | zero=>
  intro n p l c4 c5 hp h1 h2 h3 h4 h5
  exact absurd h4 (ztA _)
 | succ k ih=>
  intro n p l c4 c5 hp h1 h2 h3 h4 h5
  by_cases hs:s < p
  ·cases n with
   | zero=>exact absurd hs (zsQ.mpr (zrn h5 (zr2 _)))
   | succ n=>
   by_cases hx:lt2 x (gt2 l ((p - 1) / 2))
   ·have hb':=hb p c4 c5 hp l h1 (by exact zrt (zr2 _) hs) h2 h3
    rw [if_pos hx] at hb'
    have hid:=zcr h1
    (refine zjZ (ih n ((p - 1) / 2) (l.set p (gt2 l ((p - 1) / 2))) (some (.d (.int (((p - 1) / 2:Nat):Int)))) (some (vp (gt2 l ((p - 1) / 2)))) (hp.set id (some ((l.set p (gt2 l ((p - 1) / 2))).map vp)))
     (by exact (zru hid)) (by rw [zrK];exact zrZ (zev hs) h2) (by rw [zrK];exact h3) (zry (zev hs) (zsb h4)) (zsb (zry (zev hs) h5))) λl' p' d4 d5 e1 e2 e3 e4=>?_)
    refine ⟨l',p',d4,d5,?_,e2,by (refine Eq.trans e3 ?_;exact zrK),?_⟩
    ·refine zhl (h:=hp) ?_ hb' ?_
     ·rw [hc];rw [decide_eq_true (by exact zrS.mpr (by assumption))]
     ·rw [e1,zrX]
    ·refine Eq.trans e4 ?_
     conv=>rhs;unfold sdn
     exact (Eq.symm (if_pos ⟨hs,hx⟩))
   ·have hb':=hb p c4 c5 hp l h1 (zrn (by lia) hs) h2 h3
    rw [if_neg hx] at hb'
    refine ⟨l,p,some (.d (.int (((p - 1) / 2:Nat):Int))),some (vp (gt2 l ((p - 1) / 2))),?_,h2,rfl,?_⟩
    ·rw [zi5 (h:=hp) (by rw [hc];rw [decide_eq_true (by exact zrS.mpr (by assumption))]) hb',zcp h1]
    ·unfold sdn;exact (Eq.symm (if_neg (λq=>hx q.2)))
  ·refine ⟨l,p,c4,c5,?_,h2,rfl,?_⟩
   ·rw [zc3 (h:=hp) (by rw [hc];rw [decide_eq_false (by exact zqC (by assumption))]),zcp h1]
   ·cases n with
    | zero=>rfl
    | succ n=>unfold sdn;exact (Eq.symm (if_neg (λq=>hs q.1)))
theorem znG (k:Nat):∃ c b,zdi k=zau (doM (za4 (zae 0) (zae 2)) (zaC 3)) (zau (zba c b k) (zau (doM (zae 3) (zjR (zae 0) (zae 2))) (zas .next)))/\
  (∀ (id:Nat) (s p:Int) x c4 c5 hp,c ⟨[some (.l id),some (.d (.int s)),some (.d (.int p)),some (vp x),c4,c5],hp⟩=some (decide (s < p),hp))/\
  (∀ (id:Nat) (s:Int) x (p:Nat) c4 c5 hp l,hp[id]?=some (some (l.map vp))->0 < p->p < l.length->l.length<=2 ^ 20->b ⟨[some (.l id),some (.d (.int s)),some (.d (.int (p:Int))),some (vp x),c4,c5],hp⟩ =
   if lt2 x (gt2 l ((p - 1) / 2)) then some (.cont,⟨[some (.l id),some (.d (.int s)),some (.d (.int (((p - 1) / 2:Nat):Int))),some (vp x),some (.d (.int (((p - 1) / 2:Nat):Int))),some (vp (gt2 l ((p - 1) / 2)))],hp.set id (some ((l.set p (gt2 l ((p - 1) / 2))).map vp))⟩)
   else some (.brk,⟨[some (.l id),some (.d (.int s)),some (.d (.int (p:Int))),some (vp x),some (.d (.int (((p - 1) / 2:Nat):Int))),some (vp (gt2 l ((p - 1) / 2)))],hp⟩)):=by
 refine ⟨_,_,rfl,λid s p x c4 c5 hp=>rfl,λid s x p c4 c5 hp l h1 h2 h3 h4=>?_⟩
 have hid:=zcr h1
 refine zam (st1:=⟨[some (.l id),some (.d (.int s)),some (.d (.int (p:Int))),some (vp x),some (.d (.int (((p - 1) / 2:Nat):Int))),c5],hp⟩) ?_ ?_
 ·refine (znf h2)▸?_;rfl
 refine zam (st1:=⟨[some (.l id),some (.d (.int s)),some (.d (.int (p:Int))),some (vp x),some (.d (.int (((p - 1) / 2:Nat):Int))),some (vp (gt2 l ((p - 1) / 2)))],hp⟩) ?_ ?_
 ·have:=zcU (ml:=zae 0) (mr:=zae 4) (st:=⟨[some (.l id),some (.d (.int s)),some (.d (.int (p:Int))),some (vp x),some (.d (.int (((p - 1) / 2:Nat):Int))),c5],hp⟩) (h1:=hp) (h2:=hp) rfl rfl h1 (zfe (l:=l) (i:=(p - 1) / 2) (zrZ (ze3 h2) h3)) (zmb (zrZ (ze3 h2) h3) h4)
  exact zaD this rfl
 have hcmp:zay (zat (zac ltD) (zae 3) (zae 5)) ⟨[some (.l id),some (.d (.int s)),some (.d (.int (p:Int))),some (vp x),some (.d (.int (((p - 1) / 2:Nat):Int))),some (vp (gt2 l ((p - 1) / 2)))],hp⟩=some (decide (lt2 x (gt2 l ((p - 1) / 2))),hp):=rfl
 by_cases hx:lt2 x (gt2 l ((p - 1) / 2))
 ·rw [if_pos hx]
  unfold zau zbC
  refine hcmp▸(decide_eq_true hx)▸?_
  dsimp only
  unfold doM
  refine (show zae 5 (⟨[some (.l id),some (.d (.int s)),some (.d (.int (p:Int))),some (vp x),some (.d (.int (((p - 1) / 2:Nat):Int))),some (vp (gt2 l ((p - 1) / 2)))],hp⟩:St)=some (vp (gt2 l ((p - 1) / 2)),hp) from rfl)▸?_
  dsimp only
  rw [zdO (id:=id) (h1:=hp) (h2:=hp) (k:=p) rfl rfl h1 (by simpa using h3) (zmb h3 h4),zcZ]
  rfl
 ·rw [if_neg hx]
  unfold zau zbC
  refine hcmp▸(decide_eq_false hx)▸?_
  rfl
theorem zgC {k id s p:Nat}{l:List (Int × Int)}{hp:HP}(h1:hp[id]?=some (some (l.map vp))) (h2:p < l.length) (h3:l.length<=2 ^ 20) (h4:p < k) :
  zdb k [.l id,.d (.int (s:Int)),.d (.int (p:Int))] hp=some (.d .none,hp.set id (some ((sdn s (gt2 l p) p l p).map vp))):=by
 have hid:=zcr h1
 refine zcG (znG k) λc b e hc hb=>?_
 obtain ⟨l',p',d4,d5,e1,e2,e3,e4⟩:=zo5 (c:=c) (b:=b) (id:=id) (s:=s) (x:=gt2 l p) (λp c4 c5 hp=>hc id s p _ c4 c5 hp) (λp c4 c5 hp l=>hb id s _ p c4 c5 hp l) k p p l none none hp h1 h2 h3 h4 (zrv _)
 have key:zdi k ⟨[some (.l id),some (.d (.int (s:Int))),some (.d (.int (p:Int))),none,none,none],hp⟩=some (.next,⟨[some (.l id),some (.d (.int (s:Int))),some (.d (.int (p':Int))),some (vp (gt2 l p)),d4,d5],hp.set id (some ((sdn s (gt2 l p) p l p).map vp))⟩):=by
  rw [e]
  refine zam (st1:=⟨[some (.l id),some (.d (.int (s:Int))),some (.d (.int (p:Int))),some (vp (gt2 l p)),none,none],hp⟩) ?_ (zam e1 ?_)
  ·exact zaD (zcU (h1:=hp) (h2:=hp) rfl rfl h1 (zfe h2) (by exact zmb h2 h3)) rfl
  ·refine zam (st1:=⟨[some (.l id),some (.d (.int (s:Int))),some (.d (.int (p':Int))),some (vp (gt2 l p)),d4,d5],hp.set id (some ((sdn s (gt2 l p) p l p).map vp))⟩) ?_ rfl
   refine zaD (v:=vp (gt2 l p)) (h:=hp.set id (some (l'.map vp))) rfl ?_
   rw [zdO (id:=id) (k:=p') rfl rfl (zru hid) (by simpa using e2) (zmb (e3▸e2) h3),zcZ,zrX,e4]
 have fin:=zgb (np:=3) (total:=6) (m:=zdi k) (args:=[.l id,.d (.int (s:Int)),.d (.int (p:Int))]) (hp:=hp) rfl key (zf1 ⟨_,h1⟩ trivial)
 rw [zeD] at fin
 exact fin
noncomputable abbrev oN (i:Nat):Option V:=some (.d (.int (i:Int)))
noncomputable abbrev oL (id:Nat):Option V:=some (.l id)
noncomputable abbrev oP (x:Int × Int):Option V:=some (vp x)
noncomputable def zbn (l:List (Int × Int)) (p:Nat):Nat:=if 2 * p + 2 < l.length/\¬ lt2 (gt2 l (2 * p + 1)) (gt2 l (2 * p + 2)) then 2 * p + 2 else 2 * p + 1
noncomputable def sup:Nat->List (Int × Int)->Nat->List (Int × Int) × Nat
 | 0,l,p=>(l,p)
 | k + 1,l,p=>if 2 * p + 1 < l.length then sup k (l.set p (gt2 l (zbn l p))) (zbn l p) else (l,p)
theorem zfP {l:List (Int × Int)}{p:Nat}(h:2 * p + 1 < l.length):p < zbn l p/\zbn l p < l.length:=by
 unfold zbn;split <;> omega
theorem zoT (a:Int):zaP zlt (.int 2) (.int a)=some (.int (2 * a)):=rfl
theorem zn9 (a:Int) (hp:HP):zac (zaP zlt) hp (.d (.int 2)) (.d (.int a))=some (.d (.int (2 * a)),hp):=by
 dsimp only [zac,onD];rw [zoT];rfl
theorem zb0 {a b:Int}{c:Nat}{hp:HP}(h:a + b=(c:Int)):zac zbg hp (.d (.int a)) (.d (.int b))=some (.d (.int (c:Int)),hp):=by
 refine h▸?_;rfl
theorem zpf {c:St->Option (Bool × HP)}{b:St->Option (Fl × St)}{id s n:Nat}{x:Int × Int}
  (hc:∀ p q c6 hp,c ⟨[oL id,oN p,oN n,oN s,oP x,oN q,c6],hp⟩=some (decide ((q:Int) < (n:Int)),hp))
  (hb:∀ (p:Nat) c6 hp l,hp[id]?=some (some (l.map vp))->l.length=n->2 * p + 1 < n->n<=2 ^ 20->∃ c6',b ⟨[oL id,oN p,oN n,oN s,oP x,oN (2 * p + 1),c6],hp⟩ =
   some (.next,⟨[oL id,oN (zbn l p),oN n,oN s,oP x,oN (2 * zbn l p + 1),c6'],hp.set id (some ((l.set p (gt2 l (zbn l p))).map vp))⟩)) :
  ∀ (k m:Nat) (p:Nat) l c6 hp,hp[id]?=some (some (l.map vp))->l.length=n->p < n->n<=2 ^ 20->n - p < k->n - p<=m->
   ∃ (c6':Option V),zba c b k ⟨[oL id,oN p,oN n,oN s,oP x,oN (2 * p + 1),c6],hp⟩=some (.next,⟨[oL id,oN (sup m l p).2,oN n,oN s,oP x,oN (2 * (sup m l p).2 + 1),c6'],hp.set id (some ((sup m l p).1.map vp))⟩)/\
    (sup m l p).2 < n/\(sup m l p).1.length=n:=by
 intro zz
 induction zz with
 | zero=>
  intro m p l c6 hp h1 h2 h3 h4 h5 h6
  exact absurd h5 (ztA _)
 | succ k ih=>
  intro m p l c6 hp h1 h2 h3 h4 h5 h6
  cases m with
  | zero=>exact absurd h6 (ztv.mpr (ztM h3))
  | succ m=>
  have hid:=zcr h1
  by_cases hs:2 * p + 1 < n
  ·obtain ⟨d6,hb'⟩:=hb p c6 hp l h1 h2 hs h4
   have hq:=zfP (l:=l) (p:=p) (by exact h2▸hs)
   (refine zkD (ih m (zbn l p) (l.set p (gt2 l (zbn l p))) d6 (hp.set id (some ((l.set p (gt2 l (zbn l p))).map vp))) (by exact (zru hid)) (by refine Eq.trans zrK ?_;exact h2) (h2▸hq.2) h4 (zpi h5 hq.1 (h2▸hq.2)) (zph h6 hq.1 (h2▸hq.2))) λc6' e1 e2 e3=>?_)
   have hsup:sup (m + 1) l p=sup m (l.set p (gt2 l (zbn l p))) (zbn l p):=by
    conv=>lhs;unfold sup
    exact (if_pos (by exact h2▸hs))
   refine hsup▸?_
   refine ⟨c6',?_,e2,e3⟩
   refine ze9 (h:=hp) ?_ hb' ?_
   ·rw [hc,decide_eq_true (ilt hs)]
   ·rw [e1,zrX]
  ·have hsup:sup (m + 1) l p=(l,p):=by
    exact (if_neg (h2▸hs))
   refine hsup▸?_
   refine ⟨c6,?_,h3,h2⟩
   rw [zc3 (h:=hp) (by rw [hc,decide_eq_false (zqC hs)]),zcp h1]
theorem znO (k:Nat):∃ c b,zeB k=zau (doM (zaV (zeG) (zaf (zae 0) (zaw))) (zaC 2)) (zau (doM (zae 1) (zaC 3)) (zau (doM (za4 (zae 0) (zae 1)) (zaC 4)) (zau (doM (zat (zac zbg) (zat (zac (zaP zlt)) (zal (.int 2)) (zae 1)) (zal (.int 1))) (zaC 5)) (zau (zba c b k) (zau (doM (zae 4) (zjR (zae 0) (zae 1))) (zau (zbm (zaV (zdb k) (zaf (zae 0) (zaf (zae 3) (zaf (zae 1) (zaw)))))) (zas .next)))))))/\
  (∀ (id n s p q:Nat) x c6 hp,c ⟨[oL id,oN p,oN n,oN s,oP x,oN q,c6],hp⟩=some (decide ((q:Int) < (n:Int)),hp))/\
  (∀ (id n s:Nat) x (p:Nat) c6 hp l,hp[id]?=some (some (l.map vp))->l.length=n->2 * p + 1 < n->n<=2 ^ 20->∃ c6',b ⟨[oL id,oN p,oN n,oN s,oP x,oN (2 * p + 1),c6],hp⟩ =
   some (.next,⟨[oL id,oN (zbn l p),oN n,oN s,oP x,oN (2 * zbn l p + 1),c6'],hp.set id (some ((l.set p (gt2 l (zbn l p))).map vp))⟩)):=by
 refine ⟨_,_,rfl,λid n s p q x c6 hp=>rfl,λid n s x p c6 hp l h1 h2 h3 h4=>⟨oN (2 * p + 2),?_⟩⟩
 have hid:=zcr h1
 refine zam (st1:=⟨[oL id,oN p,oN n,oN s,oP x,oN (2 * p + 1),oN (2 * p + 2)],hp⟩) ?_ ?_
 ·exact zaD (v:=.d (.int ((2 * p + 2:Nat):Int))) (h:=hp) (zag rfl rfl (zb0 (by lia))) rfl
 refine zam (st1:=⟨[oL id,oN p,oN n,oN s,oP x,oN (zbn l p),oN (2 * p + 2)],hp⟩) ?_ ?_
 ·by_cases h:2 * p + 2 < l.length
  ·have hcmp:zat (zac ltD) (za4 (zae 0) (zae 5)) (za4 (zae 0) (zae 6)) ⟨[oL id,oN p,oN n,oN s,oP x,oN (2 * p + 1),oN (2 * p + 2)],hp⟩=some (.d (.bool (decide (lt2 (gt2 l (2 * p + 1)) (gt2 l (2 * p + 2))))),hp):=
    zag (zcU rfl rfl h1 (zfe (i:=2 * p + 1) (by exact zth (by assumption))) (zmb (h2▸zth h) h4)) (zcU rfl rfl h1 (zfe (i:=2 * p + 2) (by omega)) (zmb (h2▸h) h4)) rfl
   have hlt:zay (zat (zac ltD) (zae 6) (zae 2)) ⟨[oL id,oN p,oN n,oN s,oP x,oN (2 * p + 1),oN (2 * p + 2)],hp⟩=some (true,hp):=by
    refine (show true=decide (((2 * p + 2:Nat):Int) < (n:Int)) from (decide_eq_true (ilt (h2▸h))).symm)▸?_;rfl
   by_cases hx:lt2 (gt2 l (2 * p + 1)) (gt2 l (2 * p + 2))
   ·have hpk:zbn l p=2 * p + 1:=by unfold zbn;exact (if_neg (λq=>q.2 hx))
    refine (Eq.symm hpk)▸?_
    rw [decide_eq_true hx] at hcmp
    exact zaF (h:=hp) (zc6 hlt (zfr (zd7 (zaB hcmp)))) rfl
   ·have hpk:zbn l p=2 * p + 2:=by unfold zbn;exact (if_pos ⟨h,hx⟩)
    refine (Eq.symm hpk)▸?_
    rw [decide_eq_false hx] at hcmp
    refine zaZ (h:=hp) (zc6 hlt (zc6 (zd7 (zaB hcmp)) rfl)) ?_
    ·exact zam (zaD (v:=.d (.int ((2 * p + 2:Nat):Int))) (h:=hp) rfl rfl) rfl
  ·have hpk:zbn l p=2 * p + 1:=by unfold zbn;exact (if_neg (λq=>h q.1))
   refine (Eq.symm hpk)▸?_
   have hlt:zay (zat (zac ltD) (zae 6) (zae 2)) ⟨[oL id,oN p,oN n,oN s,oP x,oN (2 * p + 1),oN (2 * p + 2)],hp⟩=some (false,hp):=by
    refine (show false=decide (((2 * p + 2:Nat):Int) < (n:Int)) from (decide_eq_false (zqC (h2▸h))).symm)▸?_;rfl
   exact zaF (h:=hp) (zfr hlt) rfl
 have hq:=zfP (l:=l) (p:=p) (h2.symm▸h3)
 refine zam (st1:=⟨[oL id,oN p,oN n,oN s,oP x,oN (zbn l p),oN (2 * p + 2)],hp.set id (some ((l.set p (gt2 l (zbn l p))).map vp))⟩) ?_ ?_
 ·refine zaD (zcU (h1:=hp) (h2:=hp) rfl rfl h1 (zfe (i:=zbn l p) hq.2) (zmb (h2▸hq.2) h4)) ?_
  rw [zdO (id:=id) (h1:=hp) (h2:=hp) (k:=p) rfl rfl h1 (by simpa using (h2.symm▸zn8 h3:p < l.length)) (zmb (zn8 h3) h4),zcZ]
 refine zam (st1:=⟨[oL id,oN (zbn l p),oN n,oN s,oP x,oN (zbn l p),oN (2 * p + 2)],hp.set id (some ((l.set p (gt2 l (zbn l p))).map vp))⟩) (zaD rfl rfl) ?_
 refine zam (st1:=⟨[oL id,oN (zbn l p),oN n,oN s,oP x,oN (2 * zbn l p + 1),oN (2 * p + 2)],hp.set id (some ((l.set p (gt2 l (zbn l p))).map vp))⟩) ?_ rfl
 refine zaD (v:=.d (.int ((2 * zbn l p + 1:Nat):Int))) ?_ rfl
 exact zag (zag rfl rfl (zn9 _ _)) rfl (zb0 (by rfl))
noncomputable def zjK (l:List (Int × Int)) (p:Nat):List (Int × Int):=
 let r:=sup (l.length + 1) l p
 sdn p (gt2 l p) r.2 (r.1.set r.2 (gt2 l p)) r.2
theorem zoN {hp:HP}{id:Nat}{vs:List V}(h:hp[id]?=some (some vs)) (hl:vs.length<=2 ^ 20):zeG [.l id] hp=some (.d (.int (vs.length:Int)),hp):=by
 dsimp only [zeG,on1,zbl]
 refine h▸?_
 dsimp only
 exact (if_pos (by unfold zbr;exact decide_eq_true hl))
theorem zfd {k id p:Nat}{l:List (Int × Int)}{hp:HP}(h1:hp[id]?=some (some (l.map vp))) (h2:p < l.length) (h3:l.length<=2 ^ 20) (h4:l.length + 1 < k) :
  zdv k [.l id,.d (.int (p:Int))] hp=some (.d .none,hp.set id (some ((zjK l p).map vp))):=by
 have hid:=zcr h1
 refine zcG (znO k) λc b e hc hb=>?_
 obtain ⟨c6',e1,e2,e3⟩:=zpf (c:=c) (b:=b) (id:=id) (s:=p) (n:=l.length) (x:=gt2 l p) (λq r c6 hp=>hc id _ p q r _ c6 hp) (λq c6 hp l'=>hb id _ p _ q c6 hp l') k (l.length + 1) p l none hp h1 rfl h2 h3 (zrt (ztu _ _) (zth h4)) (zrn (ztu _ _) (zsl _))
 have hget:gt2 ((sup (l.length + 1) l p).1.set (sup (l.length + 1) l p).2 (gt2 l p)) (sup (l.length + 1) l p).2=gt2 l p:=by
  conv=>lhs;unfold gt2
  rw [zrM,zru (by exact e3.symm▸e2)];rfl
 have hsd:=zgC (k:=k) (id:=id) (s:=p) (p:=(sup (l.length + 1) l p).2) (l:=(sup (l.length + 1) l p).1.set (sup (l.length + 1) l p).2 (gt2 l p)) (hp:=hp.set id (some (((sup (l.length + 1) l p).1.set (sup (l.length + 1) l p).2 (gt2 l p)).map vp)))
  (by exact (zru hid)) (by rw [zrK];exact e3.symm▸e2) (by rw [zrK];exact e3.symm▸h3) (zrZ e2 (zth h4))
 rw [hget,zrX] at hsd
 have key:zeB k ⟨[oL id,oN p,none,none,none,none,none],hp⟩=some (.next,⟨[oL id,oN (sup (l.length + 1) l p).2,oN l.length,oN p,oP (gt2 l p),oN (2 * (sup (l.length + 1) l p).2 + 1),c6'],hp.set id (some ((zjK l p).map vp))⟩):=by
  rw [e]
  refine zam (st1:=⟨[oL id,oN p,oN l.length,none,none,none,none],hp⟩) ?_ ?_
  ·refine zaD (v:=.d (.int (l.length:Int))) (h:=hp) (zaE (vs:=[.l id]) (h:=hp) rfl ?_) rfl
   rw [zoN h1 (by simpa using h3),zrN]
  refine zam (st1:=⟨[oL id,oN p,oN l.length,oN p,none,none,none],hp⟩) (zaD rfl rfl) ?_
  refine zam (st1:=⟨[oL id,oN p,oN l.length,oN p,oP (gt2 l p),none,none],hp⟩) (zaD (zcU (h1:=hp) (h2:=hp) rfl rfl h1 (zfe h2) (zmb h2 h3)) rfl) ?_
  refine zam (st1:=⟨[oL id,oN p,oN l.length,oN p,oP (gt2 l p),oN (2 * p + 1),none],hp⟩) ?_ (zam e1 ?_)
  ·refine zaD (v:=.d (.int ((2 * p + 1:Nat):Int))) ?_ rfl
   exact zag (zag rfl rfl (zn9 _ _)) rfl (zb0 rfl)
  refine zam (st1:=⟨[oL id,oN (sup (l.length + 1) l p).2,oN l.length,oN p,oP (gt2 l p),oN (2 * (sup (l.length + 1) l p).2 + 1),c6'],hp.set id (some (((sup (l.length + 1) l p).1.set (sup (l.length + 1) l p).2 (gt2 l p)).map vp))⟩) ?_ ?_
  ·refine zaD (v:=vp (gt2 l p)) rfl ?_
   rw [zdO (id:=id) (k:=(sup (l.length + 1) l p).2) rfl rfl (zru hid) (by simpa using (e3.symm▸e2:(sup (l.length + 1) l p).2 < (sup (l.length + 1) l p).1.length)) (zmb e2 h3),zcZ,zrX]
  ·exact zam (zbh (zaE rfl hsd)) rfl
 have fin:=zgb (np:=2) (total:=7) (m:=zeB k) (args:=[.l id,.d (.int (p:Int))]) (hp:=hp) rfl key (zf1 ⟨_,h1⟩ trivial)
 rw [zeD] at fin
 exact fin
theorem zo6 (s:Nat) (x:Int × Int):∀ (k:Nat) l p,(sdn s x k l p).length=l.length:=by
 intro zz
 induction zz with
 | zero=>
  intro l p
  unfold sdn;exact zrK
 | succ k ih=>
  intro l p
  unfold sdn
  split
  ·rw [ih];exact zrK
  ·exact zrK
theorem zmy:∀ (k:Nat) l p,(sup k l p).1.length=l.length:=by
 intro zz
 induction zz with
 | zero=>
  intro l p
  exact rfl
 | succ k ih=>
  intro l p
  unfold sup
  split
  ·rw [ih];exact zrK
  ·rfl
theorem zeC (l:List (Int × Int)) (p:Nat):(zjK l p).length=l.length:=by
 unfold zjK
 rw [zo6,zrK,zmy]
noncomputable def hpf:Nat->List (Int × Int)->List (Int × Int)
 | 0,l=>l
 | i + 1,l=>hpf i (zjK l i)
theorem zqA:∀ (i:Nat) l,(hpf i l).length=l.length:=by
 intro zz
 induction zz with
 | zero=>
  intro l
  exact rfl
 | succ i ih=>
  intro l
  unfold hpf;rw [ih,zeC]
theorem zjE (j:Nat):zbx (((j + 1:Nat):Int) - 1) (-1) (j + 1)=.d (.int (j:Int))::zbx ((j:Int) - 1) (-1) j:=by
 unfold zbx
 refine (Eq.symm ztf)▸(Eq.symm zsm)▸(Eq.symm zrW)▸?_
 have e0:((j + 1:Nat):Int) - 1 + ((0:Nat):Int) * -1=(j:Int):=by simp
 refine (Eq.symm e0)▸?_
 congr 1
 apply zsq
 intro i _
 show V.d (.int _)=V.d (.int _)
 exact (Eq.symm (show ((j + 1:Nat):Int) - 1 + ((i + 1:Nat):Int) * -1=(j:Int) - 1 + (i:Int) * -1 by lia))▸rfl
theorem zoF {id:Nat}{k:Nat}{b:St->Option (Fl × St)}{c1:Option V}
  (hb:∀ (i:Nat) l hp,hp[id]?=some (some (l.map vp))->i < l.length->l.length<=2 ^ 20->l.length + 1 < k->b ⟨[oL id,c1,oN i],hp⟩=some (.next,⟨[oL id,c1,oN i],hp.set id (some ((zjK l i).map vp))⟩)) :
  ∀ (j:Nat) (l:List (Int × Int)) c2 hp,hp[id]?=some (some (l.map vp))->j<=l.length->l.length<=2 ^ 20->l.length + 1 < k->
   ∃ c2',forL (zaC 2) b (zbx ((j:Int) - 1) (-1) j) ⟨[oL id,c1,c2],hp⟩=some (.next,⟨[oL id,c1,c2'],hp.set id (some ((hpf j l).map vp))⟩):=by
 intro zz
 induction zz with
 | zero=>
  intro l c2 hp h1 h2 h3 h4
  exact ⟨c2,by
   show some (Fl.next,(⟨[oL id,c1,c2],hp⟩:St))=_
   unfold hpf
   rw [zcp h1]⟩
 | succ j ih=>
  intro l c2 hp h1 h2 h3 h4
  have hid:=zcr h1
  obtain ⟨c2',e⟩:=ih (zjK l j) (oN j) (hp.set id (some ((zjK l j).map vp))) (by rw [zru hid]) (by rw [zeC];exact (zrn (by lia) h2)) (by rw [zeC];omega) (by rw [zeC];omega)
  refine ⟨c2',?_⟩
  rw [zjE]
  refine zb2 (st1:=⟨[oL id,c1,oN j],hp⟩) (zo8 rfl rfl) (hb j l hp h1 (by assumption) h3 h4) ?_
  rw [e,zrX]
  rfl
theorem zne {n:Nat}(hp:HP):zac (zaP zed) hp (.d (.int (n:Int))) (.d (.int 2))=some (.d (.int ((n / 2:Nat):Int)),hp):=by
 have h:zaP zed (.int (n:Int)) (.int 2)=some (.int ((n:Int).fdiv 2)):=rfl
 dsimp only [zac,onD]
 rw [h,zsY _ (by exact zrB _)]
 rfl
theorem znh (k:Nat):∃ b,zdL k=zau (doM (zaV (zeG) (zaf (zae 0) (zaw))) (zaC 1)) (zau (zfJ (zp6 (zaf (zat (zac (zaP zed)) (zae 1) (zal (.int 2))) (zaw))) (zaC 2) b) (zas .next))/\
  (∀ id c1 (i:Nat) l hp,hp[id]?=some (some (l.map vp))->i < l.length->l.length<=2 ^ 20->l.length + 1 < k->b ⟨[oL id,c1,oN i],hp⟩=some (.next,⟨[oL id,c1,oN i],hp.set id (some ((zjK l i).map vp))⟩)):=by
 refine ⟨_,rfl,λid c1 i l hp h1 h2 h3 h4=>?_⟩
 exact zam (zbh (zaE rfl (zfd h1 h2 h3 h4))) rfl
theorem zhF {k id:Nat}{l:List (Int × Int)}{hp:HP}(h1:hp[id]?=some (some (l.map vp))) (h3:l.length<=2 ^ 20) (h4:l.length + 1 < k) :
  zdJ k [.l id] hp=some (.d .none,hp.set id (some ((hpf (l.length / 2) l).map vp))):=by
 refine Eea (znh k) λb e hb=>?_
 obtain ⟨c2',e1⟩:=zoF (id:=id) (k:=k) (b:=b) (c1:=oN l.length) (λi l hp=>hb id _ i l hp) (l.length / 2) l none hp h1 (by lia) h3 h4
 have key:zdL k ⟨[oL id,none,none],hp⟩=some (.next,⟨[oL id,oN l.length,c2'],hp.set id (some ((hpf (l.length / 2) l).map vp))⟩):=by
  rw [e]
  refine zam (st1:=⟨[oL id,oN l.length,none],hp⟩) ?_ ?_
  ·refine zaD (v:=.d (.int (l.length:Int))) (h:=hp) (zaE (vs:=[.l id]) (h:=hp) rfl ?_) rfl
   rw [zoN h1 (by simpa using h3),zrN]
  refine zam ?_ rfl
  have hr:zp6 (zaf (zat (zac (zaP zed)) (zae 1) (zal (.int 2))) (zaw)) ⟨[oL id,oN l.length,none],hp⟩=some (zbx (((l.length / 2:Nat):Int) - 1) (-1) (l.length / 2),hp):=by
   have h5:zaf (zat (zac (zaP zed)) (zae 1) (zal (.int 2))) (zaw) ⟨[oL id,oN l.length,none],hp⟩=some ([.d (.int ((l.length / 2:Nat):Int))],hp):=zaj (zag rfl rfl (zne hp)) rfl
   unfold zp6
   refine h5▸?_
   refine Eq.trans (if_pos (by unfold zcF;simp only [zrA,decide_eq_true_eq];exact ⟨zrO (by decide) (zrB _),zsM.mpr (zrn (ztw _ _) (zrn h3 (by decide)))⟩)) ?_
   rfl
  unfold zfJ
  refine hr▸?_
  exact e1
 have fin:=zgb (np:=1) (total:=3) (m:=zdL k) (args:=[.l id]) (hp:=hp) rfl key (zf1 ⟨_,h1⟩ trivial)
 rw [zeD] at fin
 exact fin
noncomputable def zfi (l:List (Int × Int)) (z:Int × Int):Int × Int:=if l=[] then z else gt2 l 0
noncomputable def zkn (l:List (Int × Int)) (z:Int × Int):List (Int × Int):=if l=[] then [] else zjK (l.set 0 z) 0
theorem zqJ {hp:HP}{id:Nat}{l:List (Int × Int)}{z:Int × Int}(h:hp[id]?=some (some ((l++[z]).map vp))) (hl:l.length < 2 ^ 20):zp2 [.l id] hp=some (vp z,hp.set id (some (l.map vp))):=by
 dsimp only [zp2,on1,onR]
 refine h▸?_
 dsimp only [bO]
 rw [if_pos (by unfold zbr;exact decide_eq_true (by simp;exact zsb (by assumption))),zrR]
 simp
theorem zmF {hp:HP}{id:Nat}{vs:List V}(h:hp[id]?=some (some vs)) (hl:vs.length<=2 ^ 20):zfo hp (.l id)=some (!vs.isEmpty):=by
 unfold zfo zbl
 dsimp only
 refine h▸?_
 exact (if_pos (by unfold zbr;exact decide_eq_true hl))
theorem zcL {hp:HP}{id:Nat}{vs:List V}(h:hp[id]?=some (some vs)):zeF hp (.l id)=true:=by
 unfold zeF isL zbl
 dsimp only
 refine h▸?_
 rfl
theorem zhG {k id:Nat}{l:List (Int × Int)}{z:Int × Int}{hp:HP}(h1:hp[id]?=some (some ((l++[z]).map vp))) (h3:l.length < 2 ^ 20) (h4:l.length + 1 < k) :
  zeS k [.l id] hp=some (vp (zfi l z),hp.set id (some ((zkn l z).map vp))):=by
 have hid:=zcr h1
 have h2:(hp.set id (some (l.map vp)))[id]?=some (some (l.map vp)):=zru hid
 have hpop:doM (zbz zeF zp2 (zae 0) zaw) (zaC 1) ⟨[oL id,none,none],hp⟩=some (.next,⟨[oL id,oP z,none],hp.set id (some (l.map vp))⟩):=
  zaD (zbk (v:=.l id) (h:=hp) rfl (zcL h1) rfl (zqJ h1 h3)) rfl
 by_cases hl:l=[]
 ·subst hl
  have key:zc0 k ⟨[oL id,none,none],hp⟩=some (.ret (vp z),⟨[oL id,oP z,none],hp.set id (some (([]:List (Int × Int)).map vp))⟩):=by
   refine zam hpop ?_
   refine zam (zaF (h:=hp.set id (some (([]:List (Int × Int)).map vp))) (zdH (v:=.l id) rfl (by refine Eq.trans (zmF h2 (by exact zr2 _)) ?_;rfl)) rfl) ?_
   exact zbA rfl
  have fin:=zhH (np:=1) (total:=3) (m:=zc0 k) (args:=[.l id]) (hp:=hp) rfl key (zf1 ⟨_,h1⟩ trivial)
  rw [zeD] at fin
  exact fin
 ·have hpos:0 < l.length:=zsh.mpr hl
  have key:zc0 k ⟨[oL id,none,none],hp⟩=some (.ret (vp (gt2 l 0)),⟨[oL id,oP z,oP (gt2 l 0)],hp.set id (some ((zjK (l.set 0 z) 0).map vp))⟩):=by
   refine zam hpop ?_
   have ht:zbf (zae 0) ⟨[oL id,oP z,none],hp.set id (some (l.map vp))⟩=some (true,hp.set id (some (l.map vp))):=by
    refine zdH (v:=.l id) rfl ?_
    refine Eq.trans (zmF h2 (by simp;exact zrP (by assumption))) ?_
    cases l with
    | nil=>exact absurd rfl hl
    | cons a r=>rfl
   have hs:=zfd (k:=k) (id:=id) (p:=0) (l:=l.set 0 z) (hp:=hp.set id (some ((l.set 0 z).map vp))) (zru hid) (by simpa using hpos) (by simp;exact zrP (by assumption)) (by simpa using h4)
   rw [zrX] at hs
   have hbr:zbC (zbf (zae 0)) (zau (doM (za4 (zae 0) (zal (.int 0))) (zaC 2)) (zau (doM (zae 1) (zjR (zae 0) (zal (.int 0)))) (zau (zbm (zaV (zdv k) (zaf (zae 0) (zaf (zal (.int 0)) (zaw))))) (zau (zdC (zae 2)) (zas .next))))) (zas .next) ⟨[oL id,oP z,none],hp.set id (some (l.map vp))⟩=some (.ret (vp (gt2 l 0)),⟨[oL id,oP z,oP (gt2 l 0)],hp.set id (some ((zjK (l.set 0 z) 0).map vp))⟩):=by
    refine zaZ ht ?_
    refine zam (st1:=⟨[oL id,oP z,oP (gt2 l 0)],hp.set id (some (l.map vp))⟩) (zaD (zcU (i:=0) (id:=id) rfl rfl h2 (zfe hpos) (by decide)) rfl) ?_
    refine zam (st1:=⟨[oL id,oP z,oP (gt2 l 0)],hp.set id (some ((l.set 0 z).map vp))⟩) ?_ ?_
    ·refine zaD (v:=vp z) rfl ((zdO (id:=id) (k:=0) rfl rfl h2 (by simpa using hpos) (by decide)).trans ?_)
     rw [zcZ,zrX]
    refine zam (zbh (zaE rfl hs)) ?_
    exact zbA rfl
   exact zgo hbr
  have fin:=zhH (np:=1) (total:=3) (m:=zc0 k) (args:=[.l id]) (hp:=hp) rfl key (zf1 ⟨_,h1⟩ trivial)
  rw [zeD] at fin
  unfold zfi zkn
  refine (if_neg hl)▸(if_neg hl)▸?_
  exact fin
end Mine
namespace Mine
noncomputable abbrev le2 (a b:Int × Int):Prop:=¬ lt2 b a
theorem ziF {a b c:Int × Int}(h:lt2 a b) (k:lt2 b c):lt2 a c:=
 h.elim (λp=>.inl (k.elim (λq=>zsu p q) λq=>q.1▸p)) λp=>k.elim (λq=>.inl (p.1.symm▸q)) λq=>.inr ⟨p.1.trans q.1,zsu p.2 q.2⟩
theorem zet (a:Int × Int):le2 a a:=λh=>h.elim (zuP _) λh=>zuP _ h.2
theorem zki {a b:Int × Int}(h:lt2 a b):le2 a b:=λk=>zet a (ziF h k)
theorem zge {a b:Int × Int}(h:le2 a b):lt2 a b\/a=b:=
 (ztR a.1 b.1).elim (λq=>.inl (.inl q)) λq=>q.elim (λe=>(ztR a.2 b.2).elim (λq=>.inl (.inr ⟨e,q⟩)) λq=>q.elim (λe'=>.inr (Prod.ext e e')) λq=>absurd (.inr ⟨e.symm,q⟩) h) λq=>absurd (.inl q) h
theorem zgf {a b c:Int × Int}(h1:le2 a b) (h2:le2 b c):le2 a c:=
 (zge h1).elim (λp=>(zge h2).elim (λq=>zki (ziF p q)) λq=>q▸h1) λp=>p▸h2
theorem zcQ {l:List (Int × Int)}{p i:Nat}{v:Int × Int}(hp:p < l.length):gt2 (l.set p v) i=if p=i then v else gt2 l i:=by
 unfold gt2
 refine (Eq.symm zrM)▸(Eq.symm zrM)▸(Eq.symm List.getElem?_set)▸?_
 split
 ·rename_i h;subst h;dsimp
 ·rfl
theorem ziA {l:List (Int × Int)}{p i:Nat}{v:Int × Int}(h:p≠i):gt2 (l.set p v) i=gt2 l i:=by
 unfold gt2
 exact (Eq.symm zrM)▸(Eq.symm zrM)▸(Eq.symm (zrT h))▸rfl
theorem znd {l:List (Int × Int)}{p:Nat}{v:Int × Int}(h:p < l.length):gt2 (l.set p v) p=v:=by (refine Eq.trans (zcQ h) ?_;exact (if_pos rfl))
theorem zgc {l:List (Int × Int)}{i:Nat}(h:i < l.length):gt2 l i=l[i]:=by
 unfold gt2;refine zrM▸(zrG h)▸?_;rfl
theorem ziT {l:List (Int × Int)}{p q:Nat}{x:Int × Int}(hp:p < l.length) (hq:q < l.length) (h:p≠q):((l.set p (gt2 l q)).set q x).Perm (l.set p x):=by
 have:=List.set_set_perm (as:=l.set p x) (i:=p) (j:=q) (by simpa using hp) (by simpa using hq)
 rw [List.getElem_set_self,List.getElem_set_ne h,zrX] at this
 refine (zgc hq)▸?_
 exact this
inductive Desc (s:Nat):Nat->Prop
 | here:Desc s s
 | left {p:Nat}:Desc s p->Desc s (2 * p + 1)
 | right {p:Nat}:Desc s p->Desc s (2 * p + 2)
theorem Desc.up {s p:Nat}(h:Desc s p):s<=p/\(s < p->Desc s ((p - 1) / 2)/\s<=(p - 1) / 2):=by
 induction h with
 | here=>exact ⟨zrv _,λh=>absurd h (ztt _)⟩
 | @left p h ih=>
  have e:(2 * p + 1 - 1) / 2=p:=by simp
  exact ⟨by exact (zrn ih.1 (by lia)),λZ=>by refine (Eq.symm e)▸?_;exact ⟨h,ih.1⟩⟩
 | @right p h ih=>
  have e:(2 * p + 2 - 1) / 2=p:=zml (.inr rfl)
  exact ⟨by exact (zrn ih.1 (by lia)),λZ=>by refine (Eq.symm e)▸?_;exact ⟨h,ih.1⟩⟩
noncomputable def zbR (s:Nat) (l:List (Int × Int)):Prop:=∀ i,0 < i->i < l.length->s<=(i - 1) / 2->le2 (gt2 l ((i - 1) / 2)) (gt2 l i)
structure Hole (s:Nat) (l:List (Int × Int)) (p:Nat):Prop where
 edge:∀ i,0 < i->i < l.length->s<=(i - 1) / 2->i≠p->(i - 1) / 2≠p->le2 (gt2 l ((i - 1) / 2)) (gt2 l i)
 over:∀ i,0 < i->i < l.length->(i - 1) / 2=p->s < p->le2 (gt2 l ((p - 1) / 2)) (gt2 l i)
theorem znH (s:Nat) (x:Int × Int):∀ (k:Nat) l p,p < l.length->(sdn s x k l p).Perm (l.set p x):=by
 intro zz
 induction zz with
 | zero=>
  intro l p h
  exact .refl _
 | succ k ih=>
  intro l p h
  unfold sdn
  split
  ·rename_i hc
   refine (ih _ _ (by rw [zrK];exact zrZ (zev hc.1) h)).trans (ziT h (zrZ (zev hc.1) h) (zrV (zev hc.1)))
  ·exact .refl _
theorem zks (s:Nat) (x:Int × Int):∀ (k:Nat) l p,p<=k->p < l.length->Desc s p->Hole s l p->(∀ i,0 < i->i < l.length->(i - 1) / 2=p->le2 x (gt2 l i))->zbR s (sdn s x k l p)
 | k,l,p,hk,hp,hd,hh,hx=>by
  have done:(s < p->le2 (gt2 l ((p - 1) / 2)) x)->zbR s (l.set p x):=λhle i h1 h2 h3=>by
   rw [zrK] at h2
   rw [zcQ hp,zcQ hp]
   by_cases e1:p=i
   ·subst e1
    have:p≠(p - 1) / 2:=zrV (ze3 h1)
    refine (if_neg this)▸(if_pos rfl)▸?_
    exact hle (zrt h3 (ze3 h1))
   ·rw [if_neg e1]
    by_cases e2:p=(i - 1) / 2
    ·rw [if_pos e2];exact hx i h1 h2 e2.symm
    ·rw [if_neg e2];exact hh.edge i h1 h2 h3 (Ne.symm e1) (Ne.symm e2)
  cases k with
  | zero=>
   have:p=0:=(ztx (fk hk (by lia)) (by lia))
   exact done λh=>absurd h (zsQ.mpr (zrn hk (zr2 _)))
  | succ k=>
   unfold sdn
   split
   ·rename_i hc
    (refine Ea hc ?_;clear hc;intro hsp hlt)
    obtain ⟨hd1,hd2⟩:=hd.up.2 hsp
    have hq:(p - 1) / 2 < p:=zev hsp
    refine zks s x k _ _ (by exact zsb (zry hq hk)) (by simp;exact zrZ hq hp) hd1 ⟨λi h1 h2 h3 h4 h5=>?_,λi h1 h2 h3 h4=>?_⟩ λi h1 h2 h3=>?_
    ·rw [zrK] at h2
     have e1:p≠i:=λe=>h5 (by exact e▸rfl)
     refine (Eq.symm (zcQ hp))▸(Eq.symm (zcQ hp))▸(Eq.symm (if_neg e1))▸?_
     by_cases e2:p=(i - 1) / 2
     ·rw [if_pos e2];exact hh.over i h1 h2 e2.symm hsp
     ·rw [if_neg e2];exact hh.edge i h1 h2 h3 (Ne.symm e1) (Ne.symm e2)
    ·rw [zrK] at h2
     have e3:p≠((p - 1) / 2 - 1) / 2:=zrV (zrZ (zev h4) hq)
     refine (Eq.symm (zcQ hp))▸(Eq.symm (zcQ hp))▸(Eq.symm (if_neg e3))▸?_
     have hup:le2 (gt2 l (((p - 1) / 2 - 1) / 2)) (gt2 l ((p - 1) / 2)):=hh.edge ((p - 1) / 2) (by exact zrt (zr2 _) h4) (zrZ hq hp) ((hd1.up.2 h4).2) (by exact zr5 (by assumption)) (by lia)
     by_cases e1:p=i
     ·rw [if_pos e1];exact hup
     ·rw [if_neg e1]
      refine zgf hup ?_
      have:=hh.edge i h1 h2 (by exact h3▸hd2) (Ne.symm e1) (h3▸zr5 hq)
      rw [h3] at this;exact this
    ·rw [zrK] at h2
     rw [zcQ hp]
     by_cases e1:p=i
     ·rw [if_pos e1];exact zki hlt
     ·rw [if_neg e1]
      have:=hh.edge i h1 h2 (by exact h3▸hd2) (Ne.symm e1) (h3▸zr5 hq)
      rw [h3] at this
      exact zgf (zki hlt) this
   ·rename_i hc
    exact done λh=>by
     exact λq=>hc ⟨h,q⟩
theorem znR (x:Int × Int):∀ (k:Nat) l p,p < l.length->((sup k l p).1.set (sup k l p).2 x).Perm (l.set p x):=by
 intro zz
 induction zz with
 | zero=>
  intro l p h
  exact .refl _
 | succ k ih=>
  intro l p h
  unfold sup
  split
  ·rename_i hc
   have hq:=zfP hc
   exact (ih _ _ (by simpa using hq.2)).trans (ziT h hq.2 (zr5 hq.1))
  ·exact .refl _
theorem znQ (s:Nat):∀ (k:Nat) l p,p < l.length->l.length - p<=k->Desc s p->Hole s l p->
  Hole s (sup k l p).1 (sup k l p).2/\Desc s (sup k l p).2/\(sup k l p).2 < l.length/\¬ 2 * (sup k l p).2 + 1 < l.length:=by
 intro zz
 induction zz with
 | zero=>
  intro l p h hk _ _
  omega
 | succ k ih=>
  intro l p h hk hd hh
  unfold sup
  split
  ·rename_i hc
   have hq:=zfP hc
   have hpk:zbn l p=2 * p + 1\/zbn l p=2 * p + 2:=by unfold zbn;split <;> simp
   have hmin:∀ i,0 < i->i < l.length->(i - 1) / 2=p->le2 (gt2 l (zbn l p)) (gt2 l i):=λi h1 h2 h3=>by
    have hi:i=2 * p + 1\/i=2 * p + 2:=zl6 h1 h3
    unfold zbn
    split
    ·rename_i hc2
     rcases hi with rfl | rfl
     ·exact hc2.2
     ·exact zet _
    ·rename_i hc2
     rcases hi with rfl | rfl
     ·exact zet _
     ·refine zki ?_
      by_cases q:lt2 (gt2 l (2 * p + 1)) (gt2 l (2 * p + 2))
      ·exact q
      ·exact absurd ⟨h2,q⟩ hc2
   have hd':Desc s (zbn l p):=by
    rcases hpk with e | e
    ·rw [e];exact .left hd
    ·rw [e];exact .right hd
   have hpp:(zbn l p - 1) / 2=p:=zml hpk
   have hlen:(l.set p (gt2 l (zbn l p))).length=l.length:=by exact zrK
   suffices hH:Hole s (l.set p (gt2 l (zbn l p))) (zbn l p) by
    (refine zi6 (ih (l.set p (gt2 l (zbn l p))) (zbn l p) (by rw [hlen];exact hq.2) (by refine hlen▸?_;exact zsb (zry (zs8 (zrZ hq.1 hq.2) hq.1) hk)) hd' hH) λr1 r2 r3 r4=>?_)
    rw [hlen] at r3 r4
    exact ⟨r1,r2,r3,r4⟩
   refine ⟨λi h1 h2 h3 h4 h5=>?_,λi h1 h2 h3 h4=>?_⟩
   ·rw [hlen] at h2
    rw [zcQ h,zcQ h]
    by_cases e1:p=i
    ·rw [if_pos e1,if_neg (λh=>zr5 (ze3 (e1▸h1)) (h.symm.trans e1))]
     rw [<- e1] at h1 h3 ⊢
     exact hh.over _ (zoc hq.1) hq.2 hpp (zrt h3 (ze3 h1))
    ·rw [if_neg e1]
     by_cases e2:p=(i - 1) / 2
     ·rw [if_pos e2];exact hmin i h1 h2 e2.symm
     ·rw [if_neg e2];exact hh.edge i h1 h2 h3 (Ne.symm e1) (Ne.symm e2)
   ·rw [hlen] at h2
    have hsp:=hd.up.1
    refine (Eq.symm hpp)▸(Eq.symm (znd h))▸(Eq.symm (ziA (zr5 (zrZ hq.1 (h3▸ze3 h1)))))▸?_
    have:=hh.edge i h1 h2 (h3▸zrP h4) (zrV (zrZ hq.1 (h3▸ze3 h1))) (h3▸zrV hq.1)
    rw [h3] at this;exact this
  ·rename_i hc
   exact ⟨hh,hd,h,hc⟩
theorem Hole.set {s:Nat}{l:List (Int × Int)}{p:Nat}{x:Int × Int}(h:Hole s l p):Hole s (l.set p x) p:=by
 refine ⟨λi h1 h2 h3 h4 h5=>?_,λi h1 h2 h3 h4=>?_⟩
 ·rw [zrK] at h2
  rw [ziA (Ne.symm h5),ziA (Ne.symm h4)];exact h.edge i h1 h2 h3 h4 h5
 ·rw [zrK] at h2
  rw [ziA (zrV (zev h4)),ziA (h3▸zr5 (ze3 h1))];exact h.over i h1 h2 h3 h4
theorem zmr {l:List (Int × Int)}{p:Nat}(hp:p < l.length) (h:zbR (p + 1) l):zbR p (zjK l p)/\(zjK l p).Perm l:=by
 have h0:Hole p l p:=⟨λi h1 h2 h3 h4 h5=>h i h1 h2 (Nat.lt_of_le_of_ne h3 (Ne.symm h5)),λi h1 h2 h3 h4=>absurd h4 (ztt _)⟩
 refine zi6 (znQ p (l.length + 1) l p hp (zrn (ztu _ _) (zsl _)) .here h0) λr1 r2 r3 r4=>?_
 have hlen:(sup (l.length + 1) l p).1.length=l.length:=zmy _ _ _
 refine ⟨zks _ _ _ _ _ (zrv _) (by rw [zrK,hlen];exact r3) r2 r1.set λi h1 h2 h3=>?_,?_⟩
 ·rw [zrK,hlen] at h2
  exact absurd (zrt (zpS h1 h3) h2) r4
 ·refine (znH _ _ _ _ _ (by rw [zrK,hlen];exact r3)).trans ?_
  rw [zrX]
  refine (znR _ _ _ _ hp).trans ?_
  rw [zgc hp,List.set_getElem_self]
theorem zpO:∀ (i:Nat) l,i<=l.length->zbR i l->zbR 0 (hpf i l)/\(hpf i l).Perm l:=by
 intro zz
 induction zz with
 | zero=>
  intro l _ h
  exact ⟨h,.refl _⟩
 | succ i ih=>
  intro l hi h
  obtain ⟨a,b⟩:=zmr (by exact hi) h
  obtain ⟨c,d⟩:=ih (zjK l i) (by rw [zeC];exact zrP hi) a
  exact ⟨c,d.trans b⟩
theorem zkX (l:List (Int × Int)):zbR 0 (hpf (l.length / 2) l)/\(hpf (l.length / 2) l).Perm l:=
 zpO _ _ (ztw _ _) λi h1 h2 h3=>(zng h1 h2 h3).elim
theorem zkq {l:List (Int × Int)}(h:zbR 0 l):∀ i,i < l.length->le2 (gt2 l 0) (gt2 l i):=by
 intro i
 induction i using Nat.strongRecOn with
 | _ i ih=>
  intro hi
  by_cases h0:i=0
  ·subst h0;exact zet _
  ·exact zgf (ih ((i - 1) / 2) (ze3 (zsS h0)) (zrZ (ze3 (zsS h0)) hi)) (h i (zsS h0) hi (zr2 _))
theorem zp3 {l:List (Int × Int)}{z:Int × Int}(h:zbR 0 (l++[z])):(∀ y ∈ l++[z],le2 (zfi l z) y)/\(zfi l z::zkn l z).Perm (l++[z])/\zbR 0 (zkn l z)/\zfi l z=gt2 (l++[z]) 0:=by
 have hv:zfi l z=gt2 (l++[z]) 0:=by
  cases l with
  | nil=>rfl
  | cons a r=>rfl
 refine ⟨λy hy=>?_,?_,?_,hv⟩
 ·obtain ⟨i,hi,rfl⟩:=zuc.mp hy
  refine hv▸(zgc hi)▸?_
  exact zkq h i hi
 all_goals
  cases l with
  | nil=>first
   | exact .refl _
   | exact λi h1 h2 Z=>by simp [zkn] at h2
  | cons a r=>
   have hset:(a::r).set 0 z=z::r:=rfl
   have h1:zbR 1 (z::r):=λi g1 g2 g3=>by
    have:=h i g1 (by simp at g2 ⊢;exact zsi (by assumption)) (zr2 _)
    have e:∀ j,0 < j->j < (z::r).length->gt2 ((a::r)++[z]) j=gt2 (z::r) j:=λj j1 j2=>by
     unfold gt2
     refine (Eq.symm zrM)▸(Eq.symm zrM)▸?_
     cases j with
     | zero=>contradiction
     | succ j=>
      simp at j2
      exact (zrC j2)▸rfl
    rw [e _ (by assumption) (zrZ (ze3 g1) g2),e _ g1 g2] at this
    exact this
   obtain ⟨s1,s2⟩:=zmr (l:=z::r) (p:=0) (by exact zrw _) h1
   unfold zkn
   rw [if_neg (by simp),hset]
   first
    | exact s1
    | (refine (List.Perm.cons _ s2).trans ?_;refine hv▸?_;show (a::z::r).Perm (a::(r++[z]));exact .cons _ (List.perm_append_comm (l₁:=[z])))
end Mine
namespace Mine
open PySem PySem.W PySem.Spec PySem.Calls PyProof.Rows
noncomputable def swp (d last:Int):List (Int × Int)->List (Int × Int)
 | []=>[]
 | e::r=>if r=[]\/e.1 < (r.headD (0,0)).1 then (if d + e.2≠last then (e.1,d + e.2)::swp (d + e.2) (d + e.2) r else swp (d + e.2) (d + e.2) r) else swp (d + e.2) last r
theorem zfV (l:List (Int × Int)):zhs (l.map vp)=some (l.map pv2):=by
 have:=zcJ (l.map pv2)
 rw [zrW] at this
 exact this
theorem zgQ (l:List (Int × Int)):PyData.canLayAll0 (l.map pv2)=true:=by
 induction l with
 | nil=>rfl
 | cons a r ih=>refine (congrArg _ zsm).trans ?_;unfold PyData.canLayAll0;refine (congrArg _ ih).trans ?_;rfl
theorem zim (l:List (Int × Int)):PyData.depthAll (l.map pv2)<=1:=by
 induction l with
 | nil=>exact zr2 _
 | cons a r ih=>
  rw [zsm];unfold PyData.depthAll
  have:(pv2 a).depth=1:=rfl
  exact zu1.mpr ⟨zss this,ih⟩
theorem zjJ (l:List (Int × Int)):shp (.list (l.map pv2))=true:=by
 unfold shp SeqAt.shaped PyData.canLay0 PyData.depth
 rw [zgQ,decide_eq_true (by have:=zim l;exact zrt this (zN rfl))];rfl
theorem zlL {hp:HP}{a:V}{xs:List PyData}{neg:Bool}(h:zdr hp a=some (.list xs)) (hs:shp (.list xs)=true):za6 neg hp a (.d (.list []))=some (.d (.bool (if neg then !xs.isEmpty else xs.isEmpty)),hp):=by
 unfold za6
 refine h▸?_
 dsimp only [zdr]
 refine (Eq.symm hs)▸(Eq.symm (show shp (.list [])=true from rfl))▸?_
 have:PyData.eqv (.list xs) (.list [])=xs.isEmpty:=by
  cases xs with
  | nil=>assumption
  | cons a r=>dsimp [PyData.eqv,PyData.eqvAll]
 refine (Eq.symm this)▸?_;rfl
theorem znW {hp:HP}{id:Nat}{l:List (Int × Int)}(h:hp[id]?=some (some (l.map vp))):zdr hp (.l id)=some (.list (l.map pv2)):=by
 unfold zdr
 dsimp only
 refine h▸?_
 dsimp only
 rw [zfV];rfl
theorem zmP {hp:HP}{id:Nat}{old:List V}{v:V}(h:hp[id]?=some (some old)) (hl:old.length<=2 ^ 20):zeh [.l id,v] hp=some (.d .none,hp.set id (some (old++[v]))):=by
 dsimp only [zeh,on2,onR]
 refine h▸?_
 exact (if_pos (by unfold zbr;exact decide_eq_true hl))
theorem zfW {hp:HP}{id:Nat}{out:List (Int × Int)}{x:Int × Int}(h:hp[id]?=some (some (out.map vp))) (hl:out.length<=2 ^ 20):zeh [.l id,vp x] hp=some (.d .none,hp.set id (some ((out++[x]).map vp))):=by
 rw [zmP h (by simpa using hl),zrR];rfl
noncomputable abbrev oI (i:Int):Option V:=some (.d (.int i))
theorem zf3 (a b:Int) (hp:HP):za6 true hp (.d (.int a)) (.d (.int b))=some (.d (.bool (!(a==b))),hp):=by
 refine (show shp (.int a)=true from rfl)▸(show shp (.int b)=true from rfl)▸?_
 refine (Eq.symm (show PyData.eqv (.int a) (.int b)=(a==b) by rfl))▸?_
 rfl
noncomputable abbrev cnd (v:Int × Int) (l1:List (Int × Int)):Prop:=l1=[]\/v.1 < (gt2 l1 0).1
theorem znS (k:Nat):∃ c b,zdD k=zau (zcm 4 (zaf (zkO (zae 0)) (zaf (zal (.int 0)) (zaf (zal (.int 0)) (zaf (zgj (zaw)) (zaw))))) (zaI (zaC 1) (zaI (zaC 2) (zaI (zaC 3) (zaI (zaC 4) (zcD)))))) (zau (zbm (zaV (zdJ k) (zaf (zae 1) (zaw)))) (zau (zba c b k) (zau (zdC (zgB (zae 4))) (zas .next))))/\
  (∀ E (h:Nat) c2 c3 c4 c5 c6 hp (l:List (Int × Int)),hp[h]?=some (some (l.map vp))->c ⟨[E,oL h,c2,c3,c4,c5,c6],hp⟩=some (!l.isEmpty,hp))/\
  (∀ E (h pr:Nat) (d last:Int) c5 c6 hp l z out,h≠pr->hp[h]?=some (some ((l++[z]).map vp))->hp[pr]?=some (some (out.map vp))->l.length + 1 < k->l.length < 2 ^ 20->out.length<=2 ^ 20->
   b ⟨[E,oL h,oI d,oI last,oL pr,c5,c6],hp⟩=some (.next,⟨[E,oL h,oI (d + (zfi l z).2),oI (if cnd (zfi l z) (zkn l z) then d + (zfi l z).2 else last),oL pr,oI (zfi l z).1,oI (zfi l z).2],
    (hp.set h (some ((zkn l z).map vp))).set pr (some ((if cnd (zfi l z) (zkn l z)/\d + (zfi l z).2≠last then out++[((zfi l z).1,d + (zfi l z).2)] else out).map vp))⟩)):=by
 refine ⟨_,_,rfl,λE h c2 c3 c4 c5 c6 hp l h1=>?_,λE h pr d last c5 c6 hp l z out hne h1 h2 h3 h4 h5=>?_⟩
 ·refine zaB (zag (a:=.l h) (b:=.d (.list [])) rfl rfl ((zlL (znW h1) (zjJ l)).trans ?_))
  simp
 have hid:=zcr h1
 have hpr:=zcr h2
 generalize hv:zfi l z=v
 generalize hl1:zkn l z=l1
 have q1:(hp.set h (some (l1.map vp)))[h]?=some (some (l1.map vp)):=zru hid
 have q2:(hp.set h (some (l1.map vp)))[pr]?=some (some (out.map vp)):=by refine Eq.trans (zrT hne) ?_;exact h2
 have hset:(hp.set h (some (l1.map vp))).set pr (some (out.map vp))=hp.set h (some (l1.map vp)):=zcp q2
 have hpop:=zhG (k:=k) h1 h4 h3
 rw [hv,hl1] at hpop
 refine zam (st1:=⟨[E,oL h,oI d,oI last,oL pr,oI v.1,oI v.2],hp.set h (some (l1.map vp))⟩) (zaD (zaE rfl hpop) rfl) ?_
 refine zam (st1:=⟨[E,oL h,oI (d + v.2),oI last,oL pr,oI v.1,oI v.2],hp.set h (some (l1.map vp))⟩) (zaD (zag rfl rfl rfl) rfl) ?_
 have heq:zay (zat (za6 false) (zae 1) (zbD zaw)) ⟨[E,oL h,oI (d + v.2),oI last,oL pr,oI v.1,oI v.2],hp.set h (some (l1.map vp))⟩=some (l1.isEmpty,hp.set h (some (l1.map vp))):=by
  refine zaB (zag (a:=.l h) (b:=.d (.list [])) rfl rfl ((zlL (znW q1) (zjJ l1)).trans ?_))
  simp
 refine zam (st1:=⟨[E,oL h,oI (d + v.2),oI (if cnd v l1 then d + v.2 else last),oL pr,oI v.1,oI v.2],(hp.set h (some (l1.map vp))).set pr (some ((if cnd v l1/\d + v.2≠last then out++[(v.1,d + v.2)] else out).map vp))⟩) ?_ rfl
 have hgo:cnd v l1->zau (zbC (zay (zat (za6 true) (zae 2) (zae 3))) (zau (zbm (zbz zeF zeh (zae 4) (zaf (zc1 (zaf (zae 5) (zaf (zae 2) (zaw)))) (zaw)))) (zas .next)) (zas .next)) (zau (doM (zae 2) (zaC 3)) (zas .next)) ⟨[E,oL h,oI (d + v.2),oI last,oL pr,oI v.1,oI v.2],hp.set h (some (l1.map vp))⟩ =
   some (.next,⟨[E,oL h,oI (d + v.2),oI (if cnd v l1 then d + v.2 else last),oL pr,oI v.1,oI v.2],(hp.set h (some (l1.map vp))).set pr (some ((if cnd v l1/\d + v.2≠last then out++[(v.1,d + v.2)] else out).map vp))⟩):=λhc=>by
  refine (if_pos hc)▸?_
  by_cases hd:d + v.2=last
  ·rw [if_neg (λq=>q.2 hd),hset]
   refine zam (st1:=⟨[E,oL h,oI (d + v.2),oI last,oL pr,oI v.1,oI v.2],hp.set h (some (l1.map vp))⟩) (zaF (h:=hp.set h (some (l1.map vp))) (zaB (zag rfl rfl ((zf3 _ _ _).trans ?_))) rfl) ?_
   ·refine (Eq.symm hd)▸?_;simp
   ·exact zam (zaD rfl rfl) rfl
  ·rw [if_pos ⟨hc,hd⟩]
   refine zam (st1:=⟨[E,oL h,oI (d + v.2),oI last,oL pr,oI v.1,oI v.2],(hp.set h (some (l1.map vp))).set pr (some ((out++[(v.1,d + v.2)]).map vp))⟩) (zaZ (h:=hp.set h (some (l1.map vp))) (zaB (zag rfl rfl ((zf3 _ _ _).trans ?_))) ?_) ?_
   ·refine (beq_eq_false_iff_ne.mpr hd)▸?_;rfl
   ·refine zam (zbh (zbk (v:=.l pr) (vs:=[vp (v.1,d + v.2)]) (h':=hp.set h (some (l1.map vp))) rfl (zcL q2) rfl (zfW q2 h5))) rfl
   ·exact zam (zaD rfl rfl) rfl
 by_cases he:l1=[]
 ·refine zaZ (zq4 (heq.trans (by refine he▸?_;rfl))) (hgo (.inl he))
 ·have hf:l1.isEmpty=false:=by cases l1 <;> simp_all
  rw [hf] at heq
  have hpos:0 < l1.length:=zsh.mpr he
  have hg:zay (zat (zac gtD) (za4 (za4 (zae 1) (zal (.int 0))) (zal (.int 0))) (zae 5)) ⟨[E,oL h,oI (d + v.2),oI last,oL pr,oI v.1,oI v.2],hp.set h (some (l1.map vp))⟩=some (decide (v.1 < (gt2 l1 0).1),hp.set h (some (l1.map vp))):=by
   refine zaB (zag (a:=.d (.int (gt2 l1 0).1)) ?_ rfl rfl)
   exact zag (a:=vp (gt2 l1 0)) (zcU (i:=0) (id:=h) rfl rfl q1 (zfe hpos) (by decide)) rfl rfl
  by_cases hx:v.1 < (gt2 l1 0).1
  ·rw [decide_eq_true hx] at hg
   exact zaZ (zmk heq (zq4 hg)) (hgo (.inr hx))
  ·rw [decide_eq_false hx] at hg
   have hc:¬ cnd v l1:=λq=>q.elim he hx
   (refine (Eq.symm (if_neg hc))▸?_;rw [if_neg (λq=>hc q.1),hset])
   exact zaF (zmk heq (zmk hg rfl)) rfl
theorem ziE {a b:Int × Int}(h1:le2 a b) (h2:le2 b a):a=b:=by
 exact (zge h1).elim (λp=>absurd p h2) id
theorem zpj {c:St->Option (Bool × HP)}{b:St->Option (Fl × St)}{K:Nat}{E:Option V}{h pr:Nat}(hne:h≠pr)
  (hc:∀ c2 c3 c4 c5 c6 hp (l:List (Int × Int)),hp[h]?=some (some (l.map vp))->c ⟨[E,oL h,c2,c3,c4,c5,c6],hp⟩=some (!l.isEmpty,hp))
  (hb:∀ (d last:Int) c5 c6 hp l z out,hp[h]?=some (some ((l++[z]).map vp))->hp[pr]?=some (some (out.map vp))->l.length + 1 < K->l.length < 2 ^ 20->out.length<=2 ^ 20->
   b ⟨[E,oL h,oI d,oI last,oL pr,c5,c6],hp⟩=some (.next,⟨[E,oL h,oI (d + (zfi l z).2),oI (if cnd (zfi l z) (zkn l z) then d + (zfi l z).2 else last),oL pr,oI (zfi l z).1,oI (zfi l z).2],
    (hp.set h (some ((zkn l z).map vp))).set pr (some ((if cnd (zfi l z) (zkn l z)/\d + (zfi l z).2≠last then out++[((zfi l z).1,d + (zfi l z).2)] else out).map vp))⟩)) :
  ∀ (k:Nat) (l:List (Int × Int)) (d last:Int) c5 c6 hp out,hp[h]?=some (some (l.map vp))->hp[pr]?=some (some (out.map vp))->l.length < k->l.length < K->l.length + out.length<=2 ^ 19->zbR 0 l->
   ∃ (srt:List (Int × Int)) (c2' c3' c5' c6':Option V),srt.Perm l/\srt.Pairwise le2/\zba c b k ⟨[E,oL h,oI d,oI last,oL pr,c5,c6],hp⟩=some (.next,⟨[E,oL h,c2',c3',oL pr,c5',c6'],(hp.set h (some [])).set pr (some ((out++swp d last srt).map vp))⟩):=by
 intro zz
 induction zz with
 | zero=>
  intro l d last c5 c6 hp out h1 h2 h3 _ _ _
  exact absurd h3 (ztA _)
 | succ k ih=>
  intro l d last c5 c6 hp out h1 h2 h3 h4 h5 h6
  have hid:=zcr h1
  have hpr:=zcr h2
  rcases List.eq_nil_or_concat l with rfl | ⟨l0,z,rfl⟩
  ·refine ⟨[],oI d,oI last,c5,c6,.refl _,.nil,?_⟩
   refine Eq.trans (zc3 (h:=hp) (hc _ _ _ _ _ hp [] h1)) ?_
   have e1:hp.set h (some [])=hp:=zcp (by simpa using h1)
   unfold swp
   rw [e1,zrE,zcp h2]
  ·rw [List.concat_eq_append] at *
   have hlen:(l0++[z]).length=l0.length + 1:=by exact zro
   rw [hlen] at h3 h4 h5
   have hb':=hb d last c5 c6 hp l0 z out h1 h2 (by omega) (fk (r:=1048576) (R:=524288) h5 (by lia)) (fk (r:=1048576) (R:=524288) h5 (by lia))
   refine zi6 (zp3 h6) λp1 p2 p3 p4=>?_
   generalize hv:zfi l0 z=v at *
   generalize hl1:zkn l0 z=l1 at *
   have hl1len:l1.length=l0.length:=by have:=p2.length_eq;simp at this;omega
   (refine zmL (ih l1 (d + v.2) (if cnd v l1 then d + v.2 else last) (oI v.1) (oI v.2)
    ((hp.set h (some (l1.map vp))).set pr (some ((if cnd v l1/\d + v.2≠last then out++[(v.1,d + v.2)] else out).map vp))) (if cnd v l1/\d + v.2≠last then out++[(v.1,d + v.2)] else out)
    (by rw [zrT (Ne.symm hne),zru hid]) (by rw [zru (by simpa using hpr)]) (fk (al2 h3 (leq hl1len)) (by lia)) (fk (al2 h4 (leq hl1len)) (by lia))
    (by split <;> (try simp only [zro,zrr,zrz]) <;> exact (fk (r:=524288) (al2 (b:=524288) h5 (leq hl1len)) (by lia))) p3) λsrt c2' c3' c5' c6' s1 s2 s3=>?_)
   refine ⟨v::srt,c2',c3',c5',c6',?_,?_,?_⟩
   ·exact (List.Perm.cons _ s1).trans p2
   ·refine zrQ.mpr ⟨λy hy=>p1 y ?_,s2⟩
    exact p2.mem_iff.mp (.tail _ (s1.mem_iff.mp hy))
   ·refine ze9 (h:=hp) ?_ hb' ?_
    ·refine Eq.trans (hc _ _ _ _ _ hp _ h1) ?_
     congr 2
     cases l0 <;> rfl
    refine Eq.trans s3 ?_
    have hsets:∀ (A C D:Option (List V)),((((hp.set h A).set pr C).set h (some [])).set pr D)=(hp.set h (some [])).set pr D:=λA C D=>by
     rw [List.set_comm _ _ hne.symm,zrX,zrX]
    rw [hsets]
    have hcond:cnd v l1↔srt=[]\/v.1 < (srt.headD (0,0)).1:=by
     unfold cnd
     cases srt with
     | nil=>have:=s1.nil_eq;simp [this.symm]
     | cons m r=>
      have hne1:l1≠[]:=λe=>by rw [e] at s1;exact absurd s1.length_eq (by simp)
      have hpos:0 < l1.length:=zsh.mpr hne1
      have hm:m ∈ l1:=s1.mem_iff.mp (.head _)
      have ha:le2 (gt2 l1 0) m:=by
       obtain ⟨i,hi,rfl⟩:=zuc.mp hm
       refine (zgc hi)▸?_;exact zkq p3 i hi
      have hb:le2 m (gt2 l1 0):=by
       have:gt2 l1 0 ∈ m::r:=s1.mem_iff.mpr (by rw [zgc hpos];exact zuA _)
       rcases zrs.mp this with e | e
       ·rw [e];exact zet _
       ·exact (zrQ.mp s2).1 _ e
      have:gt2 l1 0=m:=ziE ha hb
      refine (Eq.symm this)▸?_
      simp [hne1]
    congr 6
    conv=>rhs;unfold swp
    by_cases hcc:cnd v l1
    ·refine (if_pos (hcond.mp hcc))▸(if_pos hcc)▸?_
     by_cases hd:d + v.2=last
     ·rw [if_neg (λq=>q.2 hd),if_neg (λq=>q hd)]
     ·rw [if_pos ⟨hcc,hd⟩,if_pos hd];simp
    ·rw [if_neg (λq=>hcc (hcond.mpr q)),if_neg hcc,if_neg (λq=>hcc q.1)]
theorem zf8 {k:Nat}{l:List (Int × Int)}{hp:HP}(h1:l.length + 1 < k) (h2:l.length<=2 ^ 19) :
  ∃ srt:List (Int × Int),srt.Perm l/\srt.Pairwise le2/\zcg k [.d (.list (l.map pv2))] hp=some (.d (.list ((swp 0 0 srt).map pv2)),hp):=by
 refine zcG (znS k) λc b e hc hb=>?_
 have g0:(hp++[some (l.map vp)]++[some []])[hp.length]?=some (some (l.map vp)):=by
  rw [zrC (by simp),zrF (zrv _)];simp
 have g1:(hp++[some (l.map vp)]++[some []])[hp.length + 1]?=some (some (([]:List (Int × Int)).map vp)):=by
  refine Eq.trans (zrF (by simp)) ?_;simp
 obtain ⟨o1,o2⟩:=zkX l
 generalize hq:hpf (l.length / 2) l=l' at *
 have hset:(hp++[some (l.map vp)]++[some []]).set hp.length (some (l'.map vp))=hp++[some (l'.map vp)]++[some []]:=by
  simp [zt6]
 have g0':(hp++[some (l'.map vp)]++[some []])[hp.length]?=some (some (l'.map vp)):=by
  rw [zrC (by simp),zrF (zrv _)];simp
 have g1':(hp++[some (l'.map vp)]++[some []])[hp.length + 1]?=some (some (([]:List (Int × Int)).map vp)):=by
  refine Eq.trans (zrF (by simp)) ?_;simp
 have hlen:=o2.length_eq
 obtain ⟨srt,c2',c3',c5',c6',s1,s2,s3⟩:=zpj (c:=c) (b:=b) (K:=k) (E:=some (.d (.list (l.map pv2)))) (h:=hp.length) (pr:=hp.length + 1) (by simp) (λc2 c3 c4 c5 c6 hp l=>hc _ _ c2 c3 c4 c5 c6 hp l)
  (λd last c5 c6 hp l z out=>hb _ _ _ d last c5 c6 hp l z out (zr5 (by simp +arith))) k l' 0 0 none none (hp++[some (l'.map vp)]++[some []]) [] g0' g1' (fk (al2 h1 (leq hlen)) (by lia)) (fk (al2 h1 (leq hlen)) (by lia)) (by simp;exact hlen▸h2) o1
 refine ⟨srt,s1.trans o2,s2,?_⟩
 have hfin:((hp++[some (l'.map vp)]++[some []]).set hp.length (some [])).set (hp.length + 1) (some (([]++swp 0 0 srt).map vp))=hp++[some [],some ((swp 0 0 srt).map vp)]:=by
  simp [zt6]
 rw [hfin] at s3
 have hheap:=zhF (k:=k) (id:=hp.length) (l:=l) (hp:=hp++[some (l.map vp)]++[some []]) g0 (by exact zrn h2 (zN rfl)) (by omega)
 rw [hq,hset] at hheap
 refine zcX (loc:=[some (.d (.list (l.map pv2))),oL hp.length,c2',c3',oL (hp.length + 1),c5',c6']) (ext:=[some [],none]) rfl ?_
 show zdD k ⟨[some (.d (.list (l.map pv2))),none,none,none,none,none,none],hp⟩=_
 rw [e]
 refine zam (st1:=⟨[some (.d (.list (l.map pv2))),oL hp.length,oI 0,oI 0,oL (hp.length + 1),none,none],hp++[some (l.map vp)]++[some []]⟩) ?_ ?_
 ·have hcp:zkO (zae 0) ⟨[some (.d (.list (l.map pv2))),none,none,none,none,none,none],hp⟩=some (.l hp.length,hp++[some (l.map vp)]):=by
   unfold zkO zae
   simp only [List.getElem?_cons_zero,bV,onL,onD,dL]
   rw [if_pos (by unfold zbr;exact decide_eq_true (by simp;exact zrn h2 (zN rfl))),zrW];rfl
  have hd:zaf (zkO (zae 0)) (zaf (zal (.int 0)) (zaf (zal (.int 0)) (zaf (zgj (zaw)) (zaw)))) ⟨[some (.d (.list (l.map pv2))),none,none,none,none,none,none],hp⟩=some ([.l hp.length,.d (.int 0),.d (.int 0),.l (hp++[some (l.map vp)]).length],hp++[some (l.map vp)]++[some []]):=
   zaj hcp (zaj rfl (zaj rfl (zaj rfl rfl)))
  rw [zro] at hd
  unfold zcm
  refine hd▸?_
  rfl
 refine zam (zbh (zaE (vs:=[.l hp.length]) rfl hheap)) ?_
 refine zam s3 ?_
 refine zbA ?_
 have hf:(hp++[some [],some ((swp 0 0 srt).map vp)])[hp.length + 1]?=some (some ((swp 0 0 srt).map vp)):=by
  refine Eq.trans (zrF (by exact zsl _)) ?_;simp
 have:zhE (hp++[some [],some ((swp 0 0 srt).map vp)]) (.l (hp.length + 1))=some (.d (.list ((swp 0 0 srt).map pv2)),hp++[some [],none]):=by
  refine (zdI hf (zfV _)).trans ?_
  simp [zt6]
 exact this
end Mine
namespace Mine
noncomputable def ev (last:Int):List (Int × Int)->Int->Int
 | [],_=>last
 | e::r,x=>if x < e.1 then last else ev e.2 r x
noncomputable def wfp (last:Int):List (Int × Int)->Prop
 | []=>True
 | e::r=>e.2≠last/\(∀ y ∈ r,e.1 < y.1)/\wfp e.2 r
theorem zcK {last x:Int}{p:List (Int × Int)}(h:∀ y ∈ p,x < y.1):ev last p x=last:=by
 cases p with
 | nil=>rfl
 | cons e r=>unfold ev;exact (if_pos (h e (.head _)))
theorem zhk:∀ (p q:List (Int × Int)) (last:Int),wfp last p->wfp last q->(∀ x,ev last p x=ev last q x)->p=q
 | [],[],_,_,_,_=>rfl
 | [],e::r,last,_,h2,h3=>by
  have:=h3 e.1
  unfold ev at this
  rw [if_neg (by simp),zcK h2.2.1] at this
  exact absurd this.symm h2.1
 | e::r,[],last,h1,_,h3=>by
  have:=h3 e.1
  unfold ev at this
  rw [if_neg (zsa.mpr (by simp +arith)),zcK h1.2.1] at this
  exact absurd this h1.1
 | e::r,f::t,last,h1,h2,h3=>by
  have ha:=h3 e.1
  have hb:=h3 f.1
  unfold ev at ha hb
  rw [if_neg (by simp),zcK h1.2.1] at ha
  have hb':ev f.2 t f.1=f.2:=zcK h2.2.1
  rw [if_neg (by simp:¬ f.1 < f.1),hb'] at hb
  have e1:e.1=f.1:=by
   rcases ztR e.1 f.1 with q | q | q
   ·rw [if_pos q] at ha;exact absurd ha h1.1
   ·exact q
   ·rw [if_pos q] at hb;exact absurd hb.symm h2.1
  have e2:e.2=f.2:=by
   rw [if_neg (zsa.mpr (zrO (by lia) (zpo e1))),e1,hb'] at ha;exact ha
  have e3:r=t:=zhk r t e.2 h1.2.2 (by rw [e2];exact h2.2.2) λx=>by
   by_cases hx:x < e.1
   ·rw [zcK λy hy=>zsu hx (h1.2.1 y hy),zcK λy hy=>zsu hx (by rw [e1];exact h2.2.1 y hy)]
   ·have:=h3 x
    unfold ev at this
    rw [if_neg hx,if_neg (zsa.mpr (ifk (zqj (zpo e1) (zsa.mp hx)) (by lia))),<- e2] at this;exact this
  exact e3▸(Prod.ext e1 e2)▸rfl
noncomputable def cum:List (Int × Int)->Int->Int
 | [],_=>0
 | e::r,x=>(if e.1<=x then e.2 else 0) + cum r x
theorem zgS (a b:List (Int × Int)) (x:Int):cum (a++b) x=cum a x + cum b x:=by
 induction a with
 | nil=>show _=0 + _;rw [zs9];rfl
 | cons e r ih=>show _ + cum (r++b) x=(_ + cum r x) + _;refine (congrArg _ ih).trans ?_;exact (by lia)
theorem zj2 {a b:List (Int × Int)}(h:a.Perm b) (x:Int):cum a x=cum b x:=by
 induction h with
 | nil=>rfl
 | cons e _ ih=>show _ + _=_ + _;exact congrArg _ ih
 | swap e f l=>show _ + (_ + _)=_ + (_ + _);exact (by lia)
 | trans _ _ ih1 ih2=>exact ih1.trans ih2
theorem zfZ {l:List (Int × Int)}{x:Int}(h:∀ y ∈ l,x < y.1):cum l x=0:=by
 induction l with
 | nil=>rfl
 | cons e r ih=>
  show _ + _=_
  rw [if_neg (by have:=h e (.head _);exact (zsW.mpr (zrJ this (by lia)))),ih λy hy=>h y (.tail _ hy)];rfl
theorem zhQ {a b:Int × Int}(h:le2 a b):a.1<=b.1:=by unfold le2 lt2 at h;omega
theorem zmA:∀ (l:List (Int × Int)) (d last:Int),l.Pairwise le2->wfp last (swp d last l)/\(∀ y ∈ swp d last l,∀ z,(∀ e ∈ l,z < e.1)->z < y.1)/\
  (l=[]\/∀ x,ev last (swp d last l) x=if x < (l.headD (0,0)).1 then last else d + cum l x)
 | [],d,last,_=>⟨trivial,λy hy=>absurd hy zrq,.inl rfl⟩
 | e::r,d,last,h=>by
  obtain ⟨h1,h2⟩:=zrQ.mp h
  unfold swp
  by_cases hc:r=[]\/e.1 < (r.headD (0,0)).1
  ·refine (if_pos hc)▸?_
   refine Eaa (zmA r (d + e.2) (d + e.2) h2) λw1 w2 w3=>?_
   have hup:∀ f ∈ r,e.1 < f.1:=λf hf=>by
    rcases hc with rfl | hc
    ·exact absurd hf zrq
    ·cases r with
     | nil=>exact absurd hf zrq
     | cons m t=>
      have hm:e.1 < m.1:=hc
      rcases zrs.mp hf with rfl | hf
      ·exact hm
      ·exact zrJ hm (zhQ ((zrQ.mp h2).1 f hf))
   have hev:∀ x,¬ x < e.1->ev (d + e.2) (swp (d + e.2) (d + e.2) r) x=d + cum (e::r) x:=λx hx=>by
    show _=d + ((if e.1<=x then e.2 else 0) + cum r x)
    rw [if_pos (zrO (by lia) (zsa.mp hx))]
    rcases w3 with rfl | w3
    ·show d + e.2=d + (e.2 + 0);simp
    ·rw [w3]
     split
     ·rename_i hlt
      rw [zfZ λy hy=>?_]
      ·simp
      ·cases r with
       | nil=>exact absurd hy zrq
       | cons m t=>
        have hm:x < m.1:=hlt
        rcases zrs.mp hy with rfl | hy
        ·exact hm
        ·exact zrJ hm (zhQ ((zrQ.mp h2).1 y hy))
     ·exact (by lia)
   by_cases hd:d + e.2=last
   ·rw [if_neg (λq=>q hd)]
    refine ⟨by refine hd▸?_;exact w1,λy hy z hz=>w2 y hy z λf hf=>hz f (.tail _ hf),.inr λx=>?_⟩
    by_cases hx:x < e.1
    ·refine (show ((e::r).headD (0,0)).1=e.1 from rfl)▸(if_pos hx)▸?_
     exact zcK λy hy=>w2 y hy x λf hf=>zsu hx (hup f hf)
    ·exact (show ((e::r).headD (0,0)).1=e.1 from rfl)▸(if_neg hx)▸(hev x hx)▸hd▸rfl
   ·refine (if_pos hd)▸?_
    refine ⟨⟨hd,λy hy=>w2 y hy e.1 hup,w1⟩,λy hy z hz=>?_,.inr λx=>?_⟩
    ·rcases zrs.mp hy with rfl | hy
     ·exact hz e (.head _)
     ·exact w2 y hy z λf hf=>hz f (.tail _ hf)
    ·show (if x < e.1 then last else ev (d + e.2) _ x)=_
     refine (Eq.symm (show ((e::r).headD (0,0)).1=e.1 from rfl))▸?_
     by_cases hx:x < e.1
     ·exact (if_pos hx)▸(if_pos hx)▸rfl
     ·exact (if_neg hx)▸(if_neg hx)▸(hev x hx)▸rfl
  ·refine (if_neg hc)▸?_
   refine Eaa (zmA r (d + e.2) last h2) λw1 w2 w3=>?_
   have hr:r≠[]:=λq=>hc (.inl q)
   refine ⟨w1,λy hy z hz=>w2 y hy z λf hf=>hz f (.tail _ hf),.inr λx=>?_⟩
   have w3:=w3.resolve_left hr
   rw [w3]
   cases r with
   | nil=>exact absurd rfl hr
   | cons m t=>
    have hm:¬ e.1 < m.1:=λq=>hc (.inr q)
    have hle:=zhQ (h1 m (.head _))
    have:e.1=m.1:=(zuF (ifk hle (by lia)) (ifk (zsa.mp hm) (by lia)))
    show (if x < m.1 then last else d + e.2 + cum (m::t) x)=(if x < e.1 then last else d + ((if e.1<=x then e.2 else 0) + cum (m::t) x))
    refine (Eq.symm this)▸?_
    by_cases hx:x < m.1
    ·exact (if_pos hx)▸(if_pos hx)▸rfl
    ·rw [if_neg hx,if_neg hx,if_pos (zrO (by lia) (zsa.mp hx))];exact (by lia)
theorem zkz {l:List (Int × Int)}(h:l.Pairwise le2):wfp 0 (swp 0 0 l)/\∀ x,ev 0 (swp 0 0 l) x=cum l x:=by
 refine Eaa (zmA l 0 0 h) λa b c=>?_
 refine ⟨a,λx=>?_⟩
 rcases c with rfl | c
 ·rfl
 ·rw [c]
  split
  ·rename_i hx
   rw [zfZ λy hy=>?_]
   cases l with
   | nil=>exact absurd hy zrq
   | cons m t=>
    have hm:x < m.1:=hx
    rcases zrs.mp hy with rfl | hy
    ·exact hm
    ·exact zrJ hm (zhQ ((zrQ.mp h).1 y hy))
  ·simp
noncomputable def evb (b:Bool):List Int->Int->Bool
 | [],_=>b
 | a::r,x=>if x < a then b else evb (!b) r x
noncomputable def edg (inside:Bool):List (Int × Int)->List Int
 | []=>[]
 | e::r=>if (decide (0 < e.2) != inside)=true then e.1::edg (!inside) r else edg inside r
theorem zlQ {b:Bool}{es:List Int}{x:Int}(h:∀ y ∈ es,x < y):evb b es x=b:=by
 cases es with
 | nil=>rfl
 | cons a r=>unfold evb;exact (if_pos (h a (.head _)))
theorem zoz (b:Bool) (es:List Int) (x:Int):evb (!b) es x = !evb b es x:=by
 induction es generalizing b with
 | nil=>rfl
 | cons a r ih=>
  unfold evb
  split
  ·rfl
  ·rw [ih]
theorem zhy:∀ {p:List (Int × Int)}{b:Bool}{y:Int},y ∈ edg b p->∃ e ∈ p,e.1=y
 | [],_,_,h=>absurd h zrq
 | e::r,b,y,h=>by
  unfold edg at h
  split at h
  ·rcases zrs.mp h with rfl | h
   ·exact ⟨e,.head _,rfl⟩
   ·(refine Eea (zhy h) λf hf q=>?_);exact ⟨f,.tail _ hf,q⟩
  ·(refine Eea (zhy h) λf hf q=>?_);exact ⟨f,.tail _ hf,q⟩
theorem zpH:∀ (p:List (Int × Int)) (last:Int) (b:Bool),wfp last p->b=decide (0 < last)->(edg b p).Pairwise (· < ·)/\∀ x,evb b (edg b p) x=decide (0 < ev last p x):=by
 intro zz
 induction zz with
 | nil=>
  intro last b _ hb
  exact ⟨.nil,λx=>hb⟩
 | cons e r ih=>
  intro last b h hb
  unfold edg
  have hup:∀ (b:Bool),∀ y ∈ edg b r,e.1 < y:=λb y hy=>by
   (refine Eea (zhy hy) λf hf q0=>?_;subst q0)
   exact h.2.1 f hf
  by_cases hc:(decide (0 < e.2) != b)=true
  ·refine (if_pos hc)▸?_
   have hb':(!b)=decide (0 < e.2):=by
    cases b <;> cases hq:decide (0 < e.2) <;> rw [hq] at hc <;> first | rfl | (exact absurd hc (by decide))
   obtain ⟨i1,i2⟩:=ih e.2 (!b) h.2.2 hb'
   refine ⟨zrQ.mpr ⟨λy hy=>hup _ y hy,i1⟩,λx=>?_⟩
   show (if x < e.1 then b else evb (!b) _ x)=decide (0 < (if x < e.1 then last else ev e.2 r x))
   split
   ·exact hb
   ·exact i2 x
  ·refine (if_neg hc)▸?_
   have hb':b=decide (0 < e.2):=by
    cases b <;> cases hq:decide (0 < e.2) <;> rw [hq] at hc <;> first | rfl | (exact absurd rfl hc)
   obtain ⟨i1,i2⟩:=ih e.2 b h.2.2 hb'
   refine ⟨i1,λx=>?_⟩
   show _=decide (0 < (if x < e.1 then last else ev e.2 r x))
   split
   ·rename_i hx
    (refine Eq.trans (zlQ λy hy=>zsu hx (hup _ y hy)) ?_);exact hb
   ·exact i2 x
noncomputable def trn (s:Int):List Int->List (Int × Int)
 | []=>[]
 | a::r=>(a,s)::trn (-s) r
noncomputable def b2i (b:Bool):Int:=if b then 1 else 0
theorem zmD:∀ {es:List Int}{s:Int}{y:Int × Int},y ∈ trn s es->y.1 ∈ es
 | [],_,_,h=>absurd h zrq
 | a::r,s,y,h=>by
  rcases zrs.mp h with rfl | h
  ·exact .head _
  ·exact .tail _ (zmD h)
theorem zmC (es:List Int) (s:Int):(trn s es).length=es.length:=by
 induction es generalizing s with
 | nil=>rfl
 | cons a r ih=>unfold trn;simp [ih]
theorem zqe:∀ (es:List Int) (x:Int),es.Pairwise (·<=·)->cum (trn 1 es) x=b2i (evb false es x)/\cum (trn (-1) es) x=b2i (evb true es x) - 1:=by
 intro zz
 induction zz with
 | nil=>
  intro x _
  exact ⟨rfl,rfl⟩
 | cons a r ih=>
  intro x h
  obtain ⟨h1,h2⟩:=zrQ.mp h
  obtain ⟨i1,i2⟩:=ih x h2
  by_cases hx:x < a
  ·have hz:∀ s,cum (trn s (a::r)) x=0:=λs=>zfZ λy hy=>by
    have:=zmD hy
    rcases zrs.mp this with q | q
    ·rw [q];exact hx
    ·exact zrJ hx (h1 _ q)
   rw [hz,hz]
   unfold evb
   refine (if_pos hx)▸(if_pos hx)▸?_
   exact ⟨rfl,rfl⟩
  ·unfold evb
   refine (if_neg hx)▸(if_neg hx)▸?_
   show (if a<=x then 1 else 0) + cum (trn (-1) r) x=_/\(if a<=x then -1 else 0) + cum (trn (- -1) r) x=_
   rw [if_pos (zrO (by lia) (zsa.mp hx)),if_pos (by omega),i2]
   refine (Eq.symm (show (- -1:Int)=1 from rfl))▸(Eq.symm i1)▸?_
   constructor
   ·show _=b2i (evb true r x);exact (by lia)
   ·show _=b2i (evb false r x) - 1;exact (by lia)
noncomputable def duo (F:Int->Int) (last:Int):List Int->List (Int × Int)
 | []=>[]
 | c::r=>if F c≠last then (c,F c)::duo F (F c) r else duo F (F c) r
noncomputable def cst (F:Int->Int):List Int->Prop
 | []=>True
 | c::r=>(∀ x,c<=x->(∀ y ∈ r,y<=c\/x < y)->F x=F c)/\cst F r
theorem zjh {F:Int->Int}:∀ {cs:List Int}{last:Int}{y:Int × Int},y ∈ duo F last cs->y.1 ∈ cs
 | [],_,_,h=>absurd h zrq
 | c::r,last,y,h=>by
  unfold duo at h
  split at h
  ·rcases zrs.mp h with rfl | h
   ·exact .head _
   ·exact .tail _ (zjh h)
  ·exact .tail _ (zjh h)
theorem znX {F:Int->Int}{c:Int}:∀ {r:List Int},(∀ y ∈ r,c<=y)->r.Pairwise (·<=·)->∀ y ∈ duo F (F c) r,c < y.1
 | [],_,_,y,hy=>absurd hy zrq
 | a::r,h1,h2,y,hy=>by
  obtain ⟨g1,g2⟩:=zrQ.mp h2
  have ha:=h1 a (.head _)
  by_cases e:a=c
  ·subst e
   unfold duo at hy
   rw [if_neg (λq=>q rfl)] at hy
   exact znX g1 g2 y hy
  ·have:y.1 ∈ a::r:=zjh hy
   rcases zrs.mp this with q | q
   ·rw [q];lia
   ·have:=g1 _ q;lia
theorem zpG {F:Int->Int}:∀ (cs:List Int) (last:Int),cs.Pairwise (·<=·)->cst F cs->wfp last (duo F last cs)/\(cs=[]\/∀ x,ev last (duo F last cs) x=if x < cs.headD 0 then last else F x):=by
 intro zz
 induction zz with
 | nil=>
  intro last _ _
  exact ⟨trivial,.inl rfl⟩
 | cons c r ih=>
  intro last h hc
  obtain ⟨h1,h2⟩:=zrQ.mp h
  obtain ⟨i1,i2⟩:=ih (F c) h2 hc.2
  have hup:=znX (F:=F) h1 h2
  have hev:∀ x,¬ x < c->ev (F c) (duo F (F c) r) x=F x:=λx hx=>by
   rcases i2 with rfl | i2
   ·show F c=F x
    exact (hc.1 x (by exact zsa.mp (by assumption)) λy hy=>absurd hy zrq).symm
   ·rw [i2]
    split
    ·rename_i hlt
     refine (hc.1 x (by omega) λy hy=>.inr ?_).symm
     cases r with
     | nil=>exact absurd hy zrq
     | cons m t=>
      have hm:x < m:=hlt
      rcases zrs.mp hy with rfl | hy
      ·exact hm
      ·exact zrJ hm ((zrQ.mp h2).1 y hy)
    ·rfl
  unfold duo
  by_cases hd:F c=last
  ·rw [if_neg (λq=>q hd)]
   refine ⟨by refine hd▸?_;exact i1,.inr λx=>?_⟩
   by_cases hx:x < c
   ·refine (Eq.symm (show (c::r).headD 0=c from rfl))▸(Eq.symm (if_pos hx))▸?_
    exact zcK λy hy=>zsu hx (hup y hy)
   ·exact (Eq.symm (show (c::r).headD 0=c from rfl))▸(Eq.symm (if_neg hx))▸(hev x hx)▸(Eq.symm hd)▸rfl
  ·refine (if_pos hd)▸?_
   refine ⟨⟨hd,hup,i1⟩,.inr λx=>?_⟩
   show (if x < c then last else ev (F c) _ x)=_
   refine (Eq.symm (show (c::r).headD 0=c from rfl))▸?_
   by_cases hx:x < c
   ·exact (if_pos hx)▸(if_pos hx)▸rfl
   ·exact (if_neg hx)▸(if_neg hx)▸(hev x hx)▸rfl
end Mine
namespace Mine
noncomputable abbrev zdR:=Bool × List (Int × Int)
noncomputable def inr (rs:List (Int × Int)) (x:Int):Bool:=rs.any λr=>decide (r.1<=x) && decide (x<=r.2)
noncomputable def zb3 (k:zdR) (x:Int):Bool:=if k.1 then decide (0<=x) && decide (x < 1114112) && !inr k.2 x else inr k.2 x
noncomputable def okr (rs:List (Int × Int)):Prop:=∀ r ∈ rs,0<=r.1/\r.1<=r.2/\r.2 < 1114112
noncomputable def zmJ (rs:List (Int × Int)):List (Int × Int):=rs.map (λr=>(r.1,1))++rs.map (λr=>(r.2 + 1,-1))
theorem zm8:∀ (rs:List (Int × Int)) (x:Int),okr rs->0<=cum (rs.map λr=>(r.1,1)) x + cum (rs.map λr=>(r.2 + 1,-1)) x/\(0 < cum (rs.map λr=>(r.1,1)) x + cum (rs.map λr=>(r.2 + 1,-1)) x↔inr rs x=true):=by
 intro zz
 induction zz with
 | nil=>
  intro x _
  exact ⟨Int.le_refl _,⟨λh=>absurd (show (0:Int) < 0 from h) (by decide),λh=>absurd (show false=true from h) (by decide)⟩⟩
 | cons r t ih=>
  intro x h
  obtain ⟨i1,i2⟩:=ih x λy hy=>h y (.tail _ hy)
  refine Eaa (h r (.head _)) λZ h2 Z=>?_
  show 0<=((if r.1<=x then 1 else 0) + cum (t.map λr=>(r.1,1)) x) + ((if r.2 + 1<=x then -1 else 0) + cum (t.map λr=>(r.2 + 1,-1)) x)/\(0 < ((if r.1<=x then 1 else 0) + cum (t.map λr=>(r.1,1)) x) + ((if r.2 + 1<=x then -1 else 0) + cum (t.map λr=>(r.2 + 1,-1)) x)↔_)
  have hi:inr (r::t) x=((decide (r.1<=x) && decide (x<=r.2)) || inr t x):=rfl
  refine hi▸?_
  by_cases a:r.1<=x
  ·by_cases b:x<=r.2
   ·(refine (Eq.symm (if_pos a))▸?_;refine (Eq.symm (if_neg (show ¬ r.2 + 1<=x from λq=>absurd b (zsW.mpr q))))▸(Eq.symm (decide_eq_true a))▸(Eq.symm (decide_eq_true b))▸?_)
    exact ⟨by exact (ifk i1 (by simp +arith)),⟨λZ=>rfl,λZ=>by exact (ifk i1 (by simp +arith))⟩⟩
   ·(refine (Eq.symm (if_pos a))▸?_;refine (Eq.symm (if_pos (show r.2 + 1<=x from zsW.mp b)))▸(Eq.symm (decide_eq_true a))▸(Eq.symm (decide_eq_false b))▸?_)
    refine ⟨by exact (ifk i1 (by simp +arith)),?_⟩
    rw [Bool.and_false,zuo,<- i2]
    constructor <;> intro <;> lia
  ·refine (if_neg a)▸(if_neg (show ¬ r.2 + 1<=x from λq=>a (zrO h2 (zsF q))))▸(decide_eq_false a)▸?_
   refine ⟨by exact (ifk i1 (by simp +arith)),?_⟩
   rw [zti,zuo,<- i2]
   constructor <;> intro <;> lia
theorem zoA {rs:List (Int × Int)}(h:okr rs) (x:Int):decide (0 < cum (zmJ rs) x)=inr rs x:=by
 unfold zmJ
 rw [zgS]
 have:=(zm8 rs x h).2
 cases hq:inr rs x with
 | true=>exact decide_eq_true (this.mpr hq)
 | false=>exact decide_eq_false λq=>by rw [this.mp q] at hq;exact ziL hq
theorem zl1 {rs:List (Int × Int)}(h:okr rs) {x:Int}(hx:x < 0\/1114112<=x):inr rs x=false:=by
 cases hq:inr rs x with
 | false=>rfl
 | true=>
  refine Eea (ztp.mp hq) λr hr e=>?_
  simp only [zrA,decide_eq_true_eq] at e
  have:=h r hr
  exact hx.elim (λq=>absurd (zrO this.1 e.1) (zsW.mpr q)) λq=>absurd (ztb e.2 this.2.2) (zsa.mpr q)
theorem zib:∀ {l:List (Int × Int)}{d last:Int}{y:Int × Int},y ∈ swp d last l->∃ e ∈ l,e.1=y.1
 | [],_,_,_,h=>absurd h zrq
 | e::r,d,last,y,h=>by
  unfold swp at h
  split at h
  ·split at h
   ·rcases zrs.mp h with rfl | h
    ·exact ⟨e,.head _,rfl⟩
    ·(refine Eea (zib h) λf hf q=>?_);exact ⟨f,.tail _ hf,q⟩
   ·(refine Eea (zib h) λf hf q=>?_);exact ⟨f,.tail _ hf,q⟩
  ·(refine Eea (zib h) λf hf q=>?_);exact ⟨f,.tail _ hf,q⟩
theorem zmz:∀ (l:List (Int × Int)) (d last:Int),(swp d last l).length<=l.length:=by
 intro zz
 induction zz with
 | nil=>
  intro _ _
  exact zrv _
 | cons e r ih=>
  intro d last
  unfold swp
  have h1:=ih (d + e.2) (d + e.2)
  have h2:=ih (d + e.2) last
  split
  ·split
   ·simp;exact h1
   ·dsimp;exact zsc (by assumption)
  ·dsimp;exact zsc (by assumption)
theorem zlK:∀ (p:List (Int × Int)) (b:Bool),(edg b p).length<=p.length:=by
 intro zz
 induction zz with
 | nil=>
  intro _
  exact zrv _
 | cons e r ih=>
  intro b
  unfold edg
  have h1:=ih (!b)
  have h2:=ih b
  split
  ·simp;exact h1
  ·dsimp;exact zsc (by assumption)
noncomputable def zf2 (b:Bool) (es:List Int):List Int:=if b then [0]++es++[1114112] else es
theorem zm7:∀ (es:List Int) (b:Bool) (n x:Int),(∀ y ∈ es,y<=n)->evb b (es++[n]) x=if x < n then evb b es x else !evb b es x:=by
 intro zz
 induction zz with
 | nil=>
  intro b n x _
  exact rfl
 | cons a r ih=>
  intro b n x h
  show (if x < a then b else evb (!b) (r++[n]) x)=if x < n then (if x < a then b else evb (!b) r x) else !(if x < a then b else evb (!b) r x)
  refine (congrArg _ (ih (!b) n x λy hy=>h y (.tail _ hy))).trans ?_
  have:=h a (.head _)
  by_cases h1:x < a
  ·exact (if_pos h1)▸(if_pos h1)▸(if_pos (zrJ h1 this))▸rfl
  ·exact (if_neg h1)▸(if_neg h1)▸rfl
theorem zm3 {b:Bool}{rs srt:List (Int × Int)}(h:okr rs) (h1:srt.Perm (zmJ rs)) (h2:srt.Pairwise le2) :
  (zf2 b (edg false (swp 0 0 srt))).Pairwise (·<=·)/\(∀ x,evb false (zf2 b (edg false (swp 0 0 srt))) x=zb3 (b,rs) x)/\(zf2 b (edg false (swp 0 0 srt))).length<=2 * rs.length + 2:=by
 obtain ⟨w1,w2⟩:=zkz h2
 obtain ⟨e1,e2⟩:=zpH (swp 0 0 srt) 0 false w1 rfl
 have hin:∀ x,evb false (edg false (swp 0 0 srt)) x=inr rs x:=λx=>by
  rw [e2,w2,zj2 h1];exact zoA h x
 have hm:∀ y ∈ edg false (swp 0 0 srt),0<=y/\y<=1114112:=λy hy=>by
  (refine Eea (zhy hy) λe he q0=>?_;subst q0)
  refine Eea (zib he) λf hf q=>?_
  have:=h1.mem_iff.mp hf
  refine q▸?_
  rcases zrU.mp this with g | g
  ·(refine Eea (zsz.mp g) λr hr q0=>?_;subst q0)
   have:=h r hr
   exact ⟨this.1,zsF (ztb this.2.1 this.2.2)⟩
  ·(refine Eea (zsz.mp g) λr hr q0=>?_;subst q0)
   have:=h r hr
   exact ⟨zpT this.1 this.2.1,this.2.2⟩
 have hl:(edg false (swp 0 0 srt)).length<=2 * rs.length:=by
  have a:=zlK (swp 0 0 srt) false
  have b:=zmz srt 0 0
  have c:=h1.length_eq
  unfold zmJ at c
  simp at c
  exact (fk (al2 (al2 a b) (leq c)) (by lia))
 generalize hq:edg false (swp 0 0 srt)=es at *
 have es1:es.Pairwise (·<=·):=e1.imp λh=>zsF h
 unfold zf2
 cases b with
 | false=>exact ⟨es1,λx=>hin x,by show es.length<=_;exact (zrn hl (by lia))⟩
 | true=>
  refine ⟨?_,λx=>?_,by simp;omega⟩
  ·show ([0]++es++[1114112]).Pairwise (·<=·)
   refine zs1.mpr ⟨zs1.mpr ⟨by decide,es1,λa ha c hc=>?_⟩,by decide,λa ha c hc=>?_⟩
   ·rw [zr3.mp ha];exact (hm c hc).1
   ·rw [zr3.mp hc]
    rcases zrU.mp ha with q | q
    ·rw [zr3.mp q];decide
    ·exact (hm a q).2
  ·show evb false (0::(es++[1114112])) x=(decide (0<=x) && decide (x < 1114112) && !inr rs x)
   show (if x < 0 then false else evb true (es++[1114112]) x)=_
   rw [zm7 es true _ x λy hy=>(hm y hy).2,show evb true es x = !evb false es x from zoz false es x,hin]
   by_cases a:x < 0
   ·refine (Eq.symm (if_pos a))▸(Eq.symm (decide_eq_false (zsW.mpr a:¬ 0<=x)))▸?_;rfl
   ·refine (if_neg a)▸(decide_eq_true (zsa.mp a:0<=x))▸?_
    by_cases c:x < 1114112
    ·refine (Eq.symm (if_pos c))▸(Eq.symm (decide_eq_true c))▸?_;rfl
    ·refine (Eq.symm (if_neg c))▸(Eq.symm (decide_eq_false c))▸(Eq.symm (zl1 h (.inr (zsa.mp c))))▸?_;rfl
noncomputable def zef:List zdR->Int->Int
 | [],_=>0
 | k::r,x=>b2i (zb3 k x) + zef r x
noncomputable def zbB:List zdR->List Int
 | []=>[]
 | k::r=>(k.2.flatMap λp=>[p.1,p.2 + 1])++zbB r
theorem zl0 {rs:List (Int × Int)}{x y:Int}(h:∀ p ∈ rs,(p.1<=x↔p.1<=y)/\(p.2 + 1<=x↔p.2 + 1<=y)):inr rs x=inr rs y:=by
 unfold inr
 rw [ztd,ztp,ztp]
 constructor <;> rintro ⟨p,hp,e⟩ <;> refine ⟨p,hp,?_⟩ <;> have:=h p hp <;> simp only [zrA,decide_eq_true_eq] at e ⊢ <;> first | exact tr1 this.1 this.2 e | exact tr1 this.1.symm this.2.symm e
theorem zhh:∀ {ks:List zdR}{x y:Int},(∀ c ∈ 0::1114112::zbB ks,(c<=x↔c<=y))->zef ks x=zef ks y
 | [],_,_,_=>rfl
 | k::r,x,y,h=>by
  show b2i (zb3 k x) + zef r x=b2i (zb3 k y) + zef r y
  rw [zhh (ks:=r) λc hc=>h c ?_]
  ·congr 2
   have h0:=h 0 (.head _)
   have hN:=h 1114112 (.tail _ (.head _))
   have hr:inr k.2 x=inr k.2 y:=zl0 λp hp=>⟨h p.1 ?_,h (p.2 + 1) ?_⟩
   ·unfold zb3
    exact hr▸(show decide (0<=x)=decide (0<=y) from decide_eq_decide.mpr h0)▸(show decide (x < 1114112)=decide (y < 1114112) from decide_eq_decide.mpr (zoU hN))▸rfl
   all_goals
    refine .tail _ (.tail _ (zts _ (zs5.mpr ⟨p,hp,?_⟩)))
    simp
  ·rcases zrs.mp hc with q | q
   ·rw [q];exact .head _
   ·rcases zrs.mp q with q | q
    ·rw [q];exact .tail _ (.head _)
    ·exact .tail _ (.tail _ (zsG _ q))
theorem zik:∀ {ks:List zdR},(∀ k ∈ ks,okr k.2)->∀ c ∈ zbB ks,0<=c
 | [],_,c,hc=>absurd hc zrq
 | k::r,h,c,hc=>by
  rcases zrU.mp hc with q | q
  ·refine Eea (zs5.mp q) λp hp e=>?_
   have:=h k (.head _) p hp
   simp at e
   exact e.elim (λq=>q▸this.1) λq=>q▸zpT this.1 this.2.1
  ·exact zik (λk hk=>h k (.tail _ hk)) c q
theorem zky:∀ {ks:List zdR},(∀ k ∈ ks,okr k.2)->∀ x,x < 0->zef ks x=0
 | [],_,_,_=>rfl
 | k::r,h,x,hx=>by
  refine (congrArg _ (zky (λk hk=>h k (.tail _ hk)) x hx)).trans ?_
  have:zb3 k x=false:=by
   unfold zb3
   refine (Eq.symm (zl1 (h k (.head _)) (.inl hx)))▸(Eq.symm (decide_eq_false (by exact (zsW.mpr (zrJ hx (by lia))):¬ 0<=x)))▸?_
   split <;> rfl
  refine this▸?_;rfl
theorem zpB {F:Int->Int}:∀ (cs pre:List Int),(pre++cs).Pairwise (·<=·)->(∀ x y,(∀ c ∈ pre++cs,(c<=x↔c<=y))->F x=F y)->cst F cs:=by
 intro zz
 induction zz with
 | nil=>
  intro _ _ _
  exact trivial
 | cons c r ih=>
  intro pre h hF
  refine ⟨λx hx hy=>hF x c λa ha=>?_,ih (pre++[c]) (by rw [zrx];exact h) (by rw [zrx];exact hF)⟩
  rcases zrU.mp ha with q | q
  ·have:=(zs1.mp h).2.2 a q c (.head _);exact ⟨λZ=>this,λZ=>zrO this hx⟩
  ·rcases zrs.mp q with rfl | q
   ·lia
   ·have:=hy a q;have:=(zrQ.mp (zs1.mp h).2.1).1 a q;lia
theorem zpF {ks:List zdR}(hk:∀ k ∈ ks,okr k.2) {cs:List Int}(h1:cs.Perm (0::1114112::zbB ks)) (h2:cs.Pairwise (·<=·)) :
  wfp 0 (duo (zef ks) 0 cs)/\∀ x,ev 0 (duo (zef ks) 0 cs) x=zef ks x:=by
 obtain ⟨a,b⟩:=zpG (F:=zef ks) cs 0 h2 (zpB cs [] h2 λx y h=>zhh λc hc=>h c (h1.mem_iff.mpr hc))
 refine ⟨a,λx=>?_⟩
 have h0:(0:Int) ∈ cs:=h1.mem_iff.mpr (.head _)
 rcases b with rfl | b
 ·exact absurd h0 zrq
 ·rw [b]
  split
  ·rename_i hx
   cases cs with
   | nil=>exact absurd h0 zrq
   | cons m t=>
    have hm:x < m:=hx
    have:m<=0:=by
     rcases zrs.mp h0 with q | q
     ·exact (zrO (zpo q) (by lia))
     ·exact (zrQ.mp h2).1 _ q
    exact (zky hk x (ifk (zqj hm this) (by simp +arith))).symm
  ·rfl
theorem zmG {ks:List zdR}(hk:∀ k ∈ ks,okr k.2) {cs:List Int}(h1:cs.Perm (0::1114112::zbB ks)) (h2:cs.Pairwise (·<=·)) {srt tr:List (Int × Int)}(g1:srt.Perm tr) (g2:srt.Pairwise le2) (g3:∀ x,cum tr x=zef ks x) :
  swp 0 0 srt=duo (zef ks) 0 cs:=by
 refine Ea (zpF hk h1 h2) λa b=>?_
 refine Ea (zkz g2) λc d=>?_
 exact zhk _ _ 0 c a λx=>by rw [d,b,zj2 g1,g3]
end Mine
namespace Mine
open PySem PySem.W PySem.Spec PySem.Calls PyProof.Rows
theorem za2 {k:Nat}(h:k<=2 ^ 20):zbr k=true:=decide_eq_true h
theorem zhx {α:Type}{u:V->St->Option St}{t:St->Option (Bool × HP)}{e:St->Option (V × HP)}{P:List (Option V)->Prop}{g o:α->V}{b:α->Bool}{h:HP} :
  ∀ (xs:List α) (loc:List (Option V)),P loc->(∀ loc,P loc->∀ a ∈ xs,∃ loc',P loc'/\u (g a) ⟨loc,h⟩=some ⟨loc',h⟩/\t ⟨loc',h⟩=some (b a,h)/\(b a=true->e ⟨loc',h⟩=some (o a,h)))->
   zii u t e (xs.map g) ⟨loc,h⟩=some ((xs.filter b).map o,h):=by
 intro zz
 induction zz with
 | nil=>
  intro loc _ _
  exact rfl
 | cons a r ih=>
  intro loc hP H
  refine zkE (H loc hP a (.head _)) λloc' p1 p2 p3 p4=>?_
  have ih:=ih loc' p1 λl hl c hc=>H l hl c (.tail _ hc)
  show zii u t e (g a::r.map g) ⟨loc,h⟩=_
  unfold zii
  refine p2▸?_
  dsimp only
  refine p3▸?_
  cases hb:b a with
  | true=>
   dsimp only
   refine (p4 hb)▸?_
   dsimp only
   refine ih▸(zso hb)▸?_
   rfl
  | false=>
   dsimp only
   rw [ih,zsP (by rw [hb];decide)]
theorem zkR {α:Type}(xs:List α):xs.filter (λZ=>true)=xs:=List.filter_eq_self.mpr λZ Z=>rfl
theorem zem {α:Type}{src:St->Option (List V × HP)}{k:Nat}{cap:Option (PySem.Str × Nat)}{u:V->St->Option St}{e:St->Option (V × HP)}{P:List (Option V)->Prop}{g o:α->V}{st:St}{h:HP}{xs:List α}
  (hs:src st=some (xs.map g,h)) (hl:xs.length<=2 ^ 20) (h0:P (zhK k cap st.loc)) (H:∀ loc,P loc->∀ a ∈ xs,∃ loc',P loc'/\u (g a) ⟨loc,h⟩=some ⟨loc',h⟩/\e ⟨loc',h⟩=some (o a,h)) :
  zbP src k cap u (zbq true) e st=some (xs.map o,h):=by
 unfold zbP
 refine hs▸?_
 dsimp only
 rw [if_pos (za2 (by simpa using hl)),zhx (b:=λZ=>true) (o:=o) xs _ h0 λloc hP a ha=>?_,zkR]
 refine zkD (H loc hP a ha) λloc' p1 p2 p3=>?_
 exact ⟨loc',p1,p2,rfl,λZ=>p3⟩
theorem zkL {m:St->Option (List V × HP)}{st:St}{xs:List PyData}{h:HP}(e:m st=some (xs.map V.d,h)):zfI m st=some (.d (.list xs),h):=by
 unfold zfI;refine e▸?_;dsimp only;rw [zcJ];rfl
theorem zbH {m:St->Option (V × HP)}{st:St}{xs:List PyData}{h:HP}(e:m st=some (.d (.list xs),h)):zb4 m st=some (xs.map V.d,h):=by
 unfold zb4;exact e▸rfl
theorem zbN {r:St->Option (List V × HP)}{st:St}{xs:List PyData}{h:HP}(e:r st=some (xs.map V.d,h)) (hl:xs.length<=2 ^ 20):zc1 r st=some (.d (.tuple xs),h):=by
 unfold zc1;refine e▸?_;dsimp only;rw [if_pos (za2 (by simpa using hl)),zcJ];rfl
theorem ze0 {r:St->Option (List V × HP)}{st:St}{xs:List PyData}{h:HP}(e:r st=some (xs.map V.d,h)) (hl:xs.length<=2 ^ 20):zbD r st=some (.d (.list xs),h):=by
 unfold zbD;refine e▸?_;dsimp only;rw [if_pos (za2 (by simpa using hl)),zcJ];rfl
theorem znU {xs ys:List PyData}{hp:HP}(h1:xs.length<=2 ^ 20) (h2:ys.length<=2 ^ 20):zac zbg hp (.d (.list xs)) (.d (.list ys))=some (.d (.list (xs++ys)),hp):=by
 have e:zbg (.list xs) (.list ys)=if zbr xs.length && zbr ys.length then some (.list (xs++ys)) else none:=rfl
 unfold zac onD;dsimp only;refine (Eq.symm e)▸(Eq.symm (za2 h1))▸(Eq.symm (za2 h2))▸?_;rfl
theorem zcO (l:List (Int × Int)):(l.map pv2).map V.d=l.map vp:=by refine Eq.trans zrW ?_;rfl
noncomputable def vi (i:Int):V:=.d (.int i)
theorem zom (l:List Int):zhs (l.map vi)=some (l.map PyData.int):=by
 have:=zcJ (l.map PyData.int)
 rw [zrW] at this
 exact this
theorem zpJ {rs:List (Int × Int)}{hp:HP}{b c2 c3 c4 c5:Option V}(hl:rs.length<=2 ^ 18) :
  zaf (zat (zac zbg) (zfI (zbP (zb4 (zae 1)) 2 none (zeE 2 (zaI (zaC 0) (zaI (zaC 1) (zcD)))) (zbq true) (zc1 (zaf (zae 0) (zaf (zal (.int 1)) (zaw)))))) (zfI (zbP (zb4 (zae 1)) 2 none (zeE 2 (zaI (zaC 0) (zaI (zaC 1) (zcD)))) (zbq true) (zc1 (zaf (zat (zac zbg) (zae 1) (zal (.int 1))) (zaf (zde (zal (.int 1))) (zaw))))))) (zaw)
   ⟨[b,some (.d (.list (rs.map pv2))),c2,c3,c4,c5],hp⟩=some ([.d (.list ((zmJ rs).map pv2))],hp):=by
 refine zaj (v:=.d (.list ((zmJ rs).map pv2))) (h:=hp) ?_ rfl
 refine zrR▸?_
 refine zag (h1:=hp) (h2:=hp) (a:=.d (.list ((rs.map λr=>(r.1,(1:Int))).map pv2))) (b:=.d (.list ((rs.map λr=>(r.2 + 1,(-1:Int))).map pv2))) ?_ ?_ (znU (by simp;exact zrn hl (zN rfl)) (by simp;exact (zrn (m:=262144) hl (by lia))))
 ·refine zkL ?_
  rw [zcO,zrW]
  refine zem (g:=vp) (o:=vp ∘ λr:Int × Int=>(r.1,(1:Int))) (P:=λloc=>∃ x y,loc=[x,y]) (h:=hp) ((zbH rfl).trans (by rw [zcO])) (by exact zrn hl (zN rfl)) ⟨none,none,rfl⟩ λloc hP a Z=>?_
  obtain ⟨x,y,rfl⟩:=hP
  exact ⟨[oI a.1,oI a.2],⟨_,_,rfl⟩,rfl,rfl⟩
 ·refine zkL ?_
  rw [zcO,zrW]
  refine zem (g:=vp) (o:=vp ∘ λr:Int × Int=>(r.2 + 1,(-1:Int))) (P:=λloc=>∃ x y,loc=[x,y]) (h:=hp) ((zbH rfl).trans (by rw [zcO])) (zrn (m:=262144) (k:=1048576) hl (by lia)) ⟨none,none,rfl⟩ λloc hP a Z=>?_
  obtain ⟨x,y,rfl⟩:=hP
  exact ⟨[oI a.1,oI a.2],⟨_,_,rfl⟩,rfl,rfl⟩
theorem zgU (a b:Bool) (hp:HP):za6 true hp (.d (.bool a)) (.d (.bool b))=some (.d (.bool (a != b)),hp):=by
 cases a <;> cases b <;> rfl
noncomputable abbrev oB (b:Bool):Option V:=some (.d (.bool b))
theorem zov {b:St->Option (Fl × St)}{A R:Option V}{id:Nat}
  (hb:∀ (i:Bool) (e:Int × Int) out hp,hp[id]?=some (some (out.map vi))->out.length<=2 ^ 20->b ⟨[A,R,oL id,oB i,oI e.1,oI e.2],hp⟩ =
   some (.next,if (decide (0 < e.2) != i)=true then ⟨[A,R,oL id,oB (!i),oI e.1,oI e.2],hp.set id (some ((out++[e.1]).map vi))⟩ else ⟨[A,R,oL id,oB i,oI e.1,oI e.2],hp⟩)) :
  ∀ (p:List (Int × Int)) (i:Bool) out hp c4 c5,hp[id]?=some (some (out.map vi))->p.length + out.length<=2 ^ 20->
   ∃ i' c4' c5',forL (zeE 2 (zaI (zaC 4) (zaI (zaC 5) (zcD)))) b (p.map vp) ⟨[A,R,oL id,oB i,c4,c5],hp⟩=some (.next,⟨[A,R,oL id,oB i',c4',c5'],hp.set id (some ((out++edg i p).map vi))⟩):=by
 intro zz
 induction zz with
 | nil=>
  intro i out hp c4 c5 h1 h2
  exact ⟨i,c4,c5,by
   show some (Fl.next,(⟨[A,R,oL id,oB i,c4,c5],hp⟩:St))=_
   unfold edg
   rw [zrE,zcp h1]⟩
 | cons e r ih=>
  intro i out hp c4 c5 h1 h2
  have hid:=zcr h1
  simp only [zrr] at h2
  have hb':=hb i e out hp h1 (fk (r:=1048576) (R:=1048576) h2 (by lia))
  by_cases hc:(decide (0 < e.2) != i)=true
  ·rw [if_pos hc] at hb'
   (refine zpq (ih (!i) (out++[e.1]) (hp.set id (some ((out++[e.1]).map vi))) (oI e.1) (oI e.2) (zru hid) (by simp;exact (zrn (by lia) h2))) λi' c4' c5' q=>?_)
   refine ⟨i',c4',c5',?_⟩
   refine zb2 (st1:=⟨[A,R,oL id,oB i,oI e.1,oI e.2],hp⟩) rfl hb' ?_
   refine q.trans ?_
   rw [zrX]
   conv=>rhs;unfold edg
   rw [if_pos hc,zrx]
   rfl
  ·rw [if_neg hc] at hb'
   refine zpq (ih i out hp (oI e.1) (oI e.2) h1 (fk (r:=1048576) (R:=1048576) h2 (by lia))) λi' c4' c5' q=>?_
   refine ⟨i',c4',c5',?_⟩
   refine zb2 (st1:=⟨[A,R,oL id,oB i,oI e.1,oI e.2],hp⟩) rfl hb' ?_
   refine q.trans ?_
   conv=>rhs;unfold edg
   exact (if_neg hc)▸rfl
theorem zm2 (k:Nat):∃ b,zfk k=zau (zcm 2 (zaf (zgj (zaw)) (zaf (zal (.bool false)) (zaw))) (λvs=>(zaI (zaC 3) (zaI (zaC 2) (zcD))) vs.reverse)) (zau (zfJ (zb4 (zaV (zcg k) (zaf (zat (zac zbg) (zfI (zbP (zb4 (zae 1)) 2 none (zeE 2 (zaI (zaC 0) (zaI (zaC 1) (zcD)))) (zbq true) (zc1 (zaf (zae 0) (zaf (zal (.int 1)) (zaw)))))) (zfI (zbP (zb4 (zae 1)) 2 none (zeE 2 (zaI (zaC 0) (zaI (zaC 1) (zcD)))) (zbq true) (zc1 (zaf (zat (zac zbg) (zae 1) (zal (.int 1))) (zaf (zde (zal (.int 1))) (zaw))))))) (zaw)))) (zeE 2 (zaI (zaC 4) (zaI (zaC 5) (zcD)))) b) (zau (zdC (zdT (zbf (zae 0)) (zat (zac zbg) (zat (zac zbg) (zbD (zaf (zal (.int 0)) (zaw))) (zgB (zae 2))) (zbD (zaf (zal (.int 1114112)) (zaw)))) (zgB (zae 2)))) (zas .next)))/\
  ∀ A R (id:Nat) (i:Bool) (e:Int × Int) out hp,hp[id]?=some (some (out.map vi))->out.length<=2 ^ 20->b ⟨[A,R,oL id,oB i,oI e.1,oI e.2],hp⟩ =
   some (.next,if (decide (0 < e.2) != i)=true then ⟨[A,R,oL id,oB (!i),oI e.1,oI e.2],hp.set id (some ((out++[e.1]).map vi))⟩ else ⟨[A,R,oL id,oB i,oI e.1,oI e.2],hp⟩):=by
 refine ⟨_,rfl,λA R id i e out hp h1 h2=>?_⟩
 have ht:zay (zat (za6 true) (zat (zac gtD) (zae 5) (zal (.int 0))) (zae 3)) ⟨[A,R,oL id,oB i,oI e.1,oI e.2],hp⟩=some (decide (0 < e.2) != i,hp):=
  zaB (zag (a:=.d (.bool (decide (0 < e.2)))) (h1:=hp) rfl rfl (zgU _ _ _))
 by_cases hc:(decide (0 < e.2) != i)=true
 ·refine (if_pos hc)▸?_
  rw [hc] at ht
  refine zam (zaZ ht ?_) rfl
  refine zam (zbh (zbk (v:=.l id) (vs:=[vi e.1]) (h:=hp) (h':=hp) rfl (zcL h1) rfl (zmP h1 (by simpa using h2)))) ?_
  have e1:out.map vi++[vi e.1]=(out++[e.1]).map vi:=by rw [zrR];rfl
  refine (Eq.symm e1)▸?_
  refine zam (zaD (v:=.d (.bool (!i))) rfl rfl) rfl
 ·refine (if_neg hc)▸?_
  rw [Bool.eq_false_iff.mpr hc] at ht
  exact zam (zaF ht rfl) rfl
theorem zpM {hp:HP}{id:Nat}{l:List Int}(h:hp[id]?=some (some (l.map vi))):zhE hp (.l id)=some (.d (.list (l.map PyData.int)),hp.set id none):=by
 exact zdI h (zom _)
theorem zn0 {m:St->Option (V × HP)}{st:St}{v:V}{h:HP}{r:Option (V × HP)}(e:m st=some (v,h)) (e2:zhE h v=r):zgB m st=r:=by
 unfold zgB;refine e▸?_;exact e2
theorem zbL {α:Type}(l:List α) (x:α):(l++[x])[l.length]?=some x:=by
 rw [zrF (zrv _),zta];rfl
theorem zb6 {α:Type}(l:List α) (x y:α):(l++[x]).set l.length y=l++[y]:=by
 rw [zsV _ _ (zrv _),zta];rfl
theorem zjl {k:Nat}{b:Bool}{rs:List (Int × Int)}{hp:HP}(h1:2 * rs.length + 1 < k) (h2:rs.length<=2 ^ 17) :
  ∃ srt:List (Int × Int),srt.Perm (zmJ rs)/\srt.Pairwise le2/\zdt k [.d (.bool b),.d (.list (rs.map pv2))] hp=some (.d (.list ((zf2 b (edg false (swp 0 0 srt))).map PyData.int)),hp):=by
 refine Eea (zm2 k) λbb e hb=>?_
 have hel:(zmJ rs).length=2 * rs.length:=by unfold zmJ;simp;exact (by lia)
 obtain ⟨srt,s1,s2,s3⟩:=zf8 (k:=k) (l:=zmJ rs) (hp:=hp++[some []]) (by exact hel▸h1) (fk (r:=524288) (al2 (ml2 (b:=131072) 2 h2) (leq hel)) (by lia))
 refine ⟨srt,s1,s2,?_⟩
 have hsl:=s1.length_eq
 have hpl:=zmz srt 0 0
 have hedl:=zlK (swp 0 0 srt) false
 obtain ⟨i',c4',c5',q⟩:=zov (b:=bb) (A:=oB b) (R:=some (.d (.list (rs.map pv2)))) (id:=hp.length) (λi e out hp=>hb _ _ _ i e out hp) (swp 0 0 srt) false [] (hp++[some []]) none none (zbL _ _) (by simp only [zrz];exact (fk (r:=1048576) (al2 (al2 (al2 (ml2 (b:=131072) 2 h2) (leq hel)) (leq hsl)) hpl) (by lia)))
 rw [zsf] at q
 have hset:(hp++[some []]).set hp.length (some ((edg false (swp 0 0 srt)).map vi))=hp++[some ((edg false (swp 0 0 srt)).map vi)]:=zb6 _ _ _
 rw [hset] at q
 generalize hes:edg false (swp 0 0 srt)=es at *
 have hf:zhE (hp++[some (es.map vi)]) (.l hp.length)=some (.d (.list (es.map PyData.int)),hp++[none]):=by
  rw [zpM (zbL _ _),zb6]
 refine zcX (loc:=[oB b,some (.d (.list (rs.map pv2))),oL hp.length,oB i',c4',c5']) (ext:=[none]) rfl ?_
 rw [e]
 refine zam (st1:=⟨[oB b,some (.d (.list (rs.map pv2))),oL hp.length,oB false,none,none],hp++[some []]⟩) rfl ?_
 refine zam (st1:=⟨[oB b,some (.d (.list (rs.map pv2))),oL hp.length,oB i',c4',c5'],hp++[some (es.map vi)]⟩) ?_ ?_
 ·unfold zfJ
  rw [zbH (zaE (zpJ (by exact zrn h2 (zN rfl))) s3),zcO]
  exact q
 ·refine zbA ?_
  cases b with
  | false=>
   refine zfw (h:=hp++[some (es.map vi)]) rfl (zn0 (h:=hp++[some (es.map vi)]) rfl hf)
  | true=>
   refine zer (h:=hp++[some (es.map vi)]) rfl ?_
   have e1:zat (zac zbg) (zbD (zaf (zal (.int 0)) (zaw))) (zgB (zae 2)) ⟨[oB true,some (.d (.list (rs.map pv2))),oL hp.length,oB i',c4',c5'],hp++[some (es.map vi)]⟩=some (.d (.list ([PyData.int 0]++es.map PyData.int)),hp++[none]):=
    zag (a:=.d (.list [.int 0])) (h1:=hp++[some (es.map vi)]) rfl (zn0 (h:=hp++[some (es.map vi)]) rfl hf) (znU (by exact zrw _) (by simp;exact (fk (al2 (al2 (al2 (al2 (ml2 (b:=131072) 2 h2) (leq hel)) (leq hsl)) hpl) hedl) (by lia))))
   have e2:=zag (mr:=zbD (zaf (zal (.int 1114112)) (zaw))) (b:=.d (.list [.int 1114112])) (op:=zac zbg) e1 rfl (znU (by simp;exact (fk (al2 (al2 (al2 (al2 (ml2 (b:=131072) 2 h2) (leq hel)) (leq hsl)) hpl) hedl) (by lia))) (by exact zrw _))
   refine Eq.trans e2 ?_
   unfold zf2
   simp
noncomputable def kd (k:zdR):PyData:=.tuple [.bool k.1,.list (k.2.map pv2)]
noncomputable abbrev oD (x:PyData):Option V:=some (.d x)
noncomputable def zkA:List zdR->Nat
 | []=>0
 | k::r=>2 * k.2.length + 2 + zkA r
noncomputable def zq1 (n:Nat) (ks:List zdR):Prop:=∀ k ∈ ks,okr k.2/\2 * k.2.length + 1 < n/\k.2.length<=2 ^ 17
theorem zmE:∀ (es:List Int) (s:Int),trn s es=(zsR es.length).map λk=>(es.getD k 0,s * (1 - ((k:Nat):Int) % 2 * 2)):=by
 intro zz
 induction zz with
 | nil=>
  intro _
  exact rfl
 | cons a r ih=>
  intro s
  show (a,s)::trn (-s) r=_
  refine (Eq.symm (ih (-s)))▸(Eq.symm zrr)▸(Eq.symm ztf)▸(Eq.symm zsm)▸(Eq.symm zrW)▸?_
  congr 1
  ·show (a,s)=(a,s * (1 - 0 * 2));rw [show (1 - 0 * 2:Int)=1 from rfl,zuJ]
  ·apply zsq
   intro k _
   congr 1
   rcases ztB k with q | q
   ·have e1:(k:Int) % 2=0:=by lia
    have e2:((k + 1:Nat):Int) % 2=1:=by lia
    refine (Eq.symm e1)▸(Eq.symm e2)▸?_;simp
   ·have e1:(k:Int) % 2=1:=by lia
    have e2:((k + 1:Nat):Int) % 2=0:=by lia
    refine (Eq.symm e1)▸(Eq.symm e2)▸?_;simp
theorem zdy {hp:HP}{xs:List PyData}{i:Nat}{x:PyData}(hi:xs[i]?=some x) (hs:i < 2 ^ 62):zdk hp (.d (.list xs)) (.d (.int (i:Int)))=some (.d x,hp):=by
 have hlt:i < xs.length:=by
  rcases zr4 i xs.length with q | q
  ·exact q
  ·rw [zrH q] at hi;exact zan hi
 have e1:zfv (i:Int)=true:=by
  unfold zfv
  simp only [zrA,decide_eq_true_eq]
  exact zni hs
 have e2:seqIndex? (i:Int) (xs.map V.d).length=some i:=by
  unfold seqIndex?
  have h0:¬ ((i:Int) < 0):=inn _
  simp only [h0,if_false]
  rw [if_pos (by simp;omega)]
  simp
 rw [zcc]
 rw [if_pos e1]
 dsimp only [zbl]
 rw [e2]
 simp [hi]
theorem zoX {i:Nat}{es:Option V}{hp:HP}:zat (zac (zaP zh7)) (zal (.int 1)) (zat (zac (zaP zlt)) (zat (zac (zaP zdd)) (zae 0) (zal (.int 2))) (zal (.int 2))) ⟨[oI (i:Int),es],hp⟩=some (.d (.int (1 - (i:Int) % 2 * 2)),hp):=by
 have h1:zaP zdd (.int (i:Int)) (.int 2)=some (.int ((i:Int) % 2)):=by
  rw [zkf]
  unfold zdd
  rw [if_neg (by decide),zsD _ (by decide)];rfl
 have h2:zaP zlt (.int ((i:Int) % 2)) (.int 2)=some (.int ((i:Int) % 2 * 2)):=by
  rw [zkf]
  unfold zlt small
  rw [if_pos (by simp only [zrA,decide_eq_true_eq];exact ⟨zrJ (by decide) (zte _ (by decide)),zsu (ztF _ (by decide)) (by decide)⟩)];rfl
 refine zag (a:=.d (.int 1)) (h1:=hp) (h2:=hp) (b:=.d (.int ((i:Int) % 2 * 2))) rfl ?_ rfl
 refine zag (a:=.d (.int ((i:Int) % 2))) (h1:=hp) (h2:=hp) (b:=.d (.int 2)) ?_ rfl ?_
 ·refine zag (a:=.d (.int (i:Int))) (h1:=hp) (h2:=hp) (b:=.d (.int 2)) rfl rfl ?_
  rw [zcY];refine (congrArg _ h1).trans ?_;rfl
 ·rw [zcY];rw [h2];rfl
theorem zmB {es:List Int}{hp:HP}{c0 c1 c2 c3:Option V}(hl:es.length<=2 ^ 20) :
  zfI (zbP (zdm (zaf (zaV (zeG) (zaf (zae 4) (zaw))) (zaw))) 1 (some (("edges":zS),4)) (zaC 0) (zbq true) (zc1 (zaf (za4 (zae 1) (zae 0)) (zaf (zat (zac (zaP zh7)) (zal (.int 1)) (zat (zac (zaP zlt)) (zat (zac (zaP zdd)) (zae 0) (zal (.int 2))) (zal (.int 2)))) (zaw))))) ⟨[c0,c1,c2,c3,oD (.list (es.map PyData.int))],hp⟩ =
   some (.d (.list ((trn 1 es).map pv2)),hp):=by
 refine zkL ?_
 rw [zmE,zcO,zrW]
 refine zem (g:=λi:Nat=>V.d (.int (i:Int))) (P:=λloc=>∃ x,loc=[x,oD (.list (es.map PyData.int))]) (h:=hp) ?_ (by simpa using hl) ⟨none,rfl⟩ λloc hP i hi=>?_
 ·have hlen:zaV (zeG) (zaf (zae 4) (zaw)) ⟨[c0,c1,c2,c3,oD (.list (es.map PyData.int))],hp⟩=some (.d (.int (es.length:Int)),hp):=by
   refine zaE (vs:=[.d (.list (es.map PyData.int))]) (h:=hp) rfl ?_
   refine Eq.trans (if_pos (za2 (by simpa using hl))) ?_
   simp
  have hc:zaf (zaV (zeG) (zaf (zae 4) (zaw))) (zaw) ⟨[c0,c1,c2,c3,oD (.list (es.map PyData.int))],hp⟩=some ([.d (.int (es.length:Int))],hp):=zaj hlen rfl
  unfold zdm
  refine hc▸?_
  refine Eq.trans (if_pos (by unfold zcF;simp only [zrA,decide_eq_true_eq];lia)) ?_
  refine (Eq.symm (show ((es.length:Int)).toNat=es.length from rfl))▸?_
  congr 2
  apply zsq
  intro i _
  rw [zs9,zuJ]
 ·obtain ⟨x,rfl⟩:=hP
  have hlt:i < es.length:=zsk.mp hi
  refine ⟨[oI (i:Int),oD (.list (es.map PyData.int))],⟨_,rfl⟩,rfl,?_⟩
  refine zbN (xs:=[.int (es.getD i 0),.int (1 * (1 - (i:Int) % 2 * 2))]) ?_ (zN rfl)
  refine zaj (v:=.d (.int (es.getD i 0))) (h:=hp) ?_ (zaj (v:=.d (.int (1 * (1 - (i:Int) % 2 * 2)))) (h:=hp) ?_ rfl)
  ·refine zag (a:=.d (.list (es.map PyData.int))) (b:=.d (.int (i:Int))) (h1:=hp) (h2:=hp) rfl rfl (zdy ?_ (fk (r:=4611686018427387904) (al2 (b:=1048576) hl hlt) (by lia)))
   refine (Eq.symm zr7)▸(Eq.symm (zrG hlt))▸(Eq.symm zrM)▸(Eq.symm (zrG hlt))▸?_;rfl
  ·rw [zuZ];exact zoX
theorem zpk {k:Nat}{b:St->Option (Fl × St)}{K:Option V}{hp:HP}
  (hb:∀ (q:zdR) (tr:List (Int × Int)) c4,okr q.2->2 * q.2.length + 1 < k->q.2.length<=2 ^ 17->tr.length<=2 ^ 18->∃ (es:List Int) (t:List (Int × Int)),(∀ x,cum t x=b2i (zb3 q x))/\t.length<=2 * q.2.length + 2/\
   b ⟨[K,oD (.list (tr.map pv2)),oB q.1,oD (.list (q.2.map pv2)),c4],hp⟩=some (.next,⟨[K,oD (.list ((tr++t).map pv2)),oB q.1,oD (.list (q.2.map pv2)),oD (.list (es.map PyData.int))],hp⟩)) :
  ∀ (ks:List zdR) (tr:List (Int × Int)) c2 c3 c4,zq1 k ks->tr.length + zkA ks<=2 ^ 18->∃ (t:List (Int × Int)) (c2' c3' c4':Option V),(∀ x,cum t x=zef ks x)/\t.length<=zkA ks/\
   forL (zeE 2 (zaI (zaC 2) (zaI (zaC 3) (zcD)))) b (ks.map λq=>V.d (kd q)) ⟨[K,oD (.list (tr.map pv2)),c2,c3,c4],hp⟩=some (.next,⟨[K,oD (.list ((tr++t).map pv2)),c2',c3',c4'],hp⟩):=by
 intro zz
 induction zz with
 | nil=>
  intro tr c2 c3 c4 _ _
  exact ⟨[],c2,c3,c4,λZ=>rfl,zrv _,by rw [zrE];rfl⟩
 | cons q r ih=>
  intro tr c2 c3 c4 hk hl
  refine Eaa (hk q (.head _)) λk1 k2 k3=>?_
  have hl':tr.length + (2 * q.2.length + 2 + zkA r)<=2 ^ 18:=hl
  refine zcG (hb q tr c4 k1 k2 k3 (fk (r:=262144) (R:=262144) hl (by lia))) λes t1 u1 u2 u3=>?_
  (refine zeH (ih (tr++t1) (oB q.1) (oD (.list (q.2.map pv2))) (oD (.list (es.map PyData.int))) (λx hx=>hk x (.tail _ hx)) (by refine zro▸?_;exact (fk (r:=262144) (al2 (b:=262144) hl' u2) (by lia)))) λt2 c2' c3' c4' v1 v2 v3=>?_)
  refine ⟨t1++t2,c2',c3',c4',λx=>?_,?_,?_⟩
  ·rw [zgS,u1,v1];rfl
  ·rw [zro];show _<=2 * q.2.length + 2 + zkA r;exact zrY u2 v2
  ·refine zb2 (st1:=⟨[K,oD (.list (tr.map pv2)),oB q.1,oD (.list (q.2.map pv2)),c4],hp⟩) rfl u3 ?_
   rw [v3,zrx]
theorem znT (k:Nat):∃ b,zdE k=zau (doM (zbD (zaw)) (zaC 1)) (zau (zfJ (zb4 (zae 0)) (zeE 2 (zaI (zaC 2) (zaI (zaC 3) (zcD)))) b) (zau (zdC (zae 1)) (zas .next)))/\
  ∀ (K:Option V) (hp:HP) (q:zdR) (tr:List (Int × Int)) c4,okr q.2->2 * q.2.length + 1 < k->q.2.length<=2 ^ 17->tr.length<=2 ^ 18->∃ (es:List Int) (t:List (Int × Int)),(∀ x,cum t x=b2i (zb3 q x))/\t.length<=2 * q.2.length + 2/\
   b ⟨[K,oD (.list (tr.map pv2)),oB q.1,oD (.list (q.2.map pv2)),c4],hp⟩=some (.next,⟨[K,oD (.list ((tr++t).map pv2)),oB q.1,oD (.list (q.2.map pv2)),oD (.list (es.map PyData.int))],hp⟩):=by
 refine ⟨_,rfl,λK hp q tr c4 h1 h2 h3 h4=>?_⟩
 obtain ⟨qb,rs⟩:=q
 dsimp only at h1 h2 h3 ⊢
 obtain ⟨srt,s1,s2,s3⟩:=zjl (k:=k) (b:=qb) (rs:=rs) (hp:=hp) h2 h3
 obtain ⟨e1,e2,e3⟩:=zm3 (b:=qb) h1 s1 s2
 generalize zf2 qb (edg false (swp 0 0 srt))=es at *
 refine ⟨es,trn 1 es,λx=>by rw [(zqe es x e1).1,e2],by rw [zmC];exact e3,?_⟩
 refine zam (st1:=⟨[K,oD (.list (tr.map pv2)),oB qb,oD (.list (rs.map pv2)),oD (.list (es.map PyData.int))],hp⟩) (zaD (zaE rfl s3) rfl) ?_
 refine zam (zaD (zag (a:=.d (.list (tr.map pv2))) (h1:=hp) rfl (zmB (fk (r:=1048576) (al2 (ml2 (b:=131072) 2 h3) e3) (by lia))) (znU (by simp;exact zrn h4 (zN rfl)) (by simp [zmC];exact (fk (al2 (ml2 (b:=131072) 2 h3) e3) (by lia))))) ?_) rfl
 refine (Eq.symm zrR)▸?_;rfl
theorem zjn {k:Nat}{ks:List zdR}{hp:HP}(h:zq1 k ks) (hl:zkA ks<=2 ^ 18) :
  ∃ t:List (Int × Int),(∀ x,cum t x=zef ks x)/\t.length<=zkA ks/\zdu k [.d (.list (ks.map kd))] hp=some (.d (.list (t.map pv2)),hp):=by
 refine Eea (znT k) λb e hb=>?_
 obtain ⟨t,c2',c3',c4',v1,v2,v3⟩:=zpk (k:=k) (b:=b) (K:=oD (.list (ks.map kd))) (hp:=hp) (hb _ hp) ks [] none none none h (by simpa using hl)
 rw [zsf] at v3
 refine ⟨t,v1,v2,?_⟩
 have:=zcX (np:=1) (total:=5) (m:=zdE k) (args:=[.d (.list (ks.map kd))]) (hp:=hp) (x:=.list (t.map pv2)) (loc:=[oD (.list (ks.map kd)),oD (.list (t.map pv2)),c2',c3',c4']) (ext:=[]) rfl ?_
 ·exact this
 rw [zrE]
 rw [e]
 refine zam (st1:=⟨[oD (.list (ks.map kd)),oD (.list []),none,none,none],hp⟩) rfl ?_
 refine zam (st1:=⟨[oD (.list (ks.map kd)),oD (.list (t.map pv2)),c2',c3',c4'],hp⟩) ?_ (zbA rfl)
 unfold zfJ
 rw [zbH rfl,zrW]
 exact v3
theorem zqw {b:St->Option (Fl × St)}{mk:List PyData->Option V->Option V->St}
  (hb:∀ (p:Int × Int) (cs:List Int) c6 c7,cs.length<=2 ^ 18->∃ st1,zeE 2 (zaI (zaC 6) (zaI (zaC 7) (zcD))) (vp p) (mk (cs.map PyData.int) c6 c7)=some st1/\b st1=some (.next,mk ((cs++[p.1,p.2 + 1]).map PyData.int) (oI p.1) (oI p.2))) :
  ∀ (rs:List (Int × Int)) (cs:List Int) c6 c7,cs.length + 2 * rs.length<=2 ^ 18->∃ c6' c7',forL (zeE 2 (zaI (zaC 6) (zaI (zaC 7) (zcD)))) b (rs.map vp) (mk (cs.map PyData.int) c6 c7)=some (.next,mk ((cs++rs.flatMap λp=>[p.1,p.2 + 1]).map PyData.int) c6' c7'):=by
 intro zz
 induction zz with
 | nil=>
  intro cs c6 c7 _
  exact ⟨c6,c7,by simp only [zs6,zrE];rfl⟩
 | cons p r ih=>
  intro cs c6 c7 h
  simp only [zrr] at h
  refine Eea (hb p cs c6 c7 (fk (r:=262144) (R:=262144) h (by lia))) λst1 h1 h2=>?_
  (refine Eee (ih (cs++[p.1,p.2 + 1]) (oI p.1) (oI p.2) (by simp;exact (zrn (by lia) h))) λc6' c7' e=>?_)
  refine ⟨c6',c7',zb2 h1 h2 ?_⟩
  rw [e,zrp,zrx]
theorem zpC {b:St->Option (Fl × St)}{mk:List PyData->Option V->Option V->Option V->Option V->St}
  (hb:∀ (q:zdR) (cs:List Int) c4 c5 c6 c7,cs.length + 2 * q.2.length<=2 ^ 18->∃ st1 c6' c7',zeE 2 (zaI (zaC 4) (zaI (zaC 5) (zcD))) (.d (kd q)) (mk (cs.map PyData.int) c4 c5 c6 c7)=some st1/\b st1=some (.next,mk ((cs++q.2.flatMap λp=>[p.1,p.2 + 1]).map PyData.int) (oB q.1) (oD (.list (q.2.map pv2))) c6' c7')) :
  ∀ (ks:List zdR) (cs:List Int) c4 c5 c6 c7,cs.length + zkA ks<=2 ^ 18->∃ c4' c5' c6' c7',forL (zeE 2 (zaI (zaC 4) (zaI (zaC 5) (zcD)))) b (ks.map λq=>V.d (kd q)) (mk (cs.map PyData.int) c4 c5 c6 c7)=some (.next,mk ((cs++zbB ks).map PyData.int) c4' c5' c6' c7'):=by
 intro zz
 induction zz with
 | nil=>
  intro cs c4 c5 c6 c7 _
  exact ⟨c4,c5,c6,c7,by unfold zbB;rw [zrE];rfl⟩
 | cons q r ih=>
  intro cs c4 c5 c6 c7 h
  have h':cs.length + (2 * q.2.length + 2 + zkA r)<=2 ^ 18:=h
  refine zfq (hb q cs c4 c5 c6 c7 (by exact zrn (zr9 (zrn (zrI _ 2) (zrI _ _)) _) h')) λst1 d6 d7 h1 h2=>?_
  have hfl:(q.2.flatMap λp=>[p.1,p.2 + 1]).length=2 * q.2.length:=by
   induction q.2 with
   | nil=>rfl
   | cons a t ih=>refine zrp▸zro▸ih▸?_;dsimp;exact (by lia)
  (refine zpr (ih (cs++q.2.flatMap λp=>[p.1,p.2 + 1]) (oB q.1) (oD (.list (q.2.map pv2))) d6 d7 (by refine zro▸hfl▸?_;exact zrn (by rw [zsO];exact zr9 (zsw (zrI _ 2) _) _) h')) λc4' c5' c6' c7' e=>?_)
  refine ⟨c4',c5',c6',c7',zb2 h1 h2 ?_⟩
  rw [e,zrx];rfl
noncomputable def zfn (ks:List zdR) (p:Int):List zdR:=ks.filter λq=>q.1 != inr q.2 p
theorem zlp {ks:List zdR}(h:∀ k ∈ ks,okr k.2) {p:Int}(h0:0<=p):(if p < 1114112 then ((zfn ks p).length:Int) else 0)=zef ks p:=by
 induction ks with
 | nil=>show (if p < 1114112 then (0:Int) else 0)=0;split <;> rfl
 | cons k r ih=>
  have ih:=ih λq hq=>h q (.tail _ hq)
  show _=b2i (zb3 k p) + zef r p
  refine ih▸?_
  by_cases hp:p < 1114112
  ·refine (if_pos hp)▸(if_pos hp)▸?_
   have hin:zb3 k p=(k.1 != inr k.2 p):=by
    unfold zb3
    refine (Eq.symm (decide_eq_true h0))▸(Eq.symm (decide_eq_true hp))▸?_
    cases k.1 <;> cases inr k.2 p <;> rfl
   refine hin▸?_
   unfold zfn
   refine zs7▸?_
   cases (k.1 != inr k.2 p) with
   | true=>show ((_ + 1:Nat):Int)=1 + _;lia
   | false=>show _=0 + _;rw [zs9];rfl
  ·refine (if_neg hp)▸(if_neg hp)▸?_
   have hin:zb3 k p=false:=by
    unfold zb3
    refine (Eq.symm (zl1 (h k (.head _)) (.inr (by exact zsa.mp (by assumption)))))▸(Eq.symm (decide_eq_false hp))▸?_
    cases k.1 <;> simp
   refine hin▸?_;rfl
theorem zlD {a p c:Int}{hp:HP}:zgR (zae 0) (zae 2) (zae 1) ⟨[oI a,oI c,oI p],hp⟩=some (decide (a<=p) && decide (p<=c),hp):=by
 have e:zgR (zae 0) (zae 2) (zae 1) ⟨[oI a,oI c,oI p],hp⟩=if a<=p then some (decide (p<=c),hp) else some (false,hp):=rfl
 refine Eq.trans e ?_
 by_cases h:a<=p
 ·refine (if_pos h)▸(decide_eq_true h)▸?_;rfl
 ·refine (Eq.symm (if_neg h))▸(Eq.symm (decide_eq_false h))▸?_;rfl
theorem zlZ {rs:List (Int × Int)}{p:Int}{hp:HP}{c0:Option V}(hl:rs.length<=2 ^ 17) :
  zfI (zbP (zb4 (zae 1)) 2 (some (("place":zS),2)) (zeE 2 (zaI (zaC 0) (zaI (zaC 1) (zcD)))) (zgR (zae 0) (zae 2) (zae 1)) (zal (.int 1))) ⟨[c0,oD (.list (rs.map pv2)),oI p],hp⟩ =
   some (.d (.list ((rs.filter λr=>decide (r.1<=p) && decide (p<=r.2)).map λZ=>.int 1)),hp):=by
 refine zkL ?_
 unfold zbP
 rw [zbH rfl]
 dsimp only
 rw [if_pos (za2 (by simp;exact zrn hl (zN rfl))),zcO,zrW]
 refine zhx (g:=vp) (P:=λloc=>∃ x y,loc=[x,y,oI p]) rs _ ⟨none,none,rfl⟩ λloc hP a Z=>?_
 obtain ⟨x,y,rfl⟩:=hP
 exact ⟨[oI a.1,oI a.2,oI p],⟨_,_,rfl⟩,rfl,zlD,λZ=>rfl⟩
theorem zio {rs:List (Int × Int)}{p:Int}:(!((rs.filter λr=>decide (r.1<=p) && decide (p<=r.2)).map λZ=>PyData.int 1).isEmpty)=inr rs p:=by
 unfold inr
 induction rs with
 | nil=>rfl
 | cons r t ih=>
  refine zs7▸zup▸?_
  cases (decide (r.1<=p) && decide (p<=r.2)) with
  | true=>rfl
  | false=>rw [zuo,<- ih];rfl
theorem znK {α:Type}(l:List α):shp (.list (l.map λZ=>.int 1))=true:=by
 have h1:PyData.canLayAll0 (l.map λZ=>PyData.int 1)=true:=by
  induction l with
  | nil=>rfl
  | cons a r ih=>refine (congrArg _ zsm).trans ?_;unfold PyData.canLayAll0;refine (congrArg _ ih).trans ?_;rfl
 have h2:PyData.depthAll (l.map λZ=>PyData.int 1)=0:=by
  clear h1
  induction l with
  | nil=>rfl
  | cons a r ih=>
   refine (congrArg _ zsm).trans ?_;unfold PyData.depthAll
   have:(PyData.int 1).depth=0:=rfl
   refine (Eq.symm ih)▸(Eq.symm this)▸?_;rfl
 unfold shp SeqAt.shaped PyData.canLay0 PyData.depth
 refine (Eq.symm h1)▸(Eq.symm h2)▸?_;rfl
theorem zlq {ks:List zdR}{p:Int}{hp:HP}{c1 c2 c3 c4 c5 c6 c7 c9 c10:Option V}(hl:ks.length<=2 ^ 20) (hr:∀ q ∈ ks,q.2.length<=2 ^ 17) :
  zfI (zbP (zb4 (zae 0)) 2 (some (("place":zS),8)) (zeE 2 (zaI (zaC 0) (zaI (zaC 1) (zcD)))) (zay (zat (za6 true) (zae 0) (zat (za6 true) (zfI (zbP (zb4 (zae 1)) 2 (some (("place":zS),2)) (zeE 2 (zaI (zaC 0) (zaI (zaC 1) (zcD)))) (zgR (zae 0) (zae 2) (zae 1)) (zal (.int 1)))) (zbD (zaw))))) (zal (.int 1)))
   ⟨[oD (.list (ks.map kd)),c1,c2,c3,c4,c5,c6,c7,oI p,c9,c10],hp⟩=some (.d (.list ((zfn ks p).map λZ=>.int 1)),hp):=by
 refine zkL ?_
 unfold zbP
 rw [zbH rfl]
 dsimp only
 rw [if_pos (za2 (by simpa using hl)),zrW,zrW]
 refine zhx (g:=λq=>V.d (kd q)) (P:=λloc=>∃ x y,loc=[x,y,oI p]) ks _ ⟨none,none,rfl⟩ λloc hP q hq=>?_
 obtain ⟨x,y,rfl⟩:=hP
 refine ⟨[oB q.1,oD (.list (q.2.map pv2)),oI p],⟨_,_,rfl⟩,rfl,?_,λZ=>rfl⟩
 refine zaB (zag (a:=.d (.bool q.1)) (b:=.d (.bool (inr q.2 p))) (h1:=hp) (h2:=hp) rfl ?_ (zgU _ _ _))
 refine zag (zlZ (hr q hq)) rfl ?_
 rw [zlL rfl (znK _),if_pos rfl,zio]
theorem zou {b:St->Option (Fl × St)}{K c4 c5 c6 c7:Option V}{c1:Option V}{F:Int->Int}{id:Nat}{ok:Int->Prop}
  (hb:∀ (p last:Int) (out:List (Int × Int)) hp c9 c10,ok p->hp[id]?=some (some (out.map vp))->out.length<=2 ^ 18->∃ c9' c10',b ⟨[K,c1,oL id,oI last,c4,c5,c6,c7,oI p,c9,c10],hp⟩ =
   some (.next,⟨[K,c1,oL id,oI (F p),c4,c5,c6,c7,oI p,c9',c10'],hp.set id (some ((out++if F p≠last then [(p,F p)] else []).map vp))⟩)) :
  ∀ (cs:List Int) (last:Int) (out:List (Int × Int)) hp c8 c9 c10,(∀ c ∈ cs,ok c)->hp[id]?=some (some (out.map vp))->out.length + cs.length<=2 ^ 18->
   ∃ c3' c8' c9' c10',forL (zaC 8) b (cs.map vi) ⟨[K,c1,oL id,oI last,c4,c5,c6,c7,c8,c9,c10],hp⟩=some (.next,⟨[K,c1,oL id,c3',c4,c5,c6,c7,c8',c9',c10'],hp.set id (some ((out++duo F last cs).map vp))⟩):=by
 intro zz
 induction zz with
 | nil=>
  intro last out hp c8 c9 c10 _ h1 _
  exact ⟨oI last,c8,c9,c10,by
   show some (Fl.next,(⟨[K,c1,oL id,oI last,c4,c5,c6,c7,c8,c9,c10],hp⟩:St))=_
   unfold duo
   rw [zrE,zcp h1]⟩
 | cons p r ih=>
  intro last out hp c8 c9 c10 hok h1 h2
  have hid:=zcr h1
  simp only [zrr] at h2
  refine Eee (hb p last out hp c9 c10 (hok p (.head _)) h1 (fk (r:=262144) (R:=262144) h2 (by lia))) λd9 d10 hb'=>?_
  (refine zpr (ih (F p) (out++if F p≠last then [(p,F p)] else []) (hp.set id (some ((out++if F p≠last then [(p,F p)] else []).map vp))) (oI p) d9 d10 (λc hc=>hok c (.tail _ hc)) (zru hid) (by refine zro▸?_;split <;> simp <;> exact (zrn (by lia) h2))) λc3' c8' c9' c10' e=>?_)
  refine ⟨c3',c8',c9',c10',zb2 (st1:=⟨[K,c1,oL id,oI last,c4,c5,c6,c7,oI p,c9,c10],hp⟩) rfl hb' ?_⟩
  rw [e,zrX,zrx]
  congr 6
  conv=>rhs;unfold duo
  by_cases hd:F p=last
  ·rw [if_neg (λq=>q hd),if_neg (λq=>q hd)];rfl
  ·refine (if_pos hd)▸(if_pos hd)▸?_;rfl
theorem zm1 (k:Nat):∃ b1 b2,zha k=zau (zcm 3 (zaf (zbD (zaf (zal (.int 0)) (zaf (zal (.int 1114112)) (zaw)))) (zaf (zgj (zaw)) (zaf (zal (.int 0)) (zaw)))) (λvs=>(zaI (zaC 3) (zaI (zaC 2) (zaI (zaC 1) (zcD)))) vs.reverse)) (zau (zfJ (zb4 (zae 0)) (zeE 2 (zaI (zaC 4) (zaI (zaC 5) (zcD)))) b1) (zau (zfJ (zb4 (zaV (zgq) (zaf (zae 1) (zaw)))) (zaC 8) b2) (zau (zdC (zgB (zae 2))) (zas .next))))/\
  (∀ (K D L c8 c9 c10:Option V) hp (q:zdR) (cs:List Int) c6 c7,cs.length + 2 * q.2.length<=2 ^ 18->∃ c6' c7',b1 ⟨[K,oD (.list (cs.map PyData.int)),D,L,oB q.1,oD (.list (q.2.map pv2)),c6,c7,c8,c9,c10],hp⟩=some (.next,⟨[K,oD (.list ((cs++q.2.flatMap λp=>[p.1,p.2 + 1]).map PyData.int)),D,L,oB q.1,oD (.list (q.2.map pv2)),c6',c7',c8,c9,c10],hp⟩))/\
  (∀ (ks:List zdR) c1 c4 c5 c6 c7 (id:Nat) (p last:Int) (out:List (Int × Int)) hp c9 c10,ks.length<=2 ^ 20->(∀ q ∈ ks,okr q.2/\q.2.length<=2 ^ 17)->0<=p->hp[id]?=some (some (out.map vp))->out.length<=2 ^ 18->∃ c9' c10',b2 ⟨[oD (.list (ks.map kd)),c1,oL id,oI last,c4,c5,c6,c7,oI p,c9,c10],hp⟩ =
   some (.next,⟨[oD (.list (ks.map kd)),c1,oL id,oI (zef ks p),c4,c5,c6,c7,oI p,c9',c10'],hp.set id (some ((out++if zef ks p≠last then [(p,zef ks p)] else []).map vp))⟩)):=by
 refine ⟨_,_,rfl,λK D L c8 c9 c10 hp q cs c6 c7 hl=>?_,λks c1 c4 c5 c6 c7 id p last out hp c9 c10 h1 h2 h3 h4 h5=>?_⟩
 ·have hin:=λb hb=>zqw (b:=b) (mk:=λxs c6 c7=>⟨[K,oD (.list xs),D,L,oB q.1,oD (.list (q.2.map pv2)),c6,c7,c8,c9,c10],hp⟩) hb q.2 cs c6 c7 hl
  obtain ⟨c6',c7',e⟩:=hin _ λp cs c6 c7 hc=>⟨⟨[K,oD (.list (cs.map PyData.int)),D,L,oB q.1,oD (.list (q.2.map pv2)),oI p.1,oI p.2,c8,c9,c10],hp⟩,rfl,by
   refine zam (b:=zas .next) (zaD (m:=zat (zac zbg) (zae 1) (zbD (zaf (zae 6) (zaf (zat (zac zbg) (zae 7) (zal (.int 1))) (zaw))))) (u:=zaC 1) (zag (a:=.d (.list (cs.map PyData.int))) (b:=.d (.list [.int p.1,.int (p.2 + 1)])) (h1:=hp) (h2:=hp) rfl rfl (znU (by simp;exact zrn hc (zN rfl)) (zN rfl))) rfl) ?_
   refine zrR▸?_;rfl⟩
  refine ⟨c6',c7',zam ?_ rfl⟩
  unfold zfJ
  rw [zbH (xs:=q.2.map pv2) (h:=hp) rfl,zcO]
  exact e
 ·have hid:=zcr h4
  refine ⟨oD (.list ((zfn ks p).map λZ=>.int 1)),oI (zef ks p),?_⟩
  refine zam (zaD (zlq h1 λq hq=>(h2 q hq).2) rfl) ?_
  have htl:(zfn ks p).length<=ks.length:=zsj _ _
  refine zam (st1:=⟨[oD (.list (ks.map kd)),c1,oL id,oI last,c4,c5,c6,c7,oI p,oD (.list ((zfn ks p).map λZ=>.int 1)),oI (zef ks p)],hp⟩) ?_ ?_
  ·refine zaD (v:=.d (.int (zef ks p))) (h:=hp) ?_ rfl
   refine (zlp (λq hq=>(h2 q hq).1) h3)▸?_
   by_cases hp':p < 1114112
   ·refine (if_pos hp')▸?_
    refine zer (h:=hp) (zaB (zag (a:=.d (.int p)) (b:=.d (.int 1114112)) (h1:=hp) (h2:=hp) rfl rfl ?_)) ?_
    ·show some (V.d (.bool (decide (p < 1114112))),hp)=_
     exact (decide_eq_true hp')▸rfl
    ·refine zaE (vs:=[.d (.list ((zfn ks p).map λZ=>.int 1))]) (h:=hp) rfl ?_
     refine Eq.trans (if_pos (za2 (by simp;exact zrn htl h1))) ?_
     simp
   ·refine (if_neg hp')▸?_
    refine zfw (h:=hp) (zaB (zag (a:=.d (.int p)) (b:=.d (.int 1114112)) (h1:=hp) (h2:=hp) rfl rfl ?_)) rfl
    show some (V.d (.bool (decide (p < 1114112))),hp)=_
    exact (decide_eq_false hp')▸rfl
  ·have hne:zay (zat (za6 true) (zae 10) (zae 3)) ⟨[oD (.list (ks.map kd)),c1,oL id,oI last,c4,c5,c6,c7,oI p,oD (.list ((zfn ks p).map λZ=>.int 1)),oI (zef ks p)],hp⟩=some (!(zef ks p==last),hp):=
    zaB (zag rfl rfl (zf3 _ _ _))
   by_cases hd:zef ks p=last
   ·rw [if_neg (λq=>q hd),zrE,zcp h4]
    rw [hd,beq_self_eq_true] at hne
    refine (Eq.symm hd)▸?_
    exact zam (zaF hne rfl) (zam (zaD rfl rfl) rfl)
   ·refine (if_pos hd)▸?_
    rw [beq_eq_false_iff_ne.mpr hd] at hne
    refine zam (zaZ hne (zam (zbh (zbk (v:=.l id) (vs:=[vp (p,zef ks p)]) (h:=hp) (h':=hp) rfl (zcL h4) rfl (zfW h4 (by exact zrn h5 (zN rfl))))) rfl)) ?_
    exact zam (zaD rfl rfl) rfl
theorem zkP:∀ ks:List zdR,(zbB ks).length<=zkA ks:=by
 intro zz
 induction zz with
 | nil=>
  exact zrv _
 | cons k r ih=>
  have:=ih
  have hfl:(k.2.flatMap λp=>[p.1,p.2 + 1]).length=2 * k.2.length:=by
   induction k.2 with
   | nil=>rfl
   | cons a t ih=>refine zrp▸zro▸ih▸?_;dsimp;exact (by lia)
  show ((k.2.flatMap λp=>[p.1,p.2 + 1])++zbB r).length<=2 * k.2.length + 2 + zkA r
  refine (Eq.symm zro)▸(Eq.symm hfl)▸?_;exact (fk this (by lia))
theorem zqy {F:Int->Int}:∀ (cs:List Int) (last:Int),(duo F last cs).length<=cs.length:=by
 intro zz
 induction zz with
 | nil=>
  intro _
  exact zrv _
 | cons c r ih=>
  intro last
  unfold duo
  have:=ih (F c)
  split <;> simp <;> omega
theorem zhd (l:List Int):(zgI l).Perm l:=zue l _
theorem ziX (l:List Int):(zgI l).Pairwise (·<=·):=by
 have:=ztU (le:=λa b:Int=>decide (a<=b)) (λa b c h1 h2=>by simp only [decide_eq_true_eq] at *;exact (ifk (zqj h1 h2) (by lia))) (λa b=>by simp only [zsJ,decide_eq_true_eq];lia) l
 exact this.imp λh=>of_decide_eq_true h
theorem zlV {k:Nat}{ks:List zdR}{hp:HP}(h:∀ q ∈ ks,okr q.2/\q.2.length<=2 ^ 17) (h1:ks.length<=2 ^ 20) (h2:2 + (zbB ks).length < 64) (h3:zkA ks<=2 ^ 17) :
  zeT k [.d (.list (ks.map kd))] hp=some (.d (.list ((duo (zef ks) 0 (zgI (0::1114112::zbB ks))).map pv2)),hp):=by
 refine zcG (zm1 k) λb1 b2 e hb1 hb2=>?_
 have hcl:=zkP ks
 obtain ⟨c4',c5',c6',c7',e1⟩:=zpC (b:=b1) (mk:=λxs c4 c5 c6 c7=>⟨[oD (.list (ks.map kd)),oD (.list xs),oL hp.length,oI 0,c4,c5,c6,c7,none,none,none],hp++[some []]⟩) (λq cs c4 c5 c6 c7 hl=>by
  refine Eee (hb1 (oD (.list (ks.map kd))) (oL hp.length) (oI 0) none none none (hp++[some []]) q cs c6 c7 hl) λc6' c7' e=>?_
  exact ⟨_,c6',c7',rfl,e⟩) ks [0,1114112] none none none none (by dsimp;exact (fk (R:=131072) h3 (by lia)))
 have hs:=zhd (0::1114112::zbB ks)
 have hsl:=hs.length_eq
 simp only [zrr] at hsl
 obtain ⟨c3',c8',c9',c10',e2⟩:=zou (b:=b2) (K:=oD (.list (ks.map kd))) (c4:=c4') (c5:=c5') (c6:=c6') (c7:=c7') (c1:=oD (.list (([0,1114112]++zbB ks).map PyData.int))) (F:=zef ks) (id:=hp.length) (ok:=λc=>0<=c)
  (λp last out hp c9 c10 hok g1 g2=>hb2 ks _ c4' c5' c6' c7' _ p last out hp c9 c10 h1 h hok g1 g2) (zgI (0::1114112::zbB ks)) 0 [] (hp++[some []]) none none none
  (λc hc=>by
   have:=hs.mem_iff.mp hc
   rcases zrs.mp this with q | q
   ·exact (zrO (by lia) (zpo q))
   ·rcases zrs.mp q with q | q
    ·exact (zrO (by lia) (zpo q))
    ·exact zik (λk hk=>(h k hk).1) c q) (zbL _ _) (by simp only [zrz];exact (fk (r:=262144) (al2 h2 (leq hsl)) (by lia)))
 rw [zsf,zb6] at e2
 refine zcX (loc:=[oD (.list (ks.map kd)),oD (.list (([0,1114112]++zbB ks).map PyData.int)),oL hp.length,c3',c4',c5',c6',c7',c8',c9',c10']) (ext:=[none]) rfl ?_
 rw [e]
 refine zam (st1:=⟨[oD (.list (ks.map kd)),oD (.list ([0,1114112].map PyData.int)),oL hp.length,oI 0,none,none,none,none,none,none,none],hp++[some []]⟩) rfl ?_
 refine zam (st1:=⟨[oD (.list (ks.map kd)),oD (.list (([0,1114112]++zbB ks).map PyData.int)),oL hp.length,oI 0,c4',c5',c6',c7',none,none,none],hp++[some []]⟩) ?_ ?_
 ·unfold zfJ
  rw [zbH (xs:=ks.map kd) (h:=hp++[some []]) rfl,zrW]
  exact e1
 refine zam (st1:=⟨[oD (.list (ks.map kd)),oD (.list (([0,1114112]++zbB ks).map PyData.int)),oL hp.length,c3',c4',c5',c6',c7',c8',c9',c10'],hp++[some ((duo (zef ks) 0 (zgI (0::1114112::zbB ks))).map vp)]⟩) ?_ ?_
 ·have hsort:zgq [.d (.list (([0,1114112]++zbB ks).map PyData.int))] (hp++[some []])=some (.d (.list ((zgI (0::1114112::zbB ks)).map PyData.int)),hp++[some []]):=by
   unfold zgq
   dsimp only [bV,bL,bO,on1,on2,onD,onR,dI,dS,dL,onS,onI,onL]
   rw [if_pos (by simp;exact (zrn (by lia) h2)),znk];rfl
  unfold zfJ
  rw [zbH (xs:=(zgI (0::1114112::zbB ks)).map PyData.int) (h:=hp++[some []]) (zaE (vs:=[.d (.list (([0,1114112]++zbB ks).map PyData.int))]) (h:=hp++[some []]) rfl hsort),zrW]
  exact e2
 ·refine zbA (zn0 (v:=.l hp.length) (h:=hp++[some ((duo (zef ks) 0 (zgI (0::1114112::zbB ks))).map vp)]) rfl ?_)
  exact (zdI (zbL _ _) (zfV _)).trans (by rw [zb6])
end Mine
namespace Mine
open PySem PySem.W PySem.Spec PySem.Calls PyProof.Rows PySem.Builtin PySem.Builtin.Str
noncomputable def T (l:List Nat):PySem.Str:=⟨l.toArray⟩
theorem zqX (l:List Nat):(T l).cps.toList=l:=rfl
theorem zca (l:List Nat):(T l).length=l.length:=rfl
theorem zhr (a b:List Nat):T a++T b=T (a++b):=by
 show (⟨a.toArray++b.toArray⟩:PySem.Str)=⟨(a++b).toArray⟩
 rw [List.append_toArray]
theorem zq6 (x:PySem.Str):x=T x.cps.toList:=by
 cases x;rfl
theorem zqq {a b:List Nat}(h:T a=T b):a=b:=by
 have:=congrArg (λx:PySem.Str=>x.cps.toList) h
 exact this
theorem zqp (a b:List Nat):(T a==T b)=decide (a=b):=by
 by_cases h:a=b
 ·subst h;simp
 ·rw [decide_eq_false h,beq_eq_false_iff_ne];exact λq=>h (zqq q)
theorem zlN (a b:List Nat):PyData.eqv (.str (T a)) (.str (T b))=decide (a=b):=by
 rw [<- zqp];rfl
noncomputable def okL (l:List Nat):Prop:=∀ c ∈ l,c < 1114112
theorem okL_app {a b:List Nat}:okL (a++b)↔okL a/\okL b:=by
 unfold okL;simp only [zrU]
 exact ⟨λh=>⟨λc hc=>h c (.inl hc),λc hc=>h c (.inr hc)⟩,λh c hc=>hc.elim (h.1 c) (h.2 c)⟩
theorem okL_cons {a:Nat}{b:List Nat}:okL (a::b)↔a < 1114112/\okL b:=by
 unfold okL;simp
theorem znr {l:List Nat}(h:okL l):(PyData.str (T l)).canLay0=true:=by
 show PyData.strOk (T l)=true
 unfold PyData.strOk T
 rw [Array.all_eq_true']
 intro c hc
 exact decide_eq_true (h c (by simpa using hc))
theorem znJ {l:List Nat}(h:okL l):shp (.str (T l))=true:=by
 unfold shp SeqAt.shaped
 refine (Eq.symm (znr h))▸?_;rfl
theorem eqS {a b:List Nat}{hp:HP}{neg:Bool}(ha:okL a) (hb:okL b):za6 neg hp (.d (.str (T a))) (.d (.str (T b)))=some (.d (.bool (if neg then !decide (a=b) else decide (a=b))),hp):=by
 unfold za6
 dsimp only [zdr]
 rw [znJ ha,znJ hb,zlN];rfl
theorem zcs {l:List Nat}{hp:HP}{i c:Nat}(hi:l[i]?=some c) (hs:i < 2 ^ 62):zdk hp (.d (.str (T l))) (.d (.int (i:Int)))=some (.d (.str (T [c])),hp):=by
 have hlt:i < l.length:=by
  rcases zr4 i l.length with q | q
  ·exact q
  ·rw [zrH q] at hi;exact zan hi
 have e1:zfv (i:Int)=true:=by
  unfold zfv
  simp only [zrA,decide_eq_true_eq]
  exact zni hs
 have e2:seqIndex? (i:Int) (T l).length=some i:=by
  unfold seqIndex?
  have h0:¬ ((i:Int) < 0):=inn _
  simp only [h0,if_false]
  rw [if_pos (by rw [zca];simp;omega)]
  simp
 rw [zcc]
 dsimp only
 rw [if_pos e1,e2]
 simp [hi,T]
theorem zeY {l:List Nat}{c:Nat}{hp:HP}:zdk hp (.d (.str (T (l++[c])))) (.d (.int (-1)))=some (.d (.str (T [c])),hp):=by
 have e2:seqIndex? (-1) (T (l++[c])).length=some l.length:=by
  unfold seqIndex?
  dsimp
  rw [zca]
  refine Eq.trans (if_pos (by simp;exact ⟨(zrO (zrB (l.length)) (by lia)),(by lia)⟩)) ?_
  simp;exact tn1 _
 rw [zcc]
 dsimp only
 rw [if_pos (by decide),e2]
 simp [T]
theorem zb7 {l:List Nat}{hp:HP}{lo hi:Option Int}(hl:l.length<=2 ^ 20):zd9 hp (.d (.str (T l))) lo hi=some (.d (.str (T (zaY l lo hi))),hp):=by
 refine Eq.trans (if_pos (za2 (by rw [zca];exact hl))) ?_;rfl
theorem zms {α:Type}(l:List α) {a b:Nat}(ha:a<=l.length) (hb:b<=l.length):zaY l (some (a:Int)) (some (b:Int))=(l.take b).drop a:=by
 unfold zaY hiB loB zb1
 dsimp only [bV,bL,bO,on1,on2,onD,onR,dI,dS,dL,onS,onI,onL]
 rw [if_neg (by simp),if_neg (by simp)]
 simp [zse ha,zse hb]
theorem za9 {ml mlo mhi:St->Option (V × HP)}{st:St}{a:V}{h1 h2 h3:HP}{lo hi:Option Int}{r:Option (V × HP)}(e1:ml st=some (a,h1)) (e2:zjC (mlo ⟨st.loc,h1⟩)=some (lo,h2)) (e3:zjC (mhi ⟨st.loc,h2⟩)=some (hi,h3)) (e4:zd9 h3 a lo hi=r):zaR ml mlo mhi st=r:=by
 unfold zaR;refine e1▸?_;dsimp only;refine e2▸?_;dsimp only;refine e3▸?_;exact e4
theorem zkG {a b:List Nat}{hp:HP}(h1:a.length<=2 ^ 20) (h2:b.length<=2 ^ 20):zac zbg hp (.d (.str (T a))) (.d (.str (T b)))=some (.d (.str (T (a++b))),hp):=by
 have e:zbg (.str (T a)) (.str (T b))=if zbr (T a).length && zbr (T b).length then some (.str (T a++T b)) else none:=rfl
 rw [zcY,e,za2 (by rw [zca];exact h1),za2 (by rw [zca];exact h2),zhr];rfl
theorem inS {c:Nat}{l:List Nat}{neg:Bool}{hp:HP}:zac (inD neg) hp (.d (.str (T [c]))) (.d (.str (T l)))=some (.d (.bool (if neg then !decide (c ∈ l) else decide (c ∈ l))),hp):=by
 have h:(!(occurrences (T l) (T [c]) 0 (T l).length 1).isEmpty)=decide (c ∈ l):=StrLaws.found_one (T l) c
 have e:zac (inD neg) hp (.d (.str (T [c]))) (.d (.str (T l)))=some (.d (.bool (if neg then !(!(occurrences (T l) (T [c]) 0 (T l).length 1).isEmpty) else !(occurrences (T l) (T [c]) 0 (T l).length 1).isEmpty)),hp):=rfl
 exact e▸h▸rfl
theorem znA (s sub:PySem.Str) (hi:Nat):∀ (l:List Nat) (st:Array Nat × Nat),1<=st.1.size->(forIn l st (StrLaws.occBody s sub hi 1)).run.1=st.1:=by
 intro zz
 induction zz with
 | nil=>
  intro st _
  exact rfl
 | cons a l ih=>
  intro st h
  rw [zsI]
  unfold StrLaws.occBody
  rw [if_neg (λq=>by have:=q.1.1.1;exact absurd h (ztv.mpr this))]
  exact ih _ h
theorem zmg (s sub:PySem.Str) (hi:Nat) (p:Nat):∀ (l:List Nat) (free:Nat),(∀ i ∈ l,free<=i)->(∀ i ∈ l,i < p->¬ (i + sub.length<=hi/\subAt s sub i=true))->(p ∈ l/\l.Pairwise (· < ·))->(p + sub.length<=hi/\subAt s sub p=true)->
  (forIn l ((#[]:Array Nat),free) (StrLaws.occBody s sub hi 1)).run.1=#[p]:=by
 intro zz
 induction zz with
 | nil=>
  intro _ _ _ h _
  exact absurd h.1 zrq
 | cons a l ih=>
  intro free hf h1 h2 h3
  rw [zsI]
  unfold StrLaws.occBody
  have ha:free<=a:=hf a (.head _)
  by_cases e:a=p
  ·subst e
   rw [if_pos ⟨⟨⟨by exact zrw _,ha⟩,h3.1⟩,h3.2⟩]
   exact znA s sub hi l _ (by exact zrw _)
  ·have hm:p ∈ l:=by
    rcases zrs.mp h2.1 with q | q
    ·exact absurd q.symm e
    ·exact q
   have hlt:a < p:=(zrQ.mp h2.2).1 p hm
   rw [if_neg (λq=>h1 a (.head _) hlt ⟨q.1.2,q.2⟩)]
   exact ih free (λi hi'=>hf i (.tail _ hi')) (λi hi'=>h1 i (.tail _ hi')) ⟨hm,(zrQ.mp h2.2).2⟩ h3
theorem zh9 {l:List Nat}{c i hi:Nat}(hh:hi<=l.length):(i + (T [c]).length<=hi/\subAt (T l) (T [c]) i=true)↔(i < hi/\l[i]?=some c):=by
 have:=StrLaws.subAt_one (T l) c i
 have e:(T [c])=(⟨#[c]⟩:PySem.Str):=rfl
 refine e▸?_
 constructor
 ·rintro ⟨a,b⟩
  exact ⟨a,this.mp ⟨by show i + 1<=l.length;exact zry a hh,b⟩⟩
 ·rintro ⟨a,b⟩
  exact ⟨a,(this.mpr b).2⟩
theorem zlR {l:List Nat}{c lo hi p:Nat}(hh:hi<=l.length) (h1:lo<=p) (h2:p < hi) (h3:l[p]?=some c) (h4:∀ i,lo<=i->i < p->l[i]?≠some c):zfu (T l) (T [c]) lo hi=(p:Int):=by
 unfold zfu
 rw [zca,zse hh,StrLaws.occ_eq,zmg (p:=p) (T l) (T [c]) hi _ lo (λi hi'=>(zsA.mp hi').1) (λi hi' hlt q=>h4 i (zsA.mp hi').1 hlt ((zh9 hh).mp q).2) ⟨zsA.mpr (by exact ⟨h1,by rw [Nat.add_sub_of_le (zrn h1 (zrn (zrP h2) (zsl _)))];exact zsi h2⟩),List.pairwise_lt_range'⟩ ((zh9 hh).mpr ⟨h2,h3⟩)]
theorem zf5 {l:List Nat}{c lo hi:Nat}(hh:hi<=l.length) (h4:∀ i,lo<=i->i < hi->l[i]?≠some c):zfu (T l) (T [c]) lo hi = -1:=by
 unfold zfu
 rw [zca,zse hh,StrLaws.occ_eq,(StrLaws.occ_none (T l) (T [c]) hi _ lo (λi hi'=>(zsA.mp hi').1)).mpr λi hi' q=>h4 i (zsA.mp hi').1 ((zh9 hh).mp q).1 ((zh9 hh).mp q).2]
noncomputable def sbs (c:Nat) (z:List Nat) (l:List Nat):List Nat:=l.flatMap λk=>if k=c then z else [k]
theorem zjF (c:Nat) (z a b:List Nat):sbs c z (a++b)=sbs c z a++sbs c z b:=zr1
theorem zhY (c:Nat) (z:List Nat):∀ l:List Nat,c ∉ l->sbs c z l=l:=by
 intro zz
 induction zz with
 | nil=>
  intro _
  exact rfl
 | cons k r ih=>
  intro h
  unfold sbs
  rw [zrp,if_neg (λe=>h (by rw [e];exact .head _))]
  (refine (congrArg _ (ih λq=>h (.tail _ q))).trans ?_);rfl
theorem zkr (c:Nat) (z:List Nat):∀ parts:List PySem.Str,(∀ p ∈ parts,c ∉ p.cps.toList)->sbs c z (Str.join ⟨#[c]⟩ parts).cps.toList=(Str.join (T z) parts).cps.toList
 | [],_=>rfl
 | [p],h=>zhY c z _ (h p (zr3.mpr rfl))
 | p::q::r,h=>by
  have ih:=zkr c z (q::r) λa ha=>h a (zrL _ ha)
  show sbs c z (p++⟨#[c]⟩++Str.join ⟨#[c]⟩ (q::r)).cps.toList=(p++T z++Str.join (T z) (q::r)).cps.toList
  simp only [Str.cps_append,ztz]
  rw [zjF,zjF,ih,zhY c z _ (h p (zsn ..))]
  congr 2
  show sbs c z [c]=z
  unfold sbs
  simp
theorem zkp (l z:List Nat) (c:Nat):Txt.replace (T l) (T [c]) (T z)=T (sbs c z l):=by
 have h:=zkr c z (Txt.split (T l) ⟨#[c]⟩) (StrLaws.split_free (T l) c)
 rw [StrLaws.join_split] at h
 have e:Txt.replace (T l) (T [c]) (T z)=Str.join (T z) (Txt.split (T l) ⟨#[c]⟩):=StrLaws.replace_one (T l) (T z) c
 refine e▸(zq6 (Str.join (T z) _))▸h▸?_;rfl
noncomputable def zgE (sep:List Nat):List (List Nat)->List Nat
 | []=>[]
 | [x]=>x
 | x::y::r=>x++sep++zgE sep (y::r)
theorem zn4 (sep:List Nat):∀ ls:List (List Nat),Txt.join (T sep) (ls.map T)=T (zgE sep ls):=by
 intro ls
 show glued (T sep) (ls.map T)=_
 rw [StrLaws.glued_eq_join]
 induction ls with
 | nil=>rfl
 | cons x r ih=>
  cases r with
  | nil=>rfl
  | cons y t=>
   show T x++T sep++Str.join (T sep) (T y::t.map T)=T (x++sep++zgE sep (y::t))
   rw [show Str.join (T sep) (T y::t.map T)=T (zgE sep (y::t)) from ih,zhr,zhr]
theorem zoh:∀ ls:List (List Nat),zh5 (ls.map λl=>V.d (.str (T l)))=some (ls.map T):=by
 intro zz
 induction zz with
 | nil=>
  exact rfl
 | cons x r ih=>
  show (zh5 (r.map λl=>V.d (.str (T l)))).map (T x::·)=_
  refine (congrArg _ (ih)).trans ?_;rfl
theorem zaG {x:PySem.Str}{l:List Nat}{st:St}(h:x=T l):zal (.str x) st=some (.d (.str (T l)),st.hp):=by
 refine (Eq.symm h)▸?_;rfl
end Mine
namespace Mine
open PySem PySem.W PySem.Spec PySem.Calls PyProof.Rows PySem.Builtin PySem.Builtin.Str
noncomputable def Runs (m:St->Option (Fl × St)) (st:St) (Q:Fl->St->Prop):Prop:=∃ fl st',m st=some (fl,st')/\Q fl st'
theorem Runs.of {m:St->Option (Fl × St)}{st st':St}{fl:Fl}{Q:Fl->St->Prop}(h:m st=some (fl,st')) (q:Q fl st'):Runs m st Q:=⟨fl,st',h,q⟩
theorem Runs.seq {a b:St->Option (Fl × St)}{st st1:St}{Q:Fl->St->Prop}(h:a st=some (.next,st1)) (h2:Runs b st1 Q):Runs (zau a b) st Q:=by
 refine zgy h2 λfl st' e q=>?_
 exact ⟨fl,st',zam h e,q⟩
theorem Runs.seqR {a b:St->Option (Fl × St)}{st:St}{Q:Fl->St->Prop}(h:Runs a st λfl st1=>fl=.next/\Runs b st1 Q):Runs (zau a b) st Q:=by
 (refine zcG h λfl st1 e q0 h2=>?_;subst q0)
 exact Runs.seq e h2
theorem Runs.mono {m:St->Option (Fl × St)}{st:St}{Q R:Fl->St->Prop}(h:Runs m st Q) (hq:∀ fl st',Q fl st'->R fl st'):Runs m st R:=by
 refine zgy h λfl st' e q=>?_
 exact ⟨fl,st',e,hq _ _ q⟩
theorem Runs.ite {c:St->Option (Bool × HP)}{a b:St->Option (Fl × St)}{st:St}{x:Bool}{h:HP}{Q:Fl->St->Prop}(hc:c st=some (x,h)) (ha:x=true->Runs a ⟨st.loc,h⟩ Q) (hb:x=false->Runs b ⟨st.loc,h⟩ Q):Runs (zbC c a b) st Q:=by
 cases x with
 | true=>(refine zgy (ha rfl) λfl st' e q=>?_);exact ⟨fl,st',zaZ hc e,q⟩
 | false=>(refine zgy (hb rfl) λfl st' e q=>?_);exact ⟨fl,st',zaF hc e,q⟩
theorem Runs.skip {fl:Fl}{st:St}{Q:Fl->St->Prop}(h:Q fl st):Runs (zas fl) st Q:=⟨fl,st,rfl,h⟩
noncomputable def zpu (J:St->Prop) (Q:Fl->St->Prop):Fl->St->Prop:=λfl st'=>match fl with
 | .next=>J st'
 | .cont=>J st'
 | .brk=>Q .next st'
 | .ret v=>Q (.ret v) st'
theorem Runs.while {c:St->Option (Bool × HP)}{b:St->Option (Fl × St)}{Q:Fl->St->Prop}(I:Nat->St->Prop)
  (H:∀ m st,I m st->∃ tb h,c st=some (tb,h)/\(tb=false->Q .next ⟨st.loc,h⟩)/\(tb=true->Runs b ⟨st.loc,h⟩ (zpu (λst'=>∃ m',m' < m/\I m' st') Q))) :
  ∀ (k m:Nat) (st:St),m < k->I m st->Runs (zba c b k) st Q:=by
 intro zz
 induction zz with
 | zero=>
  intro m st hk _
  exact absurd hk (ztA _)
 | succ k ih=>
  intro m st hk hI
  refine zcG (H m st hI) λtb h e hf ht=>?_
  cases tb with
  | false=>exact ⟨_,_,zc3 e,hf rfl⟩
  | true=>
   refine zgy (ht rfl) λfl st' e2 q=>?_
   cases fl with
   | next=>
    (refine Eea q ?_;clear q;intro m' hm hI')
    refine zgy (ih m' st' (fk (al2 hk hm) (by lia)) hI') λfl2 st2 e3 q2=>?_
    exact ⟨fl2,st2,ze9 e e2 e3,q2⟩
   | cont=>
    (refine Eea q ?_;clear q;intro m' hm hI')
    refine zgy (ih m' st' (by exact zry hm (zsb hk)) hI') λfl2 st2 e3 q2=>?_
    exact ⟨fl2,st2,zhl e e2 e3,q2⟩
   | brk=>exact ⟨_,_,zi5 e e2,q⟩
   | ret v=>
    refine ⟨.ret v,st',?_,q⟩
    unfold zba;refine e▸?_;dsimp only;exact (Eq.symm e2)▸rfl
theorem Runs.forL {u:V->St->Option St}{b:St->Option (Fl × St)}{Q:Fl->St->Prop}(I:List V->St->Prop)
  (H:∀ v r st,I (v::r) st->∃ st1,u v st=some st1/\Runs b st1 (zpu (I r) Q)) (He:∀ st,I [] st->Q .next st) :
  ∀ (vs:List V) (st:St),I vs st->Runs (forL u b vs) st Q:=by
 intro zz
 induction zz with
 | nil=>
  intro st hI
  exact ⟨.next,st,rfl,He st hI⟩
 | cons v r ih=>
  intro st hI
  obtain ⟨st1,e1,fl,st',e2,q⟩:=H v r st hI
  cases fl with
  | next=>
   refine zgy (ih st' q) λfl2 st2 e3 q2=>?_
   exact ⟨fl2,st2,zb2 e1 e2 e3,q2⟩
  | cont=>
   refine zgy (ih st' q) λfl2 st2 e3 q2=>?_
   refine ⟨fl2,st2,?_,q2⟩
   show (match u v st with | some st1=>_ | none=>none)=_
   refine e1▸?_;dsimp only;refine e2▸?_;exact e3
  | brk=>
   refine ⟨.next,st',?_,q⟩
   show (match u v st with | some st1=>_ | none=>none)=_
   refine e1▸?_;dsimp only;exact e2▸rfl
  | ret x=>
   refine ⟨.ret x,st',?_,q⟩
   show (match u v st with | some st1=>_ | none=>none)=_
   refine e1▸?_;dsimp only;exact (Eq.symm e2)▸rfl
theorem Runs.for {src:St->Option (List V × HP)}{u:V->St->Option St}{b:St->Option (Fl × St)}{st:St}{vs:List V}{h:HP}{Q:Fl->St->Prop}(e:src st=some (vs,h)) (r:Runs (Mine.forL u b vs) ⟨st.loc,h⟩ Q):Runs (zfJ src u b) st Q:=by
 refine zgy r λfl st' e2 q=>?_
 refine ⟨fl,st',?_,q⟩
 unfold zfJ;refine e▸?_;exact e2
theorem zbG {np total:Nat}{m:St->Option (Fl × St)}{args:List V}{hp:HP}{x:PyData}(h1:args.length=np)
  (h2:Runs m ⟨args.map some++zsy (total - np) none,hp⟩ λfl st'=>fl=.ret (.d x)/\∃ ext,st'.hp=hp++ext):zfK np total m args hp=some (.d x,hp):=by
 obtain ⟨fl,⟨loc,hp'⟩,e,rfl,ext,rfl⟩:=h2
 exact zcX h1 e
inductive El where
 | lone (c:Nat)
 | rng (a b:Nat)
noncomputable def El.txt:El->List Nat
 | .lone c=>[c]
 | .rng a b=>[a,45,b]
noncomputable def El.fst:El->Nat
 | .lone c=>c
 | .rng a _=>a
noncomputable def El.isLone:El->Bool
 | .lone _=>true
 | .rng _ _=>false
noncomputable def zaN:El->Bool
 | .lone _=>true
 | .rng a b=>decide (a<=b)
noncomputable def zek:Bool->List El->Prop
 | _,[]=>True
 | l,e::r=>(l=true->e.fst≠45)/\zek e.isLone r
noncomputable def chk (tr:List Nat):List El->List Nat × List (List Nat)
 | []=>(tr,[])
 | .lone c::r=>(c::(chk tr r).1,(chk tr r).2)
 | .rng a b::r=>([a],(b::(chk tr r).1)::(chk tr r).2)
noncomputable def zoM (l:List Nat):Nat:=l.getLastD 0
noncomputable def zcB (l:List Nat):Nat:=l.headD 0
noncomputable def mrg:List (List Nat)->List (List Nat)
 | []=>[]
 | c::r=>match mrg r with
  | []=>[c]
  | d::t=>if zcB d < zoM c then (c.dropLast++d.drop 1)::t else c::d::t
theorem zme (tr:List Nat):∀ (els:List El) (init:List Nat),mrg ((init++(chk tr els).1)::(chk tr els).2)=(init++(chk tr (els.filter zaN)).1)::(chk tr (els.filter zaN)).2
 | [],init=>rfl
 | .lone c::r,init=>by
  have:=zme tr r (init++[c])
  rw [zrx,zrx] at this
  exact this
 | .rng a b::r,init=>by
  have ih:=zme tr r [b]
  show mrg ((init++[a])::(b::(chk tr r).1)::(chk tr r).2)=_
  have e:mrg ((b::(chk tr r).1)::(chk tr r).2)=([b]++(chk tr (r.filter zaN)).1)::(chk tr (r.filter zaN)).2:=ih
  conv=>lhs;unfold mrg
  refine e▸?_
  dsimp only
  have h1:zcB ([b]++(chk tr (r.filter zaN)).1)=b:=rfl
  have h2:zoM (init++[a])=a:=by unfold zoM;simp
  refine (Eq.symm h1)▸(Eq.symm h2)▸?_
  by_cases hab:b < a
  ·refine Eq.trans (if_pos hab) ?_
   have:zaN (.rng a b)=false:=decide_eq_false (by exact ztv.mpr (by assumption))
   rw [zsP (by rw [this];decide),List.dropLast_concat]
   rfl
  ·refine Eq.trans (if_neg hab) ?_
   have:zaN (.rng a b)=true:=decide_eq_true (by exact zsv (by assumption))
   refine (zso this)▸?_
   rfl
noncomputable def e2 (c:Nat):List Nat:=if c=92 then [92,92] else if c=45 then [92,45] else [c]
theorem zof (l:List Nat):sbs 45 [92,45] (sbs 92 [92,92] l)=l.flatMap e2:=by
 induction l with
 | nil=>rfl
 | cons c r ih=>
  have h1:sbs 92 [92,92] (c::r)=(if c=92 then [92,92] else [c])++sbs 92 [92,92] r:=rfl
  rw [h1,zjF,ih,zrp]
  congr 1
  unfold e2 sbs
  by_cases a:c=92
  ·refine (if_pos a)▸(if_pos a)▸?_;rfl
  ·rw [if_neg a,if_neg a]
   by_cases b:c=45
   ·rw [if_pos b];subst b;rfl
   ·rw [if_neg b];simp [b]
noncomputable def ziO:El->List Nat
 | .lone c=>e2 c
 | .rng a b=>e2 a++[45]++e2 b
theorem zk5 (sep x:List Nat) {r:List (List Nat)}(h:r≠[]):zgE sep (x::r)=x++sep++zgE sep r:=by
 cases r with
 | nil=>exact absurd rfl h
 | cons y t=>rfl
theorem zhO (tr:List Nat):∀ (els:List El) (init:List Nat),zgE [45] (((init++(chk tr els).1)::(chk tr els).2).map (·.flatMap e2))=init.flatMap e2++els.flatMap ziO++tr.flatMap e2
 | [],init=>by
  show (init++tr).flatMap e2=_
  rw [zr1,zs6,zrE]
 | .lone c::r,init=>by
  have:=zhO tr r (init++[c])
  rw [zrx] at this
  refine this.trans ?_
  refine zr1▸zrp▸?_
  simp [ziO]
 | .rng a b::r,init=>by
  have ih:=zhO tr r [b]
  show zgE [45] ((init++[a]).flatMap e2::(((b::(chk tr r).1)::(chk tr r).2).map (·.flatMap e2)))=_
  refine Eq.trans (zk5 _ _ (by simp)) ?_
  have e:zgE [45] (((b::(chk tr r).1)::(chk tr r).2).map (·.flatMap e2))=[b].flatMap e2++r.flatMap ziO++tr.flatMap e2:=ih
  refine e▸zr1▸zrp▸?_
  simp [ziO]
noncomputable def escC (c:Nat):List Nat:=if c=92\/c=45\/zcH c=true then [92,c] else [c]
theorem zlA (c:Nat):zdS (e2 c)=escC c:=by
 unfold e2 escC
 by_cases a:c=92
 ·subst a;rfl
 ·refine (congrArg _ (if_neg a)).trans ?_
  by_cases b:c=45
  ·subst b;rfl
  ·refine (congrArg _ (if_neg b)).trans ?_
   unfold zdS
   by_cases h:zcH c=true
   ·rw [if_pos h,if_pos (.inr (.inr h))];rfl
   ·rw [if_neg h,if_neg (λq=>q.elim a λq=>q.elim b h)];rfl
noncomputable def zi7:El->List Nat
 | .lone c=>escC c
 | .rng a b=>escC a++[45]++escC b
theorem zoo (els:List El):zdS (els.flatMap ziO)=els.flatMap zi7:=by
 induction els with
 | nil=>rfl
 | cons e r ih=>
  rw [zrp,zbE,ih,zrp]
  congr 1
  cases e with
  | lone c=>exact zlA c
  | rng a b=>
   show zdS (e2 a++[45]++e2 b)=escC a++[45]++escC b
   rw [zbE,zbE,zlA,zlA];rfl
noncomputable def trl (tr:Bool):List Nat:=if tr then [45] else []
noncomputable def trF (tr:Bool):List Nat:=if tr then [92,45] else []
noncomputable def brI (bar:Bool):List Nat:=if bar then [33] else []
theorem zon (bar tr:Bool) (els:List El):zdS ((brI bar).flatMap e2++els.flatMap ziO++(trl tr).flatMap e2)=brI bar++els.flatMap zi7++trF tr:=by
 rw [zbE,zbE,zoo]
 congr 1
 ·congr 1
  cases bar <;> rfl
 ·cases tr <;> rfl
end Mine
namespace Mine
open PySem PySem.W PySem.Spec PySem.Calls PyProof.Rows PySem.Builtin PySem.Builtin.Str
noncomputable abbrev oS (l:List Nat):Option V:=some (.d (.str (T l)))
theorem zb5:("-":zS)=T [45]:=by decide +kernel
theorem zct:("!":zS)=T [33]:=by decide +kernel
theorem zcC:("]":zS)=T [93]:=by decide +kernel
theorem zcM:("[":zS)=T [91]:=by decide +kernel
theorem zkh:("*":zS)=T [42]:=by decide +kernel
theorem zjx:("?":zS)=T [63]:=by decide +kernel
theorem zgY:("\\":PySem.Str)=T [92]:=by decide +kernel
theorem zhT:("\\\\":PySem.Str)=T [92,92]:=by decide +kernel
theorem zl7:("\\-":zS)=T [92,45]:=by decide +kernel
theorem zgg:(".":zS)=T [46]:=by decide +kernel
theorem zoO:("(?!)":zS)=T [40,63,33,41]:=by decide +kernel
theorem zjw:("^":zS)=T [94]:=by decide +kernel
theorem zl9:("\\[":zS)=T [92,91]:=by decide +kernel
theorem zjg (c x:Nat):decide ([c]=[x])=decide (c=x):=by simp
theorem ok1 {c:Nat}(h:c < 1114112):okL [c]:=by unfold okL;simpa using h
theorem zbo {ms:St->Option (V × HP)}{st:St}{c x:Nat}{lit:PySem.Str}{neg:Bool}{h:HP}(e:ms st=some (.d (.str (T [c])),h)) (hl:lit=T [x]) (hc:c < 1114112) (hx:x < 1114112) :
  zay (zat (za6 neg) ms (zal (.str lit))) st=some (if neg then !decide (c=x) else decide (c=x),h):=by
 refine zaB (zag e (zaG hl) ((eqS (ok1 hc) (ok1 hx)).trans ?_))
 rw [zjg]
theorem zgW {α:Type}(A:List α) (c:α) (B:List α):(A++c::B)[A.length]?=some c:=by
 rw [zrF (zrv _),zta];rfl
theorem zmc {i j:Nat}{hp:HP}:zac ltD hp (.d (.int (i:Int))) (.d (.int (j:Int)))=some (.d (.bool (decide ((i:Int) < (j:Int)))),hp):=rfl
section
variable {t:List Nat}{c1 c2 c3 c4:Option V}{n:Nat}{c7 c9 c10 c11 c12:Option V}{hp:HP}{Q:Fl->St->Prop}
theorem zmx {A B:List Nat}{c:Nat}(ht:t=A++c::B) (hl:t.length<=2 ^ 20) {c5 c6:Option V}:za4 (zae 0) (zae 8) ⟨[oS t,c1,c2,c3,c4,c5,c6,c7,oN A.length,c9,c10,c11,c12],hp⟩=some (.d (.str (T [c])),hp):=by
 refine zag (a:=.d (.str (T t))) (b:=.d (.int (A.length:Int))) (h1:=hp) (h2:=hp) rfl rfl (zcs ?_ ?_)
 ·refine ht▸?_;exact zgW A c B
 ·rw [ht] at hl;simp at hl;exact zrt (zrn (zrI _ _) hl) (by decide)
theorem zpp {j:Nat}(h:j < n) {c5:Option V}:zay (zat (zac ltD) (zae 8) (zae 6)) ⟨[oS t,c1,c2,c3,c4,c5,oN n,c7,oN j,c9,c10,c11,c12],hp⟩=some (true,hp):=by
 refine zaB (zag (a:=.d (.int (j:Int))) (b:=.d (.int (n:Int))) (h1:=hp) (h2:=hp) rfl rfl ?_)
 exact zmc▸(decide_eq_true (by exact zrS.mpr (by assumption)))▸rfl
theorem zoJ {j:Nat}{c5 c6:Option V}:doM (zat (zac zbg) (zae 8) (zal (.int 1))) (zaC 8) ⟨[oS t,c1,c2,c3,c4,c5,c6,c7,oN j,c9,c10,c11,c12],hp⟩=some (.next,⟨[oS t,c1,c2,c3,c4,c5,c6,c7,oN (j + 1),c9,c10,c11,c12],hp⟩):=
 zaD (v:=.d (.int ((j + 1:Nat):Int))) (h:=hp) (zag (a:=.d (.int (j:Int))) (b:=.d (.int 1)) (h1:=hp) (h2:=hp) rfl rfl (zb0 (by rfl))) rfl
theorem zqD {bar:Bool}{b0:Nat}{bs:List Nat}{k:Nat}{D:St->Option (Fl × St)}{c5:Option V}(ht:t=91::(brI bar++(b0::bs))++[93]) (hok:okL t) (hl:t.length<=2 ^ 20) (hn:n=t.length) (hb:bar=false->b0≠33) (hbs:93 ∉ bs) (hk:t.length < k)
  (hD:Runs D ⟨[oS t,c1,c2,c3,c4,c5,oN n,c7,oN (t.length - 1),c9,c10,c11,c12],hp⟩ Q) :
  Runs (zau (zbC (zcV (zay (zat (zac ltD) (zae 8) (zae 6))) (zcV (zay (zat (za6 false) (za4 (zae 0) (zae 8)) (zal (.str ("!":zS))))) (zbq true))) (zau (doM (zat (zac zbg) (zae 8) (zal (.int 1))) (zaC 8)) (zas .next)) (zas .next)) (zau (zbC (zcV (zay (zat (zac ltD) (zae 8) (zae 6))) (zcV (zay (zat (za6 false) (za4 (zae 0) (zae 8)) (zal (.str ("]":zS))))) (zbq true))) (zau (doM (zat (zac zbg) (zae 8) (zal (.int 1))) (zaC 8)) (zas .next)) (zas .next)) (zau (zba (zcV (zay (zat (zac ltD) (zae 8) (zae 6))) (zcV (zay (zat (za6 true) (za4 (zae 0) (zae 8)) (zal (.str ("]":zS))))) (zbq true))) (zau (doM (zat (zac zbg) (zae 8) (zal (.int 1))) (zaC 8)) (zas .next)) k) D)))
   ⟨[oS t,c1,c2,c3,c4,c5,oN n,c7,oN 1,c9,c10,c11,c12],hp⟩ Q:=by
 subst hn
 have hlen:t.length=(brI bar).length + bs.length + 3:=by refine (congrArg _ ht).trans ?_;simp;exact (by lia)
 have hokc:∀ A c B,t=A++c::B->c < 1114112:=λA c B e=>hok c (by rw [e];simp)
 have step1:zbC (zcV (zay (zat (zac ltD) (zae 8) (zae 6))) (zcV (zay (zat (za6 false) (za4 (zae 0) (zae 8)) (zal (.str ("!":zS))))) (zbq true))) (zau (doM (zat (zac zbg) (zae 8) (zal (.int 1))) (zaC 8)) (zas .next)) (zas .next) ⟨[oS t,c1,c2,c3,c4,c5,oN t.length,c7,oN 1,c9,c10,c11,c12],hp⟩ =
   some (.next,⟨[oS t,c1,c2,c3,c4,c5,oN t.length,c7,oN (91::brI bar).length,c9,c10,c11,c12],hp⟩):=by
  cases bar with
  | true=>
   have e1:t=[91]++33::((b0::bs)++[93]):=by refine Eq.trans ht ?_;rfl
   refine zaZ (zc6 (zpp (zrn (by lia) (geq hlen))) (zc6 ((zbo (zmx (A:=[91]) e1 hl) zct (by decide) (by decide)).trans rfl) rfl)) (zam zoJ rfl)
  | false=>
   have e1:t=[91]++b0::(bs++[93]):=by refine Eq.trans ht ?_;rfl
   refine zaF (zc6 (zpp (zrn (by lia) (geq hlen))) (zfr ((zbo (zmx (A:=[91]) e1 hl) zct (hokc _ _ _ e1) (by decide)).trans ?_))) rfl
   refine (Eq.symm (decide_eq_false (hb rfl)))▸?_;rfl
 refine Runs.seq step1 ?_
 have e1:t=(91::brI bar)++b0::(bs++[93]):=by refine Eq.trans ht ?_;simp
 have htest:=zbo (neg:=false) (zmx (t:=t) (c1:=c1) (c2:=c2) (c3:=c3) (c4:=c4) (c5:=c5) (c6:=oN t.length) (c7:=c7) (c9:=c9) (c10:=c10) (c11:=c11) (c12:=c12) (hp:=hp) (A:=91::brI bar) e1 hl) zcC (hokc _ _ _ e1) (by decide)
 have loop:∀ (A B:List Nat),t=A++B++[93]->93 ∉ B->Runs (zau (zba (zcV (zay (zat (zac ltD) (zae 8) (zae 6))) (zcV (zay (zat (za6 true) (za4 (zae 0) (zae 8)) (zal (.str ("]":zS))))) (zbq true))) (zau (doM (zat (zac zbg) (zae 8) (zal (.int 1))) (zaC 8)) (zas .next)) k) D) ⟨[oS t,c1,c2,c3,c4,c5,oN t.length,c7,oN A.length,c9,c10,c11,c12],hp⟩ Q:=λA B hA hB=>by
  refine Runs.seqR (Runs.while (λm st=>∃ A B:List Nat,m=B.length/\t=A++B++[93]/\93 ∉ B/\st=⟨[oS t,c1,c2,c3,c4,c5,oN t.length,c7,oN A.length,c9,c10,c11,c12],hp⟩) ?_ k B.length _ (by have:=congrArg zsB hA;simp at this;exact zrt (zrn (zsl _) (zsT _ _)) (this▸hk)) ⟨A,B,rfl,hA,hB,rfl⟩)
  rintro m st ⟨A,B,rfl,hA,hB,rfl⟩
  have hAl:A.length < t.length:=by have:=congrArg zsB hA;simp at this;exact this▸ztT (zrw _)
  cases B with
  | nil=>
   have e:t=A++93::[]:=by refine Eq.trans hA ?_;simp
   refine ⟨false,hp,zc6 (zpp hAl) (zfr ((zbo (zmx e hl) zcC (by decide) (by decide)).trans rfl)),λZ=>⟨rfl,?_⟩,(λh=>by cases h)⟩
   have:t.length - 1=A.length:=by refine e▸?_;simp
   rw [this] at hD
   exact hD
  | cons c B=>
   have e:t=A++c::(B++[93]):=by refine Eq.trans hA ?_;simp
   have hc:c≠93:=λq=>hB (by refine (Eq.symm q)▸?_;exact .head _)
   refine ⟨true,hp,zc6 (zpp hAl) (zc6 ((zbo (zmx e hl) zcC (hokc _ _ _ e) (by decide)).trans ?_) rfl),(λh=>by cases h),λZ=>?_⟩
   ·refine (decide_eq_false hc)▸?_;rfl
   ·refine Runs.of (zam zoJ rfl) ⟨B.length,by simp,A++[c],B,rfl,by refine Eq.trans hA ?_;simp,λq=>hB (.tail _ q),by simp⟩
 by_cases h93:b0=93
 ·rw [decide_eq_true h93] at htest
  refine Runs.seq (zaZ (zc6 (zpp (by simp;rw [hlen];exact zto (ztg (zsc (zrI _ _))))) (zc6 htest rfl)) (zam zoJ rfl)) ?_
  have:=loop ((91::brI bar)++[b0]) bs (by rw [ht];simp) hbs
  rw [zro] at this
  exact this
 ·rw [decide_eq_false h93] at htest
  refine Runs.seq (zaF (zc6 (zpp (by simp;rw [hlen];exact zto (ztg (zsc (zrI _ _))))) (zfr htest)) rfl) ?_
  exact loop (91::brI bar) (b0::bs) (by rw [ht];simp) (λq=>by
   rcases zrs.mp q with q | q
   ·exact h93 q.symm
   ·exact hbs q)
end
end Mine
namespace Mine
open PySem PySem.W PySem.Spec PySem.Calls PyProof.Rows PySem.Builtin PySem.Builtin.Str
theorem zkd {α:Type}{l:List α}{c x:α}{q s:Nat}(hl:∀ q,s<=q->l[q]?≠some x) (hc:s<=l.length->c≠x) (hq:s<=q):(l++[c])[q]?≠some x:=by
 rcases Nat.lt_trichotomy q l.length with h | h | h
 ·rw [zrC h];exact hl q hq
 ·subst h
  rw [zgW]
  exact λe=>hc hq (Option.some.inj e)
 ·rw [zrH (by simp;assumption)];exact nofun
theorem zrf (tr:List Nat):∀ (els:List El) (acc:List Nat) (lone:Bool) (skip:Nat),(lone=false->acc.length + 1=skip)->(lone=true->skip<=acc.length)->(∀ q,skip<=q->acc[q]?≠some 45)->zek lone els->
  (∃ X b r,acc++els.flatMap El.txt=X++45::(b::r.flatMap El.txt)/\skip<=X.length/\(∀ q,skip<=q->X[q]?≠some 45)/\zek false r/\acc++(chk tr els).1=X/\(chk tr els).2=(b::(chk tr r).1)::(chk tr r).2/\r.length < els.length)\/
  ((∀ q,skip<=q->(acc++els.flatMap El.txt)[q]?≠some 45)/\(skip<=(acc++els.flatMap El.txt).length\/(acc++els.flatMap El.txt).length + 1=skip)/\acc++(chk tr els).1=acc++els.flatMap El.txt++tr/\(chk tr els).2=[]):=by
 intro zz
 induction zz with
 | nil=>
  intro acc lone skip h1 h2 h3 _
  refine .inr ⟨by simpa using h3,?_,by simp [chk],rfl⟩
  cases lone with
  | true=>exact .inl (by simpa using h2 rfl)
  | false=>exact .inr (by simpa using h1 rfl)
 | cons zp r ih=>
  cases zp with
  | lone c=>
   intro acc lone skip h1 h2 h3 h4
   have hc:skip<=acc.length->c≠45:=λhs=>by
    cases lone with
    | true=>exact h4.1 rfl
    | false=>have:=h1 rfl;lia
   have hs:skip<=acc.length + 1:=by
    cases lone with
    | true=>have:=h2 rfl;exact zsc (by assumption)
    | false=>have:=h1 rfl;exact zss this.symm
   have e:acc++(El.lone c::r).flatMap El.txt=(acc++[c])++r.flatMap El.txt:=by exact (zrx _ _ _).symm
   have e2:acc++(chk tr (El.lone c::r)).1=(acc++[c])++(chk tr r).1:=by simp [chk]
   rcases ih (acc++[c]) true skip (λh=>by exact ziL h) (λZ=>by simpa using hs) (λq hq=>zkd h3 hc hq) h4.2 with ⟨X,b,r',g1,g2,g3,g4,g5,g6,g7⟩ | ⟨g1,g2,g3,g4⟩
   ·exact .inl ⟨X,b,r',e.trans g1,g2,g3,g4,e2.trans g5,g6,by simp;exact zsi (by assumption)⟩
   ·refine .inr ⟨by refine e▸?_;exact g1,by refine e▸?_;exact g2,by refine e2▸e▸?_;exact g3,g4⟩
  | rng a b=>
   intro acc lone skip h1 h2 h3 h4
   have hc:skip<=acc.length->a≠45:=λhs=>by
    cases lone with
    | true=>exact h4.1 rfl
    | false=>have:=h1 rfl;lia
   have hs:skip<=acc.length + 1:=by
    cases lone with
    | true=>have:=h2 rfl;exact zsc (by assumption)
    | false=>have:=h1 rfl;exact (zrn (by lia) (geq this))
   exact .inl ⟨acc++[a],b,r,by simp [El.txt],by simpa using hs,λq hq=>zkd h3 hc hq,h4.2,rfl,rfl,by exact zrD _⟩
noncomputable def vS (l:List Nat):V:=.d (.str (T l))
theorem zm9 {t:List Nat}{lo hi:Nat}{hp:HP}:zji [.d (.str (T t)),.d (.str (T [45])),.d (.int (lo:Int)),.d (.int (hi:Int))] hp=some (.d (.int (zfu (T t) (T [45]) lo hi)),hp):=by
 refine Eq.trans (if_pos ⟨by exact zrB _,by exact zrB _⟩:(if 0<=(lo:Int)/\0<=(hi:Int) then some (V.d (.int (zfu (T t) (T [45]) (lo:Int).toNat (hi:Int).toNat)),hp) else none)=_) ?_;rfl
theorem zf0 (A X B:List Nat):zaY (A++X++B) (some ((A.length:Nat):Int)) (some ((A.length + X.length:Nat):Int))=X:=by
 refine Eq.trans (zms _ (by simp only [zro];exact (by lia)) (by simp only [zro];simp)) ?_
 (refine (show A.length + X.length=(A++X).length by simp)▸ztj▸?_;exact ztk)
theorem zgN {hp:HP}{id:Nat}{out:List (List Nat)}{x:List Nat}(h:hp[id]?=some (some (out.map vS))) (hl:out.length<=2 ^ 20):zeh [.l id,vS x] hp=some (.d .none,hp.set id (some ((out++[x]).map vS))):=by
 rw [zmP h (by simpa using hl),zrR];rfl
inductive ChQ (t:List Nat) (C:List (List Nat)) (c1 c2 c3 c4:Option V) (n:Nat) (c7 c9 c12:Option V) (hp:HP) (ch:Nat) (fl:Fl) (st':St):Prop
 | mk:fl=.next->∀ A:List Nat,∀ Y:List Nat,∀ out:List (List Nat),t=A++Y++[93]->st'=⟨[oS t,c1,c2,c3,c4,oN A.length,oN n,c7,oN (t.length - 1),c9,oL ch,oI (-1),c12],hp.set ch (some (out.map vS))⟩->((Y≠[]/\out++[Y]=C)\/(Y=[]/\∃ o y,out=o++[y]/\o++[y++[45]]=C))->ChQ t C c1 c2 c3 c4 n c7 c9 c12 hp ch fl st'
inductive ChA (t:List Nat) (tr:Bool) (C:List (List Nat)) (c1 c2 c3 c4:Option V) (n:Nat) (c7 c9 c12:Option V) (hp:HP) (ch:Nat) (m:Nat) (st:St):Prop
 | mk:∀ A:List Nat,∀ acc:List Nat,∀ els:List El,∀ lone:Bool,∀ skip:Nat,∀ out:List (List Nat),m=els.length + 1->t=A++(acc++els.flatMap El.txt++trl tr)++[93]->(lone=false->acc.length + 1=skip)->(lone=true->skip<=acc.length)->(∀ q,skip<=q->acc[q]?≠some 45)->zek lone els->(acc≠[]\/els≠[])->out++((acc++(chk (trl tr) els).1)::(chk (trl tr) els).2)=C->st=⟨[oS t,c1,c2,c3,c4,oN A.length,oN n,c7,oN (t.length - 1),c9,oL ch,oN (A.length + skip),c12],hp.set ch (some (out.map vS))⟩->ChA t tr C c1 c2 c3 c4 n c7 c9 c12 hp ch m st
inductive ChB (t:List Nat) (C:List (List Nat)) (c1 c2 c3 c4:Option V) (n:Nat) (c7 c9 c12:Option V) (hp:HP) (ch:Nat) (m:Nat) (st:St):Prop
 | mk:∀ A:List Nat,∀ out:List (List Nat),∀ y:List Nat,m=0->t=A++[93]->out++[y++[45]]=C->st=⟨[oS t,c1,c2,c3,c4,oN A.length,oN n,c7,oN (t.length - 1),c9,oL ch,oN (A.length + 2),c12],hp.set ch (some ((out++[y]).map vS))⟩->ChB t C c1 c2 c3 c4 n c7 c9 c12 hp ch m st
section
variable {t:List Nat}{c1 c2 c3 c4:Option V}{n:Nat}{c7 c9 c12:Option V}{hp:HP}{Q:Fl->St->Prop}{ch:Nat}
theorem zkN {C:List (List Nat)}{bar tr:Bool}{els:List El}{k:Nat}{D:St->Option (Fl × St)}{c11:Option V}(ht:t=91::(brI bar++els.flatMap El.txt++trl tr)++[93]) (hok:okL t) (hl:t.length<=2 ^ 18) (hels:els≠[]) (hch:zek false els)
  (hb:bar=false->∀ e ∈ els.head?,e.fst≠33) (hC:C=(brI bar++(chk (trl tr) els).1)::(chk (trl tr) els).2) (hCl:C.length<=2 ^ 20) (hk:els.length + 1 < k) (hid:hp[ch]?=some (some []))
  (hD:∀ i' c11' c12',Runs D ⟨[oS t,c1,c2,c3,c4,i',oN n,c7,oN (t.length - 1),c9,oL ch,c11',c12'],hp.set ch (some (C.map vS))⟩ Q) :
  Runs (zau (doM (zdT (zay (zat (za6 false) (za4 (zae 0) (zae 5)) (zal (.str ("!":zS))))) (zat (zac zbg) (zae 5) (zal (.int 2))) (zat (zac zbg) (zae 5) (zal (.int 1)))) (zaC 11)) (zau (zba (zbf (zal (.bool true))) (zau (doM (zbz isS zji (zae 0) (zaf (zal (.str ("-":zS))) (zaf (zae 11) (zaf (zae 8) (zaw))))) (zaC 11)) (zau (zbC (zay (zat (zac ltD) (zae 11) (zal (.int 0)))) (zau (zas .brk) (zas .next)) (zas .next)) (zau (zbm (zbz zeF zeh (zae 10) (zaf (zaR (zae 0) (zae 5) (zae 11)) (zaw)))) (zau (doM (zat (zac zbg) (zae 11) (zal (.int 1))) (zaC 5)) (zau (doM (zat (zac zbg) (zae 11) (zal (.int 3))) (zaC 11)) (zas .next)))))) k) (zau (doM (zaR (zae 0) (zae 5) (zae 8)) (zaC 12)) (zau (zbC (zbf (zae 12)) (zau (zbm (zbz zeF zeh (zae 10) (zaf (zae 12) (zaw)))) (zas .next)) (zau (zht (zae 10) ("-":zS)) (zas .next))) D))))
   ⟨[oS t,c1,c2,c3,c4,oN 1,oN n,c7,oN (t.length - 1),c9,oL ch,c11,c12],hp⟩ Q:=by
 have hchl:=zcr hid
 have hlen:∀ A R,t=A++R++[93]->t.length - 1=A.length + R.length:=λA R e=>by have:=congrArg zsB e;simp only [zro,zrr,zrz] at this;exact this▸rfl
 have step1:doM (zdT (zay (zat (za6 false) (za4 (zae 0) (zae 5)) (zal (.str ("!":zS))))) (zat (zac zbg) (zae 5) (zal (.int 2))) (zat (zac zbg) (zae 5) (zal (.int 1)))) (zaC 11)
   ⟨[oS t,c1,c2,c3,c4,oN 1,oN n,c7,oN (t.length - 1),c9,oL ch,c11,c12],hp⟩=some (.next,⟨[oS t,c1,c2,c3,c4,oN 1,oN n,c7,oN (t.length - 1),c9,oL ch,oN ([91].length + ((brI bar).length + 1)),c12],hp⟩):=by
  obtain ⟨e0,er,rfl⟩:∃ e r,els=e::r:=by cases els with | nil=>exact absurd rfl hels | cons e r=>exact ⟨e,r,rfl⟩
  have hfst:∃ rest,e0.txt=e0.fst::rest:=by cases e0 <;> exact ⟨_,rfl⟩
  (refine Ee hfst ?_;clear hfst;intro rest hrest)
  cases bar with
  | true=>
   have e1:t[1]?=some 33:=by refine ht▸?_;rfl
   refine zaD (v:=.d (.int ((1 + 2:Nat):Int))) (h:=hp) (zer (h:=hp) ((zbo (zag (a:=.d (.str (T t))) (b:=.d (.int ((1:Nat):Int))) (h1:=hp) (h2:=hp) rfl rfl (zcs e1 (by decide))) zct (by decide) (by decide)).trans rfl) (zag (a:=.d (.int ((1:Nat):Int))) (b:=.d (.int 2)) (h1:=hp) (h2:=hp) rfl rfl (zb0 (by decide)))) rfl
  | false=>
   have e1:t[1]?=some e0.fst:=by refine (Eq.symm ht)▸(Eq.symm zrp)▸(Eq.symm hrest)▸?_;rfl
   have hlt:e0.fst < 1114112:=hok _ (zsH e1)
   refine zaD (v:=.d (.int ((1 + 1:Nat):Int))) (h:=hp) (zfw (h:=hp) ((zbo (zag (a:=.d (.str (T t))) (b:=.d (.int ((1:Nat):Int))) (h1:=hp) (h2:=hp) rfl rfl (zcs e1 (by decide))) zct hlt (by decide)).trans ?_) (zag (a:=.d (.int ((1:Nat):Int))) (b:=.d (.int 1)) (h1:=hp) (h2:=hp) rfl rfl (zb0 (by decide)))) rfl
   refine (Eq.symm (decide_eq_false (hb rfl e0 rfl)))▸?_;rfl
 refine Runs.seq step1 ?_
 refine Runs.seqR (Q:=Q) ?_
 refine Runs.mono (Q:=ChQ t C c1 c2 c3 c4 n c7 c9 c12 hp ch) ?_ ?_
 ·refine Runs.while (λm st=>ChA t tr C c1 c2 c3 c4 n c7 c9 c12 hp ch m st\/ChB t C c1 c2 c3 c4 n c7 c9 c12 hp ch m st) ?_ k (els.length + 1) _ hk
   (.inl ⟨[91],brI bar,els,false,(brI bar).length + 1,[],rfl,by refine Eq.trans ht ?_;rfl,λZ=>rfl,(λh=>by exact zdo h),λq hq=>by rw [zrH (by exact zrP (by assumption))];exact nofun,hch,.inr hels,by rw [hC];rfl,by refine (Eq.symm (show ([]:List (List Nat)).map vS=[] from rfl))▸(Eq.symm (zcp hid))▸?_;rfl⟩)
  intro m st hI
  refine ⟨true,st.hp,rfl,(λh=>by exact ziL h),λZ=>?_⟩
  have hfind:∀ (A:List Nat) (lo:Nat) (hp':HP),zbz isS zji (zae 0) (zaf (zal (.str ("-":zS))) (zaf (zae 11) (zaf (zae 8) (zaw)))) ⟨[oS t,c1,c2,c3,c4,oN A.length,oN n,c7,oN (t.length - 1),c9,oL ch,oN lo,c12],hp'⟩=some (.d (.int (zfu (T t) (T [45]) lo (t.length - 1))),hp'):=λA lo hp'=>
   zbk (v:=.d (.str (T t))) (vs:=[.d (.str (T [45])),.d (.int (lo:Int)),.d (.int ((t.length - 1:Nat):Int))]) (h:=hp') (h':=hp') rfl rfl (zaj (zaG zb5) (zaj (v:=.d (.int (lo:Int))) (h:=hp') rfl (zaj (v:=.d (.int ((t.length - 1:Nat):Int))) (h:=hp') rfl rfl))) zm9
  have hbrk:∀ (A:List Nat) (lo:Nat) (hp':HP) (QQ:Fl->St->Prop),zfu (T t) (T [45]) lo (t.length - 1) = -1->QQ .brk ⟨[oS t,c1,c2,c3,c4,oN A.length,oN n,c7,oN (t.length - 1),c9,oL ch,oI (-1),c12],hp'⟩->
    Runs (zau (doM (zbz isS zji (zae 0) (zaf (zal (.str ("-":zS))) (zaf (zae 11) (zaf (zae 8) (zaw))))) (zaC 11)) (zau (zbC (zay (zat (zac ltD) (zae 11) (zal (.int 0)))) (zau (zas .brk) (zas .next)) (zas .next)) (zau (zbm (zbz zeF zeh (zae 10) (zaf (zaR (zae 0) (zae 5) (zae 11)) (zaw)))) (zau (doM (zat (zac zbg) (zae 11) (zal (.int 1))) (zaC 5)) (zau (doM (zat (zac zbg) (zae 11) (zal (.int 3))) (zaC 11)) (zas .next)))))) ⟨[oS t,c1,c2,c3,c4,oN A.length,oN n,c7,oN (t.length - 1),c9,oL ch,oN lo,c12],hp'⟩ QQ:=λA lo hp' QQ hf hq=>by
   have h1:=hfind A lo hp'
   rw [hf] at h1
   exact Runs.seq (zaD h1 rfl) (Runs.of rfl hq)
  have hgo:∀ (A X B:List Nat) (skip:Nat) (out:List (List Nat)) (QQ:Fl->St->Prop),t=A++X++45::(B++[93])->skip<=X.length->(∀ q,skip<=q->X[q]?≠some 45)->out.length<=2 ^ 20->
    QQ .next ⟨[oS t,c1,c2,c3,c4,oN (A++X++[45]).length,oN n,c7,oN (t.length - 1),c9,oL ch,oN ((A++X++[45]).length + 2),c12],hp.set ch (some ((out++[X]).map vS))⟩->
    Runs (zau (doM (zbz isS zji (zae 0) (zaf (zal (.str ("-":zS))) (zaf (zae 11) (zaf (zae 8) (zaw))))) (zaC 11)) (zau (zbC (zay (zat (zac ltD) (zae 11) (zal (.int 0)))) (zau (zas .brk) (zas .next)) (zas .next)) (zau (zbm (zbz zeF zeh (zae 10) (zaf (zaR (zae 0) (zae 5) (zae 11)) (zaw)))) (zau (doM (zat (zac zbg) (zae 11) (zal (.int 1))) (zaC 5)) (zau (doM (zat (zac zbg) (zae 11) (zal (.int 3))) (zaC 11)) (zas .next)))))) ⟨[oS t,c1,c2,c3,c4,oN A.length,oN n,c7,oN (t.length - 1),c9,oL ch,oN (A.length + skip),c12],hp.set ch (some (out.map vS))⟩ QQ:=λA X B skip out QQ e hs hX ho hq=>by
   have htl:t.length=A.length + X.length + B.length + 2:=by refine (congrArg _ e).trans ?_;simp;exact congrArg (· + 2) (zsO _ _ _).symm
   have hf:zfu (T t) (T [45]) (A.length + skip) (t.length - 1)=((A.length + X.length:Nat):Int):=by
    refine zlR (by simp) (by exact zr9 hs _) (by rw [htl];exact ztg (zrI _ _)) ?_ λi h1 h2=>?_
    ·refine e▸(show A.length + X.length=(A++X).length by simp)▸?_;exact zgW _ _ _
    ·rw [e,zrC (by simp;omega),zrF (zrn (zrI _ _) h1)]
     exact hX _ (zt7 h1)
   have h1:=hfind A (A.length + skip) (hp.set ch (some (out.map vS)))
   rw [hf] at h1
   refine Runs.seq (st1:=⟨[oS t,c1,c2,c3,c4,oN A.length,oN n,c7,oN (t.length - 1),c9,oL ch,oN (A.length + X.length),c12],hp.set ch (some (out.map vS))⟩) (zaD h1 rfl) ?_
   refine Runs.seq (st1:=⟨[oS t,c1,c2,c3,c4,oN A.length,oN n,c7,oN (t.length - 1),c9,oL ch,oN (A.length + X.length),c12],hp.set ch (some (out.map vS))⟩) (zaF (h:=hp.set ch (some (out.map vS))) ?_ rfl) ?_
   ·refine zaB (zag (a:=.d (.int ((A.length + X.length:Nat):Int))) (b:=.d (.int 0)) (h1:=hp.set ch (some (out.map vS))) (h2:=hp.set ch (some (out.map vS))) rfl rfl ?_)
    rfl
   have hget:(hp.set ch (some (out.map vS)))[ch]?=some (some (out.map vS)):=zru hchl
   have happ:=zgN (x:=X) hget ho
   rw [zrX] at happ
   refine Runs.seq (st1:=⟨[oS t,c1,c2,c3,c4,oN A.length,oN n,c7,oN (t.length - 1),c9,oL ch,oN (A.length + X.length),c12],hp.set ch (some ((out++[X]).map vS))⟩) (zbh (v:=.d .none) (zbk (v:=.l ch) (vs:=[vS X]) (h:=hp.set ch (some (out.map vS))) (h':=hp.set ch (some (out.map vS))) rfl (zcL hget) (zaj (v:=vS X) (h:=hp.set ch (some (out.map vS))) ?_ rfl) happ)) ?_
   ·refine za9 (a:=.d (.str (T t))) (lo:=some ((A.length:Nat):Int)) (hi:=some ((A.length + X.length:Nat):Int)) (h1:=hp.set ch (some (out.map vS))) (h2:=hp.set ch (some (out.map vS))) (h3:=hp.set ch (some (out.map vS))) rfl rfl rfl ((zb7 (by exact zrn hl (zN rfl))).trans ?_)
    rw [e,zf0];rfl
   have hAl:(A++X++[45]).length=A.length + X.length + 1:=by refine (Eq.symm zro)▸(Eq.symm zro)▸?_;rfl
   refine Runs.seq (st1:=⟨[oS t,c1,c2,c3,c4,oN (A++X++[45]).length,oN n,c7,oN (t.length - 1),c9,oL ch,oN (A.length + X.length),c12],hp.set ch (some ((out++[X]).map vS))⟩) (zaD (v:=.d (.int (((A++X++[45]).length:Nat):Int))) (h:=hp.set ch (some ((out++[X]).map vS))) (zag (a:=.d (.int ((A.length + X.length:Nat):Int))) (b:=.d (.int 1)) (h1:=hp.set ch (some ((out++[X]).map vS))) (h2:=hp.set ch (some ((out++[X]).map vS))) rfl rfl (zb0 (by rw [hAl];rfl))) rfl) ?_
   refine Runs.of (zam (st1:=⟨[oS t,c1,c2,c3,c4,oN (A++X++[45]).length,oN n,c7,oN (t.length - 1),c9,oL ch,oN ((A++X++[45]).length + 2),c12],hp.set ch (some ((out++[X]).map vS))⟩) (zaD (v:=.d (.int (((A++X++[45]).length + 2:Nat):Int))) (h:=hp.set ch (some ((out++[X]).map vS))) (zag (a:=.d (.int ((A.length + X.length:Nat):Int))) (b:=.d (.int 3)) (h1:=hp.set ch (some ((out++[X]).map vS))) (h2:=hp.set ch (some ((out++[X]).map vS))) rfl rfl (zb0 (by refine hAl▸?_;rfl))) rfl) rfl) hq
  rcases hI with ⟨A,acc,els,lone,skip,out,rfl,e,i1,i2,i3,i4,i5,i6,rfl⟩ | ⟨A,out,y,rfl,e,i6,rfl⟩
  ·have hol:out.length<=2 ^ 20:=by have:=congrArg zsB i6;simp at this;exact (fk (r:=1048576) (al2 (b:=1048576) hCl (leq this)) (by lia))
   rcases zrf (trl tr) els acc lone skip i1 i2 i3 i4 with ⟨X,b,r,g1,g2,g3,g4,g5,g6,g7⟩ | ⟨g1,g2,g3,g4⟩
   ·refine hgo A X (b::r.flatMap El.txt++trl tr) skip out _ (by refine e▸g1▸?_;simp) g2 g3 hol ?_
    refine ⟨r.length + 1,by exact zto (by assumption),.inl ⟨A++X++[45],[b],r,false,2,out++[X],rfl,by refine e▸g1▸?_;simp,λZ=>rfl,(λh=>by exact zdo h),λq hq=>by rw [zrH (by simp;exact zrP hq)];exact nofun,g4,.inl (by simp),?_,rfl⟩⟩
    refine i6▸(Eq.symm g5)▸(Eq.symm g6)▸?_;simp
   ·generalize hX:acc++els.flatMap El.txt=X at *
    have hXne:X≠[]:=by
     refine hX▸?_
     rcases i5 with h | h
     ·exact λq=>h (zt0.mp q).1
     ·cases els with
      | nil=>exact absurd rfl h
      | cons e r=>cases e <;> simp [El.txt]
    have htl:=hlen A (X++trl tr) e
    cases tr with
    | false=>
     rw [show trl false=[] from rfl] at e g3 g4 htl
     rw [zrE] at e g3 htl
     refine hbrk A _ _ _ (zf5 (by simp) λi h1 h2=>?_) ⟨rfl,A,X,out,e,rfl,.inl ⟨hXne,by exact i6▸(show trl false=[] from rfl)▸g3▸g4▸rfl⟩⟩
     rw [e,zrC (by simp;exact htl▸h2),zrF (zrn (zrI _ _) h1)]
     exact g1 _ (zt7 h1)
    | true=>
     rw [show trl true=[45] from rfl] at e g3 g4 htl
     rcases g2 with g2 | g2
     ·refine hgo A X [] skip out _ (by refine Eq.trans e ?_;simp) g2 g1 hol ⟨0,by exact zrw _,.inr ⟨A++X++[45],out,X,rfl,by refine Eq.trans e ?_;simp,by exact i6▸(show trl true=[45] from rfl)▸g3▸g4▸rfl,rfl⟩⟩
     ·refine hbrk A _ _ _ (zf5 (by simp) λi h1 h2=>?_) ⟨rfl,A,X++[45],out,e,rfl,.inl ⟨by simp,by exact i6▸(show trl true=[45] from rfl)▸g3▸g4▸rfl⟩⟩
      rw [zro] at htl
      simp only [zrr,zrz] at htl
      lia
  ·have htl:=hlen A [] (by refine Eq.trans e ?_;simp)
   simp only [zrz] at htl
   exact hbrk A _ _ _ (zf5 (by simp) λi h1 h2=>absurd h2 (zsQ.mpr (htl▸zrn (zrI _ _) h1))) ⟨rfl,A,[],out++[y],by refine Eq.trans e ?_;simp,rfl,.inr ⟨rfl,out,y,rfl,i6⟩⟩
 ·rintro fl st' ⟨rfl,A,Y,out,e,rfl,hY⟩
  refine ⟨rfl,?_⟩
  have htl:=hlen A Y e
  refine Runs.seq (st1:=⟨[oS t,c1,c2,c3,c4,oN A.length,oN n,c7,oN (t.length - 1),c9,oL ch,oI (-1),oS Y],hp.set ch (some (out.map vS))⟩) (zaD (v:=.d (.str (T Y))) (h:=hp.set ch (some (out.map vS))) ?_ rfl) ?_
  ·refine za9 (a:=.d (.str (T t))) (lo:=some ((A.length:Nat):Int)) (hi:=some ((t.length - 1:Nat):Int)) (h1:=hp.set ch (some (out.map vS))) (h2:=hp.set ch (some (out.map vS))) (h3:=hp.set ch (some (out.map vS))) rfl rfl rfl ((zb7 (zrn (m:=262144) (k:=1048576) hl (by lia))).trans ?_)
   rw [htl,e,zf0]
  have hget:(hp.set ch (some (out.map vS)))[ch]?=some (some (out.map vS)):=zru hchl
  have htruth:zbf (zae 12) ⟨[oS t,c1,c2,c3,c4,oN A.length,oN n,c7,oN (t.length - 1),c9,oL ch,oI (-1),oS Y],hp.set ch (some (out.map vS))⟩=some (decide (0 < Y.length),hp.set ch (some (out.map vS))):=by
   refine zdH (v:=.d (.str (T Y))) (h:=hp.set ch (some (out.map vS))) rfl ?_
   refine Eq.trans (if_pos (za2 (by rw [zca];exact zrn (zrn (zsT _ _) (zss htl.symm)) (zrn (ztu _ _) (zrn hl (zN rfl)))))) ?_;rfl
  rcases hY with ⟨hne,hC'⟩ | ⟨rfl,o,y,rfl,hC'⟩
  ·have hpos:0 < Y.length:=zsh.mpr hne
   rw [decide_eq_true hpos] at htruth
   have happ:=zgN (x:=Y) hget (by have:=congrArg zsB hC';simp at this;exact (fk (r:=1048576) (al2 (b:=1048576) hCl (leq this)) (by lia)))
   rw [zrX,hC'] at happ
   refine Runs.seq (zaZ htruth (zam (zbh (v:=.d .none) (zbk (v:=.l ch) (vs:=[vS Y]) (h:=hp.set ch (some (out.map vS))) (h':=hp.set ch (some (out.map vS))) rfl (zcL hget) rfl happ)) rfl)) ?_
   exact hD _ _ _
  ·rw [decide_eq_false (show ¬ 0 < ([]:List Nat).length by decide)] at htruth
   refine Runs.seq (st1:=⟨[oS t,c1,c2,c3,c4,oN A.length,oN n,c7,oN (t.length - 1),c9,oL ch,oI (-1),oS []],hp.set ch (some (C.map vS))⟩) (zaF htruth (zam (st1:=⟨[oS t,c1,c2,c3,c4,oN A.length,oN n,c7,oN (t.length - 1),c9,oL ch,oI (-1),oS []],hp.set ch (some (C.map vS))⟩) ?_ rfl)) ?_
   ·have hyl:y.length + 1<=2 ^ 20/\o.length + 1<=2 ^ 20:=by
     refine ⟨?_,by have:=congrArg zsB hC';simp at this;exact this▸hCl⟩
     have:(y++[45]) ∈ C:=by refine hC'▸?_;simp
     have hsum:∀ (els:List El) (x:List Nat),x ∈ (chk (trl tr) els).1::(chk (trl tr) els).2->x.length<=(els.flatMap El.txt).length + (trl tr).length:=by
      intro els
      induction els with
      | nil=>intro x hx;simp [chk] at hx;rw [hx];simp
      | cons e r ih=>
       intro x hx
       cases e with
       | lone c=>
        rcases zrs.mp hx with q | q
        ·rw [q];have:=ih _ (.head _);simp [chk,El.txt] at this ⊢;exact (zrt this (by lia))
        ·have:=ih x (.tail _ q);simp [El.txt] at this ⊢;exact (zrn this (by lia))
       | rng a b=>
        rcases zrs.mp hx with q | q
        ·rw [q];simp [chk,El.txt];exact (by lia)
        ·rcases zrs.mp q with q | q
         ·rw [q];have:=ih _ (.head _);simp [El.txt] at this ⊢;exact (zrt this (by lia))
         ·have:=ih x (.tail _ q);simp [El.txt] at this ⊢;exact (zrn this (by lia))
     have ht2:t.length=2 + (brI bar).length + (els.flatMap El.txt).length + (trl tr).length:=by refine (congrArg _ ht).trans ?_;simp;exact (by lia)
     rw [hC] at this
     have hle:(y++[45]).length<=(brI bar).length + ((els.flatMap El.txt).length + (trl tr).length):=by
      rcases zrs.mp this with q | q
      ·rw [q,zro];have:=hsum els _ (.head _);exact zr9 this _
      ·have:=hsum els _ (.tail _ q);exact (zrn this (by lia))
     simp only [zro,zrr,zrz] at hle
     exact (fk (r:=1048576) (al2 (al2 (b:=262144) hl (geq ht2)) hle) (by lia))
    unfold zht
    refine (show zae 10 (⟨[oS t,c1,c2,c3,c4,oN A.length,oN n,c7,oN (t.length - 1),c9,oL ch,oI (-1),oS []],hp.set ch (some ((o++[y]).map vS))⟩:St)=some (.l ch,hp.set ch (some ((o++[y]).map vS))) from rfl)▸?_
    dsimp only [bV,bL,bO,on1,on2,onD,onR,dI,dS,dL,onS,onI,onL]
    refine hget▸?_
    dsimp only [bV,bL,bO,on1,on2,onD,onR,dI,dS,dL,onS,onI,onL]
    (refine Eq.trans (if_pos (za2 (by simp;exact (fk (R:=1048576) hyl.2 (by lia))))) ?_;refine (Eq.symm zrR)▸?_)
    refine (show (zuj vS o++zuj vS [y]).getLast?=some (vS y) by simp)▸?_
    show (if zbr ((T y).length + (("-":zS)).length)=true then _ else _)=_
    (refine (Eq.symm zb5)▸?_;rw [if_pos (za2 (by rw [zca,zca];simp;exact (fk (R:=1048576) hyl.1 (by lia)))),zhr,zrX])
    exact (show (zuj vS o++zuj vS [y]).dropLast++[V.d (.str (T (y++[45])))]=C.map vS by refine hC'▸?_;simp;rfl)▸rfl
   ·exact hD _ _ _
end
end Mine
namespace Mine
open PySem PySem.W PySem.Spec PySem.Calls PyProof.Rows PySem.Builtin PySem.Builtin.Str
theorem zlE (tr:List Nat):∀ (els:List El) (x:List Nat),x ∈ (chk tr els).1::(chk tr els).2->x.length<=(els.flatMap El.txt).length + tr.length:=by
 intro zz
 induction zz with
 | nil=>
  intro x hx
  simp [chk] at hx;rw [hx];simp
 | cons zp r ih=>
  cases zp with
  | lone c=>
   intro x hx
   rcases zrs.mp hx with q | q
   ·rw [q];have:=ih _ (.head _);simp [chk,El.txt] at this ⊢;exact (zrt this (by lia))
   ·have:=ih x (.tail _ q);simp [El.txt] at this ⊢;exact (zrn this (by lia))
  | rng a b=>
   intro x hx
   rcases zrs.mp hx with q | q
   ·rw [q];simp [chk,El.txt];exact (by lia)
   ·rcases zrs.mp q with q | q
    ·rw [q];have:=ih _ (.head _);simp [El.txt] at this ⊢;exact (zrt this (by lia))
    ·have:=ih x (.tail _ q);simp [El.txt] at this ⊢;exact (zrn this (by lia))
theorem zje (tr:List Nat):∀ els:List El,(chk tr els).2.length<=els.length:=by
 intro zz
 induction zz with
 | nil=>
  exact zrv _
 | cons zp r ih=>
  cases zp with
  | lone c=>
   have:=ih;dsimp [chk];exact zsc (by assumption)
  | rng a b=>
   have:=ih;simp [chk];omega
theorem zc2:∀ els:List El,((els.filter zaN).flatMap El.txt).length<=(els.flatMap El.txt).length:=by
 intro zz
 induction zz with
 | nil=>
  exact zrv _
 | cons e r ih=>
  have:=ih
  refine zs7▸?_
  split
  ·simp only [zrp,zro];exact zr9 this _
  ·simp only [zrp,zro];exact (zrn this (by lia))
theorem zeb {a b:Int}{c:Nat}{hp:HP}(h:a - b=(c:Int)):zac (zaP zh7) hp (.d (.int a)) (.d (.int b))=some (.d (.int (c:Int)),hp):=by
 exact h▸rfl
theorem zoD {a b:Nat}{hp:HP}:zac gtD hp (.d (.str (T [a]))) (.d (.str (T [b])))=some (.d (.bool (decide (b < a))),hp):=by
 show some (V.d (.bool (decide ([b] < [a]))),hp)=_
 have:([b] < [a])↔b < a:=by
  constructor
  ·intro h
   cases h with
   | rel h=>exact h
   | cons h=>contradiction
  ·exact λh=>.rel h
 exact (decide_eq_decide.mpr this)▸rfl
theorem zlh (X:List Nat) (a:Nat):zaY (X++[a]) none (some (-1))=X:=by
 unfold zaY hiB loB zb1
 dsimp only
 rw [if_pos (by decide)]
 rw [show (-1 + ((X++[a]).length:Int)).toNat=X.length by simp;exact tn1 _]
 simp
theorem zhc (b:Nat) (Y:List Nat):zaY (b::Y) (some 1) none=Y:=by
 unfold zaY hiB loB zb1
 dsimp only
 rw [if_neg (by decide)]
 simp
theorem zot {mo mi:St->Option (V × HP)}{st:St}{id k:Nat}{h1 h2:HP}{old:List V}(e1:mo st=some (.l id,h1)) (e2:mi ⟨st.loc,h1⟩=some (.d (.int (k:Int)),h2)) (e3:h2[id]?=some (some old)) (hk:k < old.length) (hl:old.length<=2 ^ 20) :
  zpD mo mi st=some (.next,⟨st.loc,h2.set id (some (old.eraseIdx k))⟩):=by
 have hix:zqB (k:Int) old.length=some k:=by
  unfold zqB
  rw [if_pos ⟨zrO (by decide) (zrB k),zrS.mpr (zmb hk hl),zrt hl (by decide)⟩]
  unfold seqIndex?
  have h0:¬ ((k:Int) < 0):=by simp
  simp only [h0,if_false]
  rw [if_pos (by simp;omega)]
  rfl
 unfold zpD
 refine e1▸?_;dsimp only [bV,bL,bO,on1,on2,onD,onR,dI,dS,dL,onS,onI,onL];refine e2▸?_;dsimp only [bV,bL,bO,on1,on2,onD,onR,dI,dS,dL,onS,onI,onL];refine e3▸?_;dsimp only [bV,bL,bO,on1,on2,onD,onR,dI,dS,dL,onS,onI,onL]
 rw [if_pos (za2 hl),hix];rfl
section
variable {c0 c1 c2 c3 c4 c5 c6 c7 c8 c9 c12:Option V}{ch:Nat}{Q:Fl->St->Prop}
noncomputable abbrev zkj:St->Option (Fl × St):=zau (zbC (zay (zat (zac gtD) (za4 (za4 (zae 10) (zat (zac (zaP zh7)) (zae 11) (zal (.int 1)))) (zde (zal (.int 1)))) (za4 (za4 (zae 10) (zae 11)) (zal (.int 0))))) (zau (doM (zat (zac zbg) (zaR (za4 (zae 10) (zat (zac (zaP zh7)) (zae 11) (zal (.int 1)))) (zal .none) (zde (zal (.int 1)))) (zaR (za4 (zae 10) (zae 11)) (zal (.int 1)) (zal .none))) (zjR (zae 10) (zat (zac (zaP zh7)) (zae 11) (zal (.int 1))))) (zau (zpD (zae 10) (zae 11)) (zas .next))) (zas .next)) (zas .next)
theorem zla {Pre R:List (List Nat)}{X Y:List Nat}{a b:Nat}{hp:HP}(hg:hp[ch]?=some (some ((Pre++(X++[a])::(b::Y)::R).map vS))) (h1:Pre.length + R.length + 2<=2 ^ 20) (h2:X.length + 1<=2 ^ 19) (h3:Y.length + 1<=2 ^ 19) :
  zkj ⟨[c0,c1,c2,c3,c4,c5,c6,c7,c8,c9,oL ch,oN (Pre.length + 1),c12],hp⟩ =
   some (.next,⟨[c0,c1,c2,c3,c4,c5,c6,c7,c8,c9,oL ch,oN (Pre.length + 1),c12],hp.set ch (some ((if b < a then Pre++(X++Y)::R else Pre++(X++[a])::(b::Y)::R).map vS))⟩):=by
 have hid:=zcr hg
 have g1:∀ hp':HP,hp'[ch]?=some (some ((Pre++(X++[a])::(b::Y)::R).map vS))->za4 (zae 10) (zat (zac (zaP zh7)) (zae 11) (zal (.int 1))) ⟨[c0,c1,c2,c3,c4,c5,c6,c7,c8,c9,oL ch,oN (Pre.length + 1),c12],hp'⟩=some (vS (X++[a]),hp'):=λhp' hg'=>
  zcU (id:=ch) (h1:=hp') (h2:=hp') (i:=Pre.length) rfl (zag (a:=.d (.int ((Pre.length + 1:Nat):Int))) (b:=.d (.int 1)) (h1:=hp') (h2:=hp') rfl rfl (zeb (by simp))) hg' (by rw [zr7,zgW];rfl) (fk (r:=4611686018427387904) (R:=1048576) h1 (by lia))
 have g2:∀ hp':HP,hp'[ch]?=some (some ((Pre++(X++[a])::(b::Y)::R).map vS))->za4 (zae 10) (zae 11) ⟨[c0,c1,c2,c3,c4,c5,c6,c7,c8,c9,oL ch,oN (Pre.length + 1),c12],hp'⟩=some (vS (b::Y),hp'):=λhp' hg'=>
  zcU (id:=ch) (h1:=hp') (h2:=hp') (i:=Pre.length + 1) rfl rfl hg' (by
   rw [zr7,show Pre++(X++[a])::(b::Y)::R=(Pre++[X++[a]])++(b::Y)::R by simp,show Pre.length + 1=(Pre++[X++[a]]).length by simp,zgW];rfl) (zrt (zrn (zrn (zsE (zrI _ _)) (zsl _)) h1) (by decide))
 have ht:zay (zat (zac gtD) (za4 (za4 (zae 10) (zat (zac (zaP zh7)) (zae 11) (zal (.int 1)))) (zde (zal (.int 1)))) (za4 (za4 (zae 10) (zae 11)) (zal (.int 0)))) ⟨[c0,c1,c2,c3,c4,c5,c6,c7,c8,c9,oL ch,oN (Pre.length + 1),c12],hp⟩=some (decide (b < a),hp):=by
  refine zaB (zag (a:=.d (.str (T [a]))) (b:=.d (.str (T [b]))) (h1:=hp) (h2:=hp) ?_ ?_ zoD)
  ·exact zag (g1 hp hg) rfl zeY
  ·exact zag (b:=.d (.int ((0:Nat):Int))) (g2 hp hg) rfl (zcs rfl (by decide))
 by_cases hab:b < a
 ·rw [decide_eq_true hab] at ht
  refine (if_pos hab)▸?_
  have e1:zat (zac zbg) (zaR (za4 (zae 10) (zat (zac (zaP zh7)) (zae 11) (zal (.int 1)))) (zal .none) (zde (zal (.int 1)))) (zaR (za4 (zae 10) (zae 11)) (zal (.int 1)) (zal .none)) ⟨[c0,c1,c2,c3,c4,c5,c6,c7,c8,c9,oL ch,oN (Pre.length + 1),c12],hp⟩=some (vS (X++Y),hp):=by
   refine zag (a:=.d (.str (T X))) (b:=.d (.str (T Y))) (h1:=hp) (h2:=hp) ?_ ?_ (zkG (by exact zrn (zrP h2) (zN rfl)) (fk (r:=1048576) (R:=524288) h3 (by lia)))
   ·refine za9 (a:=vS (X++[a])) (lo:=none) (hi:=some (-1)) (h1:=hp) (h2:=hp) (h3:=hp) (g1 hp hg) rfl rfl ((zb7 (by simp;exact zrn (zrP h2) (zN rfl))).trans ?_)
    rw [zlh]
   ·refine za9 (a:=vS (b::Y)) (lo:=some 1) (hi:=none) (h1:=hp) (h2:=hp) (h3:=hp) (g2 hp hg) rfl rfl ((zb7 (by simp;exact (fk (R:=524288) h3 (by lia)))).trans ?_)
    rw [zhc]
  have e2:doM (zat (zac zbg) (zaR (za4 (zae 10) (zat (zac (zaP zh7)) (zae 11) (zal (.int 1)))) (zal .none) (zde (zal (.int 1)))) (zaR (za4 (zae 10) (zae 11)) (zal (.int 1)) (zal .none))) (zjR (zae 10) (zat (zac (zaP zh7)) (zae 11) (zal (.int 1)))) ⟨[c0,c1,c2,c3,c4,c5,c6,c7,c8,c9,oL ch,oN (Pre.length + 1),c12],hp⟩ =
    some (.next,⟨[c0,c1,c2,c3,c4,c5,c6,c7,c8,c9,oL ch,oN (Pre.length + 1),c12],hp.set ch (some ((Pre++(X++Y)::(b::Y)::R).map vS))⟩):=by
   refine zaD e1 ((zdO (id:=ch) (h1:=hp) (h2:=hp) (k:=Pre.length) rfl (zag (a:=.d (.int ((Pre.length + 1:Nat):Int))) (b:=.d (.int 1)) (h1:=hp) (h2:=hp) rfl rfl (zeb (by simp))) hg (by simp) (fk (r:=4611686018427387904) (R:=1048576) h1 (by lia))).trans ?_)
   refine zuW▸?_
   rw [zsV _ _ (zrv _),zta];rfl
  refine zam (zaZ ht (zam e2 (zam (st1:=⟨[c0,c1,c2,c3,c4,c5,c6,c7,c8,c9,oL ch,oN (Pre.length + 1),c12],hp.set ch (some ((Pre++(X++Y)::R).map vS))⟩) ?_ rfl))) rfl
  have hg2:(hp.set ch (some ((Pre++(X++Y)::(b::Y)::R).map vS)))[ch]?=some (some ((Pre++(X++Y)::(b::Y)::R).map vS)):=zru hid
  refine (zot (id:=ch) (k:=Pre.length + 1) (h1:=hp.set ch (some ((Pre++(X++Y)::(b::Y)::R).map vS))) (h2:=hp.set ch (some ((Pre++(X++Y)::(b::Y)::R).map vS))) rfl rfl hg2 (by simp) (by simp;omega)).trans ?_
  rw [zrX]
  have:((Pre++(X++Y)::(b::Y)::R).map vS).eraseIdx (Pre.length + 1)=(Pre++(X++Y)::R).map vS:=by
   rw [show Pre++(X++Y)::(b::Y)::R=(Pre++[X++Y])++(b::Y)::R by simp,zrR,List.eraseIdx_append_of_length_le (by simp)]
   simp
  exact this▸rfl
 ·rw [decide_eq_false hab] at ht
  refine (Eq.symm (if_neg hab))▸(Eq.symm (zcp hg))▸?_
  exact zam (zaF ht rfl) rfl
theorem zjD (p m:Nat):zbx ((p + (m + 1):Nat):Int) (-1) (m + 1)=zbx (((p + 1) + m:Nat):Int) (-1) m++[.d (.int ((p + 1:Nat):Int))]:=by
 unfold zbx
 refine List.range_succ▸zrR▸?_
 congr 1
 ·apply zsq
  intro i _
  exact (show ((p + (m + 1):Nat):Int)=(((p + 1) + m:Nat):Int) by exact (by lia))▸rfl
 ·show [V.d (.int (((p + (m + 1):Nat):Int) + (m:Int) * -1))]=_
  exact (show ((p + (m + 1):Nat):Int) + (m:Int) * -1=((p + 1:Nat):Int) by lia)▸rfl
theorem Runs.forNext {u:V->St->Option St}{b:St->Option (Fl × St)}{v:V}{r:List V}{st st1 st':St}{Q:Fl->St->Prop}(hu:u v st=some st1) (hb:b st1=some (.next,st')) (hr:Runs (Mine.forL u b r) st' Q):Runs (Mine.forL u b (v::r)) st Q:=by
 refine zgy hr λfl s2 e q=>?_
 exact ⟨fl,s2,zb2 hu hb e,q⟩
theorem zmd (tr:List Nat):∀ (els:List El) (init:List Nat) (Pre:List (List Nat)) (hp:HP) (c11:Option V) (ys:List V),hp[ch]?=some (some ((Pre++(init++(chk tr els).1)::(chk tr els).2).map vS))->
  init.length + (els.flatMap El.txt).length + tr.length<=2 ^ 18->Pre.length + els.length + 2<=2 ^ 18->
  (∀ c11',Runs (forL (zaC 11) zkj ys) ⟨[c0,c1,c2,c3,c4,c5,c6,c7,c8,c9,oL ch,c11',c12],hp.set ch (some ((Pre++(init++(chk tr (els.filter zaN)).1)::(chk tr (els.filter zaN)).2).map vS))⟩ Q)->
  Runs (forL (zaC 11) zkj (zbx ((Pre.length + (chk tr els).2.length:Nat):Int) (-1) (chk tr els).2.length++ys)) ⟨[c0,c1,c2,c3,c4,c5,c6,c7,c8,c9,oL ch,c11,c12],hp⟩ Q:=by
 intro zz
 induction zz with
 | nil=>
  intro init Pre hp c11 ys h1 _ _ h4
  have:=h4 c11
  rw [show ([]:List El).filter zaN=[] from rfl,zcp h1] at this
  exact this
 | cons zp els ih=>
  cases zp with
  | lone c=>
   intro init Pre hp c11 ys h1 h2 h3 h4
   have e1:init++(chk tr (.lone c::els)).1=(init++[c])++(chk tr els).1:=by simp [chk]
   rw [e1] at h1
   refine ih (init++[c]) Pre hp c11 ys h1 (by rw [zrp,zro] at h2;simp only [zro,zrr,zrz,El.txt] at h2 ⊢;exact (fk (r:=262144) (R:=262144) h2 (by lia))) (by simp only [zrr] at h3;exact zrP (by assumption)) λc11'=>?_
   have:=h4 c11'
   rw [zso (show zaN (.lone c)=true from rfl)] at this
   rw [show init++(chk tr (.lone c::els.filter zaN)).1=(init++[c])++(chk tr (els.filter zaN)).1 by simp [chk]] at this
   exact this
  | rng a b=>
   intro init Pre hp c11 ys h1 h2 h3 h4
   have hid:=zcr h1
   simp only [zrr] at h3
   have h2':init.length + (3 + (els.flatMap El.txt).length) + tr.length<=2 ^ 18:=by rw [zrp,zro] at h2;simp only [El.txt,zrr,zrz] at h2;omega
   show Runs (forL (zaC 11) zkj (zbx ((Pre.length + ((chk tr els).2.length + 1):Nat):Int) (-1) ((chk tr els).2.length + 1)++ys)) _ Q
   rw [zjD,zrx]
   have hlen:Pre.length + 1=(Pre++[init++[a]]).length:=by simp
   have hg:hp[ch]?=some (some (((Pre++[init++[a]])++([b]++(chk tr els).1)::(chk tr els).2).map vS)):=by
    refine Eq.trans h1 ?_
    exact (show Pre++(init++(chk tr (.rng a b::els)).1)::(chk tr (.rng a b::els)).2=(Pre++[init++[a]])++([b]++(chk tr els).1)::(chk tr els).2 by simp [chk])▸rfl
   refine (show (Pre.length + 1 + (chk tr els).2.length:Nat)=(Pre++[init++[a]]).length + (chk tr els).2.length by exact hlen▸rfl)▸?_
   refine ih [b] (Pre++[init++[a]]) hp c11 _ hg (by simp only [zrr,zrz];exact (fk (r:=262144) (R:=262144) h2' (by lia))) (by refine hlen▸?_;exact (fk (r:=262144) (R:=262144) h3 (by lia))) λc11'=>?_
   have hfl:=zc2 els
   have hcl:=zlE tr (els.filter zaN) _ (.head _)
   have hcc:=zje tr (els.filter zaN)
   have hfl2:(els.filter zaN).length<=els.length:=zsj _ _
   generalize hes:els.filter zaN=es at *
   have hg2:(hp.set ch (some (((Pre++[init++[a]])++([b]++(chk tr es).1)::(chk tr es).2).map vS)))[ch]?=some (some ((Pre++(init++[a])::(b::(chk tr es).1)::(chk tr es).2).map vS)):=by
    refine Eq.trans (zru hid) ?_;simp
   have hst:=zla (c0:=c0) (c1:=c1) (c2:=c2) (c3:=c3) (c4:=c4) (c5:=c5) (c6:=c6) (c7:=c7) (c8:=c8) (c9:=c9) (c12:=c12) hg2 (fk (r:=1048576) (al2 (al2 (b:=262144) h3 hcc) hfl2) (by lia)) (fk (r:=524288) (R:=262144) h2 (by lia)) (fk (r:=524288) (al2 (al2 (b:=262144) h2' hfl) hcl) (by lia))
   rw [zrX] at hst
   refine Runs.forNext (st1:=⟨[c0,c1,c2,c3,c4,c5,c6,c7,c8,c9,oL ch,oN (Pre.length + 1),c12],hp.set ch (some (((Pre++[init++[a]])++([b]++(chk tr es).1)::(chk tr es).2).map vS))⟩) rfl hst ?_
   have h4':=h4 (oN (Pre.length + 1))
   by_cases hab:b < a
   ·have hk:zaN (.rng a b)=false:=decide_eq_false (by exact ztv.mpr (by assumption))
    rw [zsP (by rw [hk];decide),hes] at h4'
    refine (if_pos hab)▸?_;exact h4'
   ·have hk:zaN (.rng a b)=true:=decide_eq_true (by exact zsv (by assumption))
    rw [zso hk,hes] at h4'
    refine (if_neg hab)▸?_;exact h4'
end
end Mine
namespace Mine
open PySem PySem.W PySem.Spec PySem.Calls PyProof.Rows PySem.Builtin PySem.Builtin.Str
theorem zol (C:List (List Nat)):zhs (C.map vS)=some (C.map λl=>PyData.str (T l)):=by
 have:=zcJ (C.map λl=>PyData.str (T l))
 rw [zrW] at this
 exact this
theorem zgV {hp:HP}{id:Nat}{l:List (List Nat)}(h:hp[id]?=some (some (l.map vS))):zhE hp (.l id)=some (.d (.list (l.map λl=>PyData.str (T l))),hp.set id none):=by
 exact zdI h (zol _)
theorem zqd {l:List Nat}{b:Nat}(h:∀ x ∈ l,x<=b):l.sum<=l.length * b:=by
 induction l with
 | nil=>exact zr2 _
 | cons a r ih=>
  have h1:=h a (.head _)
  have h2:=ih λx hx=>h x (.tail _ hx)
  rw [zuq,zrr,Nat.add_mul];exact zrn (zrY h1 h2) (zss (by rw [Nat.one_mul,zst]))
theorem zgT (l:List Nat):(l.flatMap e2).length<=2 * l.length:=by
 induction l with
 | nil=>exact zrv _
 | cons c r ih=>
  refine zrp▸zro▸zrr▸?_
  have:(e2 c).length<=2:=by unfold e2;split;exact zrD _;split <;> simp
  exact zrn (zrY this ih) (zss (by rw [zt8,zst]))
theorem zo4 (c:Nat) (z l:List Nat) (hz:z.length<=2):(sbs c z l).length<=2 * l.length:=by
 induction l with
 | nil=>exact zrv _
 | cons k r ih=>
  have:sbs c z (k::r)=(if k=c then z else [k])++sbs c z r:=rfl
  refine this▸zro▸zrr▸?_
  have:(if k=c then z else [k]).length<=2:=by split;exact hz;exact zrw _
  exact (fk (al2 ih this) (by lia))
theorem zmw {ls:List (List Nat)}:zh5 ((ls.map λl=>PyData.str (T l)).map V.d)=some (ls.map T):=by
 refine (congrArg _ zrW).trans ?_;exact zoh ls
theorem zk6 {m:St->Option (V × HP)}{st:St}{C:List (List Nat)}{h:HP}(e:m st=some (.d (.list (C.map λl=>PyData.str (T l))),h)) (h1:C.length<=2 ^ 10) (h2:∀ l ∈ C,l.length<=2 ^ 10) :
  zhN ("-":zS) (λy=>Txt.replace (Txt.replace y ("\\":PySem.Str) ("\\\\":PySem.Str)) ("-":zS) ("\\-":zS)) (zg7 ("\\":PySem.Str) ("\\\\":PySem.Str) ("-":zS) ("\\-":zS)) m st =
   some (.d (.str (T (zgE [45] (C.map (·.flatMap e2))))),h):=by
 have hf:∀ l,Txt.replace (Txt.replace (T l) ("\\":PySem.Str) ("\\\\":PySem.Str)) ("-":zS) ("\\-":zS)=T (l.flatMap e2):=λl=>by
  rw [zgY,zhT,zb5,zl7,zkp,zkp,zof]
 have hmap:(C.map T).map (λy=>Txt.replace (Txt.replace y ("\\":PySem.Str) ("\\\\":PySem.Str)) ("-":zS) ("\\-":zS))=(C.map (·.flatMap e2)).map T:=by
  rw [zrW,zrW]
  exact zsq λl Z=>hf l
 have hok:(C.map T).all (zg7 ("\\":PySem.Str) ("\\\\":PySem.Str) ("-":zS) ("\\-":zS))=true:=by
  rw [zs4]
  intro y hy
  (refine Eea (zsz.mp hy) λl hl q0=>?_;subst q0)
  have hl':=h2 l hl
  have hs:=zo4 92 [92,92] l (by exact zrD _)
  unfold zg7
  (refine (Eq.symm zgY)▸?_;(refine (Eq.symm zhT)▸?_;rw [zl7,zkp,zca,zca,zca,zca]))
  simp only [zrA,decide_eq_true_eq,zrr,zrz]
  lia
 have hsum:(((C.map (·.flatMap e2)).map T).map (·.length)).sum + (C.map T).length * (("-":zS)).length<=16777216:=by
  have:=zqd (l:=((C.map (·.flatMap e2)).map T).map (·.length)) (b:=2 ^ 11) λx hx=>by
   (refine Eea (zsz.mp hx) λy hy q0=>?_;subst q0)
   (refine Eea (zsz.mp hy) λz hz q0=>?_;subst q0)
   (refine Eea (zsz.mp hz) λl hl q0=>?_;subst q0)
   have:=h2 l hl
   have:=zgT l
   rw [zca];exact (fk (r:=2048) (al2 (ml2 (b:=1024) 2 (show l.length<=2 ^ 10 by assumption)) this) (by lia))
  rw [zb5,zca]
  simp only [zrN,zrr,zrz] at this ⊢
  have h3:C.length * 2 ^ 11<=2 ^ 10 * 2 ^ 11:=Nat.mul_le_mul_right _ h1
  omega
 unfold zhN
 refine e▸?_
 dsimp only [bV,bL,bO,on1,on2,onD,onR,dI,dS,dL,onS,onI,onL]
 refine zmw▸?_
 rw [zuB]
 (refine (Eq.symm hmap)▸?_;(refine (Eq.symm hok)▸?_;rw [decide_eq_true hsum,decide_eq_true (by simp only [zrN];exact zrn h1 (zN rfl))]))
 rw [zb5,zn4]
 rfl
theorem zop {m:St->Option (V × HP)}{st:St}{l:List Nat}{h:HP}(e:m st=some (.d (.str (T l)),h)) (hl:l.length<=2 ^ 19):zh6 m st=some (.d (.str (T (zdS l))),h):=by
 unfold zh6
 refine e▸?_
 refine Eq.trans (if_pos (show (T l).cps.size<=2 ^ 19 from hl)) ?_;rfl
theorem zpN {m1 m2 m3:St->Option (V × HP)}{st:St}{a b c:List Nat}(e1:m1 st=some (.d (.str (T a)),st.hp)) (e2:m2 st=some (.d (.str (T b)),st.hp)) (e3:m3 st=some (.d (.str (T c)),st.hp)) (hl:a.length + b.length + c.length<=2 ^ 18) :
  ziy [m1,m2,m3] st=some (.d (.str (T (a++b++c))),st.hp):=by
 have h0:PySem.Str.empty++T a=T a:=zhr [] a
 have e:zkW [m1,m2,m3] PySem.Str.empty st=some (T (a++b++c),st.hp):=by
  refine (zeV e1 (za2 (by rw [h0,zca];exact (fk (r:=1048576) (R:=262144) hl (by lia))))).trans ?_
  rw [h0]
  refine (zeV e2 (za2 (by rw [zhr,zca,zro];exact (fk (r:=1048576) (R:=262144) hl (by lia))))).trans ?_
  rw [zhr]
  refine (zeV e3 (za2 (by rw [zhr,zca,zro,zro];exact zrn hl (zN rfl)))).trans ?_
  rw [zhr];rfl
 unfold ziy
 refine e▸?_
 exact (if_pos (za2 (by rw [zca,zro,zro];exact zrn hl (zN rfl))))
theorem zlS {m:St->Option (V × HP)}{st:St}{l:List Nat}{h:HP}(e:m st=some (.d (.str (T l)),h)) (hl:l.length<=2 ^ 18):zoB m st=some (.d (.str (T l)),h):=by
 unfold zoB
 refine (Eq.symm e)▸?_
 exact (if_pos (za2 (by rw [zca];exact zrn hl (zN rfl))))
theorem zgO {m:St->Option (V × HP)}{r:St->Option (List V × HP)}{st:St}{id:Nat}{h1 h2:HP}{v:V}{x:Option (V × HP)}(e1:m st=some (.bm id,h1)) (e2:r ⟨st.loc,h1⟩=some ([v],h2)) (e3:zeh [.l id,v] h2=x):zco m r st=x:=by
 unfold zco
 refine e1▸?_;dsimp only [bV,bL,bO,on1,on2,onD,onR,dI,dS,dL,onS,onI,onL];refine e2▸?_;exact e3
theorem zoH {c x y:Nat}{hp:HP}(hc:c < 1114112) (hx:x < 1114112) (hy:y < 1114112):zac (inD false) hp (.d (.str (T [c]))) (.d (.tuple [.str (T [x]),.str (T [y])]))=some (.d (.bool (decide (c=x\/c=y))),hp):=by
 have h1:shp (.tuple [.str (T [x]),.str (T [y])])=true:=by
  unfold shp SeqAt.shaped
  have:(PyData.tuple [.str (T [x]),.str (T [y])]).canLay0=true:=by
   show ((PyData.str (T [x])).canLay0 && ((PyData.str (T [y])).canLay0 && true))=true
   refine (Eq.symm (znr (ok1 hx)))▸(Eq.symm (znr (ok1 hy)))▸?_;rfl
  refine (Eq.symm this)▸?_;rfl
 have e:inD false (.str (T [c])) (.tuple [.str (T [x]),.str (T [y])])=some (.bool (decide (c=x\/c=y))):=by
  show (if (shp (.tuple [.str (T [x]),.str (T [y])]) && shp (.str (T [c])))=true then some (PyData.bool ([PyData.str (T [x]),.str (T [y])].any λz=>PyData.eqv z (.str (T [c])))) else none)=_
  refine (Eq.symm h1)▸(Eq.symm (znJ (ok1 hc)))▸?_
  simp only [zup,zuX,zlN,zjg,zuQ,zuR,if_true]
  congr 2
  rw [ztd]
  simp only [zsJ,decide_eq_true_eq]
  constructor <;> rintro (h | h) <;> simp [h]
 rw [zcY]
 refine (congrArg _ e).trans ?_;rfl
noncomputable def brX (bar:Bool) (out:List Nat):List Nat:=if out=[] then (if bar then [46] else [40,63,33,41]) else [91]++(if bar then 94::out else if zcB out=94\/zcB out=91 then 92::out else out)++[93]
section
variable {c0 c1 c2 c3 c5 c6 c7 c8 c10 c11 c12:Option V}{r:Nat}{hp:HP}
theorem zeI {x:List Nat}{m:St->Option (V × HP)}{c9:Option V}(hr:hp[r]?=some (some [])) (e:m ⟨[c0,c1,c2,c3,some (.bm r),c5,c6,c7,c8,c9,c10,c11,c12],hp⟩=some (vS x,hp)) :
  zbm (zco (zae 4) (zaf m zaw)) ⟨[c0,c1,c2,c3,some (.bm r),c5,c6,c7,c8,c9,c10,c11,c12],hp⟩=some (.next,⟨[c0,c1,c2,c3,some (.bm r),c5,c6,c7,c8,c9,c10,c11,c12],hp.set r (some ([x].map vS))⟩):=
 zbh (v:=.d .none) (zgO (id:=r) (h1:=hp) (h2:=hp) rfl (zaj e rfl) (zgN (out:=[]) hr (by simp)))
theorem zow {bar:Bool}{out:List Nat}(hr:hp[r]?=some (some [])) (hok:okL out) (hl:out.length<=2 ^ 10) (h33:bar=false->zcB out≠33) :
  ∃ c9',zau (zbC (zmK (zbf (zae 9))) (zau (zbm (zco (zae 4) (zaf (zal (.str ("(?!)":zS))) (zaw)))) (zas .next)) (zau (zbC (zay (zat (za6 false) (zae 9) (zal (.str ("!":zS))))) (zau (zbm (zco (zae 4) (zaf (zal (.str (".":zS))) (zaw)))) (zas .next)) (zau (zbC (zay (zat (za6 false) (za4 (zae 9) (zal (.int 0))) (zal (.str ("!":zS))))) (zau (doM (zat (zac zbg) (zal (.str ("^":zS))) (zaR (zae 9) (zal (.int 1)) (zal .none))) (zaC 9)) (zas .next)) (zau (zbC (zay (zat (zac (inD false)) (za4 (zae 9) (zal (.int 0))) (zc1 (zaf (zal (.str ("^":zS))) (zaf (zal (.str ("[":zS))) (zaw)))))) (zau (doM (zat (zac zbg) (zal (.str ("\\":PySem.Str))) (zae 9)) (zaC 9)) (zas .next)) (zas .next)) (zas .next))) (zau (zbm (zco (zae 4) (zaf (ziy [zal (.str ("[":zS)),zoB (zae 9),zal (.str ("]":zS))]) (zaw)))) (zas .next)))) (zas .next))) (zas .next)
   ⟨[c0,c1,c2,c3,some (.bm r),c5,c6,c7,c8,oS (brI bar++out),c10,c11,c12],hp⟩ =
   some (.next,⟨[c0,c1,c2,c3,some (.bm r),c5,c6,c7,c8,c9',c10,c11,c12],hp.set r (some ([brX bar out].map vS))⟩):=by
 have hokS:okL (brI bar++out):=okL_app.mpr ⟨by cases bar <;> (intro c hc;simp [brI] at hc;try (subst hc;decide)),hok⟩
 have hlS:(brI bar++out).length<=2 ^ 10 + 1:=by rw [zro];cases bar <;> simp [brI] <;> omega
 generalize hs:brI bar++out=s at *
 have htruth:zbf (zae 9) ⟨[c0,c1,c2,c3,some (.bm r),c5,c6,c7,c8,oS s,c10,c11,c12],hp⟩=some (decide (0 < s.length),hp):=by
  refine zdH (v:=.d (.str (T s))) (h:=hp) rfl ?_
  refine Eq.trans (if_pos (za2 (by rw [zca];exact zrn hlS (zN rfl)))) ?_;rfl
 have hbang:zay (zat (za6 false) (zae 9) (zal (.str ("!":zS)))) ⟨[c0,c1,c2,c3,some (.bm r),c5,c6,c7,c8,oS s,c10,c11,c12],hp⟩=some (decide (s=[33]),hp):=
  zaB (zag (a:=.d (.str (T s))) (h1:=hp) rfl (zaG zct) (eqS hokS (ok1 (by decide))))
 by_cases hout:out=[]
 ·subst hout
  rw [zrE] at hs
  have hX:brX bar []=if bar then [46] else [40,63,33,41]:=rfl
  refine hX▸?_
  cases bar with
  | false=>
   rw [<- hs,show decide (0 < (brI false).length)=false from rfl,hs] at htruth
   exact ⟨oS s,zam (zaZ (zd7 htruth) (zam (zeI hr (zaG zoO)) rfl)) rfl⟩
  | true=>
   rw [<- hs,show decide (0 < (brI true).length)=true from rfl,hs] at htruth
   rw [<- hs,show decide (brI true=[33])=true from rfl,hs] at hbang
   exact ⟨oS s,zam (zaF (zd7 htruth) (zam (zaZ hbang (zam (zeI hr (zaG zgg)) rfl)) rfl)) rfl⟩
 ·obtain ⟨c,o,rfl⟩:∃ c o,out=c::o:=by cases out with | nil=>exact absurd rfl hout | cons c o=>exact ⟨c,o,rfl⟩
  have hpos:0 < s.length:=by refine hs▸?_;simp;exact zrw _
  rw [decide_eq_true hpos] at htruth
  have hne:s≠[33]:=by
   refine hs▸?_
   cases bar with
   | true=>simp [brI]
   | false=>intro q;have:=h33 rfl;simp [brI] at q;exact this (by refine (Eq.symm q.1)▸?_;rfl)
  rw [decide_eq_false hne] at hbang
  have hX:brX bar (c::o)=[91]++(if bar then 94::c::o else if c=94\/c=91 then 92::c::o else c::o)++[93]:=by
   refine Eq.trans (if_neg (by assumption)) ?_
   rfl
  refine hX▸?_
  have hfin:∀ (s':List Nat),s'.length<=2 ^ 11->zau (zbm (zco (zae 4) (zaf (ziy [zal (.str ("[":zS)),zoB (zae 9),zal (.str ("]":zS))]) (zaw)))) (zas .next) ⟨[c0,c1,c2,c3,some (.bm r),c5,c6,c7,c8,oS s',c10,c11,c12],hp⟩ =
    some (.next,⟨[c0,c1,c2,c3,some (.bm r),c5,c6,c7,c8,oS s',c10,c11,c12],hp.set r (some ([[91]++s'++[93]].map vS))⟩):=λs' hl'=>
   zam (zeI hr (zpN (zaG zcM) (zlS rfl (by exact zrn hl' (zN rfl))) (zaG zcC) (by simp;exact (fk (R:=2048) hl' (by lia))))) rfl
  have hokc:c < 1114112:=hok c (.head _)
  have hsub:∀ (c':Nat) (o':List Nat),za4 (zae 9) (zal (.int 0)) ⟨[c0,c1,c2,c3,some (.bm r),c5,c6,c7,c8,oS (c'::o'),c10,c11,c12],hp⟩=some (.d (.str (T [c'])),hp):=λc' o'=>
   zag (a:=.d (.str (T (c'::o')))) (b:=.d (.int ((0:Nat):Int))) (h1:=hp) (h2:=hp) rfl rfl (zcs rfl (by decide))
  cases bar with
  | true=>
   have hs':s=33::c::o:=hs.symm
   subst hs'
   refine ⟨oS (94::c::o),zam (zaF (zd7 htruth) (zam (zaF hbang (zam (st1:=⟨[c0,c1,c2,c3,some (.bm r),c5,c6,c7,c8,oS (94::c::o),c10,c11,c12],hp⟩) (zaZ ((zbo (hsub 33 (c::o)) zct (by decide) (by decide)).trans rfl) (zam (zaD (v:=.d (.str (T (94::c::o)))) (h:=hp) (zag (a:=.d (.str (T [94]))) (b:=.d (.str (T (c::o)))) (h1:=hp) (h2:=hp) (zaG zjw) ?_ (zkG (by exact zrw _) (by simp at hl ⊢;exact zrn hl (zN rfl)))) rfl) rfl)) (hfin _ (by simp at hl ⊢;exact zrn hl (zN rfl))))) rfl)) rfl⟩
   refine za9 (a:=.d (.str (T (33::c::o)))) (lo:=some 1) (hi:=none) (h1:=hp) (h2:=hp) (h3:=hp) rfl rfl rfl ((zb7 (by simp at hl ⊢;exact zrn hl (zN rfl))).trans ?_)
   rw [zhc]
  | false=>
   have hs':s=c::o:=hs.symm
   subst hs'
   have hc33:c≠33:=h33 rfl
   have htest:zay (zat (zac (inD false)) (za4 (zae 9) (zal (.int 0))) (zc1 (zaf (zal (.str ("^":zS))) (zaf (zal (.str ("[":zS))) (zaw))))) ⟨[c0,c1,c2,c3,some (.bm r),c5,c6,c7,c8,oS (c::o),c10,c11,c12],hp⟩=some (decide (c=94\/c=91),hp):=
    zaB (zag (hsub c o) (zbN (xs:=[.str (T [94]),.str (T [91])]) (zaj (zaG zjw) (zaj (zaG zcM) rfl)) (zN rfl)) (zoH hokc (by decide) (by decide)))
   have hb2:zay (zat (za6 false) (za4 (zae 9) (zal (.int 0))) (zal (.str ("!":zS)))) ⟨[c0,c1,c2,c3,some (.bm r),c5,c6,c7,c8,oS (c::o),c10,c11,c12],hp⟩=some (false,hp):=
    (zbo (hsub c o) zct hokc (by decide)).trans (by refine (Eq.symm (decide_eq_false hc33))▸?_;rfl)
   by_cases hh:c=94\/c=91
   ·rw [decide_eq_true hh] at htest
    rw [if_neg (by decide),if_pos hh]
    exact ⟨oS (92::c::o),zam (zaF (zd7 htruth) (zam (zaF hbang (zam (st1:=⟨[c0,c1,c2,c3,some (.bm r),c5,c6,c7,c8,oS (92::c::o),c10,c11,c12],hp⟩) (zaF hb2 (zam (zaZ htest (zam (zaD (v:=.d (.str (T (92::c::o)))) (h:=hp) (zag (a:=.d (.str (T [92]))) (b:=.d (.str (T (c::o)))) (h1:=hp) (h2:=hp) (zaG zgY) rfl (zkG (by exact zrw _) (by simp at hl ⊢;exact (zrn hl (by lia))))) rfl) rfl)) rfl)) (hfin _ (by simp at hl ⊢;exact (zrn hl (by lia)))))) rfl)) rfl⟩
   ·rw [decide_eq_false hh] at htest
    rw [if_neg (by decide),if_neg hh]
    exact ⟨oS (c::o),zam (zaF (zd7 htruth) (zam (zaF hbang (zam (st1:=⟨[c0,c1,c2,c3,some (.bm r),c5,c6,c7,c8,oS (c::o),c10,c11,c12],hp⟩) (zaF hb2 (zam (zaF htest rfl) rfl)) (hfin _ (by simp at hl ⊢;exact zrn hl (zN rfl))))) rfl)) rfl⟩
end
end Mine
namespace Mine
open PySem PySem.W PySem.Spec PySem.Calls PyProof.Rows PySem.Builtin PySem.Builtin.Str
theorem znV {m:St->Option (V × HP)}{st:St}{id:Nat}{h:HP}{vs:List V}(e:m st=some (.l id,h)) (hg:h[id]?=some (some vs)):bmM m st=some (.bm id,h):=by
 unfold bmM;refine e▸?_;dsimp only [bV,bL,bO,on1,on2,onD,onR,dI,dS,dL,onS,onI,onL];exact hg▸rfl
theorem zc8 {n:Nat}{r:St->Option (List V × HP)}{u:List V->St->Option St}{st st':St}{vs:List V}{h:HP}(e:r st=some (vs,h)) (hn:vs.length=n) (hl:zbr n=true) (hu:u vs ⟨st.loc,h⟩=some st'):zcm n r u st=some (.next,st'):=by
 unfold zcm;rw [e];dsimp only [bV,bL,bO,on1,on2,onD,onR,dI,dS,dL,onS,onI,onL];rw [if_pos ⟨hn,hl⟩,hu]
theorem len_str {l:List Nat}{hp:HP}(h:l.length<=2 ^ 20):zeG [.d (.str (T l))] hp=some (.d (.int (l.length:Int)),hp):=by
 refine Eq.trans (if_pos (za2 (by rw [zca];exact h))) ?_;rfl
theorem zen (a b:Int) (hp:HP):za6 false hp (.d (.int a)) (.d (.int b))=some (.d (.bool (a==b)),hp):=by
 unfold za6
 dsimp only [zdr]
 rw [show shp (.int a)=true from rfl,show shp (.int b)=true from rfl,show PyData.eqv (.int a) (.int b)=(a==b) by rfl]
 rfl
theorem zle {r:St->Option (List V × HP)}{st:St}{m:Nat}{h:HP}(e:r st=some ([.d (.int (m:Int)),.d (.int 0),.d (.int (-1))],h)) (hm:m<=2 ^ 20):zdm r st=some (zbx (m:Int) (-1) m,h):=by
 unfold zdm
 refine e▸?_
 refine Eq.trans (if_pos (by unfold zcF;simp only [zrA,decide_eq_true_eq,beq_self_eq_true,and_true];exact ⟨⟨zrO (by decide) (zrB m),zsM.mpr (zrn hm (by decide))⟩,by decide,by decide⟩)) ?_
 rfl
section
variable {tf:Int->Option Value}
theorem zkv {α:Type}(l:List α) (x y:α) (e:List α):(l++[x]++e).set l.length y=l++[y]++e:=by
 rw [zrx,zsV _ _ (zrv _),zta];simp
theorem zka {α:Type}(l:List α) (x:α) (e:List α):(l++[x]++e)[l.length]?=some x:=by
 rw [zrx];exact zgW l x e
theorem zql:(".":zS)=T [46]:=zgg
inductive FrB (t:List Nat) (s1:V) (hp:HP) (X:List Nat) (m:Nat) (st:St):Prop
 | mk:m=0->∀ c7:Option V,∀ c8:Option V,∀ c9:Option V,∀ c10:Option V,∀ c11:Option V,∀ c12:Option V,∀ ext:HP,st=⟨[oS t,some s1,oS [46],oL hp.length,some (.bm hp.length),oN t.length,oN t.length,c7,c8,c9,c10,c11,c12],hp++[some [vS X]]++ext⟩->FrB t s1 hp X m st
theorem zkB {k:Nat}{t X:List Nat}{s1:V}{hp:HP}(hl:t.length<=2 ^ 18) (hpos:0 < t.length) (hk:2<=k)
  {b:St->Option (Fl × St)} (e:zdF tf k=zau (doM (zgj (zaw)) (zaC 3)) (zau (doM (bmM (zae 3)) (zaC 4)) (zau (zcm 2 (zaf (zal (.int 0)) (zaf (zaV (zeG) (zaf (zae 0) (zaw))) (zaw))) (λvs=>(zaI (zaC 6) (zaI (zaC 5) (zcD))) vs.reverse)) (zau (zba (zay (zat (zac ltD) (zae 5) (zae 6))) b k) (zau (zbC (zay (zat (za6 false) (zae 5) (zae 6))) (zas .next) zgv) (zau (zdC (zgB (zae 3))) (zas .next)))))))
  (hbody:Runs b ⟨[oS t,some s1,oS [46],oL hp.length,some (.bm hp.length),oN 0,oN t.length,none,none,none,none,none,none],hp++[some []]⟩ λfl st'=>fl=.next/\∃ c7 c8 c9 c10 c11 c12 ext,st'=⟨[oS t,some s1,oS [46],oL hp.length,some (.bm hp.length),oN t.length,oN t.length,c7,c8,c9,c10,c11,c12],hp++[some [vS X]]++ext⟩) :
  zbW tf k [.d (.str (T t)),s1,.d (.str (T [46]))] hp=some (.d (.list [.str (T X)]),hp):=by
 refine zbG rfl ?_
 rw [e]
 refine Runs.seq (st1:=⟨[oS t,some s1,oS [46],oL hp.length,none,none,none,none,none,none,none,none,none],hp++[some []]⟩) rfl ?_
 refine Runs.seq (st1:=⟨[oS t,some s1,oS [46],oL hp.length,some (.bm hp.length),none,none,none,none,none,none,none,none],hp++[some []]⟩) (zaD (v:=.bm hp.length) (h:=hp++[some []]) (znV (h:=hp++[some []]) rfl (zbL _ _)) rfl) ?_
 refine Runs.seq (st1:=⟨[oS t,some s1,oS [46],oL hp.length,some (.bm hp.length),oN 0,oN t.length,none,none,none,none,none,none],hp++[some []]⟩) (zc8 (vs:=[.d (.int ((0:Nat):Int)),.d (.int (t.length:Int))]) (h:=hp++[some []]) (zaj (v:=.d (.int ((0:Nat):Int))) (h:=hp++[some []]) rfl (zaj (v:=.d (.int (t.length:Int))) (h:=hp++[some []]) (zaE (vs:=[.d (.str (T t))]) (h:=hp++[some []]) rfl (len_str (zrn (m:=262144) (k:=1048576) hl (by lia)))) rfl)) rfl rfl rfl) ?_
 refine Runs.seqR (Runs.while (λm st=>(m=1/\st=⟨[oS t,some s1,oS [46],oL hp.length,some (.bm hp.length),oN 0,oN t.length,none,none,none,none,none,none],hp++[some []]⟩)\/FrB t s1 hp X m st) ?_ k 1 _ (by assumption) (.inl ⟨rfl,rfl⟩))
 rintro m st (⟨rfl,rfl⟩ | ⟨rfl,c7,c8,c9,c10,c11,c12,ext,rfl⟩)
 ·refine ⟨true,hp++[some []],zaB (zag (a:=.d (.int ((0:Nat):Int))) (b:=.d (.int (t.length:Int))) (h1:=hp++[some []]) (h2:=hp++[some []]) rfl rfl ?_),(λh=>by exact ziL h),λZ=>?_⟩
  ·rw [zmc,decide_eq_true (by exact zrS.mpr (by assumption))]
  ·refine hbody.mono ?_
   rintro fl st' ⟨rfl,c7,c8,c9,c10,c11,c12,ext,rfl⟩
   exact ⟨0,by exact zrw _,.inr ⟨rfl,c7,c8,c9,c10,c11,c12,ext,rfl⟩⟩
 ·refine ⟨false,hp++[some [vS X]]++ext,zaB (zag (a:=.d (.int (t.length:Int))) (b:=.d (.int (t.length:Int))) (h1:=hp++[some [vS X]]++ext) (h2:=hp++[some [vS X]]++ext) rfl rfl ?_),λZ=>⟨rfl,?_⟩,(λh=>by exact zdo h)⟩
  ·rw [zmc,decide_eq_false (by simp)]
  ·refine Runs.seq (st1:=⟨[oS t,some s1,oS [46],oL hp.length,some (.bm hp.length),oN t.length,oN t.length,c7,c8,c9,c10,c11,c12],hp++[some [vS X]]++ext⟩) (zaZ (h:=hp++[some [vS X]]++ext) (zaB (zag (a:=.d (.int (t.length:Int))) (b:=.d (.int (t.length:Int))) (h1:=hp++[some [vS X]]++ext) (h2:=hp++[some [vS X]]++ext) rfl rfl ((zen _ _ _).trans ?_))) rfl) ?_
   ·rw [beq_self_eq_true]
   ·have hf:zhE (hp++[some [vS X]]++ext) (.l hp.length)=some (.d (.list [.str (T X)]),hp++[none]++ext):=by
     refine (zgV (l:=[X]) (zka hp (some [vS X]) ext)).trans ?_
     rw [zkv];rfl
    refine Runs.of (zbA (zn0 (v:=.l hp.length) (h:=hp++[some [vS X]]++ext) rfl hf)) ⟨rfl,[none]++ext,zrx _ _ _⟩
end
end Mine
namespace Mine
open PySem PySem.W PySem.Spec PySem.Calls PyProof.Rows PySem.Builtin PySem.Builtin.Str
noncomputable def zqb (c:Nat):Bool:=[40,41,91,93,123,125,63,42,43,45,124,94,36,92,46,38,126,35,32,9,10,13,11,12].contains c
noncomputable def escO (c:Nat):List Nat:=if zqb c then [92,c] else [c]
noncomputable def zdW (tf:Int->Option Value):Prop:=∀ c:Nat,32<=c->c < 127->zgt tf c=some ⟨(if [40,41,91,93,123,125,63,42,43,45,124,94,36,92,46,38,126,35,32,9,10,13,11,12].contains c then [92,c] else [c]).toArray⟩
theorem zoy {tf:Int->Option Value}(P:zdW tf) {c:Nat}(h1:32<=c) (h2:c < 127):zgt tf c=some (T (escO c)):=P c h1 h2
theorem ziw {tf:Int->Option Value}(P:zdW tf) {k c:Nat}{hp:HP}(h1:32<=c) (h2:c < 127):zf7 tf k [.d (.str (T [c]))] hp=some (.d (.str (T (escO c))),hp):=by
 have htr:trS 45 (tf) [.d (.str (T [c])),.raw (.ref 45)] hp=some (.d (.str (T (escO c))),hp):=by
  have e:trS 45 (tf) [.d (.str (T [c])),.raw (.ref 45)] hp=if (45:Addr)=45/\c < 128 then (zgt (tf) c).map λy=>(V.d (.str y),hp) else none:=rfl
  rw [e,if_pos ⟨rfl,by exact zsi (by assumption)⟩,zoy P h1 h2];rfl
 refine zbG rfl ?_
 show Runs (ziV tf k) ⟨[oS [c]],hp⟩ _
 have ht:zbf (zaV (zl4) (zaf (zae 0) (zaf (zmo (.type "str")) (zaw)))) ⟨[oS [c]],hp⟩=some (true,hp):=
  zdH (v:=.d (.bool true)) (h:=hp) (zaE (vs:=[.d (.str (T [c])),.raw (.type "str")]) (h:=hp) rfl rfl) rfl
 refine Runs.of (fl:=.ret (.d (.str (T (escO c))))) (st':=⟨[oS [c]],hp⟩) (zgo (zaZ ht (zbA (zbk (v:=.d (.str (T [c]))) (vs:=[.raw (.ref 45)]) (h:=hp) (h':=hp) rfl rfl rfl htr)))) ⟨rfl,[],by simp⟩
structure zqm (bar:Bool) (els:List El) (tr:Bool) (t:List Nat):Prop where
 ht:t=91::(brI bar++els.flatMap El.txt++trl tr)++[93]
 ok:okL t
 len:t.length<=2 ^ 8
 cnt:els.length<=2 ^ 8
 ne:els≠[]
 ch:zek false els
 sg:∀ c ∈ els.flatMap El.txt,c≠33
 cl:∃ b0 bs,els.flatMap El.txt++trl tr=b0::bs/\93 ∉ bs
noncomputable def zbF (els:List El) (tr:Bool):List Nat:=(els.filter zaN).flatMap zi7++trF tr
theorem zeo {c:Nat}(h:c≠33):zcB (escC c)≠33/\escC c≠[]:=by
 unfold escC
 split
 ·exact ⟨by show 92≠33;decide,by simp⟩
 ·exact ⟨h,by simp⟩
theorem zeW {a b:List Nat}(h:a≠[]):zcB (a++b)=zcB a:=by
 cases a with
 | nil=>exact absurd rfl h
 | cons x r=>rfl
theorem znE:∀ (els:List El) (tr:Bool),(∀ c ∈ els.flatMap El.txt,c≠33)->zcB (els.flatMap zi7++trF tr)≠33:=by
 intro zz
 induction zz with
 | nil=>
  intro tr _
  cases tr <;> (show (_:Nat)≠33;decide)
 | cons zp r ih=>
  cases zp with
  | lone c=>
   intro tr h
   have hc:=zeo (h c (by constructor))
   rw [zrp,zrx]
   show zcB (escC c++_)≠33
   rw [zeW hc.2];exact hc.1
  | rng a b=>
   intro tr h
   have hc:=zeo (h a (by constructor))
   rw [zrp,zrx]
   show zcB (escC a++[45]++escC b++_)≠33
   rw [zrx,zrx,zeW hc.2];exact hc.1
theorem zhC (c:Nat):(escC c).length<=2:=by unfold escC;split <;> simp
theorem zd4 {c:Nat}(h:c < 1114112):okL (escC c):=by
 unfold escC
 split
 ·intro x hx;simp at hx;exact hx.elim (λq=>q▸(by decide)) λq=>q▸h
 ·intro x hx;simp at hx;exact hx▸h
theorem zjB:∀ els:List El,(els.flatMap zi7).length<=2 * (els.flatMap El.txt).length:=by
 intro zz
 induction zz with
 | nil=>
  exact zrv _
 | cons e r ih=>
  refine (Eq.symm zrp)▸(Eq.symm zrp)▸(Eq.symm zro)▸(Eq.symm zro)▸?_
  cases e with
  | lone c=>have:=zhC c;simp only [zi7,El.txt,zrr,zrz];exact (fk (al2 (show (zt9 zi7 r).length<=2 * (zt9 El.txt r).length by assumption) this) (by lia))
  | rng a b=>have:=zhC a;have:=zhC b;simp only [zi7,El.txt,zrr,zrz,zro];exact (fk (al2 (al2 (show (zt9 zi7 r).length<=2 * (zt9 El.txt r).length by assumption) (show (escC a).length<=2 by assumption)) this) (by lia))
theorem zob:∀ els:List El,okL (els.flatMap El.txt)->okL (els.flatMap zi7):=by
 intro zz
 induction zz with
 | nil=>
  intro _
  exact λc hc=>absurd hc zrq
 | cons e r ih=>
  intro h
  rw [zrp] at h ⊢
  obtain ⟨h1,h2⟩:=okL_app.mp h
  refine okL_app.mpr ⟨?_,ih h2⟩
  cases e with
  | lone c=>exact zd4 (h1 c (by constructor))
  | rng a b=>exact okL_app.mpr ⟨okL_app.mpr ⟨zd4 (h1 a (by constructor)),by intro x hx;simp at hx;exact (zrt (leq hx) (by lia))⟩,zd4 (h1 b (by simp [El.txt]))⟩
theorem zg0:∀ els:List El,okL (els.flatMap El.txt)->okL ((els.filter zaN).flatMap El.txt):=by
 intro zz
 induction zz with
 | nil=>
  intro h
  exact h
 | cons e r ih=>
  intro h
  rw [zrp] at h
  obtain ⟨h1,h2⟩:=okL_app.mp h
  have ih:=ih h2
  rw [zs7]
  split
  ·rw [zrp];exact okL_app.mpr ⟨h1,ih⟩
  ·exact ih
theorem ziJ:∀ els:List El,(∀ c ∈ els.flatMap El.txt,c≠33)->∀ c ∈ (els.filter zaN).flatMap El.txt,c≠33:=by
 intro zz
 induction zz with
 | nil=>
  intro h
  exact h
 | cons e r ih=>
  intro h
  have ih:=ih λc hc=>h c (by rw [zrp];exact zsG _ hc)
  refine zs7▸?_
  split
  ·intro c hc
   rw [zrp] at hc
   rcases zrU.mp hc with q | q
   ·exact h c (by rw [zrp];exact zts _ q)
   ·exact ih c q
  ·exact ih
theorem zoV:∀ els:List El,45 ∉ els.flatMap El.txt->els.filter zaN=els/\els.flatMap ziO=(els.flatMap El.txt).flatMap e2:=by
 intro zz
 induction zz with
 | nil=>
  intro _
  exact ⟨rfl,rfl⟩
 | cons zp r ih=>
  cases zp with
  | lone c=>
   intro h
   rw [zrp] at h
   obtain ⟨a,b⟩:=ih λq=>h (zsG _ q)
   refine ⟨by exact (Eq.symm (zso (show zaN (.lone c)=true from rfl)))▸(Eq.symm a)▸rfl,?_⟩
   rw [zrp,zrp,zr1,b]
   simp [ziO,El.txt]
  | rng a b=>
   intro h
   exact absurd (show 45 ∈ (El.rng a b::r).flatMap El.txt by simp [El.txt]) h
inductive TpQ (t:List Nat) (s1:V) (r:Nat) (bar tr:Bool) (els:List El) (hp:HP) (fl:Fl) (st':St):Prop
 | mk:fl=.next->∀ i':Option V,∀ c10:Option V,∀ c11:Option V,∀ c12:Option V,∀ ext:HP,st'=⟨[oS t,some s1,oS [46],oL r,some (.bm r),i',oN t.length,oS [91],oN (t.length - 1),oS ((brI bar).flatMap e2++(els.filter zaN).flatMap ziO++(trl tr).flatMap e2),c10,c11,c12],hp++[some []]++ext⟩->TpQ t s1 r bar tr els hp fl st'
theorem zkC {tf:Int->Option Value}(P:zdW tf) (k:Nat) (hk:2 ^ 9<=k):∃ b,zdF tf k=zau (doM (zgj (zaw)) (zaC 3)) (zau (doM (bmM (zae 3)) (zaC 4)) (zau (zcm 2 (zaf (zal (.int 0)) (zaf (zaV (zeG) (zaf (zae 0) (zaw))) (zaw))) (λvs=>(zaI (zaC 6) (zaI (zaC 5) (zcD))) vs.reverse)) (zau (zba (zay (zat (zac ltD) (zae 5) (zae 6))) b k) (zau (zbC (zay (zat (za6 false) (zae 5) (zae 6))) (zas .next) zgv) (zau (zdC (zgB (zae 3))) (zas .next))))))/\
  (∀ (bar tr:Bool) (els:List El) (t:List Nat) (s1:V) (hp:HP),zqm bar els tr t->
   Runs b ⟨[oS t,some s1,oS [46],oL hp.length,some (.bm hp.length),oN 0,oN t.length,none,none,none,none,none,none],hp++[some []]⟩ λfl st'=>fl=.next/\∃ c7 c8 c9 c10 c11 c12 ext,st'=⟨[oS t,some s1,oS [46],oL hp.length,some (.bm hp.length),oN t.length,oN t.length,c7,c8,c9,c10,c11,c12],hp++[some [vS (brX bar (zbF els tr))]]++ext⟩)/\
  (∀ (c:Nat) (s1:V) (hp:HP),32<=c->c < 127->c≠42->
   Runs b ⟨[oS [c],some s1,oS [46],oL hp.length,some (.bm hp.length),oN 0,oN [c].length,none,none,none,none,none,none],hp++[some []]⟩ λfl st'=>fl=.next/\∃ c7 c8 c9 c10 c11 c12 ext,st'=⟨[oS [c],some s1,oS [46],oL hp.length,some (.bm hp.length),oN [c].length,oN [c].length,c7,c8,c9,c10,c11,c12],hp++[some [vS (if c=63 then [46] else escO c)]]++ext⟩):=by
 refine ⟨_,rfl,λbar tr els t s1 hp h=>?_,λc s1 hp h1 h2 h3=>?_⟩
 ·refine zgy h.cl λb0 bs hcl hbs=>?_
  have hget0:t[0]?=some 91:=by refine h.ht▸?_;rfl
  have htl:=h.len
  have hu:t=91::(brI bar++(b0::bs))++[93]:=by rw [h.ht,zrx (brI bar),hcl]
  have hlen:t.length=(brI bar).length + (els.flatMap El.txt).length + (trl tr).length + 2:=by have:=congrArg zsB h.ht;simp only [zrr,zro,zrz] at this;omega
  have hokT:okL (els.flatMap El.txt):=λc hc=>h.ok c (by rw [h.ht];simp only [zrU,zrs];exact .inl (.inr (.inl (.inr hc))))
  generalize hr:hp.length=r
  have hrl:(hp++[some []]).length=r + 1:=by refine (Eq.symm zro)▸(Eq.symm hr)▸?_;rfl
  refine Runs.seq (st1:=⟨[oS t,some s1,oS [46],oL r,some (.bm r),oN 0,oN t.length,oS [91],none,none,none,none,none],hp++[some []]⟩) (zaD (v:=.d (.str (T [91]))) (h:=hp++[some []]) (zag (a:=.d (.str (T t))) (b:=.d (.int ((0:Nat):Int))) (h1:=hp++[some []]) (h2:=hp++[some []]) rfl rfl (zcs hget0 (by decide))) rfl) ?_
  refine Runs.seq (st1:=⟨[oS t,some s1,oS [46],oL r,some (.bm r),oN 1,oN t.length,oS [91],none,none,none,none,none],hp++[some []]⟩) (zaD (v:=.d (.int ((1:Nat):Int))) (h:=hp++[some []]) (zag (a:=.d (.int ((0:Nat):Int))) (b:=.d (.int 1)) (h1:=hp++[some []]) (h2:=hp++[some []]) rfl rfl (zb0 (by decide))) rfl) ?_
  have hq:∀ (x:Nat) (lit:PySem.Str),lit=T [x]->x < 1114112->zay (zat (za6 false) (zae 7) (zal (.str lit))) ⟨[oS t,some s1,oS [46],oL r,some (.bm r),oN 1,oN t.length,oS [91],none,none,none,none,none],hp++[some []]⟩=some (decide (91=x),hp++[some []]):=λx lit hl hx=>
   (zbo (c:=91) rfl hl (by decide) hx).trans rfl
  refine Runs.seqR (Runs.ite (hq 42 _ zkh (by decide)) (λq=>absurd q (by decide)) λZ=>?_)
  refine Runs.seqR (Runs.ite (hq 63 _ zjx (by decide)) (λq=>absurd q (by decide)) λZ=>?_)
  refine Runs.seqR (Runs.ite (hq 91 _ zcM (by decide)) (λZ=>?_) λq=>absurd q (by decide))
  refine Runs.seq (st1:=⟨[oS t,some s1,oS [46],oL r,some (.bm r),oN 1,oN t.length,oS [91],oN 1,none,none,none,none],hp++[some []]⟩) (zaD (v:=.d (.int ((1:Nat):Int))) (h:=hp++[some []]) rfl rfl) ?_
  refine zqD (bar:=bar) (b0:=b0) (bs:=bs) hu h.ok (by exact zrn htl (zN rfl)) rfl (λhb=>?_) hbs (zrt htl (zry (by decide) hk)) ?_
  ·have:b0 ∈ els.flatMap El.txt++trl tr:=by rw [hcl];exact .head _
   rcases zrU.mp this with q | q
   ·exact h.sg b0 q
   ·cases tr <;> simp [trl] at q;exact (zrV (zrn (by lia) (geq q)))
  refine Runs.seqR ?_
  refine Runs.ite (x:=false) (h:=hp++[some []]) (zaB (zag (a:=.d (.int ((t.length - 1:Nat):Int))) (b:=.d (.int (t.length:Int))) (h1:=hp++[some []]) (h2:=hp++[some []]) rfl rfl ?_)) (λq=>absurd q (by decide)) λZ=>?_
  ·show some (V.d (.bool (decide ((t.length:Int)<=((t.length - 1:Nat):Int)))),_)=_
   rw [decide_eq_false (λq=>absurd (zsM.mp q) (ztv.mpr (zur (by rw [hlen];exact zrw _) Nat.one_pos)))]
  have hmid:zaY t (some ((1:Nat):Int)) (some ((t.length - 1:Nat):Int))=brI bar++els.flatMap El.txt++trl tr:=by
   have:=zf0 [91] (brI bar++els.flatMap El.txt++trl tr) [93]
   rw [show ([91]:List Nat).length + (brI bar++els.flatMap El.txt++trl tr).length=t.length - 1 by rw [hlen];simp only [zro,zrr,zrz];lia] at this
   rw [h.ht]
   rw [h.ht] at this
   exact this
  refine Runs.seq (st1:=⟨[oS t,some s1,oS [46],oL r,some (.bm r),oN 1,oN t.length,oS [91],oN (t.length - 1),oS (brI bar++els.flatMap El.txt++trl tr),none,none,none],hp++[some []]⟩) (zaD (v:=.d (.str (T (brI bar++els.flatMap El.txt++trl tr)))) (h:=hp++[some []]) (za9 (a:=.d (.str (T t))) (lo:=some ((1:Nat):Int)) (hi:=some ((t.length - 1:Nat):Int)) (h1:=hp++[some []]) (h2:=hp++[some []]) (h3:=hp++[some []]) rfl rfl rfl ((zb7 (zrn (m:=256) (k:=1048576) htl (by lia))).trans (by exact hmid▸rfl))) rfl) ?_
  refine Runs.seqR ?_
  refine Runs.mono (Q:=TpQ t s1 r bar tr els hp) ?_ ?_
  ·refine Runs.ite (x:=!decide (45 ∈ brI bar++els.flatMap El.txt++trl tr)) (h:=hp++[some []]) (zaB (zag (a:=.d (.str (T [45]))) (b:=.d (.str (T (brI bar++els.flatMap El.txt++trl tr)))) (h1:=hp++[some []]) (h2:=hp++[some []]) (zaG zb5) rfl (inS.trans rfl))) (λhno=>?_) λhyes=>?_
   ·-- no hyphen
    have hno':45 ∉ brI bar++els.flatMap El.txt++trl tr:=λq=>by rw [decide_eq_true q] at hno;exact zdo hno
    have htr:tr=false:=by
     cases tr with
     | false=>rfl
     | true=>exact absurd (zsG _ (.head _)) hno'
    subst htr
    refine Ea (zoV els λq=>hno' (zts _ (zsG _ q))) λf1 f2=>?_
    have hrep:sbs 92 [92,92] (brI bar++els.flatMap El.txt++trl false)=(brI bar).flatMap e2++(els.filter zaN).flatMap ziO++(trl false).flatMap e2:=by
     have h45:45 ∉ sbs 92 [92,92] (brI bar++els.flatMap El.txt++trl false):=λq=>by
      unfold sbs at q
      refine Eea (zs5.mp q) λx hx hq=>?_
      split at hq
      ·contradiction
      ·simp at hq;rw [<- hq] at hx;exact hno' hx
     rw [<- zhY 45 [92,45] _ h45,zof,zr1,zr1,f1,f2]
    refine Runs.of (zam (st1:=⟨[oS t,some s1,oS [46],oL r,some (.bm r),oN 1,oN t.length,oS [91],oN (t.length - 1),oS ((brI bar).flatMap e2++(els.filter zaN).flatMap ziO++(trl false).flatMap e2),none,none,none],hp++[some []]⟩) (zaD (v:=.d (.str (T ((brI bar).flatMap e2++(els.filter zaN).flatMap ziO++(trl false).flatMap e2)))) (h:=hp++[some []]) ?_ rfl) rfl) ⟨rfl,oN 1,none,none,none,[],by simp⟩
    have e1:zo2 (zae 9) ("\\":PySem.Str) ("\\\\":PySem.Str) ⟨[oS t,some s1,oS [46],oL r,some (.bm r),oN 1,oN t.length,oS [91],oN (t.length - 1),oS (brI bar++els.flatMap El.txt++trl false),none,none,none],hp++[some []]⟩ =
     if (T (brI bar++els.flatMap El.txt++trl false)).length + ((T (brI bar++els.flatMap El.txt++trl false)).length + 1) * (("\\\\":PySem.Str)).length<=16777216 then some (V.d (.str (Txt.replace (T (brI bar++els.flatMap El.txt++trl false)) ("\\":PySem.Str) ("\\\\":PySem.Str))),hp++[some []]) else none:=rfl
    (rw [e1,zgY,zhT,zkp,hrep,zca,zca];exact (if_pos (by simp only [zro,zrr,zrz];lia)))
   ·-- with hyphens
    have hch0:(hp++[some []]++[some []])[r + 1]?=some (some []):=by refine hrl▸?_;exact zbL _ _
    refine Runs.seq (st1:=⟨[oS t,some s1,oS [46],oL r,some (.bm r),oN 1,oN t.length,oS [91],oN (t.length - 1),oS (brI bar++els.flatMap El.txt++trl tr),oL (r + 1),none,none],hp++[some []]++[some []]⟩) (zaD (v:=.l (r + 1)) (h:=hp++[some []]++[some []]) (by refine hrl▸?_;rfl) rfl) ?_
    have hcnt:=zje (trl tr) els
    have hels:=h.cnt
    refine zkN (C:=(brI bar++(chk (trl tr) els).1)::(chk (trl tr) els).2) (bar:=bar) (tr:=tr) (els:=els) h.ht h.ok (by exact zrn htl (zN rfl)) h.ne h.ch (λZ e he=>?_) rfl (by simp only [zrr];exact (fk (r:=1048576) (al2 (d:=256) hcnt hels) (by lia))) (zry (zrt (zsE hels) (by decide)) hk) hch0 λi' c11' c12'=>?_
    ·have hm:e ∈ els:=List.mem_of_mem_head? he
     exact h.sg _ (zs5.mpr ⟨e,hm,by cases e <;> exact .head _⟩)
    have hset1:(hp++[some []]++[some []]).set (r + 1) (some (((brI bar++(chk (trl tr) els).1)::(chk (trl tr) els).2).map vS))=hp++[some []]++[some (((brI bar++(chk (trl tr) els).1)::(chk (trl tr) els).2).map vS)]:=by (refine hrl▸?_;rw [zb6])
    refine hset1▸?_
    generalize hbig:hp++[some []]++[some (((brI bar++(chk (trl tr) els).1)::(chk (trl tr) els).2).map vS)]=hpC
    have hgC:hpC[r + 1]?=some (some (([]++(brI bar++(chk (trl tr) els).1)::(chk (trl tr) els).2).map vS)):=by refine hbig▸hrl▸?_;exact zbL _ _
    have hsetC:∀ y,hpC.set (r + 1) y=hp++[some []]++[y]:=λy=>by (refine hbig▸?_;(refine hrl▸?_;rw [zb6]))
    have hrange:zdm (zaf (zat (zac (zaP zh7)) (zaV (zeG) (zaf (zae 10) (zaw))) (zal (.int 1))) (zaf (zal (.int 0)) (zaf (zde (zal (.int 1))) (zaw)))) ⟨[oS t,some s1,oS [46],oL r,some (.bm r),i',oN t.length,oS [91],oN (t.length - 1),oS (brI bar++els.flatMap El.txt++trl tr),oL (r + 1),c11',c12'],hpC⟩=some (zbx ((chk (trl tr) els).2.length:Int) (-1) (chk (trl tr) els).2.length,hpC):=by
     refine zle (zaj (v:=.d (.int ((chk (trl tr) els).2.length:Int))) (h:=hpC) (zag (a:=.d (.int (((chk (trl tr) els).2.length + 1:Nat):Int))) (b:=.d (.int 1)) (h1:=hpC) (h2:=hpC) (zaE (vs:=[.l (r + 1)]) (h:=hpC) rfl ?_) rfl (zeb (by simp))) (zaj rfl (zaj (v:=.d (.int (-1))) (h:=hpC) rfl rfl))) (fk (r:=1048576) (al2 (d:=256) hcnt hels) (by lia))
     refine Eq.trans (zoN hgC (by simp only [zrN,zsf,zrr];exact (fk (r:=1048576) (al2 (d:=256) hcnt hels) (by lia)))) ?_
     simp only [zrN,zsf,zrr]
    have hmr:=λQQ=>zmd (c0:=oS t) (c1:=some s1) (c2:=oS [46]) (c3:=oL r) (c4:=some (.bm r)) (c5:=i') (c6:=oN t.length) (c7:=oS [91]) (c8:=oN (t.length - 1)) (c9:=oS (brI bar++els.flatMap El.txt++trl tr)) (c12:=c12') (ch:=r + 1) (Q:=QQ) (trl tr) els (brI bar) [] hpC c11' [] hgC (fk (r:=262144) (al2 (b:=256) htl (geq hlen)) (by lia)) (by simp only [zrz];exact (fk (r:=262144) (R:=256) hels (by lia)))
    rw [zrE,zrz,Nat.zero_add] at hmr
    refine Runs.seqR (Runs.for hrange (hmr _ λc11''=>Runs.of rfl ⟨rfl,?_⟩))
    rw [hsetC,zsf]
    have hfz:zhE (hp++[some []]++[some (((brI bar++(chk (trl tr) (els.filter zaN)).1)::(chk (trl tr) (els.filter zaN)).2).map vS)]) (.l (r + 1))=some (.d (.list (((brI bar++(chk (trl tr) (els.filter zaN)).1)::(chk (trl tr) (els.filter zaN)).2).map λl=>PyData.str (T l))),hp++[some []]++[none]):=by
     (refine hrl▸?_;rw [zgV (zbL _ _),zb6])
    have hcl2:=zlE (trl tr) (els.filter zaN)
    have hcn2:=zje (trl tr) (els.filter zaN)
    have hfl:=zc2 els
    have hfl2:(els.filter zaN).length<=els.length:=zsj _ _
    have hjoin:=zk6 (m:=zgB (zae 10)) (st:=⟨[oS t,some s1,oS [46],oL r,some (.bm r),i',oN t.length,oS [91],oN (t.length - 1),oS (brI bar++els.flatMap El.txt++trl tr),oL (r + 1),c11'',c12'],hp++[some []]++[some (((brI bar++(chk (trl tr) (els.filter zaN)).1)::(chk (trl tr) (els.filter zaN)).2).map vS)]⟩) (zn0 rfl hfz) (by simp only [zrr];exact (fk (r:=1024) (al2 (al2 (b:=256) hels hcn2) hfl2) (by lia))) (λl hl=>by
     rcases zrs.mp hl with q | q
     ·have:=hcl2 _ (.head _);refine q▸zro▸?_;exact (fk (r:=1024) (al2 (al2 (al2 (b:=256) htl (geq hlen)) hfl) this) (by lia))
     ·have:=hcl2 l (.tail _ q);exact (fk (r:=1024) (al2 (al2 (al2 (b:=256) htl (geq hlen)) hfl) this) (by lia)))
    rw [zhO] at hjoin
    exact Runs.of (zam (zaD hjoin rfl) rfl) ⟨rfl,i',oL (r + 1),c11'',c12',[none],rfl⟩
  ·rintro fl st' ⟨rfl,i',c10,c11,c12,ext,rfl⟩
   refine ⟨rfl,?_⟩
   have hf:=zc2 els
   have ho:=zjB (els.filter zaN)
   have hjl:((brI bar).flatMap e2++(els.filter zaN).flatMap ziO++(trl tr).flatMap e2).length<=2 ^ 12:=by
    have h1:=zgT (brI bar)
    have h2:=zgT (trl tr)
    have h3:((els.filter zaN).flatMap ziO).length<=2 * ((els.filter zaN).flatMap El.txt).length:=by
     generalize els.filter zaN=es
     induction es with
     | nil=>exact zrv _
     | cons e r ih=>
      refine (Eq.symm zrp)▸(Eq.symm zrp)▸(Eq.symm zro)▸(Eq.symm zro)▸?_
      cases e with
      | lone c=>have:=zgT [c];simp only [ziO,El.txt,zrp,zs6,zrE,zrr,zrz] at this ⊢;exact (fk (al2 ih this) (by lia))
      | rng a b=>
       have h4:=zgT [a]
       have h5:=zgT [b]
       simp only [ziO,El.txt,zrp,zs6,zrE,zrr,zrz,zro] at h4 h5 ⊢;exact (fk (al2 (al2 ih h4) h5) (by lia))
    simp only [zro];exact (fk (r:=4096) (al2 (al2 (al2 (al2 (al2 (ml2 (b:=256) 2 htl) (ml2 2 (geq hlen))) (ml2 2 hf)) h1) h2) h3) (by lia))
   have hamp:=zop (m:=zae 9) (st:=⟨[oS t,some s1,oS [46],oL r,some (.bm r),i',oN t.length,oS [91],oN (t.length - 1),oS ((brI bar).flatMap e2++(els.filter zaN).flatMap ziO++(trl tr).flatMap e2),c10,c11,c12],hp++[some []]++ext⟩) rfl (by exact zrn hjl (zN rfl))
   rw [zon] at hamp
   rw [show brI bar++(els.filter zaN).flatMap zi7++trF tr=brI bar++zbF els tr from zrx _ _ _] at hamp
   refine Runs.seq (zaD hamp rfl) ?_
   refine Runs.seq (st1:=⟨[oS t,some s1,oS [46],oL r,some (.bm r),oN t.length,oN t.length,oS [91],oN (t.length - 1),oS (brI bar++zbF els tr),c10,c11,c12],hp++[some []]++ext⟩) (zaD (v:=.d (.int (t.length:Int))) (h:=hp++[some []]++ext) (zag (a:=.d (.int ((t.length - 1:Nat):Int))) (b:=.d (.int 1)) (h1:=hp++[some []]++ext) (h2:=hp++[some []]++ext) rfl rfl (zb0 (by refine hlen▸?_;rfl))) rfl) ?_
   have hgr:(hp++[some []]++ext)[r]?=some (some []):=by refine hr▸?_;exact zka _ _ _
   have hokO:okL (zbF els tr):=okL_app.mpr ⟨zob _ (zg0 els hokT),by cases tr <;> (intro c hc;simp [trF] at hc;try (rcases hc with rfl | rfl <;> decide))⟩
   have hlO:(zbF els tr).length<=2 ^ 10:=by
    unfold zbF
    rw [zro]
    have:(trF tr).length<=2:=by cases tr <;> simp [trF]
    exact (fk (r:=1024) (al2 (al2 (al2 (al2 (ml2 (b:=256) 2 htl) (ml2 2 (geq hlen))) (ml2 2 hf)) ho) this) (by lia))
   obtain ⟨c9',he⟩:=zow (c0:=oS t) (c1:=some s1) (c2:=oS [46]) (c3:=oL r) (c5:=oN t.length) (c6:=oN t.length) (c7:=oS [91]) (c8:=oN (t.length - 1)) (c10:=c10) (c11:=c11) (c12:=c12) (bar:=bar) hgr hokO hlO λZ=>znE _ tr (ziJ els h.sg)
   refine Runs.of he ⟨rfl,Runs.of rfl ⟨rfl,Runs.of rfl ⟨rfl,Runs.of rfl ⟨rfl,Runs.of rfl ⟨rfl,oS [91],oN (t.length - 1),c9',c10,c11,c12,ext,?_⟩⟩⟩⟩⟩
   (refine hr▸?_;rw [zkv]);rfl
 ·generalize hr:hp.length=r
  have hgr:(hp++[some []])[r]?=some (some []):=by refine hr▸?_;exact zbL _ _
  have hset:∀ y,(hp++[some []]).set r y=hp++[y]:=λy=>by (refine hr▸?_;rw [zb6])
  refine Runs.seq (st1:=⟨[oS [c],some s1,oS [46],oL r,some (.bm r),oN 0,oN [c].length,oS [c],none,none,none,none,none],hp++[some []]⟩) (zaD (v:=.d (.str (T [c]))) (h:=hp++[some []]) (zag (a:=.d (.str (T [c]))) (b:=.d (.int ((0:Nat):Int))) (h1:=hp++[some []]) (h2:=hp++[some []]) rfl rfl (zcs rfl (by decide))) rfl) ?_
  refine Runs.seq (st1:=⟨[oS [c],some s1,oS [46],oL r,some (.bm r),oN 1,oN [c].length,oS [c],none,none,none,none,none],hp++[some []]⟩) (zaD (v:=.d (.int ((1:Nat):Int))) (h:=hp++[some []]) (zag (a:=.d (.int ((0:Nat):Int))) (b:=.d (.int 1)) (h1:=hp++[some []]) (h2:=hp++[some []]) rfl rfl (zb0 (by decide))) rfl) ?_
  have hq:∀ (x:Nat) (lit:PySem.Str),lit=T [x]->x < 1114112->zay (zat (za6 false) (zae 7) (zal (.str lit))) ⟨[oS [c],some s1,oS [46],oL r,some (.bm r),oN 1,oN [c].length,oS [c],none,none,none,none,none],hp++[some []]⟩=some (decide (c=x),hp++[some []]):=λx lit hl hx=>
   (zbo (c:=c) rfl hl (by exact zry h2 (zsT _ _)) hx).trans rfl
  refine Runs.seqR (Runs.ite (hq 42 _ zkh (by decide)) (λq=>absurd (of_decide_eq_true q) h3) λZ=>?_)
  by_cases c63:c=63
  ·refine (if_pos c63)▸?_
   refine Runs.seqR (Runs.ite (hq 63 _ zjx (by decide)) (λZ=>?_) λq=>absurd c63 (of_decide_eq_false q))
   refine Runs.of (zam (zeI hgr rfl) rfl) ⟨rfl,Runs.of rfl ⟨rfl,Runs.of rfl ⟨rfl,oS [c],none,none,none,none,none,[],?_⟩⟩⟩
   rw [hset,zrE];rfl
  ·refine (if_neg c63)▸?_
   refine Runs.seqR (Runs.ite (hq 63 _ zjx (by decide)) (λq=>absurd (of_decide_eq_true q) c63) λZ=>?_)
   by_cases c91:c=91
   ·subst c91
    refine Runs.seqR (Runs.ite (hq 91 _ zcM (by decide)) (λZ=>?_) λq=>absurd q (by decide))
    have hlt:∀ (c8:Nat) (st:St),st=⟨[oS [91],some s1,oS [46],oL r,some (.bm r),oN 1,oN [91].length,oS [91],oN 1,none,none,none,none],hp++[some []]⟩->zay (zat (zac ltD) (zae 8) (zae 6)) st=some (false,hp++[some []]):=λZ st e=>by
     subst e
     refine zaB (zag (a:=.d (.int ((1:Nat):Int))) (b:=.d (.int ((1:Nat):Int))) (h1:=hp++[some []]) (h2:=hp++[some []]) rfl rfl ?_)
     rfl
    refine Runs.seq (st1:=⟨[oS [91],some s1,oS [46],oL r,some (.bm r),oN 1,oN [91].length,oS [91],oN 1,none,none,none,none],hp++[some []]⟩) (zaD (v:=.d (.int ((1:Nat):Int))) (h:=hp++[some []]) rfl rfl) ?_
    refine Runs.seq (zaF (zfr (hlt 0 _ rfl)) rfl) ?_
    refine Runs.seq (zaF (zfr (hlt 0 _ rfl)) rfl) ?_
    obtain ⟨k,rfl⟩:∃ k',k=k' + 1:=⟨k - 1,(zsx (zry (by decide) hk)).symm⟩
    refine Runs.seq (zc3 (zfr (hlt 0 _ rfl))) ?_
    refine Runs.of (zam (zaZ (h:=hp++[some []]) (zaB (zag (a:=.d (.int ((1:Nat):Int))) (b:=.d (.int ((1:Nat):Int))) (h1:=hp++[some []]) (h2:=hp++[some []]) rfl rfl rfl)) (zam (zeI hgr (zaG zl9)) rfl)) rfl) ⟨rfl,Runs.of rfl ⟨rfl,Runs.of rfl ⟨rfl,Runs.of rfl ⟨rfl,oS [91],oN 1,none,none,none,none,[],?_⟩⟩⟩⟩
    rw [hset,zrE];rfl
   ·refine Runs.seqR (Runs.ite (hq 91 _ zcM (by decide)) (λq=>absurd (of_decide_eq_true q) c91) λZ=>?_)
    refine Runs.of (zam (zeI hgr (zaE rfl (ziw P h1 h2))) rfl) ⟨rfl,Runs.of rfl ⟨rfl,Runs.of rfl ⟨rfl,Runs.of rfl ⟨rfl,oS [c],none,none,none,none,none,[],?_⟩⟩⟩⟩
    rw [hset,zrE];rfl
end Mine
namespace Mine
open PySem PySem.W PySem.Spec PySem.Calls PyProof.Rows
section
variable {prog:Program}{w:World}
theorem zk7 {es:Array DictEntry}(h:(es.toList.all λe=>match e.key with | .int k _=>e.hash==hashInt k | _=>false)=true):KeysOf (intKind prog w) es:=λe he=>by
 have:=zs4.mp h e (by simpa using he)
 obtain ⟨hh,kk,vv⟩:=e
 cases kk with
 | int k t=>exact ⟨k,by simp [intKind,Value.isInt],eq_of_beq this⟩
 | _=>exact zdo this
end
theorem zm6 {tf:Int->Option Value}(h:((zuK 32 95).all λc=>zgt tf c==some ⟨(if [40,41,91,93,123,125,63,42,43,45,124,94,36,92,46,38,126,35,32,9,10,13,11,12].contains c then [92,c] else [c]).toArray⟩)=true):zdW tf:=λc h1 h2=>
 eq_of_beq (zs4.mp h c (zsA.mpr ⟨h1,by omega⟩))
theorem map45 {K:Frag}{h:Heap}{o:Obj}{es:Array DictEntry}{ep:Nat}(X:K.In h) (hl:K.lookup 45=some o) (hx:o.ExactDict) (hd:o.data=.dict es ep) (hk:(es.toList.all λe=>match e.key with | .int k _=>e.hash==hashInt k | _=>false)=true)
  (he:((zuK 32 95).all λc=>zgt (λk=>findBy Value.isInt es k) c==some ⟨(if [40,41,91,93,123,125,63,42,43,45,124,94,36,92,46,38,126,35,32,9,10,13,11,12].contains c then [92,c] else [c]).toArray⟩)=true) :
  ∃ tf,zdW tf/\∀ (prog:Program) (w:World),h.MapOf (intKind prog w) 45 tf:=
 ⟨λk=>findBy Value.isInt es k,zm6 he,λprog w=>⟨o,es,ep,X _ _ hl,hx,hd,zk7 hk,λk=>rfl⟩⟩
noncomputable def zpz (h:Heap):Bs:=⟨ghostOf h [(61,57)],57,zhi zd6,zjU⟩
structure Base (h:Heap) (mg mb:PySem.Str->Option Value):Prop where
 fn:∀ p ∈ fnL,zqU (ghostOf h [(61,57)]) p.1 p.2
 gN:∀ p ∈ glL,mg p.1=some (.ref p.2)
 gB:∀ x ∈ blL,mg x=none
 map:∃ tf,zdW tf/\∀ (prog:Program) (w:World),(ghostOf h [(61,57)]).MapOf (intKind prog w) 45 tf
 pat:PatAt (ghostOf h [(61,57)]) 36
 tabs:TabsAt [(61,57)] h
 g:h.Ns mainGlobals mg
 b:h.Ns builtinsNs mb
 lim:h.NoLimit
 bl:∀ x:PySem.Str,x≠"__name__"->mb x=bootBuiltins x
 bmain:∃ bm ob,mg "__builtins__"=some (.ref bm)/\bm≠builtinsNs/\h.get? bm=some ob/\ob.cls=.type "module"/\ob.dict=some builtinsNs/\ob.data=.plain
theorem zqs {s:Shared}(hT:TabsAt [(61,57)] s.heap) (hg:s.gens=#[]):BInv (zpz s.heap) ⟨⟨ghostOf s.heap [(61,57)],λZ=>none⟩,[],s⟩ where
 keep a o e:=of_hideAll _ e
 base a o e:=e
 lt id a e:=nomatch e
 inj i j a e:=nomatch e
 fr id _:=rfl
 lst id vs e:=by contradiction
 tab:=⟨#[],(hT _ (.head _)).2,trivial,λp Z cv e=>by exact zan e⟩
 tabg:=⟨hideAll_none _ (.head _),λid e=>nomatch e⟩
 bare:=.of_eq hg
theorem core (hlaw:∀ tf,zdW tf->∀ ns:List Int,ns.length<=63->∃ k hp',zlW tf k [.d (.list (ns.map PyData.int))] []=some (.d (.bool true),hp')) {prog:Program}{w:World}{s₁:Shared}{mg mb:PySem.Str->Option Value}(hB:Base s₁.heap mg mb) (hg:s₁.gens=#[])
  {ns:List Int} {la:Addr} {lvs:List Value} (hL:s₁.heap.IsList la lvs.toArray) (hI:IntsAre lvs ns) (hlen:ns.length<=63) :
  wpAny (model prog w) callerA (call (.ref 157) [.ref la]) (λv s'=>v=.bool true/\OldK s₁.heap s'.heap/\s'.os=s₁.os/\AllBare s'.gens) NoE s₁:=by
 have hT:=hB.tabs
 refine Eea hB.map λtf htf hmap=>?_
 refine Eee (hlaw tf htf ns hlen) λk hp' hk=>?_
 have I:=zqs hT hg
 have ETp:Tp (zpz s₁.heap) mg mb:=⟨ghost_ns hT hB.g,ghost_ns hT hB.b,let ⟨mc,a,r⟩:=hB.lim;⟨mc,ghost_ns hT a,r⟩⟩
 have E:E0 tf (zpz s₁.heap) mg mb:=⟨hB.fn,hB.gN,hB.gB,hmap,ETp,hB.bl⟩
 have hblt:(zpz s₁.heap).h.BuiltinsAt mg 57:=by
  refine zjY hB.bmain λbm ob a1 a2 a3 a4 a5 a6=>?_
  have b3:(ghostOf s₁.heap [(61,57)]).get? bm=some ob:=ghost_get hT a3 (λq=>by rw [q] at a4;contradiction)
  refine ⟨bm,ob,a1,a2,?_,?_,b3,a4,a5,a6⟩
  ·rintro rfl
   refine zic hB.g λo2 es ep e1 e2 Z=>?_
   rw [a3] at e1;cases e1
   rw [a6] at e2;contradiction
  ·rintro rfl
   rw [(hT _ (.head _)).2] at a3;cases a3
   contradiction
 have TE:zfa (zpz s₁.heap) mg zd6 61:=⟨(ghost_code hT).1,(by show (mainGlobals:Nat)≠57;decide),hblt,rfl,ETp.g,ETp.lim⟩
 have hcall:=zpK (prog:=prog) (w:=w) (n:=0) E TE hB.pat k
 have hrv:RVs (⟨ghostOf s₁.heap [(61,57)],λZ=>none⟩:Gh) [.ref la] [.d (.list (ns.map PyData.int))]:=by
  obtain ⟨oL,e1,e2,nL,e3⟩:=ghost_list hT hL
  obtain ⟨bs,rr⟩:=RVs.reads (G:=⟨ghostOf s₁.heap [(61,57)],λZ=>none⟩) (zew hI)
  exact .one (.d (.list e1 e2 e3 rr))
 refine wpAny_mono (hcall [] _ _ _ hk callerA ⟨rfl,by decide,by decide⟩ _ s₁ _ I hrv) (λv s' p=>?_) λZ Z x=>x.elim
 refine PostV.E p λG' I' S' r'=>?_
 have hv:v=.bool true:=by cases r' with | d r=>cases r;rfl
 subst hv
 have hkp:∀ b o,b≠57->s₁.heap.get? b=some o->s'.heap.get? b=some o:=λb o hb e=>S'.kp b o e zrq (λ⟨id,vs,q,_⟩=>by contradiction) hb
 refine ⟨rfl,⟨λb o e=>?_,λb o e=>?_⟩,S'.os,I'.bare⟩
 ·by_cases hb:b=57
  ·subst hb
   refine Eea I'.tab λps h1 h2=>?_
   have e0:=(hT _ (.head _)).2
   rw [e] at e0
   cases e0
   exact .inr (.inl ⟨((hT _ (.head _)).1.tab (hT _ (.head _)).2).isCodeTable,rfl,#[],ps,rfl,by refine Array.empty_append▸?_;exact h1⟩)
  ·exact .inl (hkp b o hb e)
 ·by_cases hb:b=57
  ·subst hb
   refine Eea I'.tab λps h1 h2=>?_
   exact ⟨_,h1⟩
  ·exact ⟨o,hkp b o hb e⟩
end Mine
namespace Mine
open PySem PySem.W PySem.Spec PySem.Calls PyProof.Rows PySem.Builtin PySem.Builtin.Str
theorem zga {tf:Int->Option Value}(P:zdW tf) {k:Nat}(hk:2 ^ 9<=k) {bar tr:Bool}{els:List El}{t:List Nat}(h:zqm bar els tr t) (s1:V) (hp:HP) :
  zbW tf k [.d (.str (T t)),s1,.d (.str (T [46]))] hp=some (.d (.list [.str (T (brX bar (zbF els tr)))]),hp):=by
 refine zkD (zkC P k hk) λb e hb Z=>?_
 have hl:=h.len
 have hpos:0 < t.length:=by rw [h.ht];exact zrw _
 exact zkB (zrn (m:=256) (k:=262144) hl (by lia)) hpos (zrn (m:=512) (by lia) hk) e (hb bar tr els t s1 hp h)
theorem zdw {tf:Int->Option Value}(P:zdW tf) {k:Nat}(hk:2 ^ 9<=k) {c:Nat}(h1:32<=c) (h2:c < 127) (h3:c≠42) (s1:V) (hp:HP) :
  zbW tf k [.d (.str (T [c])),s1,.d (.str (T [46]))] hp=some (.d (.list [.str (T (if c=63 then [46] else escO c))]),hp):=by
 refine zkD (zkC P k hk) λb e Z hb=>?_
 exact zkB (by exact zrw _) (by exact zrw _) (zrn (m:=512) (by lia) hk) e (hb c s1 hp h1 h2 h3)
theorem znt:("(?s:":zS)=T [40,63,115,58]:=by decide +kernel
theorem znv:(")\\Z":zS)=T [41,92,90]:=by decide +kernel
theorem zeu:("":zS)=T []:=by decide +kernel
noncomputable def zgw (X:List Nat):List Nat:=[40,63,115,58]++X++[41,92,90]
theorem zkV {k s r:Nat}{X:List Nat}{hp:HP}(hk:2<=k) (hl:X.length<=2 ^ 10):zbt k [.d (.list [.str (T X)]),.l s] hp=some (.d (.str (T (zgw X))),hp):=by
 refine zbG rfl ?_
 show Runs (zbX k) ⟨[oD (.list [.str (T X)]),oL s,none,none,none,none,none],hp⟩ _
 generalize hr:hp.length=r
 have hg:(hp++[some []])[r]?=some (some []):=by refine hr▸?_;exact zbL _ _
 refine Runs.seq (st1:=⟨[oD (.list [.str (T X)]),oL s,oL r,none,none,none,none],hp++[some []]⟩) (zaD (v:=.l r) (h:=hp++[some []]) (by refine hr▸?_;rfl) rfl) ?_
 refine Runs.seq (st1:=⟨[oD (.list [.str (T X)]),oL s,oL r,some (.bm r),none,none,none],hp++[some []]⟩) (zaD (v:=.bm r) (h:=hp++[some []]) (znV rfl hg) rfl) ?_
 refine Runs.seq (st1:=⟨[oD (.list [.str (T X)]),oL s,oL r,some (.bm r),oN 0,oN 1,none],hp++[some []]⟩) (zc8 (vs:=[.d (.int ((0:Nat):Int)),.d (.int ((1:Nat):Int))]) (h:=hp++[some []]) (zaj (v:=.d (.int ((0:Nat):Int))) (h:=hp++[some []]) rfl (zaj (v:=.d (.int ((1:Nat):Int))) (h:=hp++[some []]) (zaE (vs:=[.d (.list [.str (T X)])]) (h:=hp++[some []]) rfl rfl) rfl)) rfl rfl rfl) ?_
 have hset:∀ y,(hp++[some []]).set r y=hp++[y]:=λy=>by (refine hr▸?_;rw [zb6])
 have hbody:Runs (zau (zbm (zco (zae 3) (zaf (za4 (zae 0) (zae 4)) (zaw)))) (zau (zqr 4 (zal (.int 1))) (zas .next))) ⟨[oD (.list [.str (T X)]),oL s,oL r,some (.bm r),oN 0,oN 1,none],hp++[some []]⟩ λfl st'=>fl=.next/\st'=⟨[oD (.list [.str (T X)]),oL s,oL r,some (.bm r),oN 1,oN 1,none],hp++[some [vS X]]⟩:=by
  refine Runs.seq (st1:=⟨[oD (.list [.str (T X)]),oL s,oL r,some (.bm r),oN 0,oN 1,none],hp++[some [vS X]]⟩) (zbh (v:=.d .none) (zgO (id:=r) (v:=vS X) (h1:=hp++[some []]) (h2:=hp++[some []]) rfl (zaj (zag (a:=.d (.list [.str (T X)])) (b:=.d (.int ((0:Nat):Int))) (h1:=hp++[some []]) (h2:=hp++[some []]) rfl rfl (zdy (x:=.str (T X)) rfl (by decide))) rfl) ((zgN (out:=[]) hg (by simp)).trans ?_))) ?_
  ·rw [hset];rfl
  ·exact Runs.of rfl ⟨rfl,rfl⟩
 refine Runs.seqR (Runs.while (λm st=>(m=1/\st=⟨[oD (.list [.str (T X)]),oL s,oL r,some (.bm r),oN 0,oN 1,none],hp++[some []]⟩)\/(m=0/\st=⟨[oD (.list [.str (T X)]),oL s,oL r,some (.bm r),oN 1,oN 1,none],hp++[some [vS X]]⟩)) ?_ k 1 _ (by assumption) (.inl ⟨rfl,rfl⟩))
 rintro m st (⟨rfl,rfl⟩ | ⟨rfl,rfl⟩)
 ·refine ⟨true,hp++[some []],zc6 (zaB (zag (a:=.d (.int ((0:Nat):Int))) (b:=.d (.int ((1:Nat):Int))) (h1:=hp++[some []]) (h2:=hp++[some []]) rfl rfl rfl)) (zc6 (zaB (zag (a:=vS X) (b:=.l s) (h1:=hp++[some []]) (h2:=hp++[some []]) (zag (a:=.d (.list [.str (T X)])) (b:=.d (.int ((0:Nat):Int))) (h1:=hp++[some []]) (h2:=hp++[some []]) rfl rfl (zdy (x:=.str (T X)) rfl (by decide))) rfl rfl)) rfl),(λh=>by exact ziL h),λZ=>?_⟩
  refine hbody.mono ?_
  rintro fl st' ⟨rfl,rfl⟩
  exact ⟨0,by exact zrw _,.inr ⟨rfl,rfl⟩⟩
 ·refine ⟨false,hp++[some [vS X]],zfr (zaB (zag (a:=.d (.int ((1:Nat):Int))) (b:=.d (.int ((1:Nat):Int))) (h1:=hp++[some [vS X]]) (h2:=hp++[some [vS X]]) rfl rfl rfl)),λZ=>⟨rfl,?_⟩,(λh=>by exact zdo h)⟩
  obtain ⟨k,rfl⟩:∃ k',k=k' + 1:=⟨k - 1,by exact (zsx (zry (zrw _) hk)).symm⟩
  refine Runs.seq (zc3 (h:=hp++[some [vS X]]) (zaB (zag (a:=.d (.int ((1:Nat):Int))) (b:=.d (.int ((1:Nat):Int))) (h1:=hp++[some [vS X]]) (h2:=hp++[some [vS X]]) rfl rfl rfl))) ?_
  refine Runs.seq (st1:=⟨[oD (.list [.str (T X)]),oL s,oL r,some (.bm r),oN 1,oN 1,none],hp++[some [vS X]]⟩) (zaZ (h:=hp++[some [vS X]]) (zaB (zag (a:=.d (.int ((1:Nat):Int))) (b:=.d (.int ((1:Nat):Int))) (h1:=hp++[some [vS X]]) (h2:=hp++[some [vS X]]) rfl rfl ((zen _ _ _).trans rfl))) rfl) ?_
  have hj:zjt [.d (.str (T [])),.l r] (hp++[some [vS X]])=some (.d (.str (T X)),hp++[some [vS X]]):=by
   have hg2:(hp++[some [vS X]])[r]?=some (some [vS X]):=by refine hr▸?_;exact zbL _ _
   unfold zjt
   dsimp only [bV,bL,bO,on1,on2,onD,onR,dI,dS,dL,onS,onI,onL]
   refine (Eq.symm (show zbl (hp++[some [vS X]]) (.l r)=some [vS X] by unfold zbl;dsimp only [bV,bL,bO,on1,on2,onD,onR,dI,dS,dL,onS,onI,onL];exact hg2▸rfl))▸?_
   dsimp only [bV,bL,bO,on1,on2,onD,onR,dI,dS,dL,onS,onI,onL]
   refine (show zh5 [vS X]=some [T X] from rfl)▸?_
   refine Eq.trans (if_pos (by simp only [zsm,zux,zuq,zuY,zrr,zrz,zca];exact (zrn (m:=1024) hl (by lia)))) ?_
   rfl
  refine Runs.seq (st1:=⟨[oD (.list [.str (T X)]),oL s,oS X,some (.bm r),oN 1,oN 1,none],hp++[some [vS X]]⟩) (zaD (v:=.d (.str (T X))) (h:=hp++[some [vS X]]) (zbk (v:=.d (.str (T []))) (vs:=[.l r]) (h:=hp++[some [vS X]]) (h':=hp++[some [vS X]]) (zaG zeu) rfl rfl hj) rfl) ?_
  exact Runs.of (zbA (zpN (zaG znt) (zlS rfl (zrn (m:=1024) (k:=262144) hl (by lia))) (zaG znv) (by simp only [zrr,zrz];exact (fk (r:=262144) (R:=1024) hl (by lia))))) ⟨rfl,_,rfl⟩
theorem zf9 {tf:Int->Option Value}(P:zdW tf) {k:Nat}(hk:2 ^ 9<=k) {t X:List Nat}(hl:X.length<=2 ^ 10) (h:∀ s1 hp,zbW tf k [.d (.str (T t)),s1,.d (.str (T [46]))] hp=some (.d (.list [.str (T X)]),hp)) (hp:HP) :
  zj9 tf k [.d (.str (T t))] hp=some (.d (.str (T (zgw X))),hp):=by
 refine zbG rfl ?_
 refine Runs.seq (st1:=⟨[oS t,oL hp.length,none],hp++[none]⟩) (zaD (v:=.l hp.length) (h:=hp++[none]) rfl rfl) ?_
 refine Runs.seq (st1:=⟨[oS t,oL hp.length,oD (.list [.str (T X)])],hp++[none]⟩) (zaD (zaE (vs:=[.d (.str (T t)),.l hp.length,.d (.str (T [46]))]) (h:=hp++[none]) (zaj rfl (zaj rfl (zaj (zaG zgg) rfl))) (h _ _)) rfl) ?_
 exact Runs.of (zbA (zaE (vs:=[.d (.list [.str (T X)]),.l hp.length]) (h:=hp++[none]) rfl (zkV (r:=0) (by lia) hl))) ⟨rfl,_,rfl⟩
end Mine
namespace Mine
open PySem PySem.W PySem.Spec PySem.Calls PyProof.Rows PySem.Builtin PySem.Builtin.Str
noncomputable def us:Bool->List Nat->List (List Nat)
 | _,[]=>[]
 | true,c::r=>[92,c]::us false r
 | false,c::r=>if c=92 then us true r else [c]::us false r
theorem zj7:∀ (A B:List Nat) (i:Int) (e:Bool),zcP i e (A++B)=zcP i e A++zcP (i + A.length) (za7 e A) B:=by
 intro zz
 induction zz with
 | nil=>
  intro B i e
  show zcP i e B=zcP (i + ((0:Nat):Int)) e B
  rw [show i + ((0:Nat):Int)=i by simp]
 | cons c r ih=>
  intro B i e
  have hi:i + 1 + (r.length:Int)=i + ((r.length + 1:Nat):Int):=by lia
  cases e with
  | true=>
   show (i,(⟨#[92,c]⟩:PySem.Str))::zcP (i + 1) false (r++B)=(i,(⟨#[92,c]⟩:PySem.Str))::zcP (i + 1) false r++zcP (i + ((r.length + 1:Nat):Int)) (za7 false r) B
   refine (Eq.symm (ih B (i + 1) false))▸(Eq.symm hi)▸?_;rfl
  | false=>
   show (if c=92 then zcP (i + 1) true (r++B) else (i,(⟨#[c]⟩:PySem.Str))::zcP (i + 1) false (r++B))=(if c=92 then zcP (i + 1) true r else (i,(⟨#[c]⟩:PySem.Str))::zcP (i + 1) false r)++zcP (i + ((r.length + 1:Nat):Int)) (if c=92 then za7 true r else za7 false r) B
   by_cases h:c=92
   ·exact (if_pos h)▸(if_pos h)▸(if_pos h)▸(ih B (i + 1) true)▸hi▸rfl
   ·refine (Eq.symm (if_neg h))▸(Eq.symm (if_neg h))▸(Eq.symm (if_neg h))▸(Eq.symm (ih B (i + 1) false))▸(Eq.symm hi)▸?_;rfl
theorem zeP:∀ (A B:List Nat) (e:Bool),za7 e (A++B)=za7 (za7 e A) B:=by
 intro zz
 induction zz with
 | nil=>
  intro _ _
  exact rfl
 | cons c r ih=>
  intro B e
  cases e with
  | true=>exact ih B false
  | false=>
   show (if c=92 then za7 true (r++B) else za7 false (r++B))=za7 (if c=92 then za7 true r else za7 false r) B
   by_cases h:c=92
   ·refine (if_pos h)▸(if_pos h)▸?_;exact ih B true
   ·refine (if_neg h)▸(if_neg h)▸?_;exact ih B false
theorem zqg:∀ (A B:List Nat) (e:Bool),us e (A++B)=us e A++us (za7 e A) B:=by
 intro zz
 induction zz with
 | nil=>
  intro _ _
  exact rfl
 | cons c r ih=>
  intro B e
  cases e with
  | true=>
   refine (congrArg _ (ih B false)).trans ?_;rfl
  | false=>
   show (if c=92 then us true (r++B) else [c]::us false (r++B))=(if c=92 then us true r else [c]::us false r)++us (if c=92 then za7 true r else za7 false r) B
   by_cases h:c=92
   ·refine (if_pos h)▸(if_pos h)▸(if_pos h)▸?_;exact ih B true
   ·refine (if_neg h)▸(if_neg h)▸(if_neg h)▸(ih B false)▸?_;rfl
noncomputable abbrev ziQ:St->Option (Fl × St):=(zau (zbC (zay (zat (za6 true) (zaR (zae 0) (zae 4) (zat (zac zbg) (zae 5) (zal (.int 1)))) (zae 6))) (zau (zdC (zc1 (zaf (zbD (zaw)) (zaf (zbD (zaw)) (zaw))))) (zas .next)) (zas .next)) (zau (doM (zat (zac zbg) (zae 5) (zal (.int 1))) (zaC 4)) (zau (zbC (zay (zat (za6 false) (zae 6) (zal (.str ("|":zS))))) (zau (zbm (zbz zeF zeh (zae 1) (zaf (zgj (zaw)) (zaw)))) (zau (zbm (zbz zeF zeh (zae 2) (zaf (zaR (zae 0) (zae 3) (zae 5)) (zaw)))) (zau (doM (zae 4) (zaC 3)) (zas .next)))) (zau (zbm (zbz zeF zeh (za4 (zae 1) (zde (zal (.int 1)))) (zaf (zae 6) (zaw)))) (zas .next))) (zas .next))))
noncomputable abbrev zld:V->St->Option St:=zeE 2 (zaI (zaC 5) (zaI (zaC 6) (zcD)))
theorem zjv:("|":zS)=T [124]:=by decide +kernel
theorem zk4 {hp:HP}{id:Nat}{vs:List V}{v:V}(h:hp[id]?=some (some (vs++[v]))):zdk hp (.l id) (.d (.int (-1)))=some (v,hp):=by
 have e1:zbl hp (.l id)=some (vs++[v]):=by unfold zbl;dsimp only;exact h▸rfl
 have e2:seqIndex? (-1) (vs++[v]).length=some vs.length:=by
  unfold seqIndex?
  dsimp
  refine Eq.trans (if_pos (by simp;exact ⟨(zrO (zrB (vs.length)) (by lia)),(by lia)⟩)) ?_
  simp;exact tn1 _
 rw [zcc]
 dsimp only
 rw [if_pos (by decide),e1]
 dsimp only
 refine e2▸?_
 simp
section
variable {t:List Nat}{p q:Nat}{c3:Option V}{Q:Fl->St->Prop}
theorem ziR {pre y post:List Nat}{c4':Option V}{hp:HP}{D:St->Option (Fl × St)}(ht:t=pre++y++post) (hok:okL t) (hl:t.length<=2 ^ 18) (hy:y≠[])
  (hD:Runs D ⟨[oS t,oL p,oL q,c3,oN (pre.length + y.length),oN (pre.length + y.length - 1),oS y],hp⟩ Q) :
  Runs (zau (zbC (zay (zat (za6 true) (zaR (zae 0) (zae 4) (zat (zac zbg) (zae 5) (zal (.int 1)))) (zae 6))) (zau (zdC (zc1 (zaf (zbD (zaw)) (zaf (zbD (zaw)) (zaw))))) (zas .next)) (zas .next)) (zau (doM (zat (zac zbg) (zae 5) (zal (.int 1))) (zaC 4)) D)) ⟨[oS t,oL p,oL q,c3,oN pre.length,oN (pre.length + y.length - 1),oS y],hp⟩ Q:=by
 have hpos:0 < y.length:=zsh.mpr hy
 have hokY:okL y:=λc hc=>hok c (by rw [ht];simp [hc])
 have hadd:zat (zac zbg) (zae 5) (zal (.int 1)) ⟨[oS t,oL p,oL q,c3,oN pre.length,oN (pre.length + y.length - 1),oS y],hp⟩=some (.d (.int ((pre.length + y.length:Nat):Int)),hp):=
  zag (a:=.d (.int ((pre.length + y.length - 1:Nat):Int))) (b:=.d (.int 1)) (h1:=hp) (h2:=hp) rfl rfl (zb0 (by exact congrArg Int.ofNat (ztD (zrn hpos (zsT _ _)))))
 have hsl:zaR (zae 0) (zae 4) (zat (zac zbg) (zae 5) (zal (.int 1))) ⟨[oS t,oL p,oL q,c3,oN pre.length,oN (pre.length + y.length - 1),oS y],hp⟩=some (.d (.str (T y)),hp):=by
  refine za9 (a:=.d (.str (T t))) (lo:=some ((pre.length:Nat):Int)) (hi:=some ((pre.length + y.length:Nat):Int)) (h1:=hp) (h2:=hp) (h3:=hp) rfl rfl (by refine (congrArg _ hadd).trans ?_;rfl) ((zb7 (by exact zrn hl (zN rfl))).trans ?_)
  rw [ht,zf0]
 refine Runs.seq (st1:=⟨[oS t,oL p,oL q,c3,oN pre.length,oN (pre.length + y.length - 1),oS y],hp⟩) (zaF (h:=hp) (zaB (zag hsl rfl ((eqS hokY hokY).trans ?_))) rfl) ?_
 ·rw [decide_eq_true rfl];rfl
 ·exact Runs.seq (zaD hadd rfl) hD
theorem ziS {pre y post:List Nat}{hp:HP}{ids:List V}{c:Nat}{old:List (List Nat)}{c5 c6:Option V}{rest:List V}(ht:t=pre++y++post) (hok:okL t) (hl:t.length<=2 ^ 18) (hy:y≠[]) (hbar:y≠[124]) (hpc:p≠c) (hg:hp[p]?=some (some (ids++[.l c]))) (hc:hp[c]?=some (some (old.map vS))) (hol:old.length<=2 ^ 20)
  (hD:Runs (forL zld ziQ rest) ⟨[oS t,oL p,oL q,c3,oN (pre.length + y.length),oN (pre.length + y.length - 1),oS y],hp.set c (some ((old++[y]).map vS))⟩ Q) :
  Runs (forL zld ziQ (ziP (((pre.length + y.length - 1:Nat):Int),T y)::rest)) ⟨[oS t,oL p,oL q,c3,oN pre.length,c5,c6],hp⟩ Q:=by
 have hokY:okL y:=λc hc=>hok c (by rw [ht];simp [hc])
 refine zgy hD λfl st' e hq=>?_
 have hrun:Runs ziQ ⟨[oS t,oL p,oL q,c3,oN pre.length,oN (pre.length + y.length - 1),oS y],hp⟩ λfl st'=>fl=.next/\st'=⟨[oS t,oL p,oL q,c3,oN (pre.length + y.length),oN (pre.length + y.length - 1),oS y],hp.set c (some ((old++[y]).map vS))⟩:=by
  refine ziR (c4':=none) ht hok hl hy ?_
  refine Runs.seq (st1:=⟨[oS t,oL p,oL q,c3,oN (pre.length + y.length),oN (pre.length + y.length - 1),oS y],hp.set c (some ((old++[y]).map vS))⟩) (zaF (h:=hp) (zaB (zag (a:=.d (.str (T y))) (h1:=hp) rfl (zaG zjv) ((eqS hokY (ok1 (by decide))).trans ?_))) (zam (zbh (v:=.d .none) (zbk (v:=.l c) (vs:=[vS y]) (h:=hp) (h':=hp) (zag (a:=.l p) (b:=.d (.int (-1))) (h1:=hp) (h2:=hp) rfl rfl (zk4 hg)) (zcL hc) rfl (zgN hc hol))) rfl)) (Runs.of rfl ⟨rfl,rfl⟩)
  refine (Eq.symm (decide_eq_false hbar))▸?_;rfl
 (refine zcG hrun λfl' st'' e' q0 q1=>?_;subst q0;subst q1)
 exact ⟨fl,st',zb2 (st1:=⟨[oS t,oL p,oL q,c3,oN pre.length,oN (pre.length + y.length - 1),oS y],hp⟩) rfl e' e,hq⟩
noncomputable def pk (e:Bool):List Nat:=if e then [92] else []
theorem zfO (hpc:∀ c:Nat,c=c):∀ (A:List Nat) (e:Bool) (pre post:List Nat) (hp:HP) (ids:List V) (c:Nat) (old:List (List Nat)) (c5 c6:Option V) (rest:List V),
  t=pre++(pk e++A)++post->okL t->t.length<=2 ^ 18->za7 e A=false->(∀ y ∈ us e A,y≠[124])->p≠c->hp[p]?=some (some (ids++[.l c]))->hp[c]?=some (some (old.map vS))->old.length + A.length<=2 ^ 20->
  (∀ c5' c6',Runs (forL zld ziQ rest) ⟨[oS t,oL p,oL q,c3,oN (pre.length + (pk e++A).length),c5',c6'],hp.set c (some ((old++us e A).map vS))⟩ Q)->
  Runs (forL zld ziQ ((zcP ((pre.length + (pk e).length:Nat):Int) e A).map ziP++rest)) ⟨[oS t,oL p,oL q,c3,oN pre.length,c5,c6],hp⟩ Q
 | [],e,pre,post,hp,ids,c,old,c5,c6,rest,ht,hok,hl,hf,hb,hne,hg,hc,hol,hD=>by
  have:e=false:=hf
  subst this
  have:=hD c5 c6
  rw [show old++us false []=old from zrE _,zcp hc] at this
  exact this
 | x::r,true,pre,post,hp,ids,c,old,c5,c6,rest,ht,hok,hl,hf,hb,hne,hg,hc,hol,hD=>by
  have hcl:=zcr hc
  have ht':t=pre++[92,x]++(r++post):=by refine Eq.trans ht ?_;simp [pk]
  have hpl:((pre.length + 1:Nat):Int)=((pre.length + [92,x].length - 1:Nat):Int):=by rfl
  refine (Eq.symm hpl)▸?_
  refine ziS ht' hok hl (by simp) (by simp) hne hg hc (fk (r:=1048576) (R:=1048576) hol (by lia)) ?_
  have hpre:pre.length + [92,x].length=(pre++[92,x]).length:=by simp
  refine (show ((pre.length + [92,x].length - 1:Nat):Int) + 1=(((pre++[92,x]).length + 0:Nat):Int) by simp;exact (by lia))▸?_
  refine (Eq.symm hpre)▸?_
  refine zfO hpc r false (pre++[92,x]) post (hp.set c (some ((old++[[92,x]]).map vS))) ids c (old++[[92,x]]) _ _ rest (by refine Eq.trans ht ?_;simp [pk]) hok hl hf (λy hy=>hb y (.tail _ hy)) hne (by refine Eq.trans (zrT (Ne.symm hne)) ?_;exact hg) (zru hcl) (by simp at hol ⊢;exact (zrn (by lia) hol)) λc5' c6'=>?_
  have:=hD c5' c6'
  rw [zrX,zrx]
  refine (show (pre++[92,x]).length + (pk false++r).length=pre.length + (pk true++x::r).length by simp [pk];exact (by lia))▸?_
  exact this
 | x::r,false,pre,post,hp,ids,c,old,c5,c6,rest,ht,hok,hl,hf,hb,hne,hg,hc,hol,hD=>by
  have hcl:=zcr hc
  by_cases h92:x=92
  ·subst h92
   have hf':za7 true r=false:=hf
   have hb':∀ y ∈ us true r,y≠[124]:=hb
   have:=zfO hpc r true pre post hp ids c old c5 c6 rest (by refine Eq.trans ht ?_;dsimp [pk]) hok hl hf' hb' hne hg hc (by simp at hol ⊢;exact zrP (by assumption)) (λc5' c6'=>by
    have:=hD c5' c6'
    refine (Eq.symm (show pre.length + (pk true++r).length=pre.length + (pk false++92::r).length from rfl))▸?_
    exact this)
   exact this
  ·have ht':t=pre++[x]++(r++post):=by refine Eq.trans ht ?_;simp [pk]
   have hus:us false (x::r)=[x]::us false r:=by
    exact (if_neg h92)
   have hes:zcP ((pre.length + 0:Nat):Int) false (x::r)=(((pre.length + 0:Nat):Int),T [x])::zcP (((pre.length + 0:Nat):Int) + 1) false r:=by
    refine Eq.trans (if_neg h92) ?_;rfl
   rw [hus] at hb hD
   have hf':za7 false r=false:=by
    have:(if x=92 then za7 true r else za7 false r)=false:=hf
    rw [if_neg h92] at this;exact this
   refine hes▸?_
   refine (Eq.symm (show ((pre.length + 0:Nat):Int)=((pre.length + [x].length - 1:Nat):Int) by dsimp))▸?_
   refine ziS ht' hok hl (by simp) (hb _ (.head _)) hne hg hc (fk (r:=1048576) (R:=1048576) hol (by lia)) ?_
   have hpre:pre.length + [x].length=(pre++[x]).length:=by simp
   refine (show ((pre.length + [x].length - 1:Nat):Int) + 1=(((pre++[x]).length + 0:Nat):Int) by simp)▸?_
   refine (Eq.symm hpre)▸?_
   refine zfO hpc r false (pre++[x]) post (hp.set c (some ((old++[[x]]).map vS))) ids c (old++[[x]]) _ _ rest (by refine Eq.trans ht ?_;simp [pk]) hok hl hf' (λy hy=>hb y (.tail _ hy)) hne (by refine Eq.trans (zrT (Ne.symm hne)) ?_;exact hg) (zru hcl) (by simp at hol ⊢;exact (zrn (by lia) hol)) λc5' c6'=>?_
   have:=hD c5' c6'
   rw [zrX,zrx]
   refine (show (pre++[x]).length + (pk false++r).length=pre.length + (pk false++x::r).length by simp [pk];exact (by lia))▸?_
   exact this
end
end Mine
namespace Mine
open PySem PySem.W PySem.Spec PySem.Calls PyProof.Rows PySem.Builtin PySem.Builtin.Str
theorem zcn {α:Type}(l L:List α) (j:Nat) (y:α):(l++L).set (l.length + j) y=l++L.set j y:=by
 rw [zsV _ _ (zrI _ _),zsN]
theorem zbM {α:Type}(l L:List α) (j:Nat):(l++L)[l.length + j]?=L[j]?:=by
 rw [zrF (zrI _ _),zsN]
section
variable {t:List Nat}{p q:Nat}{Q:Fl->St->Prop}
theorem zkm {pre0 A post:List Nat}{hp hp':HP}{ids:List V}{outs:List (List Nat)}{c5 c6:Option V}{rest:List V}(ht:t=pre0++A++124::post) (hok:okL t) (hl:t.length<=2 ^ 18) (hpq:p≠q) (hg:hp[p]?=some (some ids)) (hq:hp[q]?=some (some (outs.map vS))) (hil:ids.length<=2 ^ 20) (hol:outs.length<=2 ^ 20)
  (hp'e:((hp++[some []]).set p (some (ids++[V.l hp.length]))).set q (some ((outs++[A]).map vS))=hp')
  (hD:∀ c5' c6',Runs (forL zld ziQ rest) ⟨[oS t,oL p,oL q,oN (pre0.length + A.length + 1),oN (pre0.length + A.length + 1),c5',c6'],hp'⟩ Q) :
  Runs (forL zld ziQ (ziP (((pre0.length + A.length:Nat):Int),T [124])::rest)) ⟨[oS t,oL p,oL q,oN pre0.length,oN (pre0.length + A.length),c5,c6],hp⟩ Q:=by
 subst hp'e
 have hpl:=zcr hg
 have hql:=zcr hq
 have ht':t=(pre0++A)++[124]++post:=by refine Eq.trans ht ?_;simp
 have hla:(pre0++A).length=pre0.length + A.length:=zro
 refine zgy (hD (oN (pre0.length + A.length)) (oS [124])) λfl st' e hQ=>?_
 have hg1:(hp++[some []])[p]?=some (some ids):=by refine Eq.trans (zrC hpl) ?_;exact hg
 have hq1:((hp++[some []]).set p (some (ids++[V.l hp.length])))[q]?=some (some (outs.map vS)):=by
  refine (Eq.symm (zrT hpq))▸(Eq.symm (zrC hql))▸?_;exact hq
 have hrun:Runs ziQ ⟨[oS t,oL p,oL q,oN pre0.length,oN (pre0++A).length,oN ((pre0++A).length + [124].length - 1),oS [124]],hp⟩ λfl st'=>fl=.next/\st'=⟨[oS t,oL p,oL q,oN ((pre0++A).length + [124].length),oN ((pre0++A).length + [124].length),oN ((pre0++A).length + [124].length - 1),oS [124]],((hp++[some []]).set p (some (ids++[V.l hp.length]))).set q (some ((outs++[A]).map vS))⟩:=by
  refine ziR (c4':=none) ht' hok hl (by simp) ?_
  refine Runs.seqR (Runs.ite (x:=true) (h:=hp) (zaB (zag (a:=.d (.str (T [124]))) (h1:=hp) rfl (zaG zjv) ((eqS (ok1 (by decide)) (ok1 (by decide))).trans rfl))) (λZ=>?_) λh=>by exact ziL h)
  refine Runs.seq (st1:=⟨[oS t,oL p,oL q,oN pre0.length,oN ((pre0++A).length + [124].length),oN ((pre0++A).length + [124].length - 1),oS [124]],(hp++[some []]).set p (some (ids++[V.l hp.length]))⟩) (zbh (v:=.d .none) (zbk (v:=.l p) (vs:=[V.l hp.length]) (h:=hp) (h':=hp++[some []]) rfl (zcL hg) rfl (zmP hg1 hil))) ?_
  refine Runs.seq (st1:=⟨[oS t,oL p,oL q,oN pre0.length,oN ((pre0++A).length + [124].length),oN ((pre0++A).length + [124].length - 1),oS [124]],((hp++[some []]).set p (some (ids++[V.l hp.length]))).set q (some ((outs++[A]).map vS))⟩) (zbh (v:=.d .none) (zbk (v:=.l q) (vs:=[vS A]) (h:=(hp++[some []]).set p (some (ids++[V.l hp.length]))) (h':=(hp++[some []]).set p (some (ids++[V.l hp.length]))) rfl (zcL hq1) (zaj (v:=vS A) (h:=(hp++[some []]).set p (some (ids++[V.l hp.length]))) ?_ rfl) (zgN hq1 hol))) ?_
  ·refine za9 (a:=.d (.str (T t))) (lo:=some ((pre0.length:Nat):Int)) (hi:=some ((pre0.length + A.length:Nat):Int)) (h1:=(hp++[some []]).set p (some (ids++[V.l hp.length]))) (h2:=(hp++[some []]).set p (some (ids++[V.l hp.length]))) (h3:=(hp++[some []]).set p (some (ids++[V.l hp.length]))) rfl rfl ?_ ((zb7 (by exact zrn hl (zN rfl))).trans ?_)
   ·refine hla▸?_;rfl
   ·rw [ht,zf0];rfl
  exact Runs.seq (zaD rfl rfl) (Runs.of rfl ⟨rfl,Runs.of rfl ⟨rfl,rfl⟩⟩)
 (refine zcG hrun λfl' st'' e' q0 q1=>?_;subst q0;subst q1)
 have e1:(pre0++A).length + [124].length - 1=pre0.length + A.length:=by refine (Eq.symm hla)▸?_;rfl
 have e2:(pre0++A).length + [124].length=pre0.length + A.length + 1:=by refine (Eq.symm hla)▸?_;rfl
 rw [e1,e2,hla] at e'
 exact ⟨fl,st',zb2 (st1:=⟨[oS t,oL p,oL q,oN pre0.length,oN (pre0.length + A.length),oN (pre0.length + A.length),oS [124]],hp⟩) rfl e' e,hQ⟩
end
noncomputable def zap (ls:List (List Nat)):PyData:=.list (ls.map λl=>.str (T l))
structure zmN (A:List Nat):Prop where
 fin:za7 false A=false
 bar:∀ y ∈ us false A,y≠[124]
theorem zqx {hp:HP}{u1 u2 u3 X:List (List Nat)}:zos (hp++[some (u1.map vS),some [.l hp.length,.l (hp.length + 3),.l (hp.length + 4)],some (X.map vS),some (u2.map vS),some (u3.map vS)]) (.l (hp.length + 1)) =
  some (.d (.list [zap u1,zap u2,zap u3]),hp++[none,none,some (X.map vS),none,none]):=by
 have g1:zhE (hp++[some (u1.map vS),some [.l hp.length,.l (hp.length + 3),.l (hp.length + 4)],some (X.map vS),some (u2.map vS),some (u3.map vS)]) (.l hp.length)=some (.d (zap u1),hp++[none,some [.l hp.length,.l (hp.length + 3),.l (hp.length + 4)],some (X.map vS),some (u2.map vS),some (u3.map vS)]):=by
  refine Eq.trans (zgV (l:=u1) (zbM hp _ 0)) ?_
  refine (Eq.symm (show (hp++[some (u1.map vS),some [.l hp.length,.l (hp.length + 3),.l (hp.length + 4)],some (X.map vS),some (u2.map vS),some (u3.map vS)]).set hp.length none=_ from zcn hp _ 0 none))▸?_;rfl
 have g2:zhE (hp++[none,some [.l hp.length,.l (hp.length + 3),.l (hp.length + 4)],some (X.map vS),some (u2.map vS),some (u3.map vS)]) (.l (hp.length + 3))=some (.d (zap u2),hp++[none,some [.l hp.length,.l (hp.length + 3),.l (hp.length + 4)],some (X.map vS),none,some (u3.map vS)]):=by
  rw [zgV (l:=u2) (zbM hp _ 3),zcn];rfl
 have g3:zhE (hp++[none,some [.l hp.length,.l (hp.length + 3),.l (hp.length + 4)],some (X.map vS),none,some (u3.map vS)]) (.l (hp.length + 4))=some (.d (zap u3),hp++[none,some [.l hp.length,.l (hp.length + 3),.l (hp.length + 4)],some (X.map vS),none,none]):=by
  rw [zgV (l:=u3) (zbM hp _ 4),zcn];rfl
 have d:zil (hp++[some (u1.map vS),some [.l hp.length,.l (hp.length + 3),.l (hp.length + 4)],some (X.map vS),some (u2.map vS),some (u3.map vS)]) [.l hp.length,.l (hp.length + 3),.l (hp.length + 4)]=some ([zap u1,zap u2,zap u3],hp++[none,some [.l hp.length,.l (hp.length + 3),.l (hp.length + 4)],some (X.map vS),none,none]):=by
  exact zeK g1 (zeK g2 (zeK g3 rfl))
 exact (zlF ((zbM hp _ 1).trans rfl) d ((zbM hp _ 1).trans rfl)).trans (by rw [zcn];rfl)
theorem zm5 {r:St->Option (List V × HP)}{st:St}{t:List Nat}{h:HP}(e:r st=some ([.d (.str (T t))],h)) (hf:za7 false t=false) (hok:okL t):zpI r st=some ((zcP 0 false t).map ziP,h):=by
 unfold zpI
 refine e▸?_
 refine Eq.trans (if_pos ⟨hf,hok⟩) ?_;rfl
theorem zix {k:Nat}{A1 A2 A3:List Nat}(hp:HP) (h1:zmN A1) (h2:zmN A2) (h3:zmN A3) (hok:okL (A1++124::(A2++124::A3))) (hl:(A1++124::(A2++124::A3)).length<=2 ^ 16) :
  zda k [.d (.str (T (A1++124::(A2++124::A3))))] hp=some (.d (.tuple [.list [zap (us false A1),zap (us false A2),zap (us false A3)],zap [A1,A2,A3]]),hp):=by
 refine zbG rfl ?_
 generalize ht:A1++124::(A2++124::A3)=t at *
 have hlen:t.length=A1.length + A2.length + A3.length + 2:=by refine ht▸?_;simp;exact (by lia)
 show Runs (zeA k) ⟨[oS t,none,none,none,none,none,none],hp⟩ _
 refine Runs.seq (st1:=⟨[oS t,oL (hp.length + 1),oL (hp.length + 2),oN 0,oN 0,none,none],hp++[some [],some [V.l hp.length],some []]⟩) ?_ ?_
 ·refine zc8 (vs:=[V.l (hp.length + 1),V.l (hp.length + 2),.d (.int ((0:Nat):Int)),.d (.int ((0:Nat):Int))]) (h:=hp++[some [],some [V.l hp.length],some []]) ?_ rfl rfl rfl
  have e1:zgj (zaf (zgj (zaw)) (zaw)) ⟨[oS t,none,none,none,none,none,none],hp⟩=some (V.l (hp++[some []]).length,hp++[some []]++[some [V.l hp.length]]):=rfl
  have e2:zgj (zaw) ⟨[oS t,none,none,none,none,none,none],hp++[some []]++[some [V.l hp.length]]⟩=some (V.l (hp++[some []]++[some [V.l hp.length]]).length,hp++[some []]++[some [V.l hp.length]]++[some []]):=rfl
  have e3:hp++[some []]++[some [V.l hp.length]]++[some []]=hp++[some [],some [V.l hp.length],some []]:=by simp
  have e4:(hp++[some []]).length=hp.length + 1:=by refine Eq.trans zro ?_;rfl
  have e5:(hp++[some []]++[some [V.l hp.length]]).length=hp.length + 2:=by refine zro▸e4▸?_;rfl
  rw [e5,e3] at e2
  rw [e4] at e1
  exact zaj e1 (zaj e2 (zaj rfl (zaj rfl rfl)))
 have hf2:za7 false (124::(A2++124::A3))=false:=by
  show za7 false (A2++124::A3)=false
  rw [zeP,h2.fin];exact h3.fin
 have hfin:za7 false t=false:=by (refine ht▸?_;rw [zeP,h1.fin]);exact hf2
 have hesc:zcP 0 false t=zcP ((([]:List Nat).length + (pk false).length:Nat):Int) false A1++((((([]:List Nat).length + A1.length:Nat):Int),T [124])::(zcP (((A1++[124]).length + (pk false).length:Nat):Int) false A2++(((((A1++[124]).length + A2.length:Nat):Int),T [124])::zcP (((A1++[124]++A2++[124]).length + (pk false).length:Nat):Int) false A3))):=by
  (refine ht▸?_;rw [zj7,h1.fin])
  have e1:∀ (i:Int) (r:List Nat),zcP i false (124::r)=(i,T [124])::zcP (i + 1) false r:=λi r=>rfl
  rw [e1,zj7,h2.fin,e1]
  have n1:((([]:List Nat).length + (pk false).length:Nat):Int)=0:=rfl
  have n2:(0:Int) + (A1.length:Int)=((([]:List Nat).length + A1.length:Nat):Int):=by rfl
  have n3:((([]:List Nat).length + A1.length:Nat):Int) + 1=(((A1++[124]).length + (pk false).length:Nat):Int):=by simp [pk]
  have n4:(((A1++[124]).length + (pk false).length:Nat):Int) + (A2.length:Int)=(((A1++[124]).length + A2.length:Nat):Int):=by dsimp [pk]
  have n5:(((A1++[124]).length + A2.length:Nat):Int) + 1=(((A1++[124]++A2++[124]).length + (pk false).length:Nat):Int):=by simp [pk];exact (by lia)
  exact (Eq.symm n1)▸(Eq.symm n2)▸(Eq.symm n3)▸(Eq.symm n4)▸(Eq.symm n5)▸rfl
 refine Runs.seqR (Runs.for (zm5 (t:=t) (h:=hp++[some [],some [V.l hp.length],some []]) rfl hfin hok) ?_)
 refine hesc▸zrR▸zsm▸zrR▸zsm▸?_
 have hs:=λ(c3:Option V) (QQ:Fl->St->Prop)=>zfO (t:=t) (p:=hp.length + 1) (q:=hp.length + 2) (c3:=c3) (Q:=QQ) (λZ=>rfl)
 refine hs (oN 0) _ A1 false [] (124::(A2++124::A3)) _ [] hp.length [] none none _ (by refine ht▸?_;rfl) hok (by exact zrn hl (zN rfl)) h1.fin h1.bar (by simp) (by rw [zbM];rfl) (zbM hp _ 0) (by simp;exact (fk (al2 (b:=65536) hl (geq hlen)) (by lia))) λc5 c6=>?_
 have es1:List.set (hp++[some [],some [V.l hp.length],some []]) hp.length (some ((us false A1).map vS))=hp++[some ((us false A1).map vS),some [V.l hp.length],some []]:=zcn hp _ 0 _
 refine (Eq.symm (show ([]:List (List Nat))++us false A1=us false A1 from rfl))▸(Eq.symm es1)▸?_
 refine zkm (pre0:=[]) (A:=A1) (post:=A2++124::A3) (ids:=[V.l hp.length]) (outs:=[]) (by refine ht▸?_;rfl) hok (by exact zrn hl (zN rfl)) (by simp) (by rw [zbM];rfl) (by rw [zbM];rfl) (by exact zrw _) (by simp) (hp':=hp++[some ((us false A1).map vS),some [V.l hp.length,V.l (hp.length + 3)],some ([A1].map vS),some []]) ?_ λc5 c6=>?_
 ·rw [zrx,zcn,zcn,show (hp++[some ((us false A1).map vS),some [V.l hp.length],some []]).length=hp.length + 3 by rw [zro];rfl]
  rfl
 have hl1:([]:List Nat).length + A1.length + 1=(A1++[124]).length:=by simp
 refine (Eq.symm hl1)▸?_
 refine hs (oN (A1++[124]).length) _ A2 false (A1++[124]) (124::A3) (hp++[some ((us false A1).map vS),some [V.l hp.length,V.l (hp.length + 3)],some ([A1].map vS),some []]) [V.l hp.length] (hp.length + 3) [] c5 c6 _ (by refine ht▸?_;simp [pk]) hok (zrn (m:=65536) (k:=262144) hl (by lia)) h2.fin h2.bar (by simp) (by rw [zbM];rfl) (by rw [zbM];rfl) (by simp;exact (fk (al2 (b:=65536) hl (geq hlen)) (by lia))) λc5 c6=>?_
 rw [zcn]
 show Runs _ ⟨[oS t,oL (hp.length + 1),oL (hp.length + 2),oN (A1++[124]).length,oN ((A1++[124]).length + A2.length),c5,c6],hp++[some ((us false A1).map vS),some [V.l hp.length,V.l (hp.length + 3)],some ([A1].map vS),some ((us false A2).map vS)]⟩ _
 refine zkm (pre0:=A1++[124]) (A:=A2) (post:=A3) (ids:=[V.l hp.length,V.l (hp.length + 3)]) (outs:=[A1]) (by refine ht▸?_;simp) hok (by exact zrn hl (zN rfl)) (by simp) (by rw [zbM];rfl) (by rw [zbM];rfl) (zN rfl) (by exact zrw _) (hp':=hp++[some ((us false A1).map vS),some [V.l hp.length,V.l (hp.length + 3),V.l (hp.length + 4)],some ([A1,A2].map vS),some ((us false A2).map vS),some []]) ?_ λc5 c6=>?_
 ·rw [zrx,zcn,zcn,show (hp++[some ((us false A1).map vS),some [V.l hp.length,V.l (hp.length + 3)],some ([A1].map vS),some ((us false A2).map vS)]).length=hp.length + 4 by rw [zro];rfl]
  rfl
 have hl2:(A1++[124]).length + A2.length + 1=(A1++[124]++A2++[124]).length:=by simp;exact (by lia)
 refine (Eq.symm hl2)▸?_
 have hlast:=λQQ=>hs (oN (A1++[124]++A2++[124]).length) QQ A3 false (A1++[124]++A2++[124]) [] (hp++[some ((us false A1).map vS),some [V.l hp.length,V.l (hp.length + 3),V.l (hp.length + 4)],some ([A1,A2].map vS),some ((us false A2).map vS),some []]) [V.l hp.length,V.l (hp.length + 3)] (hp.length + 4) [] c5 c6 [] (by refine ht▸?_;simp [pk]) hok (zrn (m:=65536) (k:=262144) hl (by lia)) h3.fin h3.bar (by simp) (by rw [zbM];rfl) (by rw [zbM];rfl) (by simp;exact (fk (al2 (b:=65536) hl (geq hlen)) (by lia)))
 rw [zrE] at hlast
 refine hlast _ λc5 c6=>?_
 rw [zcn]
 refine Runs.of rfl ⟨rfl,?_⟩
 show Runs _ ⟨[oS t,oL (hp.length + 1),oL (hp.length + 2),oN (A1++[124]++A2++[124]).length,oN ((A1++[124]++A2++[124]).length + A3.length),c5,c6],hp++[some ((us false A1).map vS),some [V.l hp.length,V.l (hp.length + 3),V.l (hp.length + 4)],some ([A1,A2].map vS),some ((us false A2).map vS),some ((us false A3).map vS)]⟩ _
 have hdeep:zor (zae 1) ⟨[oS t,oL (hp.length + 1),oL (hp.length + 2),oN (A1++[124]++A2++[124]).length,oN ((A1++[124]++A2++[124]).length + A3.length),c5,c6],hp++[some ((us false A1).map vS),some [V.l hp.length,V.l (hp.length + 3),V.l (hp.length + 4)],some ([A1,A2].map vS),some ((us false A2).map vS),some ((us false A3).map vS)]⟩=_:=zqx
 have hfrz:zhE (hp++[none,none,some ([A1,A2].map vS),none,none]) (V.l (hp.length + 2))=some (.d (zap [A1,A2]),hp++[none,none,none,none,none]):=by
  rw [zgV (l:=[A1,A2]) (by rw [zbM];rfl),zcn];rfl
 have hsl:zaR (zae 0) (zae 3) (zal .none) ⟨[oS t,oL (hp.length + 1),oL (hp.length + 2),oN (A1++[124]++A2++[124]).length,oN ((A1++[124]++A2++[124]).length + A3.length),c5,c6],hp++[none,none,none,none,none]⟩=some (vS A3,hp++[none,none,none,none,none]):=by
  refine za9 (a:=.d (.str (T t))) (lo:=some (((A1++[124]++A2++[124]).length:Nat):Int)) (hi:=none) (h1:=hp++[none,none,none,none,none]) (h2:=hp++[none,none,none,none,none]) (h3:=hp++[none,none,none,none,none]) rfl rfl rfl ((zb7 (by exact zrn hl (zN rfl))).trans ?_)
  have:zaY t (some (((A1++[124]++A2++[124]).length:Nat):Int)) none=A3:=by
   unfold zaY hiB loB zb1
   dsimp only
   rw [if_neg (by exact inn _),zs2]
   rw [zsp,zse (by rw [hlen];simp;exact zsw (zrI _ _) 2)]
   (refine ht▸(show A1++124::(A2++124::A3)=(A1++[124]++A2++[124])++A3 by simp)▸?_;exact ztk)
  refine (Eq.symm this)▸?_;rfl
 have hadd:=zag (op:=zac zbg) (a:=.d (zap [A1,A2])) (b:=.d (zap [A3])) (zn0 (m:=zae 2) (st:=⟨[oS t,oL (hp.length + 1),oL (hp.length + 2),oN (A1++[124]++A2++[124]).length,oN ((A1++[124]++A2++[124]).length + A3.length),c5,c6],hp++[none,none,some ([A1,A2].map vS),none,none]⟩) rfl hfrz) (ze0 (xs:=[.str (T A3)]) (zaj (r:=zaw) hsl rfl) (by simp)) (znU (by simp) (by simp))
 exact Runs.of (zbA (zbN (xs:=[.list [zap (us false A1),zap (us false A2),zap (us false A3)],zap [A1,A2,A3]]) (zaj hdeep (zaj hadd rfl)) (by simp))) ⟨rfl,_,rfl⟩
end Mine
namespace Mine
open PySem PySem.W PySem.Spec PySem.Calls PyProof.Rows PySem.Builtin PySem.Builtin.Str
noncomputable def zee (ls:List (List Nat)):Prop:=∀ l ∈ ls,okL l
theorem zj4:∀ a b:List (List Nat),PyData.eqvAll (a.map λl=>.str (T l)) (b.map λl=>.str (T l))=decide (a=b)
 | [],[]=>by rfl
 | [],y::b=>by rfl
 | x::a,[]=>by rfl
 | x::a,y::b=>by
  show PyData.eqvAll (.str (T x)::a.map λl=>.str (T l)) (.str (T y)::b.map λl=>.str (T l))=_
  unfold PyData.eqvAll
  rw [zlN,zj4 a b,ztd]
  simp
theorem zj5 (a b:List (List Nat)):PyData.eqv (zap a) (zap b)=decide (a=b):=by
 rw [<- zj4];unfold zap;dsimp only [PyData.eqv]
theorem zhP:∀ ls:List (List Nat),zee ls->PyData.canLayAll0 (ls.map λl=>.str (T l))=true:=by
 intro zz
 induction zz with
 | nil=>
  intro _
  exact rfl
 | cons x r ih=>
  intro h
  show (PyData.canLay0 (.str (T x)) && PyData.canLayAll0 (r.map λl=>.str (T l)))=true
  (refine (Eq.symm (znr (h x (.head _))))▸(Eq.symm (ih λl hl=>h l (.tail _ hl)))▸?_);rfl
theorem zeL:∀ ls:List (List Nat),PyData.depthAll (ls.map λl=>.str (T l))=0:=by
 intro zz
 induction zz with
 | nil=>
  exact rfl
 | cons x r ih=>
  refine (congrArg _ (ih)).trans ?_;rfl
theorem zfQ {ls:List (List Nat)}(h:zee ls):shp (zap ls)=true:=by
 unfold shp SeqAt.shaped zap PyData.canLay0 PyData.depth
 rw [zhP ls h,zeL];rfl
theorem zox {a b:List (List Nat)}{hp:HP}{neg:Bool}(ha:zee a) (hb:zee b):za6 neg hp (.d (zap a)) (.d (zap b))=some (.d (.bool (if neg then !decide (a=b) else decide (a=b))),hp):=by
 unfold za6
 dsimp only [zdr]
 rw [zfQ ha,zfQ hb,zj5];rfl
theorem zhb {α β:Type}(f:α->β) (l:List α) (lo hi:Option Int):zaY (l.map f) lo hi=(zaY l lo hi).map f:=by
 unfold zaY
 rw [zrN,List.map_drop,ztW]
theorem zbY {ls:List (List Nat)}{hp:HP}{lo hi:Option Int}(hl:ls.length<=2 ^ 20):zd9 hp (.d (zap ls)) lo hi=some (.d (zap (zaY ls lo hi)),hp):=by
 unfold zd9 zap
 dsimp only [zbl]
 rw [if_pos (za2 (by simpa using hl)),zhb,zhb,zcJ];rfl
theorem zes {ls:List (List Nat)}{hp:HP}{i:Nat}{l:List Nat}(hi:ls[i]?=some l) (hs:i < 2 ^ 62):zdk hp (.d (zap ls)) (.d (.int (i:Int)))=some (.d (.str (T l)),hp):=
 zdy (by refine zr7▸hi▸?_;rfl) hs
theorem zhR {ls:List (List Nat)}{hp:HP}(hl:ls.length<=2 ^ 20):zeG [.d (zap ls)] hp=some (.d (.int (ls.length:Int)),hp):=by
 refine Eq.trans (if_pos (za2 (by simpa using hl))) ?_
 simp
theorem zcN {r:St->Option (List V × HP)}{st:St}{ls:List (List Nat)}{h:HP}(e:r st=some (ls.map vS,h)) (hl:ls.length<=2 ^ 20):zbD r st=some (.d (zap ls),h):=by
 refine ze0 (xs:=ls.map λl=>.str (T l)) (e.trans ?_) (by simpa using hl)
 refine (Eq.symm zrW)▸?_;rfl
noncomputable def UnitOk (y:List Nat) (c:Nat):Prop:=y=escC c\/((c=94\/c=91)/\y=[92,c])
theorem UnitOk.snoc {y:List Nat}{c:Nat}(h:UnitOk y c):∃ y0,y=y0++[c]/\y0.length<=1/\okL y0:=by
 have h1:∀ x,x ∈ ([92]:List Nat)->x < 1114112:=λx hx=>by simp at hx;exact (zrt (leq hx) (by lia))
 rcases h with rfl | ⟨_,rfl⟩
 ·unfold escC
  split
  ·exact ⟨[92],rfl,by exact zrD _,h1⟩
  ·exact ⟨[],rfl,by exact zr2 _,λx hx=>absurd hx zrq⟩
 ·exact ⟨[92],rfl,by exact zrD _,h1⟩
theorem zns:("&-\\|~":zS)=T [38,45,92,124,126]:=by decide +kernel
theorem zl8:("\\^":zS)=T [92,94]:=by decide +kernel
theorem zj8 (c:Nat):(c ∈ ([38,45,92,124,126]:List Nat))↔(c=92\/c=45\/zcH c=true):=by
 constructor
 ·intro h
  rcases zrs.mp h with h | h
  ·exact .inr (.inr (h▸rfl))
  rcases zrs.mp h with h | h
  ·exact .inr (.inl h)
  rcases zrs.mp h with h | h
  ·exact .inl h
  rcases zrs.mp h with h | h
  ·exact .inr (.inr (h▸rfl))
  ·exact .inr (.inr (zr3.mp h▸rfl))
 ·rintro (h | h | h)
  ·exact h▸.tail _ (.tail _ (.head _))
  ·exact h▸.tail _ (.head _)
  ·rcases zug.mp h with h | h
   ·rcases zug.mp h with h | h
    ·exact eq_of_beq h▸.head _
    ·exact eq_of_beq h▸.tail _ (.tail _ (.tail _ (.head _)))
   ·exact eq_of_beq h▸.tail _ (.tail _ (.tail _ (.tail _ (.head _))))
theorem zoI {y:List Nat}{ls:List (List Nat)}{hp:HP}(h:zee ls) (hy:okL y):zac (inD false) hp (.d (.str (T y))) (.d (zap ls))=some (.d (.bool (decide (y ∈ ls))),hp):=by
 have e:inD false (.str (T y)) (zap ls)=some (.bool (decide (y ∈ ls))):=by
  show (if (shp (zap ls) && shp (.str (T y)))=true then some (PyData.bool ((ls.map λl=>PyData.str (T l)).any λz=>PyData.eqv z (.str (T y)))) else none)=_
  refine (Eq.symm (zfQ h))▸(Eq.symm (znJ hy))▸?_
  dsimp
  congr 2
  rw [ztd,ztp,decide_eq_true_eq]
  constructor
  ·rintro ⟨z,hz,hq⟩
   (refine Eea (zsz.mp hz) λl hl q0=>?_;subst q0)
   rw [zlN] at hq
   refine (of_decide_eq_true hq)▸?_;exact hl
  ·intro hm
   exact ⟨.str (T y),zsz.mpr ⟨y,hm,rfl⟩,by rw [zlN];exact decide_eq_true rfl⟩
 rw [zcY]
 refine (congrArg _ e).trans ?_;rfl
theorem zeR {k c:Nat}{y:List Nat}{hp:HP}(h:UnitOk y c) (hc:c < 1114112):zcb k [.d (.str (T y))] hp=some (.d (.int (c:Int)),hp):=by
 refine zkD h.snoc λy0 hy hy0 hok0=>?_
 have hokY:okL y:=by rw [hy];exact okL_app.mpr ⟨hok0,ok1 hc⟩
 refine zbG rfl ?_
 show Runs (zgp k) ⟨[oS y,none],hp⟩ _
 have hlast:∀ o,za4 (zae 0) (zde (zal (.int 1))) ⟨[oS y,o],hp⟩=some (.d (.str (T [c])),hp):=λo=>
  zag (a:=.d (.str (T y))) (b:=.d (.int (-1))) (h1:=hp) (h2:=hp) rfl rfl (by refine hy▸?_;exact zeY)
 have htest:zay (zat (zac (inD false)) (za4 (zae 0) (zde (zal (.int 1)))) (zal (.str ("&-\\|~":zS)))) ⟨[oS y,none],hp⟩=some (decide (c ∈ ([38,45,92,124,126]:List Nat)),hp):=
  zaB (zag (hlast none) (zaG zns) (inS.trans rfl))
 have hplain:zdT (zay (zat (zac (inD false)) (za4 (zae 0) (zde (zal (.int 1)))) (zal (.str ("&-\\|~":zS))))) (zat (zac zbg) (zal (.str ("\\":PySem.Str))) (za4 (zae 0) (zde (zal (.int 1))))) (za4 (zae 0) (zde (zal (.int 1)))) ⟨[oS y,none],hp⟩=some (.d (.str (T (escC c))),hp):=by
  unfold escC
  by_cases hq:c=92\/c=45\/zcH c=true
  ·refine (if_pos hq)▸?_
   rw [decide_eq_true ((zj8 c).mpr hq)] at htest
   exact zer htest (zag (zaG zgY) (hlast none) (zkG (by exact zrw _) (by exact zrw _)))
  ·refine (if_neg hq)▸?_
   rw [decide_eq_false (λq=>hq ((zj8 c).mp q))] at htest
   exact zfw htest (hlast none)
 refine Runs.seq (st1:=⟨[oS y,oS (escC c)],hp⟩) (zaD hplain rfl) ?_
 have hokE:zee [escC c,[92,94],[92,91]]:=λl hl=>by
  simp only [zrs,zrq,or_false] at hl
  rcases hl with rfl | rfl | rfl
  ·exact zd4 hc
  ·intro x hx;simp at hx;lia
  ·intro x hx;simp at hx;lia
 have hin:zay (zat (zac (inD false)) (zae 0) (zbD (zaf (zae 1) (zaf (zal (.str ("\\^":zS))) (zaf (zal (.str ("\\[":zS))) (zaw)))))) ⟨[oS y,oS (escC c)],hp⟩=some (true,hp):=by
  refine zaB (zag (a:=.d (.str (T y))) (h1:=hp) rfl (zcN (ls:=[escC c,[92,94],[92,91]]) (h:=hp) (zaj (v:=vS (escC c)) (h:=hp) rfl (zaj (zaG zl8) (zaj (zaG zl9) rfl))) (zN rfl)) ((zoI hokE hokY).trans ?_))
  rw [decide_eq_true]
  rcases h with rfl | ⟨h | h,rfl⟩
  ·exact .head _
  ·refine (Eq.symm h)▸?_;exact .tail _ (.head _)
  ·refine (Eq.symm h)▸?_;exact .tail _ (.tail _ (.head _))
 exact Runs.of (zbA (zer hin (zaE (vs:=[.d (.str (T [c]))]) (h:=hp) (zaj (hlast _) rfl) rfl))) ⟨rfl,[],by simp⟩
end Mine
namespace Mine
open PySem PySem.W PySem.Spec PySem.Calls PyProof.Rows PySem.Builtin PySem.Builtin.Str
noncomputable def zcv:El->List (List Nat)
 | .lone _=>[]
 | .rng _ b=>[[45],escC b]
noncomputable def uF (e:El):List (List Nat):=escC e.fst::zcv e
noncomputable def rg1:El->Int × Int
 | .lone c=>((c:Int),(c:Int))
 | .rng a b=>((a:Int),(b:Int))
noncomputable def LU (els:List El) (left:List (List Nat)):Prop:=(els=[]/\left=[])\/∃ e r y,els=e::r/\UnitOk y e.fst/\left=y::(zcv e++r.flatMap uF)
theorem LU.of (els:List El):LU els (els.flatMap uF):=by
 cases els with
 | nil=>exact .inl ⟨rfl,rfl⟩
 | cons e r=>exact .inr ⟨e,r,_,rfl,.inl rfl,by refine Eq.trans zrp ?_;rfl⟩
theorem zlO (c:Nat):escC c≠[45]:=by
 unfold escC
 split
 ·simp
 ·rename_i h;intro q;simp at q;exact h (.inr (.inl q))
theorem zpl (r:List El):(r.flatMap uF).take 1≠[[45]]:=by
 cases r with
 | nil=>decide
 | cons e r=>
  rw [zrp]
  show [escC e.fst]≠[[45]]
  intro q
  simp at q
  exact zlO _ q
theorem zoW:∀ els:List El,okL (els.flatMap El.txt)->zee (els.flatMap uF):=by
 intro zz
 induction zz with
 | nil=>
  intro _
  exact λl hl=>absurd hl zrq
 | cons e r ih=>
  intro h
  rw [zrp] at h
  obtain ⟨h1,h2⟩:=okL_app.mp h
  intro l hl
  rw [zrp] at hl
  rcases zrU.mp hl with q | q
  ·cases e with
   | lone c=>simp [uF,zcv] at q;rw [q];exact zd4 (h1 c (by constructor))
   | rng a b=>
    simp [uF,zcv] at q
    rcases q with rfl | rfl | rfl
    ·exact zd4 (h1 a (by constructor))
    ·intro x hx;simp at hx;exact (zrt (leq hx) (by lia))
    ·exact zd4 (h1 b (by simp [El.txt]))
  ·exact ih h2 l q
theorem LU.ok {els:List El}{left:List (List Nat)}(h:LU els left) (hok:okL (els.flatMap El.txt)):zee left:=by
 rcases h with ⟨_,rfl⟩ | ⟨e,r,y,rfl,hy,rfl⟩
 ·exact λl hl=>absurd hl zrq
 ·have h2:=zoW (e::r) hok
  intro l hl
  rcases zrs.mp hl with q | q
  ·rw [q]
   refine zkD hy.snoc λy0 e1 Z e3=>?_
   rw [e1]
   exact okL_app.mpr ⟨e3,ok1 (hok _ (by rw [zrp];cases e <;> exact .head _))⟩
  ·exact h2 l (by rw [zrp];exact .tail _ q)
theorem znL (y:List Nat) (rest:List (List Nat)):zaY (y::rest) (some 1) (some 2)=rest.take 1:=by
 unfold zaY hiB loB zb1
 dsimp only
 rw [if_neg (by decide),if_neg (by decide)]
 cases rest with
 | nil=>exact zsf _
 | cons a b=>exact zsf _
theorem zpc (y:List Nat) (rest:List (List Nat)):zaY (y::rest) (some 1) none=rest:=by
 unfold zaY hiB loB zb1
 dsimp only
 rw [if_neg (by decide)]
 simp
theorem zpd (x y z:List Nat) (rest:List (List Nat)):zaY (x::y::z::rest) (some 3) none=rest:=by
 unfold zaY hiB loB zb1
 dsimp only
 rw [if_neg (by decide)]
 refine (show min (3:Int).toNat (x::y::z::rest).length=3 from zse (by simp))▸zs2▸?_
 rfl
noncomputable abbrev zqK:St->Option (Bool × HP):=zcV (zay (zat (za6 false) (zaR (zae 6) (zal (.int 1)) (zal (.int 2))) (zbD (zaf (zal (.str ("-":zS))) (zaw))))) (zcV (zay (zat (zac gtD) (zaV (zeG) (zaf (zae 6) (zaw))) (zal (.int 2)))) (zbq true))
noncomputable abbrev readB (k:Nat):St->Option (Fl × St):=(zau (doM (zdT (zcV (zay (zat (za6 false) (zaR (zae 6) (zal (.int 1)) (zal (.int 2))) (zbD (zaf (zal (.str ("-":zS))) (zaw))))) (zcV (zay (zat (zac gtD) (zaV (zeG) (zaf (zae 6) (zaw))) (zal (.int 2)))) (zbq true))) (zbD (zaf (za4 (zae 6) (zal (.int 0))) (zaf (za4 (zae 6) (zal (.int 2))) (zaw)))) (zbD (zaf (za4 (zae 6) (zal (.int 0))) (zaf (za4 (zae 6) (zal (.int 0))) (zaw))))) (zaC 7)) (zau (zbm (zbz zeF zeh (zae 5) (zaf (zc1 (zaf (zaV (zcb k) (zaf (za4 (zae 7) (zal (.int 0))) (zaw))) (zaf (zaV (zcb k) (zaf (za4 (zae 7) (zal (.int 1))) (zaw))) (zaw)))) (zaw)))) (zau (doM (zdT (zcV (zay (zat (za6 false) (zaR (zae 6) (zal (.int 1)) (zal (.int 2))) (zbD (zaf (zal (.str ("-":zS))) (zaw))))) (zcV (zay (zat (zac gtD) (zaV (zeG) (zaf (zae 6) (zaw))) (zal (.int 2)))) (zbq true))) (zaR (zae 6) (zal (.int 3)) (zal .none)) (zaR (zae 6) (zal (.int 1)) (zal .none))) (zaC 6)) (zas .next))))
section
variable {c0 c1 c2 c3 c4:Option V}{g:Nat}
theorem zmq {k:Nat}{e:El}{r:List El}{y:List Nat}{left:List (List Nat)}{out:List (Int × Int)}{hp:HP}{c7:Option V}(hleft:left=y::(zcv e++r.flatMap uF)) (hy:UnitOk y e.fst) (hok:okL ((e::r).flatMap El.txt)) (hokL:zee left) (hl:left.length<=2 ^ 10) (hg:hp[g]?=some (some (out.map vp))) (hol:out.length<=2 ^ 20) :
  ∃ c7',readB k ⟨[c0,c1,c2,c3,c4,oL g,oD (zap left),c7],hp⟩=some (.next,⟨[c0,c1,c2,c3,c4,oL g,oD (zap (r.flatMap uF)),c7'],hp.set g (some ((out++[rg1 e]).map vp))⟩):=by
 have htest:∀ (o:Option V) (hp:HP),zqK ⟨[c0,c1,c2,c3,c4,oL g,oD (zap left),o],hp⟩=some (!e.isLone,hp):=λo hp=>by
  have hsl:zaR (zae 6) (zal (.int 1)) (zal (.int 2)) ⟨[c0,c1,c2,c3,c4,oL g,oD (zap left),o],hp⟩=some (.d (zap ((zcv e++r.flatMap uF).take 1)),hp):=by
   refine za9 (a:=.d (zap left)) (lo:=some 1) (hi:=some 2) (h1:=hp) (h2:=hp) (h3:=hp) rfl rfl rfl ((zbY (by exact zrn hl (zN rfl))).trans ?_)
   rw [hleft,znL]
  have hok1:zee ((zcv e++r.flatMap uF).take 1):=λl hl=>hokL l (by rw [hleft];exact .tail _ (List.mem_of_mem_take hl))
  have hok2:zee [[45]]:=λl hl=>by simp at hl;rw [hl];exact ok1 (by decide)
  have heq:=zaB (zag hsl (zcN (ls:=[[45]]) (h:=hp) (zaj (r:=zaw) (zaG zb5) rfl) (by exact zrw _)) (zox (neg:=false) hok1 hok2))
  cases e with
  | lone c=>
   rw [decide_eq_false (show (zcv (.lone c)++r.flatMap uF).take 1≠[[45]] from zpl r)] at heq
   exact zfr heq
  | rng a b=>
   rw [decide_eq_true (show (zcv (.rng a b)++r.flatMap uF).take 1=[[45]] from rfl)] at heq
   refine zc6 heq (zc6 (zaB (zag (a:=.d (.int (left.length:Int))) (b:=.d (.int 2)) (h1:=hp) (h2:=hp) (zaE (vs:=[.d (zap left)]) (h:=hp) rfl (zhR (zrn (m:=1024) (k:=1048576) hl (by lia)))) rfl ?_)) rfl)
   show some (V.d (.bool (decide ((2:Int) < (left.length:Int)))),hp)=_
   rw [decide_eq_true (by rw [hleft];simp [zcv];exact (ifk (zrB ((zuj (λa=>(uF a).length) r).sum)) (by lia)))]
 have hfst:e.fst < 1114112:=hok _ (by rw [zrp];cases e <;> exact .head _)
 have hget:∀ (i:Nat) (l:List Nat) (ls:List (List Nat)) (o:Option V) (hp:HP),ls[i]?=some l->i < 2 ^ 62->za4 (zae 7) (zal (.int (i:Int))) ⟨[c0,c1,c2,c3,c4,oL g,o,oD (zap ls)],hp⟩=some (.d (.str (T l)),hp):=λi l ls o hp h1 h2=>
  zag (a:=.d (zap ls)) (b:=.d (.int (i:Int))) (h1:=hp) (h2:=hp) rfl rfl (zes h1 h2)
 have hget6:∀ (i:Nat) (l:List Nat) (o:Option V),left[i]?=some l->i < 2 ^ 62->za4 (zae 6) (zal (.int (i:Int))) ⟨[c0,c1,c2,c3,c4,oL g,oD (zap left),o],hp⟩=some (vS l,hp):=λi l o h1 h2=>
  zag (a:=.d (zap left)) (b:=.d (.int (i:Int))) (h1:=hp) (h2:=hp) rfl rfl (zes h1 h2)
 cases e with
 | lone c=>
  have hends:=zfw (a:=zbD (zaf (za4 (zae 6) (zal (.int 0))) (zaf (za4 (zae 6) (zal (.int 2))) (zaw)))) (b:=zbD (zaf (za4 (zae 6) (zal (.int 0))) (zaf (za4 (zae 6) (zal (.int 0))) (zaw)))) (htest c7 hp) (zcN (ls:=[y,y]) (zaj (hget6 0 y c7 (by refine hleft▸?_;rfl) (by decide)) (zaj (hget6 0 y c7 (by refine hleft▸?_;rfl) (by decide)) rfl)) (zN rfl))
  have hcode:=zeR (k:=k) (hp:=hp) hy hfst
  refine ⟨oD (zap [y,y]),zam (zaD hends rfl) (zam (zbh (v:=.d .none) (zbk (v:=.l g) (vs:=[vp ((c:Int),(c:Int))]) (h:=hp) (h':=hp) rfl (zcL hg) (zaj (v:=vp ((c:Int),(c:Int))) (h:=hp) (zbN (xs:=[.int (c:Int),.int (c:Int)]) (zaj (zaE (zaj (hget 0 y [y,y] _ hp rfl (by decide)) rfl) hcode) (zaj (zaE (zaj (hget 1 y [y,y] _ hp rfl (by decide)) rfl) hcode) rfl)) (zN rfl)) rfl) (zfW hg hol))) (zam (zaD (zfw (htest _ _) (za9 (a:=.d (zap left)) (lo:=some 1) (hi:=none) (h1:=hp.set g (some ((out++[((c:Int),(c:Int))]).map vp))) (h2:=hp.set g (some ((out++[((c:Int),(c:Int))]).map vp))) (h3:=hp.set g (some ((out++[((c:Int),(c:Int))]).map vp))) rfl rfl rfl ((zbY (zrn (m:=1024) (k:=1048576) hl (by lia))).trans (by rw [hleft,zpc];rfl)))) rfl) rfl))⟩
 | rng a b=>
  have hb:b < 1114112:=hok b (by rw [zrp];simp [El.txt])
  have hends:=zer (a:=zbD (zaf (za4 (zae 6) (zal (.int 0))) (zaf (za4 (zae 6) (zal (.int 2))) (zaw)))) (b:=zbD (zaf (za4 (zae 6) (zal (.int 0))) (zaf (za4 (zae 6) (zal (.int 0))) (zaw)))) (htest c7 hp) (zcN (ls:=[y,escC b]) (zaj (hget6 0 y c7 (by refine hleft▸?_;rfl) (by decide)) (zaj (hget6 2 (escC b) c7 (by refine hleft▸?_;rfl) (by decide)) rfl)) (zN rfl))
  have hcode:=zeR (k:=k) (hp:=hp) hy hfst
  have hcode2:=zeR (k:=k) (hp:=hp) (y:=escC b) (c:=b) (.inl rfl) hb
  refine ⟨oD (zap [y,escC b]),zam (zaD hends rfl) (zam (zbh (v:=.d .none) (zbk (v:=.l g) (vs:=[vp ((a:Int),(b:Int))]) (h:=hp) (h':=hp) rfl (zcL hg) (zaj (v:=vp ((a:Int),(b:Int))) (h:=hp) (zbN (xs:=[.int (a:Int),.int (b:Int)]) (zaj (zaE (zaj (hget 0 y [y,escC b] _ hp rfl (by decide)) rfl) hcode) (zaj (zaE (zaj (hget 1 (escC b) [y,escC b] _ hp rfl (by decide)) rfl) hcode2) rfl)) (zN rfl)) rfl) (zfW hg hol))) (zam (zaD (zer (htest _ _) (za9 (a:=.d (zap left)) (lo:=some 3) (hi:=none) (h1:=hp.set g (some ((out++[((a:Int),(b:Int))]).map vp))) (h2:=hp.set g (some ((out++[((a:Int),(b:Int))]).map vp))) (h3:=hp.set g (some ((out++[((a:Int),(b:Int))]).map vp))) rfl rfl rfl ((zbY (by lia)).trans (by refine hleft▸?_;show some (V.d (zap (zaY (y::[45]::escC b::r.flatMap uF) (some 3) none)),_)=_;rw [zpd];rfl)))) rfl) rfl))⟩
theorem zoi:∀ els:List El,(els.flatMap uF).length<=3 * els.length:=by
 intro zz
 induction zz with
 | nil=>
  exact zrv _
 | cons e r ih=>
  have:=ih
  rw [zrp,zro,zrr]
  have h:(uF e).length<=3:=by cases e <;> simp [uF,zcv]
  exact zrn (zrY h this) (zss (by rw [zt8,zst]))
inductive RdI (els:List El) (out:List (Int × Int)) (c0 c1 c2 c3 c4:Option V) (g:Nat) (hp:HP) (m:Nat) (st:St):Prop
 | mk:∀ es:List El,∀ lf:List (List Nat),∀ o:List (Int × Int),∀ x7:Option V,m=es.length->LU es lf->okL (es.flatMap El.txt)->es.length<=2 ^ 8->o.length + es.length<=2 ^ 10->o++es.map rg1=out++els.map rg1->st=⟨[c0,c1,c2,c3,c4,oL g,oD (zap lf),x7],hp.set g (some (o.map vp))⟩->RdI els out c0 c1 c2 c3 c4 g hp m st
theorem zmp {k:Nat}{els:List El}{left:List (List Nat)}{out:List (Int × Int)}{hp:HP}{c7:Option V}{D:St->Option (Fl × St)}{Q:Fl->St->Prop}(h:LU els left) (hok:okL (els.flatMap El.txt)) (hcnt:els.length<=2 ^ 8) (hk:els.length < k) (hg:hp[g]?=some (some (out.map vp))) (hol:out.length<=2 ^ 8)
  (hD:∀ c7',Runs D ⟨[c0,c1,c2,c3,c4,oL g,oD (zap []),c7'],hp.set g (some ((out++els.map rg1).map vp))⟩ Q) :
  Runs (zau (zba (zay (zat (za6 true) (zae 6) (zbD (zaw)))) (readB k) k) D) ⟨[c0,c1,c2,c3,c4,oL g,oD (zap left),c7],hp⟩ Q:=by
 have hgl:=zcr hg
 refine Runs.seqR (Runs.while (RdI els out c0 c1 c2 c3 c4 g hp) ?_ k els.length _ hk ⟨els,left,out,c7,rfl,h,hok,hcnt,by exact (fk (r:=1024) (al2 (b:=256) (d:=256) hcnt hol) (by lia)),rfl,by rw [zcp hg]⟩)
 rintro m st ⟨es,lf,o,x7,rfl,hLU,hok',hc',ho',hsum,rfl⟩
 have hg':(hp.set g (some (o.map vp)))[g]?=some (some (o.map vp)):=zru hgl
 have hokF:=hLU.ok hok'
 have htest:zay (zat (za6 true) (zae 6) (zbD (zaw))) ⟨[c0,c1,c2,c3,c4,oL g,oD (zap lf),x7],hp.set g (some (o.map vp))⟩=some (!decide (lf=[]),hp.set g (some (o.map vp))):=
  zaB (zag (a:=.d (zap lf)) (b:=.d (zap [])) (h1:=hp.set g (some (o.map vp))) (h2:=hp.set g (some (o.map vp))) rfl rfl (zox (neg:=true) hokF (λl hl=>absurd hl zrq)))
 rcases hLU with ⟨rfl,rfl⟩ | ⟨e,r,y,rfl,hy,hlf⟩
 ·refine ⟨false,_,htest,λZ=>⟨rfl,?_⟩,(λh=>by exact zdo h)⟩
  have:=hD x7
  rw [<- hsum,zux,zrE] at this
  exact this
 ·have hne:lf≠[]:=by rw [hlf];simp
  rw [decide_eq_false hne] at htest
  refine ⟨true,_,htest,(λh=>by exact ziL h),λZ=>?_⟩
  have hul:=zoi r
  simp only [zrr] at hc' ho'
  obtain ⟨c7',hst⟩:=zmq (k:=k) (c0:=c0) (c1:=c1) (c2:=c2) (c3:=c3) (c4:=c4) (g:=g) (c7:=x7) hlf hy hok' hokF (by refine hlf▸zrr▸zro▸?_;have h:(zcv e).length<=2:=by { cases e <;> simp [zcv] };exact (fk (r:=1024) (al2 (al2 (ml2 (b:=256) 3 hc') hul) h) (by lia))) hg' (fk (r:=1048576) (R:=1024) ho' (by lia))
  rw [zrX] at hst
  rw [zrp] at hok'
  refine Runs.of hst ⟨r.length,by exact zrD _,r,r.flatMap uF,o++[rg1 e],c7',rfl,LU.of r,(okL_app.mp hok').2,by exact zrP (by assumption),by simp;exact (zrn (by lia) ho'),by refine hsum▸?_;exact zrx _ _ _,rfl⟩
end
end Mine
namespace Mine
open PySem PySem.W PySem.Spec PySem.Calls PyProof.Rows PySem.Builtin PySem.Builtin.Str
noncomputable def hd4:List (List Nat):=[[40],[63],[115],[58]]
noncomputable def tl2:List (List Nat):=[[41],[92,90]]
theorem zpX:zee (hd4++tl2):=λl hl=>by
 simp only [hd4,tl2,List.cons_append,zsf,zrs,zrq,or_false] at hl
 rcases hl with rfl | rfl | rfl | rfl | rfl | rfl <;> (intro x hx;simp at hx;lia)
theorem okLs_app {a b:List (List Nat)}:zee (a++b)↔zee a/\zee b:=by
 unfold zee;simp only [zrU]
 exact ⟨λh=>⟨λc hc=>h c (.inl hc),λc hc=>h c (.inr hc)⟩,λh c hc=>hc.elim (h.1 c) (h.2 c)⟩
theorem zqN (I:List (List Nat)):zaY (hd4++I++tl2) (some 4) (some (-2))=I:=by
 unfold zaY hiB loB zb1
 dsimp only
 rw [if_neg (by decide),if_pos (by decide)]
 have h1:(-2 + ((hd4++I++tl2).length:Int)).toNat=(hd4++I).length:=by simp [hd4,tl2];lia
 have h2:min (4:Int).toNat (hd4++I++tl2).length=hd4.length:=by rfl
 exact h1▸h2▸ztj▸ztk▸rfl
theorem zrg (I:List (List Nat)):zaY (hd4++I++tl2) none (some 4)=hd4:=by
 unfold zaY hiB loB zb1
 dsimp only
 rw [if_neg (by decide)]
 have h2:min (4:Int).toNat (hd4++I++tl2).length=hd4.length:=by rfl
 rw [h2,zrx,ztj];rfl
theorem zqO (I:List (List Nat)):zaY (hd4++I++tl2) (some (-2)) none=tl2:=by
 unfold zaY hiB loB zb1
 dsimp only
 rw [if_pos (by decide)]
 have h1:(-2 + ((hd4++I++tl2).length:Int)).toNat=(hd4++I).length:=by simp [hd4,tl2];lia
 (refine h1▸zs2▸?_;exact ztk)
theorem zn6:("(":zS)=T [40]:=by decide +kernel
theorem zqF:("s":zS)=T [115]:=by decide +kernel
theorem zma:(":":zS)=T [58]:=by decide +kernel
theorem zn7:(")":zS)=T [41]:=by decide +kernel
theorem zqE:("\\Z":zS)=T [92,90]:=by decide +kernel
noncomputable def spL:List Nat:=[32,35,36,38,40,41,42,43,45,46,63,91,92,93,94,123,124,125,126]
theorem zpU:(" #$&()*+-.?[\\]^{|}~":zS)=T spL:=by decide +kernel
theorem zp9:((zuK 32 95).all λc=>decide (c ∈ spL)==zqb c)=true:=by decide +kernel
theorem zqa {c:Nat}(h1:32<=c) (h2:c < 127):decide (c ∈ spL)=zqb c:=
 eq_of_beq (zs4.mp zp9 c (zsA.mpr ⟨h1,by omega⟩))
theorem zpQ {I a b:List (List Nat)}{hp:HP}(hI:zee I) (ha:zee a) (hb:zee b):zac (inD false) hp (.d (zap I)) (.d (.list [zap a,zap b]))=some (.d (.bool (decide (I=a\/I=b))),hp):=by
 have hsh:shp (.list [zap a,zap b])=true:=by
  have h1:(zap a).canLay0=true:=zhP a ha
  have h2:(zap b).canLay0=true:=zhP b hb
  have h3:(zap a).depth=1:=by show PyData.depthAll _ + 1=1;rw [zeL]
  have h4:(zap b).depth=1:=by show PyData.depthAll _ + 1=1;rw [zeL]
  show ((zap a).canLay0 && ((zap b).canLay0 && true) && decide (max (zap a).depth (max (zap b).depth 0) + 1<=64))=true
  refine (Eq.symm h1)▸(Eq.symm h2)▸(Eq.symm h3)▸(Eq.symm h4)▸?_;rfl
 have e:inD false (zap I) (.list [zap a,zap b])=some (.bool (decide (I=a\/I=b))):=by
  show (if (shp (.list [zap a,zap b]) && shp (zap I))=true then some (PyData.bool ([zap a,zap b].any λz=>PyData.eqv z (zap I))) else none)=_
  refine (Eq.symm hsh)▸(Eq.symm (zfQ hI))▸?_
  simp only [zup,zuX,zj5,zuQ,zuR,if_true]
  congr 2
  rw [ztd]
  simp only [zsJ,decide_eq_true_eq]
  constructor <;> rintro (h | h) <;> simp [h]
 rw [zcY]
 refine (congrArg _ e).trans ?_;rfl
theorem zk3 {xs:List PyData}{x:PyData}{hp:HP}:zdk hp (.d (.list (xs++[x]))) (.d (.int (-1)))=some (.d x,hp):=by
 have e2:seqIndex? (-1) ((xs++[x]).map V.d).length=some xs.length:=by
  unfold seqIndex?
  dsimp
  refine Eq.trans (if_pos (by simp;exact ⟨(zrO (zrB (xs.length)) (by lia)),(by lia)⟩)) ?_
  simp;exact tn1 _
 rw [zcc]
 dsimp only [zbl]
 rw [if_pos (by decide),e2]
 simp
theorem zjs {ls:List (List Nat)}{l:List Nat}{hp:HP}:zdk hp (.d (zap (ls++[l]))) (.d (.int (-1)))=some (.d (.str (T l)),hp):=by
 have:zap (ls++[l])=.list ((ls.map λl=>.str (T l))++[.str (T l)]):=by unfold zap;refine (congrArg _ zrR).trans ?_;rfl
 refine this▸?_;exact zk3
section
variable {I:List (List Nat)}{hp:HP}{Q:Fl->St->Prop}
theorem zgn {D:St->Option (Fl × St)}(hI:I≠[]) (hok:zee I) (hl:I.length<=2 ^ 12)
  (hD:Runs D ⟨[oD (zap (hd4++I++tl2)),oD (zap I),none,none,none,none,none,none],hp⟩ Q) :
  Runs (zau (doM (zaR (zae 0) (zal (.int 4)) (zde (zal (.int 2)))) (zaC 1)) (zau (zbC (orM (zay (zat (za6 true) (zat (zac zbg) (zaR (zae 0) (zal .none) (zal (.int 4))) (zaR (zae 0) (zde (zal (.int 2))) (zal .none))) (zbD (zaf (zal (.str ("(":zS))) (zaf (zal (.str ("?":zS))) (zaf (zal (.str ("s":zS))) (zaf (zal (.str (":":zS))) (zaf (zal (.str (")":zS))) (zaf (zal (.str ("\\Z":zS))) (zaw)))))))))) (orM (zay (zat (za6 false) (zae 1) (zbD (zaw)))) (zbq false))) (zau (zdC (zal .none)) (zas .next)) (zas .next)) D))
   ⟨[oD (zap (hd4++I++tl2)),none,none,none,none,none,none,none],hp⟩ Q:=by
 have hlen:(hd4++I++tl2).length<=2 ^ 20:=by simp [hd4,tl2];exact zrn hl (zN rfl)
 refine Runs.seq (st1:=⟨[oD (zap (hd4++I++tl2)),oD (zap I),none,none,none,none,none,none],hp⟩) (zaD (v:=.d (zap I)) (h:=hp) (za9 (a:=.d (zap (hd4++I++tl2))) (lo:=some 4) (hi:=some (-2)) (h1:=hp) (h2:=hp) (h3:=hp) rfl rfl rfl ((zbY hlen).trans (by rw [zqN]))) rfl) ?_
 have e1:zaR (zae 0) (zal .none) (zal (.int 4)) ⟨[oD (zap (hd4++I++tl2)),oD (zap I),none,none,none,none,none,none],hp⟩=some (.d (zap hd4),hp):=
  za9 (a:=.d (zap (hd4++I++tl2))) (lo:=none) (hi:=some 4) (h1:=hp) (h2:=hp) (h3:=hp) rfl rfl rfl ((zbY hlen).trans (by rfl))
 have e2:zaR (zae 0) (zde (zal (.int 2))) (zal .none) ⟨[oD (zap (hd4++I++tl2)),oD (zap I),none,none,none,none,none,none],hp⟩=some (.d (zap tl2),hp):=
  za9 (a:=.d (zap (hd4++I++tl2))) (lo:=some (-2)) (hi:=none) (h1:=hp) (h2:=hp) (h3:=hp) rfl rfl rfl ((zbY hlen).trans (by rw [zqO]))
 have e3:zat (zac zbg) (zaR (zae 0) (zal .none) (zal (.int 4))) (zaR (zae 0) (zde (zal (.int 2))) (zal .none)) ⟨[oD (zap (hd4++I++tl2)),oD (zap I),none,none,none,none,none,none],hp⟩=some (.d (zap (hd4++tl2)),hp):=
  zag (b:=.d (zap tl2)) e1 e2 (znU (zN rfl) (zN rfl))
 have e4:=zaB (zag e3 (zcN (ls:=hd4++tl2) (h:=hp) (zaj (zaG zn6) (zaj (zaG zjx) (zaj (zaG zqF) (zaj (zaG zma) (zaj (zaG zn7) (zaj (r:=zaw) (zaG zqE) rfl)))))) (zN rfl)) (zox (neg:=true) zpX zpX))
 rw [decide_eq_true rfl] at e4
 have e5:zay (zat (za6 false) (zae 1) (zbD (zaw))) ⟨[oD (zap (hd4++I++tl2)),oD (zap I),none,none,none,none,none,none],hp⟩=some (decide (I=[]),hp):=
  zaB (zag (a:=.d (zap I)) (b:=.d (zap [])) (h1:=hp) (h2:=hp) rfl rfl (zox (neg:=false) hok (λl hl=>absurd hl zrq)))
 rw [decide_eq_false hI] at e5
 exact Runs.seq (zaF (zmk e4 (zmk e5 rfl)) rfl) hD
noncomputable abbrev evI:List (List Nat):=[[40],[63],[33],[41]]
theorem zmh:zee [[46]]:=λl hl=>by simp at hl;rw [hl];exact ok1 (by decide)
theorem zpW:zee evI:=λl hl=>by
 simp only [evI,zrs,zrq,or_false] at hl
 rcases hl with rfl | rfl | rfl | rfl <;> exact ok1 (by decide)
theorem zjV (hok:zee I) {c0 c2 c3 c4 c5 c6 c7:Option V}:zay (zat (zac (inD false)) (zae 1) (zbD (zaf (zbD (zaf (zal (.str (".":zS))) (zaw))) (zaf (zbD (zaf (zal (.str ("(":zS))) (zaf (zal (.str ("?":zS))) (zaf (zal (.str ("!":zS))) (zaf (zal (.str (")":zS))) (zaw)))))) (zaw))))) ⟨[c0,oD (zap I),c2,c3,c4,c5,c6,c7],hp⟩=some (decide (I=[[46]]\/I=evI),hp):=
 zaB (zag (a:=.d (zap I)) (h1:=hp) rfl (ze0 (xs:=[zap [[46]],zap evI]) (zaj (zcN (ls:=[[46]]) (zaj (r:=zaw) (zaG zgg) rfl) (by exact zrw _)) (zaj (r:=zaw) (zcN (ls:=evI) (zaj (zaG zn6) (zaj (zaG zjx) (zaj (zaG zct) (zaj (r:=zaw) (zaG zn7) rfl)))) (zN rfl)) rfl)) (zN rfl)) (zpQ hok zmh zpW))
theorem zd5 {k:Nat}{b:Bool}:zbT k [.d (zap (hd4++(if b then [[46]] else evI)++tl2))] hp=some (.d (.tuple [.bool b,.list []]),hp):=by
 refine zbG rfl ?_
 generalize hI:(if b=true then [[46]] else evI)=I
 have hok:zee I:=by refine hI▸?_;cases b;exact zpW;exact zmh
 refine zgn (by refine hI▸?_;cases b <;> decide) hok (by refine hI▸?_;cases b <;> simp) ?_
 have ht:=zjV (I:=I) (hp:=hp) hok (c0:=oD (zap (hd4++I++tl2))) (c2:=none) (c3:=none) (c4:=none) (c5:=none) (c6:=none) (c7:=none)
 rw [decide_eq_true (by rw [<- hI];cases b;exact .inr rfl;exact .inl rfl)] at ht
 have e1:zat (za6 false) (zae 1) (zbD (zaf (zal (.str (".":zS))) (zaw))) ⟨[oD (zap (hd4++I++tl2)),oD (zap I),none,none,none,none,none,none],hp⟩=some (.d (.bool b),hp):=by
  refine zag (a:=.d (zap I)) (h1:=hp) rfl (zcN (ls:=[[46]]) (zaj (r:=zaw) (zaG zgg) rfl) (by exact zrw _)) ((zox (neg:=false) hok zmh).trans ?_)
  refine hI▸?_
  cases b <;> rfl
 exact Runs.of (zgo (zaZ ht (zbA (zbN (xs:=[.bool b,.list []]) (zaj e1 (zaj rfl rfl)) (zN rfl))))) ⟨rfl,[],by simp⟩
theorem zjm {k c:Nat}(h1:32<=c) (h2:c < 127):zbT k [.d (zap (hd4++[escO c]++tl2))] hp=some (.d (.tuple [.bool false,.list ([((c:Int),(c:Int))].map pv2)]),hp):=by
 have hokc:okL (escO c):=by unfold escO;split <;> (intro x hx;simp at hx;lia)
 have hok:zee [escO c]:=λl hl=>by simp at hl;rw [hl];exact hokc
 obtain ⟨y0,hy,hy0⟩:∃ y0,escO c=y0++[c]/\y0.length<=1:=by
  unfold escO
  split
  ·exact ⟨[92],rfl,by exact zrD _⟩
  ·exact ⟨[],rfl,by exact zr2 _⟩
 refine zbG rfl ?_
 refine zgn (by simp) hok (by exact zrw _) ?_
 have ht:=zjV (I:=[escO c]) (hp:=hp) hok (c0:=oD (zap (hd4++[escO c]++tl2))) (c2:=none) (c3:=none) (c4:=none) (c5:=none) (c6:=none) (c7:=none)
 have hne:¬ ([escO c]=[[46]]\/[escO c]=evI):=by
  rintro (q | q)
  ·simp at q
   unfold escO at q
   split at q
   ·simp at q
   ·rename_i hs
    simp at q
    subst q
    exact hs (by decide)
  ·simp [evI] at q
 rw [decide_eq_false hne] at ht
 refine Runs.seq (zaF ht rfl) ?_
 have hlen:zay (zat (za6 false) (zaV (zeG) (zaf (zae 1) (zaw))) (zal (.int 1))) ⟨[oD (zap (hd4++[escO c]++tl2)),oD (zap [escO c]),none,none,none,none,none,none],hp⟩=some (true,hp):=
  zaB (zag (a:=.d (.int ((([escO c]:List (List Nat)).length:Nat):Int))) (b:=.d (.int 1)) (h1:=hp) (h2:=hp) (zaE (vs:=[.d (zap [escO c])]) (h:=hp) rfl (zhR (by exact zrw _))) rfl ((zen _ _ _).trans rfl))
 have hget:∀ (x2 x3:Option V),za4 (zae 1) (zal (.int 0)) ⟨[oD (zap (hd4++[escO c]++tl2)),oD (zap [escO c]),x2,x3,none,none,none,none],hp⟩=some (.d (.str (T (escO c))),hp):=λx2 x3=>
  zag (a:=.d (zap [escO c])) (b:=.d (.int ((0:Nat):Int))) (h1:=hp) (h2:=hp) rfl rfl (zes rfl (by decide))
 have hsign:za4 (za4 (zae 1) (zal (.int 0))) (zde (zal (.int 1))) ⟨[oD (zap (hd4++[escO c]++tl2)),oD (zap [escO c]),none,none,none,none,none,none],hp⟩=some (.d (.str (T [c])),hp):=
  zag (b:=.d (.int (-1))) (h2:=hp) (hget none none) rfl (by refine hy▸?_;exact zeY)
 have hin:zay (zat (zac (inD false)) (zae 2) (zal (.str (" #$&()*+-.?[\\]^{|}~":zS)))) ⟨[oD (zap (hd4++[escO c]++tl2)),oD (zap [escO c]),oS [c],none,none,none,none,none],hp⟩=some (zqb c,hp):=by
  refine zaB (zag (a:=.d (.str (T [c]))) (h1:=hp) rfl (zaG zpU) (inS.trans ?_))
  refine (Eq.symm (zqa h1 h2))▸?_;rfl
 have hplain:zdT (zay (zat (zac (inD false)) (zae 2) (zal (.str (" #$&()*+-.?[\\]^{|}~":zS))))) (zat (zac zbg) (zal (.str ("\\":PySem.Str))) (zae 2)) (zae 2) ⟨[oD (zap (hd4++[escO c]++tl2)),oD (zap [escO c]),oS [c],none,none,none,none,none],hp⟩=some (.d (.str (T (escO c))),hp):=by
  unfold escO
  cases hs:zqb c with
  | true=>
   rw [hs] at hin
   unfold escO at hin
   refine (if_pos rfl)▸?_
   rw [hs,if_pos rfl] at hin
   exact zer hin (zag (a:=.d (.str (T [92]))) (b:=.d (.str (T [c]))) (zaG zgY) rfl (zkG (by exact zrw _) (by exact zrw _)))
  | false=>
   unfold escO at hin
   rw [hs] at hin
   rw [if_neg (by decide)] at hin ⊢
   exact zfw hin rfl
 have heq:zay (zat (za6 false) (za4 (zae 1) (zal (.int 0))) (zae 3)) ⟨[oD (zap (hd4++[escO c]++tl2)),oD (zap [escO c]),oS [c],oS (escO c),none,none,none,none],hp⟩=some (true,hp):=
  zaB (zag (hget _ _) rfl ((eqS hokc hokc).trans (by rw [decide_eq_true rfl];rfl)))
 have hordc:zaV (zgx) (zaf (zae 2) (zaw)) ⟨[oD (zap (hd4++[escO c]++tl2)),oD (zap [escO c]),oS [c],oS (escO c),none,none,none,none],hp⟩=some (.d (.int (c:Int)),hp):=zaE (vs:=[.d (.str (T [c]))]) (h:=hp) rfl rfl
 refine Runs.of (zgo (zaZ hlen (zam (st1:=⟨[oD (zap (hd4++[escO c]++tl2)),oD (zap [escO c]),oS [c],none,none,none,none,none],hp⟩) (zaD hsign rfl) (zam (st1:=⟨[oD (zap (hd4++[escO c]++tl2)),oD (zap [escO c]),oS [c],oS (escO c),none,none,none,none],hp⟩) (zaD hplain rfl) (zbA (zer heq (zbN (xs:=[.bool false,.list [pv2 ((c:Int),(c:Int))]]) (zaj rfl (zaj (r:=zaw) (ze0 (xs:=[pv2 ((c:Int),(c:Int))]) (zaj (r:=zaw) (zbN (xs:=[.int (c:Int),.int (c:Int)]) (zaj hordc (zaj (r:=zaw) hordc rfl)) (zN rfl)) rfl) (by exact zrw _)) rfl)) (zN rfl)))))))) ⟨rfl,[],by simp⟩
end
end Mine
namespace Mine
open PySem PySem.W PySem.Spec PySem.Calls PyProof.Rows PySem.Builtin PySem.Builtin.Str
noncomputable def zmI (bar:Bool):List (List Nat):=if bar then [[94]] else []
theorem zpb (a b:List Nat) (U:List (List Nat)) (z:List Nat):zaY (a::b::(U++[z])) (some 2) (some (-1))=U:=by
 unfold zaY hiB loB zb1
 dsimp only
 rw [if_neg (by decide),if_pos (by decide)]
 have h1:(-1 + ((a::b::(U++[z])).length:Int)).toNat=(a::b::U).length:=by simp;exact tn3 _
 have h2:min (2:Int).toNat (a::b::(U++[z])).length=2:=zse (zN rfl)
 refine h1▸h2▸(show a::b::(U++[z])=(a::b::U)++[z] from rfl)▸ztj▸?_;rfl
theorem zpa (a:List Nat) (U:List (List Nat)) (z:List Nat):zaY (a::(U++[z])) (some 1) (some (-1))=U:=by
 unfold zaY hiB loB zb1
 dsimp only
 rw [if_neg (by decide),if_pos (by decide)]
 have h1:(-1 + ((a::(U++[z])).length:Int)).toNat=(a::U).length:=by simp;exact tn2 _
 have h2:min (1:Int).toNat (a::(U++[z])).length=1:=zse (by exact zrw _)
 refine h1▸h2▸(show a::(U++[z])=(a::U)++[z] from rfl)▸ztj▸?_;rfl
theorem zeU {k:Nat}{bar:Bool}{els:List El}{U:List (List Nat)}{hp:HP}(hLU:LU els U) (hne:els≠[]) (hok:okL (els.flatMap El.txt)) (hcnt:els.length<=2 ^ 8) (hk:els.length < k) (hU:bar=false->∀ y ∈ U.head?,y≠[94]/\y≠[91]) :
  zbT k [.d (zap (hd4++([91]::(zmI bar++U)++[[93]])++tl2))] hp=some (.d (.tuple [.bool bar,.list ((els.map rg1).map pv2)]),hp):=by
 have hokU:=hLU.ok hok
 obtain ⟨e,r,y,hels,hy,hUe⟩:∃ e r y,els=e::r/\UnitOk y e.fst/\U=y::(zcv e++r.flatMap uF):=by
  rcases hLU with ⟨q,_⟩ | h
  ·exact absurd q hne
  ·exact h
 have hUlen:U.length<=3 * els.length:=by
  have:=zoi r
  refine hUe▸hels▸zrr▸zro▸zrr▸?_
  have h:(zcv e).length<=2:=by cases e <;> simp [zcv]
  exact (fk (al2 this h) (by lia))
 have hUne:U≠[]:=by rw [hUe];simp
 have hokB:zee (zmI bar):=by
  cases bar
  ·exact λl hl=>absurd hl zrq
  ·exact λl hl=>by simp [zmI] at hl;rw [hl];exact ok1 (by decide)
 have hokO:zee [[91]]:=λl hl=>by simp at hl;rw [hl];exact ok1 (by decide)
 have hokC:zee [[93]]:=λl hl=>by simp at hl;rw [hl];exact ok1 (by decide)
 have hbl:(zmI bar).length<=1:=by cases bar <;> simp [zmI]
 generalize hI:[91]::(zmI bar++U)++[[93]]=I
 have hokI:zee I:=by
  refine hI▸?_
  exact okLs_app.mpr ⟨okLs_app (a:=[[91]]).mpr ⟨hokO,okLs_app.mpr ⟨hokB,hokU⟩⟩,hokC⟩
 have hIl:I.length=(zmI bar).length + U.length + 2:=by refine hI▸?_;simp;exact (by lia)
 have hUpos:0 < U.length:=zsh.mpr hUne
 refine zbG rfl ?_
 have hI12:I.length<=2 ^ 12:=(fk (r:=4096) (al2 (al2 (al2 (ml2 (b:=256) 3 hcnt) hUlen) hbl) (leq hIl)) (by lia))
 refine zgn (λq=>by rw [q] at hIl;contradiction) hokI hI12 ?_
 have ht:=zjV (I:=I) (hp:=hp) hokI (c0:=oD (zap (hd4++I++tl2))) (c2:=none) (c3:=none) (c4:=none) (c5:=none) (c6:=none) (c7:=none)
 have hne2:¬ (I=[[46]]\/I=evI):=by
  refine hI▸?_
  rintro (q | q)
  ·simp at q
  ·simp [evI] at q
 rw [decide_eq_false hne2] at ht
 refine Runs.seq (zaF ht rfl) ?_
 have hlen:zay (zat (za6 false) (zaV (zeG) (zaf (zae 1) (zaw))) (zal (.int 1))) ⟨[oD (zap (hd4++I++tl2)),oD (zap I),none,none,none,none,none,none],hp⟩=some (false,hp):=by
  refine zaB (zag (a:=.d (.int (I.length:Int))) (b:=.d (.int 1)) (h1:=hp) (h2:=hp) (zaE (vs:=[.d (zap I)]) (h:=hp) rfl (zhR (zrn hI12 (by decide)))) rfl ((zen _ _ _).trans ?_))
  rw [beq_eq_false_iff_ne.mpr (by lia)]
 refine Runs.seq (zaF hlen rfl) ?_
 obtain ⟨u1,hu1,hu1ok⟩:∃ u1,I[1]?=some u1/\((bar=true/\u1=[94])\/(bar=false/\u1≠[94]/\u1≠[91])):=by
  refine hI▸?_
  cases bar with
  | true=>exact ⟨[94],rfl,.inl ⟨rfl,rfl⟩⟩
  | false=>
   refine ⟨y,by refine hUe▸?_;rfl,.inr ⟨rfl,hU rfl y (by rw [hUe];rfl)⟩⟩
 have hu1L:okL u1:=hokI u1 (zsH hu1)
 have hget:∀ (i:Nat) (l:List Nat) (x4 x5 x6:Option V) (hp:HP),I[i]?=some l->i < 2 ^ 62->za4 (zae 1) (zal (.int (i:Int))) ⟨[oD (zap (hd4++I++tl2)),oD (zap I),none,none,x4,x5,x6,none],hp⟩=some (.d (.str (T l)),hp):=λi l x4 x5 x6 hp h1 h2=>
  zag (a:=.d (zap I)) (b:=.d (.int (i:Int))) (h1:=hp) (h2:=hp) rfl rfl (zes h1 h2)
 have hbarv:zat (za6 false) (za4 (zae 1) (zal (.int 1))) (zal (.str ("^":zS))) ⟨[oD (zap (hd4++I++tl2)),oD (zap I),none,none,none,none,none,none],hp⟩=some (.d (.bool bar),hp):=by
  refine zag (hget 1 u1 none none none hp hu1 (by decide)) (zaG zjw) ((eqS hu1L (ok1 (by decide))).trans ?_)
  rcases hu1ok with ⟨rfl,rfl⟩ | ⟨rfl,h,_⟩
  ·rfl
  ·refine (Eq.symm (decide_eq_false h))▸?_;rfl
 refine Runs.seq (st1:=⟨[oD (zap (hd4++I++tl2)),oD (zap I),none,none,oB bar,oL hp.length,none,none],hp++[some []]⟩) (zc8 (vs:=[.d (.bool bar),.l hp.length]) (h:=hp++[some []]) (zaj hbarv (zaj (v:=.l hp.length) (h:=hp++[some []]) (r:=zaw) rfl rfl)) rfl rfl rfl) ?_
 have hleft:zdT (zbf (zae 4)) (zaR (zae 1) (zal (.int 2)) (zde (zal (.int 1)))) (zaR (zae 1) (zal (.int 1)) (zde (zal (.int 1)))) ⟨[oD (zap (hd4++I++tl2)),oD (zap I),none,none,oB bar,oL hp.length,none,none],hp++[some []]⟩=some (.d (zap U),hp++[some []]):=by
  cases bar with
  | true=>
   refine zer (h:=hp++[some []]) rfl (za9 (a:=.d (zap I)) (lo:=some 2) (hi:=some (-1)) (h1:=hp++[some []]) (h2:=hp++[some []]) (h3:=hp++[some []]) rfl rfl rfl ((zbY (zrn hI12 (by decide))).trans ?_))
   refine hI▸?_
   show some (V.d (zap (zaY ([91]::[94]::(U++[[93]])) (some 2) (some (-1)))),_)=_
   rw [zpb]
  | false=>
   refine zfw (h:=hp++[some []]) rfl (za9 (a:=.d (zap I)) (lo:=some 1) (hi:=some (-1)) (h1:=hp++[some []]) (h2:=hp++[some []]) (h3:=hp++[some []]) rfl rfl rfl ((zbY (zrn hI12 (by decide))).trans ?_))
   refine hI▸?_
   show some (V.d (zap (zaY ([91]::(U++[[93]])) (some 1) (some (-1)))),_)=_
   rw [zpa]
 refine Runs.seq (st1:=⟨[oD (zap (hd4++I++tl2)),oD (zap I),none,none,oB bar,oL hp.length,oD (zap U),none],hp++[some []]⟩) (zaD hleft rfl) ?_
 have t1:zay (zat (za6 true) (za4 (zae 1) (zal (.int 0))) (zal (.str ("[":zS)))) ⟨[oD (zap (hd4++I++tl2)),oD (zap I),none,none,oB bar,oL hp.length,oD (zap U),none],hp++[some []]⟩=some (false,hp++[some []]):=
  (zbo (c:=91) (hget 0 [91] _ _ _ _ (by refine hI▸?_;rfl) (by decide)) zcM (by decide) (by decide)).trans rfl
 have t2:zay (zat (za6 true) (za4 (zae 1) (zde (zal (.int 1)))) (zal (.str ("]":zS)))) ⟨[oD (zap (hd4++I++tl2)),oD (zap I),none,none,oB bar,oL hp.length,oD (zap U),none],hp++[some []]⟩=some (false,hp++[some []]):=
  (zbo (c:=93) (zag (a:=.d (zap I)) (b:=.d (.int (-1))) (h1:=hp++[some []]) (h2:=hp++[some []]) rfl rfl (by refine hI▸?_;exact zjs)) zcC (by decide) (by decide)).trans rfl
 have t3:zay (zat (za6 false) (za4 (zae 1) (zal (.int 1))) (zal (.str ("[":zS)))) ⟨[oD (zap (hd4++I++tl2)),oD (zap I),none,none,oB bar,oL hp.length,oD (zap U),none],hp++[some []]⟩=some (false,hp++[some []]):=by
  refine zaB (zag (hget 1 u1 _ _ _ _ hu1 (by decide)) (zaG zcM) ((eqS hu1L (ok1 (by decide))).trans ?_))
  rcases hu1ok with ⟨_,rfl⟩ | ⟨_,_,h⟩
  ·rfl
  ·refine (Eq.symm (decide_eq_false h))▸?_;rfl
 have t4:zay (zat (za6 false) (zae 6) (zbD (zaw))) ⟨[oD (zap (hd4++I++tl2)),oD (zap I),none,none,oB bar,oL hp.length,oD (zap U),none],hp++[some []]⟩=some (false,hp++[some []]):=by
  refine zaB (zag (a:=.d (zap U)) (b:=.d (zap [])) (h1:=hp++[some []]) (h2:=hp++[some []]) rfl rfl ((zox (neg:=false) hokU (λl hl=>absurd hl zrq)).trans ?_))
  refine (Eq.symm (decide_eq_false hUne))▸?_;rfl
 refine Runs.seq (zaF (zmk t1 (zmk t2 (zmk t3 (zmk t4 rfl)))) rfl) ?_
 refine zmp (out:=[]) hLU hok hcnt hk (zbL _ _) (by simp) λc7'=>?_
 rw [zb6,zsf]
 have hf:zhE (hp++[some ((els.map rg1).map vp)]) (.l hp.length)=some (.d (.list ((els.map rg1).map pv2)),hp++[none]):=by
  exact (zdI (zbL _ _) (zfV _)).trans (by rw [zb6])
 exact Runs.of (zbA (zbN (xs:=[.bool bar,.list ((els.map rg1).map pv2)]) (zaj (v:=.d (.bool bar)) (h:=hp++[some ((els.map rg1).map vp)]) rfl (zaj (r:=zaw) (zn0 (v:=.l hp.length) (h:=hp++[some ((els.map rg1).map vp)]) rfl hf) rfl)) (zN rfl))) ⟨rfl,[none],rfl⟩
end Mine
namespace Mine
open PySem PySem.W PySem.Spec PySem.Calls PyProof.Rows PySem.Builtin PySem.Builtin.Str
structure Un (A:List Nat) (U:List (List Nat)):Prop where
 fin:za7 false A=false
 us:us false A=U
theorem Un.app {A B:List Nat}{U W:List (List Nat)}(h1:Un A U) (h2:Un B W):Un (A++B) (U++W):=by
 refine ⟨?_,?_⟩
 ·rw [zeP,h1.fin];exact h2.fin
 ·rw [zqg,h1.fin,h1.us,h2.us]
theorem Un.nil:Un [] []:=⟨rfl,rfl⟩
theorem Un.esc (c:Nat):Un [92,c] [[92,c]]:=⟨rfl,rfl⟩
theorem Un.one {c:Nat}(h:c≠92):Un [c] [[c]]:=by
 refine ⟨?_,?_⟩
 ·show (if c=92 then za7 true [] else za7 false [])=false
  refine Eq.trans (if_neg h) ?_;rfl
 ·show (if c=92 then Mine.us true [] else [c]::Mine.us false [])=_
  refine Eq.trans (if_neg h) ?_;rfl
theorem Un.escC (c:Nat):Un (escC c) [Mine.escC c]:=by
 unfold Mine.escC
 split
 ·exact Un.esc c
 ·rename_i h;exact Un.one λq=>h (.inl q)
theorem Un.escO (c:Nat):Un (escO c) [Mine.escO c]:=by
 unfold Mine.escO
 split
 ·exact Un.esc c
 ·rename_i h;exact Un.one λq=>h (by refine (congrArg _ q).trans ?_;decide)
theorem Un.el (e:El):Un (zi7 e) (uF e):=by
 cases e with
 | lone c=>exact Un.escC c
 | rng a b=>exact ((Un.escC a).app (Un.one (c:=45) (by decide))).app (Un.escC b)
theorem Un.els:∀ els:List El,Un (els.flatMap zi7) (els.flatMap uF):=by
 intro zz
 induction zz with
 | nil=>
  exact Un.nil
 | cons e r ih=>
  rw [zrp,zrp];exact (Un.el e).app (ih)
theorem Un.wrap {X:List Nat}{U:List (List Nat)}(h:Un X U):Un (zgw X) (hd4++U++tl2):=
 (Un.app (A:=[40,63,115,58]) (U:=hd4) ⟨rfl,rfl⟩ h).app (B:=[41,92,90]) (W:=tl2) ⟨rfl,rfl⟩
noncomputable def noBar (U:List (List Nat)):Prop:=∀ y ∈ U,y≠[124]
theorem noBar.app {A B:List (List Nat)}(h1:noBar A) (h2:noBar B):noBar (A++B):=λy hy=>(zrU.mp hy).elim (h1 y) (h2 y)
theorem zhB (c:Nat):escC c≠[124]:=by
 unfold escC
 split
 ·simp
 ·rename_i h;intro q;simp at q;exact h (.inr (.inr (by refine (congrArg _ q).trans ?_;decide)))
theorem zny:∀ els:List El,noBar (els.flatMap uF):=by
 intro zz
 induction zz with
 | nil=>
  exact λy hy=>absurd hy zrq
 | cons e r ih=>
  rw [zrp]
  refine noBar.app (λy hy=>?_) (ih)
  cases e with
  | lone c=>simp [uF,zcv] at hy;rw [hy];exact zhB c
  | rng a b=>
   simp [uF,zcv] at hy
   rcases hy with rfl | rfl | rfl
   ·exact zhB a
   ·decide
   ·exact zhB b
theorem ze2 {U:List (List Nat)}(h:noBar U):noBar (hd4++U++tl2):=by
 refine noBar.app (noBar.app (λy hy=>?_) h) λy hy=>?_
 ·simp [hd4] at hy;rcases hy with rfl | rfl | rfl | rfl <;> decide
 ·simp [tl2] at hy;rcases hy with rfl | rfl <;> decide
structure zlx (tf:Int->Option Value) (k:Nat) (t:List Nat) (bar:Bool) (rs:List (Int × Int)) (A:List Nat):Prop where
 top:∀ hp,zj9 tf k [.d (.str (T t))] hp=some (.d (.str (T A)),hp)
 seg:zmN A
 ok:okL A
 len:A.length<=2 ^ 12
 read:∀ hp,zbT k [.d (zap (us false A))] hp=some (.d (.tuple [.bool bar,.list (rs.map pv2)]),hp)
 okr:okr rs
 cnt:rs.length<=5
theorem zjA {X:List Nat}(h:okL X):okL (zgw X):=okL_app.mpr ⟨okL_app.mpr ⟨λc hc=>by simp at hc;lia,h⟩,λc hc=>by simp at hc;lia⟩
theorem zhS (X:List Nat):(zgw X).length=X.length + 7:=by unfold zgw;exact zro
theorem zoZ {tf:Int->Option Value}(P:zdW tf) {k c:Nat}(hk:2 ^ 9<=k) (h1:32<=c) (h2:c < 127) (h3:c≠42) (h4:c≠63):zlx tf k [c] false [((c:Int),(c:Int))] (zgw (escO c)):=by
 have hu:=(Un.escO c).wrap
 have hlen:(escO c).length<=2:=by unfold escO;split <;> simp
 refine ⟨λhp=>zf9 P hk (by exact zrn hlen (zN rfl)) (λs1 hp=>?_) hp,⟨hu.fin,λy hy=>?_⟩,zjA ?_,by rw [zhS];exact (fk (r:=4096) hlen (by lia)),λhp=>?_,λr hr=>?_,by exact zrw _⟩
 ·have:=zdw P hk h1 h2 h3 s1 hp
  rw [if_neg h4] at this;exact this
 ·rw [hu.us] at hy
  refine ze2 (λy hy=>?_) y hy
  simp at hy
  rw [hy]
  unfold escO
  split
  ·simp
  ·rename_i hs;intro q;simp at q;exact hs (by refine (congrArg _ q).trans ?_;decide)
 ·unfold escO;split <;> (intro x hx;simp at hx;lia)
 ·rw [hu.us];exact zjm h1 h2
 ·simp at hr;refine hr▸?_;exact zqv (zrv c) (zrZ h2 (by decide))
theorem zoY {tf:Int->Option Value}(P:zdW tf) {k:Nat}(hk:2 ^ 9<=k):zlx tf k [63] true [] (zgw [46]):=by
 have hu:=(Un.one (c:=46) (by decide)).wrap
 refine ⟨λhp=>zf9 P hk (by exact zrw _) (λs1 hp=>zdw P (c:=63) hk (by decide) (by decide) (by decide) s1 hp) hp,⟨hu.fin,λy hy=>?_⟩,zjA (ok1 (by decide)),by rw [zhS];exact zN rfl,λhp=>?_,λr hr=>absurd hr zrq,by exact zr2 _⟩
 ·rw [hu.us] at hy
  exact ze2 (λy hy=>by simp at hy;rw [hy];decide) y hy
 ·refine hu.us▸?_;exact zd5 (b:=true)
noncomputable def trE (tr:Bool):List El:=if tr then [.lone 45] else []
theorem zfH (els:List El) (tr:Bool):zbF els tr=(els.filter zaN++trE tr).flatMap zi7:=by
 rw [zr1]
 cases tr <;> rfl
noncomputable def zgH (els:List El) (tr:Bool):List (Int × Int):=(els.filter zaN++trE tr).map rg1
theorem zqL:∀ els:List El,okL (els.flatMap El.txt)->(∀ e ∈ els,zaN e=true)->okr (els.map rg1):=by
 intro zz
 induction zz with
 | nil=>
  intro _ _
  exact λr hr=>absurd hr zrq
 | cons e r ih=>
  intro h hk
  rw [zrp] at h
  obtain ⟨h1,h2⟩:=okL_app.mp h
  intro x hx
  rcases zrs.mp hx with q | q
  ·refine q▸?_
   cases e with
   | lone c=>
    have:=h1 c (by constructor)
    exact zqv (zrv c) this
   | rng a b=>
    have:=h1 b (by simp [El.txt])
    have hab:a<=b:=of_decide_eq_true (hk _ (.head _))
    exact zqv hab this
  ·exact ih h2 (λe he=>hk e (.tail _ he)) x q
theorem zp1 {tf:Int->Option Value}(P:zdW tf) {k:Nat}(hk:2 ^ 9<=k) {bar tr:Bool}{els:List El}{t:List Nat}(h:zqm bar els tr t) (hc:els.length<=4):zlx tf k t bar (zgH els tr) (zgw (brX bar (zbF els tr))):=by
 have hokE:okL (els.flatMap El.txt):=λc hc=>h.ok c (by rw [h.ht];simp only [zrU,zrs];exact .inl (.inr (.inl (.inr hc))))
 have hokK:okL ((els.filter zaN++trE tr).flatMap El.txt):=by
  rw [zr1]
  refine okL_app.mpr ⟨zg0 els hokE,?_⟩
  cases tr
  ·exact λc hc=>absurd hc zrq
  ·exact λc hc=>by simp [trE,El.txt] at hc;exact (zrt (leq hc) (by lia))
 have hkeep:∀ e ∈ els.filter zaN++trE tr,zaN e=true:=λe he=>by
  rcases zrU.mp he with q | q
  ·exact (List.mem_filter.mp q).2
  ·cases tr
   ·exact absurd q zrq
   ·simp [trE] at q;refine (congrArg _ q).trans ?_;rfl
 have hfl:(els.filter zaN).length<=els.length:=zsj _ _
 have hcnt:(els.filter zaN++trE tr).length<=5:=by
  rw [zro]
  have:(trE tr).length<=1:=by cases tr <;> simp [trE]
  exact (fk (al2 (al2 hc hfl) this) (by lia))
 have hout:okL (zbF els tr):=by rw [zfH];exact zob _ hokK
 have hlen:(zbF els tr).length<=2 ^ 10:=by
  have h1:=zjB (els.filter zaN)
  have h2:=zc2 els
  have h3:=h.len
  have h4:(els.flatMap El.txt).length<=t.length:=by rw [h.ht];simp only [zrr,zro,zrz];exact (by lia)
  unfold zbF
  rw [zro]
  have:(trF tr).length<=2:=by cases tr <;> simp [trF]
  exact (fk (r:=1024) (al2 (al2 (al2 (al2 h1 (ml2 2 h2)) (ml2 (b:=256) 2 h3)) (ml2 2 h4)) this) (by lia))
 have htop:∀ X,brX bar (zbF els tr)=X->X.length<=2 ^ 10 + 4->True:=λZ Z Z=>trivial
 have hrs:okr (zgH els tr):=zqL _ hokK hkeep
 have hrc:(zgH els tr).length<=5:=by unfold zgH;rw [zrN];exact hcnt
 have key:∃ U,Un (brX bar (zbF els tr)) U/\noBar U/\okL (brX bar (zbF els tr))/\∀ hp,zbT k [.d (zap (hd4++U++tl2))] hp=some (.d (.tuple [.bool bar,.list ((zgH els tr).map pv2)]),hp):=by
  have hun:=Un.els (els.filter zaN++trE tr)
  have hnb:=zny (els.filter zaN++trE tr)
  rw [<- zfH] at hun
  unfold zgH
  generalize hes:els.filter zaN++trE tr=es at *
  cases hes2:es with
  | nil=>
   have h0:zbF els tr=[]:=by rw [zfH,hes,hes2];rfl
   refine h0▸?_
   unfold brX
   refine (if_pos rfl)▸?_
   cases bar with
   | true=>exact ⟨[[46]],Un.one (by decide),λy hy=>by simp at hy;rw [hy];decide,ok1 (by decide),λhp=>zd5 (b:=true)⟩
   | false=>
    refine ⟨evI,⟨rfl,rfl⟩,λy hy=>?_,λc hc=>by simp at hc;lia,λhp=>zd5 (b:=false)⟩
    simp [evI] at hy
    rcases hy with rfl | rfl | rfl | rfl <;> decide
  | cons e r=>
   subst hes2
   have hoe:zbF els tr=escC e.fst++(zbF els tr).drop (escC e.fst).length:=by
    rw [zfH,hes,zrp]
    have:∃ z,zi7 e=escC e.fst++z:=by
     cases e with
     | lone c=>exact ⟨[],by simp [zi7,El.fst]⟩
     | rng a b=>exact ⟨[45]++escC b,by exact zrx _ _ _⟩
    (refine Ee this ?_;clear this;intro z hz)
    rw [hz,zrx,ztk]
   have hfst:e.fst≠33:=by
    have h1:e ∈ els.filter zaN++trE tr:=by rw [hes];exact .head _
    rcases zrU.mp h1 with q | q
    ·exact ziJ els h.sg _ (zs5.mpr ⟨e,q,by cases e <;> exact .head _⟩)
    ·cases tr
     ·exact absurd q zrq
     ·simp [trE] at q;refine q▸?_;show 45≠33;decide
   have hne:zbF els tr≠[]:=by rw [hoe];exact λq=>(zeo hfst).2 (zt0.mp q).1
   have hhead:zcB (zbF els tr)=zcB (escC e.fst):=by (refine (congrArg _ hoe).trans ?_;exact (zeW (zeo hfst).2))
   have hLU:LU (e::r) ((e::r).flatMap uF):=LU.of _
   unfold brX
   refine (if_neg hne)▸?_
   cases bar with
   | true=>
    refine ⟨[91]::(zmI true++(e::r).flatMap uF)++[[93]],?_,?_,?_,λhp=>zeU hLU (by simp) hokK (by exact zry hcnt (zN rfl)) (fk (al2 (a:=512) hk hcnt) (by lia)) (λq=>by exact ziL q)⟩
    ·exact ((Un.one (c:=91) (by decide)).app ((Un.one (c:=94) (by decide)).app hun)).app (Un.one (c:=93) (by decide))
    ·refine noBar.app (noBar.app (A:=[[91]]) (λy hy=>by simp at hy;rw [hy];decide) (noBar.app (A:=[[94]]) (λy hy=>by simp at hy;rw [hy];decide) hnb)) λy hy=>by simp at hy;rw [hy];decide
    ·exact okL_app.mpr ⟨okL_app.mpr ⟨ok1 (by decide),okL_cons.mpr ⟨by decide,hout⟩⟩,ok1 (by decide)⟩
   | false=>
    rw [if_neg (by decide)]
    by_cases hh:zcB (zbF els tr)=94\/zcB (zbF els tr)=91
    ·refine (if_pos hh)▸?_
     have hef:e.fst=94\/e.fst=91:=by
      rw [hhead] at hh
      unfold escC at hh
      split at hh
      ·exact absurd hh (by show ¬ (92=94\/92=91);decide)
      ·exact hh
     have hec:escC e.fst=[e.fst]:=by
      exact (if_neg (by rcases hef with q | q <;> (refine q▸?_;decide)))
     have hcons:zbF els tr=e.fst::(zbF els tr).drop 1:=by
      have:=hoe
      rw [hec] at this
      exact this
     have hUr:us false (zbF els tr)=[e.fst]::us false ((zbF els tr).drop 1):=by
      conv=>lhs;rw [hcons]
      exact (if_neg (by rcases hef with q | q <;> (rw [q];decide)))
     have hFr:za7 false ((zbF els tr).drop 1)=false:=by
      have:=hun.fin
      rw [hcons] at this
      have h2:(if e.fst=92 then za7 true ((zbF els tr).drop 1) else za7 false ((zbF els tr).drop 1))=false:=this
      rw [if_neg (by rcases hef with q | q <;> (rw [q];decide))] at h2
      exact h2
     have hrest:us false ((zbF els tr).drop 1)=zcv e++r.flatMap uF:=by
      have h1:=hun.us
      rw [hUr,zrp] at h1
      have h2:[e.fst]::us false ((zbF els tr).drop 1)=escC e.fst::(zcv e++r.flatMap uF):=h1
      exact (List.cons.inj h2).2
     have hUn2:Un (92::zbF els tr) ([92,e.fst]::(zcv e++r.flatMap uF)):=by
      rw [hcons]
      refine ⟨hFr,?_⟩
      exact congrArg _ hrest
     have hLU2:LU (e::r) ([92,e.fst]::(zcv e++r.flatMap uF)):=.inr ⟨e,r,[92,e.fst],rfl,.inr ⟨hef,rfl⟩,rfl⟩
     refine ⟨[91]::(zmI false++([92,e.fst]::(zcv e++r.flatMap uF)))++[[93]],?_,?_,?_,λhp=>zeU hLU2 (by simp) hokK (zry (k:=256) hcnt (by lia)) (fk (al2 (a:=512) hk hcnt) (by lia)) (λZ y hy=>?_)⟩
     ·exact ((Un.one (c:=91) (by decide)).app hUn2).app (Un.one (c:=93) (by decide))
     ·refine noBar.app (B:=[[93]]) (noBar.app (A:=[[91]]) (B:=[92,e.fst]::(zcv e++r.flatMap uF)) (λy hy=>by simp at hy;rw [hy];decide) λy hy=>?_) λy hy=>by simp at hy;rw [hy];decide
      rcases zrs.mp hy with q | q
      ·rw [q];simp
      ·exact hnb y (by rw [zrp];exact .tail _ q)
     ·exact okL_app.mpr ⟨okL_app.mpr ⟨ok1 (by decide),okL_cons.mpr ⟨by decide,hout⟩⟩,ok1 (by decide)⟩
     ·have hy':[92,e.fst]=y:=Option.some.inj hy
      refine hy'▸?_;simp
    ·refine (if_neg hh)▸?_
     refine ⟨[91]::(zmI false++(e::r).flatMap uF)++[[93]],?_,?_,?_,λhp=>zeU hLU (by simp) hokK (zry (k:=256) hcnt (by lia)) (by lia) (λZ y hy=>?_)⟩
     ·exact ((Un.one (c:=91) (by decide)).app hun).app (Un.one (c:=93) (by decide))
     ·exact noBar.app (noBar.app (A:=[[91]]) (λy hy=>by simp at hy;rw [hy];decide) hnb) λy hy=>by simp at hy;rw [hy];decide
     ·exact okL_app.mpr ⟨okL_app.mpr ⟨ok1 (by decide),hout⟩,ok1 (by decide)⟩
     ·have:y=escC e.fst:=by rw [zrp] at hy;exact (Option.some.inj hy).symm
      refine this▸?_
      rw [hhead] at hh
      refine ⟨λq=>hh (.inl ?_),λq=>hh (.inr ?_)⟩ <;> refine (congrArg _ q).trans ?_ <;> rfl
 (refine zkE key ?_;clear key;intro U k1 k2 k3 k4)
 have hw:=k1.wrap
 have hXl:(brX bar (zbF els tr)).length<=2 ^ 10:=by
  have:(zbF els tr).length<=2 ^ 10 - 4:=by
   have h1:=zjB (els.filter zaN)
   have h2:=zc2 els
   have h3:=h.len
   have h4:(els.flatMap El.txt).length<=t.length:=by rw [h.ht];simp only [zrr,zro,zrz];exact (by lia)
   unfold zbF
   rw [zro]
   have:(trF tr).length<=2:=by cases tr <;> simp [trF]
   lia
  unfold brX
  split
  ·split <;> simp
  ·refine (Eq.symm zro)▸(Eq.symm zro)▸?_
   split
   ·simp only [zrr,zrz];lia
   ·split
    ·simp only [zrr,zrz];lia
    ·simp only [zrr,zrz];lia
 refine ⟨λhp=>zf9 P hk hXl (λs1 hp=>zga P hk h s1 hp) hp,⟨hw.fin,λy hy=>?_⟩,zjA k3,by rw [zhS];exact (fk (r:=4096) (R:=1024) hXl (by lia)),λhp=>?_,hrs,hrc⟩
 ·rw [hw.us] at hy;exact ze2 k2 y hy
 ·rw [hw.us];exact k4 hp
end Mine
namespace Mine
open PySem PySem.W PySem.Spec PySem.Calls PyProof.Rows PySem.Builtin PySem.Builtin.Str
noncomputable def SG:List Nat:=[34,38,39,40,41,42,43,45,63,91,92,94,97,124,126,1114111]
theorem zpx:∀ c ∈ SG,c < 1114112/\c≠33/\c≠93:=by decide
theorem zoS {a b:Int}(hb:0 < b) (hp:HP):∃ r:Nat,(r:Int) < b/\zac (zaP zdd) hp (.d (.int a)) (.d (.int b))=some (.d (.int (r:Int)),hp):=by
 refine ⟨(a % b).toNat,?_,?_⟩
 ·rw [zsr (zte a (zsU (zrJ hb (by lia))))];exact ztF a hb
 ·show ((zdd a b).map PyData.int).map _=_
  unfold zdd
  rw [if_neg (zsU (zrJ hb (by lia))),zsD _ (by exact zsF (by assumption)),zsr (zte a (zsU (zrJ hb (by lia))))];rfl
theorem zeM {a b:Int}(hb:0 < b) (hs:b < 2 ^ 62) (hp:HP):zac (zaP zed) hp (.d (.int a)) (.d (.int b))=some (.d (.int (a.fdiv b)),hp):=by
 show ((zed a b).map PyData.int).map _=_
 unfold zed small
 rw [if_neg]
 ·rfl
 ·simp only [zt2,decide_eq_false_iff_not];exact λq=>q.elim (λe=>zsU hb e) λq=>q.elim (λf=>f (zsu (by decide) hb)) λf=>f hs
theorem zlG {a:Nat}{b:Nat}(hb:0 < b) (hs:b < 2 ^ 62) (hp:HP):zac (zaP zed) hp (.d (.int (a:Int))) (.d (.int (b:Int)))=some (.d (.int ((a / b:Nat):Int)),hp):=by
 rw [zeM (by exact zrS.mpr (by assumption)) (by exact ilt (by assumption)),zsY _ (by exact zrB _)];rfl
theorem zkk {a:Nat}{b:Nat}(hb:0 < b) (hp:HP):zac (zaP zdd) hp (.d (.int (a:Int))) (.d (.int (b:Int)))=some (.d (.int ((a % b:Nat):Int)),hp):=by
 show ((zdd a b).map PyData.int).map _=_
 unfold zdd
 rw [if_neg (by exact (zsU (zrJ (zrS.mpr hb) (by lia)))),zsD _ (by exact zrB _)];rfl
theorem zo0 {i:Nat}(hi:i < 3) (hp:HP):∃ d:Nat,0 < d/\d < 2 ^ 62/\zac (zaP zod) hp (.d (.int 512)) (.d (.int (i:Int)))=some (.d (.int (d:Int)),hp):=by
 have h:∀ j:Nat,j < 3->0 < 512 ^ j/\512 ^ j < 2 ^ 62:=by decide
 refine ⟨512 ^ i,(h i hi).1,(h i hi).2,?_⟩
 show ((zod 512 i).map PyData.int).map _=_
 unfold zod
 rw [if_pos ⟨by exact zrB _,by exact (ifk (zrS.mpr hi) (by simp +arith)),by decide⟩]
 rw [zsp]
 rfl
noncomputable def zfN:Bool->List El->Bool
 | l,[]=>l
 | _,e::r=>zfN e.isLone r
theorem ziC:∀ (els:List El) (l:Bool) (e:El),zfN l (els++[e])=e.isLone:=by
 intro zz
 induction zz with
 | nil=>
  intro _ _
  exact rfl
 | cons x r ih=>
  intro l e
  exact ih x.isLone e
theorem zkM:∀ (els:List El) (l:Bool) (e:El),zek l els->(zfN l els=true->e.fst≠45)->zek l (els++[e]):=by
 intro zz
 induction zz with
 | nil=>
  intro l e _ h
  exact ⟨h,trivial⟩
 | cons x r ih=>
  intro l e h1 h2
  exact ⟨h1.1,ih x.isLone e h1.2 h2⟩
structure DI (els:List El) (lone:Bool):Prop where
 ch:zek false els
 ll:zfN false els=lone
 sg:∀ c ∈ els.flatMap El.txt,c < 1114112/\c≠33
 cl:∀ b0 bs,els.flatMap El.txt=b0::bs->93 ∉ bs
theorem DI.step {els:List El}{lone:Bool}{e:El}(h:DI els lone) (he:∀ c ∈ e.txt,c < 1114112/\c≠33/\c≠93) (hl:lone=true->e.fst≠45):DI (els++[e]) e.isLone:=by
 refine ⟨zkM els false e h.ch λq=>hl (h.ll▸q),ziC els false e,λc hc=>?_,λb0 bs q hm=>?_⟩
 ·rw [zr1] at hc
  rcases zrU.mp hc with q | q
  ·exact h.sg c q
  ·simp at q;exact ⟨(he c q).1,(he c q).2.1⟩
 ·rw [zr1,zrp,zs6,zrE] at q
  cases hx:els.flatMap El.txt with
  | nil=>
   rw [hx,zsf] at q
   exact (he 93 (by rw [q];exact .tail _ hm)).2.2 rfl
  | cons x xs=>
   rw [hx] at q
   have q2:=(List.cons.inj q).2
   rw [<- q2] at hm
   rcases zrU.mp hm with r | r
   ·exact h.cl x xs hx r
   ·exact (he 93 r).2.2 rfl
theorem zmH:∀ els:List El,(els.flatMap El.txt).length<=3 * els.length:=by
 intro zz
 induction zz with
 | nil=>
  exact zrv _
 | cons e r ih=>
  have:=ih
  refine zrp▸zro▸zrr▸?_
  have h:e.txt.length<=3:=by cases e <;> simp [El.txt]
  exact zrn (zrY h this) (zss (by rw [zt8,zst]))
theorem le_sign {a b:Nat}{hp:HP}:zac leD hp (.d (.str (T [a]))) (.d (.str (T [b])))=some (.d (.bool (decide (a<=b))),hp):=by
 show some (V.d (.bool (!decide ([b] < [a]))),hp)=_
 have:([b] < [a])↔b < a:=by
  constructor
  ·intro h
   cases h with
   | rel h=>exact h
   | cons h=>contradiction
  ·exact λh=>.rel h
 rw [decide_eq_decide.mpr this]
 by_cases h:a<=b
 ·rw [decide_eq_true h,decide_eq_false (by exact zsQ.mpr (by assumption))];rfl
 ·refine (decide_eq_false h)▸(decide_eq_true (by exact ztX (by assumption)))▸?_;rfl
theorem znu:("+":zS)=T [43]:=by decide +kernel
noncomputable abbrev zpE:St->Option (Fl × St):=(zau (doM (zat (zac (zaP zdd)) (zat (zac (zaP zed)) (zat (zac (zaP zed)) (zae 2) (zal (.int 18))) (zat (zac (zaP zod)) (zal (.int 512)) (zae 8))) (zal (.int 512))) (zaC 9)) (zau (zcm 2 (zaf (za4 (zae 3) (zat (zac (zaP zdd)) (zat (zac (zaP zed)) (zae 9) (zal (.int 2))) (zal (.int 16)))) (zaf (za4 (zae 3) (zat (zac (zaP zed)) (zae 9) (zal (.int 32)))) (zaw))) (λvs=>(zaI (zaC 11) (zaI (zaC 10) (zcD))) vs.reverse)) (zau (zbC (zcV (zbf (zae 7)) (zcV (zay (zat (za6 false) (zae 10) (zal (.str ("-":zS))))) (zbq true))) (zau (doM (zal (.str ("+":zS))) (zaC 10)) (zas .next)) (zas .next)) (zau (doM (zat (za6 false) (zat (zac (zaP zdd)) (zae 9) (zal (.int 2))) (zal (.int 1))) (zaC 7)) (zau (zbC (zbf (zae 7)) (zau (doM (zae 10) (zaC 11)) (zas .next)) (zas .next)) (zau (doM (zat (zac zbg) (zae 5) (zdT (zbf (zae 7)) (zae 10) (zat (zac zbg) (zat (zac zbg) (zae 10) (zal (.str ("-":zS)))) (zae 11)))) (zaC 5)) (zau (zbC (zay (zat (zac leD) (zae 10) (zae 11))) (zau (zbm (zbz zeF zeh (zae 6) (zaf (zc1 (zaf (zaV (zgx) (zaf (zae 10) (zaw))) (zaf (zaV (zgx) (zaf (zae 11) (zaw))) (zaw)))) (zaw)))) (zas .next)) (zas .next)) (zas .next))))))))
section
variable {c0 c1 c4:Option V}{g:Nat}
theorem zlH {m:Int}{i:Nat}{els:List El}{lone:Bool}{hp:HP}{c9 c10 c11:Option V}(hi:i < 3) (hel:els.length<=2 ^ 8) (h:DI els lone) (hg:hp[g]?=some (some (((els.filter zaN).map rg1).map vp))) :
  ∃ e c9' c10' c11',DI (els++[e]) e.isLone/\zpE ⟨[c0,c1,oI m,oS SG,c4,oS (els.flatMap El.txt),oL g,oB lone,oN i,c9,c10,c11],hp⟩ =
   some (.next,⟨[c0,c1,oI m,oS SG,c4,oS ((els++[e]).flatMap El.txt),oL g,oB e.isLone,oN i,c9',c10',c11'],hp.set g (some ((((els++[e]).filter zaN).map rg1).map vp))⟩):=by
 refine zkD (zo0 hi hp) λd d1 d2 hpow=>?_
 obtain ⟨fig,f1,hfig⟩:=zoS (a:=(m.fdiv 18).fdiv (d:Int)) (b:=512) (by decide) hp
 have e9:zat (zac (zaP zdd)) (zat (zac (zaP zed)) (zat (zac (zaP zed)) (zae 2) (zal (.int 18))) (zat (zac (zaP zod)) (zal (.int 512)) (zae 8))) (zal (.int 512)) ⟨[c0,c1,oI m,oS SG,c4,oS (els.flatMap El.txt),oL g,oB lone,oN i,c9,c10,c11],hp⟩=some (.d (.int (fig:Int)),hp):=
  zag (b:=.d (.int 512)) (h2:=hp) (zag (zag (a:=.d (.int m)) (b:=.d (.int 18)) (h1:=hp) (h2:=hp) rfl rfl (zeM (by decide) (by decide) hp)) (zag (a:=.d (.int 512)) (b:=.d (.int (i:Int))) (h1:=hp) (h2:=hp) rfl rfl hpow) (zeM (by exact zrS.mpr (by assumption)) (by exact zrS.mpr d2) hp)) rfl hfig
 have hSG:SG.length=16:=rfl
 have i1:fig / 2 % 16 < SG.length:=by rw [hSG];exact zu0 _ (zrw _)
 have i2:fig / 32 < SG.length:=by rw [hSG];exact Nat.div_lt_of_lt_mul (zrS.mp f1)
 obtain ⟨l0,hl0⟩:∃ l0,SG[fig / 2 % 16]?=some l0:=⟨_,zrG i1⟩
 obtain ⟨h0,hh0⟩:∃ h0,SG[fig / 32]?=some h0:=⟨_,zrG i2⟩
 have hlo:=zpx l0 (zsH hl0)
 have hhi:=zpx h0 (zsH hh0)
 have edisp:zcm 2 (zaf (za4 (zae 3) (zat (zac (zaP zdd)) (zat (zac (zaP zed)) (zae 9) (zal (.int 2))) (zal (.int 16)))) (zaf (za4 (zae 3) (zat (zac (zaP zed)) (zae 9) (zal (.int 32)))) (zaw))) (λvs=>(zaI (zaC 11) (zaI (zaC 10) (zcD))) vs.reverse) ⟨[c0,c1,oI m,oS SG,c4,oS (els.flatMap El.txt),oL g,oB lone,oN i,oN fig,c10,c11],hp⟩ =
   some (.next,⟨[c0,c1,oI m,oS SG,c4,oS (els.flatMap El.txt),oL g,oB lone,oN i,oN fig,oS [l0],oS [h0]],hp⟩):=
  zc8 (vs:=[vS [l0],vS [h0]]) (h:=hp) (zaj (v:=vS [l0]) (h:=hp) (zag (a:=.d (.str (T SG))) (b:=.d (.int ((fig / 2 % 16:Nat):Int))) (h1:=hp) (h2:=hp) rfl (zag (a:=.d (.int ((fig / 2:Nat):Int))) (b:=.d (.int ((16:Nat):Int))) (h1:=hp) (h2:=hp) (zag (a:=.d (.int (fig:Int))) (b:=.d (.int ((2:Nat):Int))) (h1:=hp) (h2:=hp) rfl rfl (zlG (by decide) (by decide) hp)) rfl (zkk (by decide) hp)) (zcs hl0 (by exact zry i1 (zN rfl))))
   (zaj (v:=vS [h0]) (h:=hp) (r:=zaw) (zag (a:=.d (.str (T SG))) (b:=.d (.int ((fig / 32:Nat):Int))) (h1:=hp) (h2:=hp) rfl (zag (a:=.d (.int (fig:Int))) (b:=.d (.int ((32:Nat):Int))) (h1:=hp) (h2:=hp) rfl rfl (zlG (by decide) (by decide) hp)) (zcs hh0 (by exact zry i2 (zN rfl)))) rfl)) rfl rfl rfl
 obtain ⟨l1,hl1,hl1d,eplus⟩:∃ l1,(l1 < 1114112/\l1≠33/\l1≠93)/\(lone=true->l1≠45)/\zbC (zcV (zbf (zae 7)) (zcV (zay (zat (za6 false) (zae 10) (zal (.str ("-":zS))))) (zbq true))) (zau (doM (zal (.str ("+":zS))) (zaC 10)) (zas .next)) (zas .next) ⟨[c0,c1,oI m,oS SG,c4,oS (els.flatMap El.txt),oL g,oB lone,oN i,oN fig,oS [l0],oS [h0]],hp⟩ =
   some (.next,⟨[c0,c1,oI m,oS SG,c4,oS (els.flatMap El.txt),oL g,oB lone,oN i,oN fig,oS [l1],oS [h0]],hp⟩):=by
  have htest:zay (zat (za6 false) (zae 10) (zal (.str ("-":zS)))) ⟨[c0,c1,oI m,oS SG,c4,oS (els.flatMap El.txt),oL g,oB lone,oN i,oN fig,oS [l0],oS [h0]],hp⟩=some (decide (l0=45),hp):=
   (zbo (c:=l0) rfl zb5 hlo.1 (by decide)).trans rfl
  cases lone with
  | false=>exact ⟨l0,hlo,(λq=>by exact zdo q),zaF (h:=hp) (zfr rfl) rfl⟩
  | true=>
   by_cases q:l0=45
   ·rw [decide_eq_true q] at htest
    exact ⟨43,⟨by decide,by decide,by decide⟩,λZ=>by decide,zaZ (h:=hp) (zc6 (h:=hp) rfl (zc6 htest rfl)) (zam (zaD (zaG znu) rfl) rfl)⟩
   ·rw [decide_eq_false q] at htest
    exact ⟨l0,hlo,λZ=>q,zaF (h:=hp) (zc6 (h:=hp) rfl (zfr htest)) rfl⟩
 have elone:zat (za6 false) (zat (zac (zaP zdd)) (zae 9) (zal (.int 2))) (zal (.int 1)) ⟨[c0,c1,oI m,oS SG,c4,oS (els.flatMap El.txt),oL g,oB lone,oN i,oN fig,oS [l1],oS [h0]],hp⟩=some (.d (.bool (((fig % 2:Nat):Int)==1)),hp):=
  zag (b:=.d (.int 1)) (h2:=hp) (zag (a:=.d (.int (fig:Int))) (b:=.d (.int ((2:Nat):Int))) (h1:=hp) (h2:=hp) rfl rfl (zkk (by decide) hp)) rfl (zen _ _ _)
 have htl:=zmH els
 have hgl:=zcr hg
 generalize hln:(((fig % 2:Nat):Int)==1)=ln at elone
 cases ln with
 | true=>
  refine ⟨.lone l1,oN fig,oS [l1],oS [l1],h.step (e:=.lone l1) (λc hc=>by simp [El.txt] at hc;rw [hc];exact hl1) hl1d,?_⟩
  have etxt:(els++[El.lone l1]).flatMap El.txt=els.flatMap El.txt++[l1]:=by simp [El.txt]
  have erg:((els++[El.lone l1]).filter zaN).map rg1=(els.filter zaN).map rg1++[((l1:Int),(l1:Int))]:=by rw [ztG,zrR];rfl
  refine etxt▸erg▸?_
  have ele:zay (zat (zac leD) (zae 10) (zae 11)) ⟨[c0,c1,oI m,oS SG,c4,oS (els.flatMap El.txt++[l1]),oL g,oB true,oN i,oN fig,oS [l1],oS [l1]],hp⟩=some (true,hp):=
   zaB (zag (a:=.d (.str (T [l1]))) (b:=.d (.str (T [l1]))) (h1:=hp) (h2:=hp) rfl rfl (le_sign.trans (by exact (decide_eq_true (zrv _))▸rfl)))
  exact zam (zaD e9 rfl) (zam edisp (zam eplus (zam (zaD elone rfl) (zam (st1:=⟨[c0,c1,oI m,oS SG,c4,oS (els.flatMap El.txt),oL g,oB true,oN i,oN fig,oS [l1],oS [l1]],hp⟩) (zaZ (h:=hp) rfl (zam (zaD rfl rfl) rfl)) (zam (st1:=⟨[c0,c1,oI m,oS SG,c4,oS (els.flatMap El.txt++[l1]),oL g,oB true,oN i,oN fig,oS [l1],oS [l1]],hp⟩) (zaD (zag (a:=.d (.str (T (els.flatMap El.txt)))) (b:=.d (.str (T [l1]))) (h1:=hp) (h2:=hp) rfl (zer (h:=hp) rfl rfl) (zkG (fk (r:=1048576) (al2 (ml2 (b:=256) 3 hel) htl) (by lia)) (by simp))) rfl) (zam (zaZ ele (zam (zbh (v:=.d .none) (zbk (v:=.l g) (vs:=[vp ((l1:Int),(l1:Int))]) (h:=hp) (h':=hp) rfl (zcL hg) (zaj (v:=vp ((l1:Int),(l1:Int))) (h:=hp) (r:=zaw) (zbN (xs:=[.int (l1:Int),.int (l1:Int)]) (zaj (zaE (vs:=[.d (.str (T [l1]))]) (h:=hp) rfl rfl) (zaj (r:=zaw) (zaE (vs:=[.d (.str (T [l1]))]) (h:=hp) rfl rfl) rfl)) (zN rfl)) rfl) (zfW hg (by have:=zsj zaN els;rw [zrN];exact (fk (r:=1048576) (al2 (b:=256) hel this) (by lia)))))) rfl)) rfl))))))
 | false=>
  refine ⟨.rng l1 h0,oN fig,oS [l1],oS [h0],h.step (e:=.rng l1 h0) (λc hc=>by
   simp [El.txt] at hc
   rcases hc with rfl | rfl | rfl
   ·exact hl1
   ·exact ⟨by decide,by decide,by decide⟩
   ·exact hhi) hl1d,?_⟩
  have etxt:(els++[El.rng l1 h0]).flatMap El.txt=els.flatMap El.txt++([l1]++[45]++[h0]):=by simp [El.txt]
  refine etxt▸?_
  have ele:zay (zat (zac leD) (zae 10) (zae 11)) ⟨[c0,c1,oI m,oS SG,c4,oS (els.flatMap El.txt++([l1]++[45]++[h0])),oL g,oB false,oN i,oN fig,oS [l1],oS [h0]],hp⟩=some (decide (l1<=h0),hp):=
   zaB (zag (a:=.d (.str (T [l1]))) (b:=.d (.str (T [h0]))) (h1:=hp) (h2:=hp) rfl rfl le_sign)
  have estep:∀ st',zbC (zay (zat (zac leD) (zae 10) (zae 11))) (zau (zbm (zbz zeF zeh (zae 6) (zaf (zc1 (zaf (zaV (zgx) (zaf (zae 10) (zaw))) (zaf (zaV (zgx) (zaf (zae 11) (zaw))) (zaw)))) (zaw)))) (zas .next)) (zas .next) ⟨[c0,c1,oI m,oS SG,c4,oS (els.flatMap El.txt++([l1]++[45]++[h0])),oL g,oB false,oN i,oN fig,oS [l1],oS [h0]],hp⟩=some (.next,st')->
    zpE ⟨[c0,c1,oI m,oS SG,c4,oS (els.flatMap El.txt),oL g,oB lone,oN i,c9,c10,c11],hp⟩=some (.next,st'):=λst' q=>
   zam (zaD e9 rfl) (zam edisp (zam eplus (zam (zaD elone rfl) (zam (st1:=⟨[c0,c1,oI m,oS SG,c4,oS (els.flatMap El.txt),oL g,oB false,oN i,oN fig,oS [l1],oS [h0]],hp⟩) (zaF (h:=hp) rfl rfl) (zam (st1:=⟨[c0,c1,oI m,oS SG,c4,oS (els.flatMap El.txt++([l1]++[45]++[h0])),oL g,oB false,oN i,oN fig,oS [l1],oS [h0]],hp⟩) (zaD (zag (a:=.d (.str (T (els.flatMap El.txt)))) (b:=.d (.str (T ([l1]++[45]++[h0])))) (h1:=hp) (h2:=hp) rfl (zfw (h:=hp) rfl (zag (a:=.d (.str (T ([l1]++[45])))) (b:=.d (.str (T [h0]))) (h1:=hp) (h2:=hp) (zag (a:=.d (.str (T [l1]))) (h1:=hp) rfl (zaG zb5) (zkG (by simp) (by exact zrw _))) rfl (zkG (by simp) (by simp)))) (zkG (fk (r:=1048576) (al2 (ml2 (b:=256) 3 hel) htl) (by lia)) (zN rfl))) rfl) (zam q rfl))))))
  by_cases hle:l1<=h0
  ·have hk:zaN (.rng l1 h0)=true:=decide_eq_true hle
   have erg:((els++[El.rng l1 h0]).filter zaN).map rg1=(els.filter zaN).map rg1++[((l1:Int),(h0:Int))]:=by rw [ztG,zrR,zso hk];rfl
   refine erg▸?_
   rw [decide_eq_true hle] at ele
   exact estep _ (zaZ ele (zam (zbh (v:=.d .none) (zbk (v:=.l g) (vs:=[vp ((l1:Int),(h0:Int))]) (h:=hp) (h':=hp) rfl (zcL hg) (zaj (v:=vp ((l1:Int),(h0:Int))) (h:=hp) (r:=zaw) (zbN (xs:=[.int (l1:Int),.int (h0:Int)]) (zaj (zaE (vs:=[.d (.str (T [l1]))]) (h:=hp) rfl rfl) (zaj (r:=zaw) (zaE (vs:=[.d (.str (T [h0]))]) (h:=hp) rfl rfl) rfl)) (by simp)) rfl) (zfW hg (by have:=zsj zaN els;rw [zrN];exact (fk (r:=1048576) (al2 (b:=256) hel this) (by lia)))))) rfl))
  ·have hk:zaN (.rng l1 h0)=false:=decide_eq_false hle
   have erg:((els++[El.rng l1 h0]).filter zaN).map rg1=(els.filter zaN).map rg1:=by rw [ztG,zsP (by rw [hk];decide)];simp
   refine (Eq.symm erg)▸(Eq.symm (zcp hg))▸?_
   rw [decide_eq_false hle] at ele
   exact estep _ (zaF ele rfl)
end
end Mine
namespace Mine
open PySem PySem.W PySem.Spec PySem.Calls PyProof.Rows PySem.Builtin PySem.Builtin.Str
theorem zna (f:List Nat) (hf:f=[]\/f=[93]\/f=[45]):∃ els:List El,els.length<=1/\els.flatMap El.txt=f/\DI els (decide (f≠[]))/\(els.filter zaN).map rg1=f.map (λc:Nat=>((c:Int),(c:Int))):=by
 rcases hf with rfl | rfl | rfl
 ·exact ⟨[],by exact zr2 _,rfl,⟨trivial,rfl,λc hc=>absurd hc zrq,λb0 bs q=>by contradiction⟩,rfl⟩
 ·exact ⟨[.lone 93],by exact zrD _,rfl,⟨⟨(λq=>by exact zdo q),trivial⟩,rfl,λc hc=>by simp [El.txt] at hc;subst hc;decide,λb0 bs q=>by simp [El.txt] at q;rw [q.2];exact zrq⟩,rfl⟩
 ·exact ⟨[.lone 45],by exact zrD _,rfl,⟨⟨(λq=>by exact zdo q),trivial⟩,rfl,λc hc=>by simp [El.txt] at hc;subst hc;decide,λb0 bs q=>by simp [El.txt] at q;rw [q.2];exact zrq⟩,rfl⟩
theorem znN {f:List Nat}{hp:HP}{st:St}{m:St->Option (V × HP)}(e:m st=some (.d (.str (T f)),hp)) (hf:f.length<=2 ^ 10) :
  zpA (zbP (zqc m) 1 none (zaC 0) (zbq true) (zc1 (zaf (zaV (zgx) (zaf (zae 0) (zaw))) (zaf (zaV (zgx) (zaf (zae 0) (zaw))) (zaw))))) st=some (.l hp.length,hp++[some ((f.map λc:Nat=>((c:Int),(c:Int))).map vp)]):=by
 have h:zbP (zqc m) 1 none (zaC 0) (zbq true) (zc1 (zaf (zaV (zgx) (zaf (zae 0) (zaw))) (zaf (zaV (zgx) (zaf (zae 0) (zaw))) (zaw)))) st=some (f.map (λc:Nat=>vp ((c:Int),(c:Int))),hp):=by
  refine zem (g:=λc:Nat=>V.d (.str (T [c]))) (P:=λloc=>∃ x,loc=[x]) (h:=hp) ?_ (zrn (m:=1024) (k:=1048576) hf (by lia)) ⟨none,rfl⟩ λloc hP c Z=>?_
  ·unfold zqc;refine e▸?_;rfl
  ·obtain ⟨x,rfl⟩:=hP
   exact ⟨[oS [c]],⟨_,rfl⟩,rfl,zbN (xs:=[.int (c:Int),.int (c:Int)]) (zaj (zaE (vs:=[.d (.str (T [c]))]) (h:=hp) rfl rfl) (zaj (r:=zaw) (zaE (vs:=[.d (.str (T [c]))]) (h:=hp) rfl rfl) rfl)) (zN rfl)⟩
 unfold zpA
 refine (Eq.symm h)▸(Eq.symm zrW)▸?_;rfl
theorem zgi {a b:Int}(hb:0 < b):∃ r:Nat,(r:Int) < b/\∀ hp,zac (zaP zdd) hp (.d (.int a)) (.d (.int b))=some (.d (.int (r:Int)),hp):=by
 refine ⟨(a % b).toNat,?_,λhp=>?_⟩
 ·rw [zsr (zte a (zsU (zrJ hb (by lia))))];exact ztF a hb
 ·show ((zdd a b).map PyData.int).map _=_
  unfold zdd
  rw [if_neg (zsU (zrJ hb (by lia))),zsD _ (by exact zsF (by assumption)),zsr (zte a (by omega))];rfl
inductive DrQ (n:Int) (kd0:Nat) (m:Int) (hp:HP) (fl:Fl) (st':St):Prop
 | mk:fl=.next->∀ els:List El,∀ lone:Bool,∀ c8:Option V,∀ c9:Option V,∀ c10:Option V,∀ c11:Option V,els≠[]->els.length<=4->DI els lone->st'=⟨[oI n,oN kd0,oI m,oS SG,none,oS (els.flatMap El.txt),oL hp.length,oB lone,c8,c9,c10,c11],hp++[some (((els.filter zaN).map rg1).map vp)]⟩->DrQ n kd0 m hp fl st'
inductive DrL (n:Int) (kd0:Nat) (m:Int) (hp:HP) (rest:List V) (st:St):Prop
 | mk:∀ els:List El,∀ lone:Bool,∀ c8:Option V,∀ c9:Option V,∀ c10:Option V,∀ c11:Option V,(els≠[]\/rest≠[])->els.length + rest.length<=4->(∀ v ∈ rest,∃ i:Nat,i < 3/\v=.d (.int (i:Int)))->DI els lone->st=⟨[oI n,oN kd0,oI m,oS SG,none,oS (els.flatMap El.txt),oL hp.length,oB lone,c8,c9,c10,c11],hp++[some (((els.filter zaN).map rg1).map vp)]⟩->DrL n kd0 m hp rest st
theorem drawn {tf:Int->Option Value}(P:zdW tf) {k:Nat}(hk:2 ^ 9<=k) (n:Int) (hp:HP):∃ t bar rs A,zds k [.d (.int n)] hp=some (.d (.tuple [.str (T t),.bool bar,.list (rs.map pv2)]),hp)/\zlx tf k t bar rs A:=by
 obtain ⟨kd0,k1,hkd⟩:=zgi (a:=n) (b:=4) (by decide)
 have hkind:∀ hp,zat (zac (zaP zdd)) (zae 0) (zal (.int 4)) ⟨[oI n,none,none,none,none,none,none,none,none,none,none,none],hp⟩=some (.d (.int (kd0:Int)),hp):=λhp=>
  zag (a:=.d (.int n)) (b:=.d (.int 4)) (h1:=hp) (h2:=hp) rfl rfl (hkd hp)
 generalize hm:n.fdiv 4=m
 have hstart:∀ hp,zcm 3 (zaf (zat (zac (zaP zdd)) (zae 0) (zal (.int 4))) (zaf (zat (zac (zaP zed)) (zae 0) (zal (.int 4))) (zaf (zal (.str (T SG))) (zaw)))) (λvs=>(zaI (zaC 3) (zaI (zaC 2) (zaI (zaC 1) (zcD)))) vs.reverse) ⟨[oI n,none,none,none,none,none,none,none,none,none,none,none],hp⟩ =
   some (.next,⟨[oI n,oN kd0,oI m,oS SG,none,none,none,none,none,none,none,none],hp⟩):=λhp=>
  zc8 (vs:=[.d (.int (kd0:Int)),.d (.int m),.d (.str (T SG))]) (h:=hp) (zaj (hkind hp) (zaj (v:=.d (.int m)) (h:=hp) (zag (a:=.d (.int n)) (b:=.d (.int 4)) (h1:=hp) (h2:=hp) rfl rfl (by refine hm▸?_;exact zeM (by decide) (by decide) hp)) (zaj (r:=zaw) rfl rfl))) rfl rfl rfl
 have h3:∀ (x:Int) (hp:HP) (c4 c5 c6 c7 c8 c9 c10 c11:Option V),zay (zat (za6 false) (zae 1) (zal (.int x))) ⟨[oI n,oN kd0,oI m,oS SG,c4,c5,c6,c7,c8,c9,c10,c11],hp⟩=some ((kd0:Int)==x,hp):=λx hp c4 c5 c6 c7 c8 c9 c10 c11=>
  zaB (zag (a:=.d (.int (kd0:Int))) (b:=.d (.int x)) (h1:=hp) (h2:=hp) rfl rfl (zen _ _ _))
 by_cases hk3:kd0=3
 ·-- a lone sign
  obtain ⟨j,j1,hj⟩:=zgi (a:=m) (b:=95) (by decide)
  obtain ⟨c,c1,c2,c3,hc⟩:∃ c:Nat,32<=c/\c < 127/\c≠42/\∀ hp,zdT (zay (zat (za6 false) (zat (zac (zaP zdd)) (zae 2) (zal (.int 95))) (zal (.int 10)))) (zal (.str ("?":zS))) (zaV (zqt) (zaf (zat (zac zbg) (zal (.int 32)) (zat (zac (zaP zdd)) (zae 2) (zal (.int 95)))) (zaw))) ⟨[oI n,oN kd0,oI m,oS SG,none,none,none,none,none,none,none,none],hp⟩=some (.d (.str (T [c])),hp):=by
   have hmod:∀ hp,zat (zac (zaP zdd)) (zae 2) (zal (.int 95)) ⟨[oI n,oN kd0,oI m,oS SG,none,none,none,none,none,none,none,none],hp⟩=some (.d (.int (j:Int)),hp):=λhp=>
    zag (a:=.d (.int m)) (b:=.d (.int 95)) (h1:=hp) (h2:=hp) rfl rfl (hj hp)
   have htest:∀ hp,zay (zat (za6 false) (zat (zac (zaP zdd)) (zae 2) (zal (.int 95))) (zal (.int 10))) ⟨[oI n,oN kd0,oI m,oS SG,none,none,none,none,none,none,none,none],hp⟩=some ((j:Int)==10,hp):=λhp=>
    zaB (zag (b:=.d (.int 10)) (h2:=hp) (hmod hp) rfl (zen _ _ _))
   by_cases h10:j=10
   ·refine ⟨63,by decide,by decide,by decide,λhp=>?_⟩
    have:=htest hp
    rw [h10] at this
    exact zer this (zaG zjx)
   ·refine ⟨32 + j,by exact zrI _ _,by lia,by lia,λhp=>?_⟩
    have:=htest hp
    rw [beq_eq_false_iff_ne.mpr (by lia)] at this
    refine zfw this (zaE (vs:=[.d (.int ((32 + j:Nat):Int))]) (h:=hp) (zaj (r:=zaw) (zag (a:=.d (.int 32)) (b:=.d (.int (j:Int))) (h1:=hp) (h2:=hp) rfl (hmod hp) (zb0 (by rfl))) rfl) ?_)
    show (if 0<=((32 + j:Nat):Int)/\((32 + j:Nat):Int)<=0x10FFFF then some (V.d (.str ⟨#[(((32 + j:Nat):Int)).toNat]⟩),hp) else none)=_
    rw [if_pos ⟨by exact zrB _,by exact zsM.mpr (zrn (zr9 (zrP (zrS.mp j1)) 32) (by decide))⟩,zsp];rfl
  have hok:okL [c]:=ok1 (zry c2 (by lia))
  refine ⟨[c],decide (c=63),if c=63 then [] else [((c:Int),(c:Int))],if c=63 then zgw [46] else zgw (escO c),?_,?_⟩
  ·refine zbG rfl ?_
   refine Runs.seq (hstart hp) ?_
   have hq:∀ neg,zat (za6 neg) (zae 4) (zal (.str ("?":zS))) ⟨[oI n,oN kd0,oI m,oS SG,oS [c],none,none,none,none,none,none,none],hp⟩=some (.d (.bool (if neg then !decide (c=63) else decide (c=63))),hp):=λneg=>
    zag (a:=.d (.str (T [c]))) (h1:=hp) rfl (zaG zjx) ((eqS hok (ok1 (by decide))).trans (by rw [zjg]))
   have hord:zaV (zgx) (zaf (zae 4) (zaw)) ⟨[oI n,oN kd0,oI m,oS SG,oS [c],none,none,none,none,none,none,none],hp⟩=some (.d (.int (c:Int)),hp):=zaE (vs:=[.d (.str (T [c]))]) (h:=hp) rfl rfl
   have hrs:zdT (zay (zat (za6 true) (zae 4) (zal (.str ("?":zS))))) (zbD (zaf (zc1 (zaf (zaV (zgx) (zaf (zae 4) (zaw))) (zaf (zaV (zgx) (zaf (zae 4) (zaw))) (zaw)))) (zaw))) (zbD (zaw)) ⟨[oI n,oN kd0,oI m,oS SG,oS [c],none,none,none,none,none,none,none],hp⟩=some (.d (.list ((if c=63 then [] else [((c:Int),(c:Int))]:List (Int × Int)).map pv2)),hp):=by
    have ht:=zaB (hq true)
    by_cases h63:c=63
    ·rw [if_pos rfl,decide_eq_true h63] at ht
     refine (if_pos h63)▸?_
     exact zfw ht rfl
    ·rw [if_pos rfl,decide_eq_false h63] at ht
     refine (if_neg h63)▸?_
     exact zer ht (ze0 (xs:=[pv2 ((c:Int),(c:Int))]) (zaj (r:=zaw) (zbN (xs:=[.int (c:Int),.int (c:Int)]) (zaj hord (zaj (r:=zaw) hord rfl)) (zN rfl)) rfl) (by exact zrw _))
   have ht3:=h3 3 hp none none none none none none none none
   rw [hk3] at ht3
   rw [hk3] at hc hq hrs
   refine (Eq.symm hk3)▸?_
   exact Runs.of (zgo (zaZ ht3 (zam (zaD (hc hp) rfl) (zbA (zbN (xs:=[.str (T [c]),.bool (decide (c=63)),.list ((if c=63 then [] else [((c:Int),(c:Int))]:List (Int × Int)).map pv2)]) (zaj (v:=.d (.str (T [c]))) (h:=hp) rfl (zaj (hq false) (zaj (r:=zaw) hrs rfl))) (zN rfl)))))) ⟨rfl,[],by simp⟩
  ·by_cases h63:c=63
   ·refine (if_pos h63)▸(if_pos h63)▸(decide_eq_true h63)▸h63▸?_;exact zoY P hk
   ·rw [if_neg h63,if_neg h63,decide_eq_false h63];exact zoZ P hk c1 c2 c3 h63
 ·-- a bracket
  have hk2:kd0 < 3:=by lia
  obtain ⟨j3,j3l,hj3⟩:=zgi (a:=m) (b:=3) (by decide)
  obtain ⟨j6,j6l,hj6⟩:=zgi (a:=m.fdiv 6) (b:=3) (by decide)
  obtain ⟨jt,jtl,hjt⟩:=zgi (a:=m.fdiv 3) (b:=2) (by decide)
  obtain ⟨f,hf,hfi⟩:∃ f,(f=[]\/f=[93]\/f=[45])/\([.str (T []),.str (T [93]),.str (T [45])]:List PyData)[j3]?=some (.str (T f)):=by
   have:j3=0\/j3=1\/j3=2:=by lia
   rcases this with rfl | rfl | rfl
   ·exact ⟨[],.inl rfl,rfl⟩
   ·exact ⟨[93],.inr (.inl rfl),rfl⟩
   ·exact ⟨[45],.inr (.inr rfl),rfl⟩
  refine zkE (zna f hf) λels0 e0 e1 e2 e3=>?_
  have hokf:okL f:=by rcases hf with rfl | rfl | rfl <;> (intro c hc;simp at hc;try (subst hc;decide))
  have hfl:f.length<=1:=by rcases hf with rfl | rfl | rfl <;> simp
  have hR:Runs (zfj k) ⟨[oI n,none,none,none,none,none,none,none,none,none,none,none],hp⟩ λfl st'=>∃ t bar rs A,fl=.ret (.d (.tuple [.str (T t),.bool bar,.list (rs.map pv2)]))/\(∃ ext,st'.hp=hp++ext)/\zlx tf k t bar rs A:=by
   refine Runs.seq (hstart hp) ?_
   have ht3:=h3 3 hp none none none none none none none none
   rw [beq_eq_false_iff_ne.mpr (by exact (Int.ne_of_lt (zrO (by lia) (zrS.mpr hk2))))] at ht3
   refine Runs.seq (zaF ht3 rfl) ?_
   refine Runs.seq (st1:=⟨[oI n,oN kd0,oI m,oS SG,none,oS f,none,none,none,none,none,none],hp⟩) (zaD (v:=.d (.str (T f))) (h:=hp) (zag (a:=.d (.list [.str (T []),.str (T [93]),.str (T [45])])) (b:=.d (.int (j3:Int))) (h1:=hp) (h2:=hp) (ze0 (xs:=[.str (T []),.str (T [93]),.str (T [45])]) (zaj (zaG zeu) (zaj (zaG zcC) (zaj (r:=zaw) (zaG zb5) rfl))) (zN rfl)) (zag (a:=.d (.int m)) (b:=.d (.int 3)) (h1:=hp) (h2:=hp) rfl rfl (hj3 hp)) (zdy hfi (by lia))) rfl) ?_
   have hcm:=znN (m:=zae 5) (st:=⟨[oI n,oN kd0,oI m,oS SG,none,oS f,none,none,none,none,none,none],hp⟩) (hp:=hp) (f:=f) rfl (zrn (k:=1024) hfl (by lia))
   rw [<- e3] at hcm
   have hlone:∀ h',zat (za6 true) (zae 5) (zal (.str ("":zS))) ⟨[oI n,oN kd0,oI m,oS SG,none,oS f,none,none,none,none,none,none],h'⟩=some (.d (.bool (decide (f≠[]))),h'):=λh'=>
    zag (a:=.d (.str (T f))) (h1:=h') rfl (zaG zeu) ((eqS hokf (λc hc=>absurd hc zrq)).trans (by simp))
   refine Runs.seq (st1:=⟨[oI n,oN kd0,oI m,oS SG,none,oS f,oL hp.length,oB (decide (f≠[])),none,none,none,none],hp++[some (((els0.filter zaN).map rg1).map vp)]⟩) (zc8 (vs:=[.l hp.length,.d (.bool (decide (f≠[])))]) (h:=hp++[some (((els0.filter zaN).map rg1).map vp)]) (zaj hcm (zaj (r:=zaw) (hlone _) rfl)) rfl rfl rfl) ?_
   have hcnt:zdm (zaf (zat (zac zbg) (zat (zac (zaP zdd)) (zat (zac (zaP zed)) (zae 2) (zal (.int 6))) (zal (.int 3))) (zal (.int 1))) (zaw)) ⟨[oI n,oN kd0,oI m,oS SG,none,oS f,oL hp.length,oB (decide (f≠[])),none,none,none,none],hp++[some (((els0.filter zaN).map rg1).map vp)]⟩=some (zbx 0 1 (j6 + 1),hp++[some (((els0.filter zaN).map rg1).map vp)]):=by
    have e:zaf (zat (zac zbg) (zat (zac (zaP zdd)) (zat (zac (zaP zed)) (zae 2) (zal (.int 6))) (zal (.int 3))) (zal (.int 1))) (zaw) ⟨[oI n,oN kd0,oI m,oS SG,none,oS f,oL hp.length,oB (decide (f≠[])),none,none,none,none],hp++[some (((els0.filter zaN).map rg1).map vp)]⟩=some ([.d (.int ((j6 + 1:Nat):Int))],hp++[some (((els0.filter zaN).map rg1).map vp)]):=
     zaj (r:=zaw) (zag (b:=.d (.int 1)) (h2:=hp++[some (((els0.filter zaN).map rg1).map vp)]) (zag (b:=.d (.int 3)) (h2:=hp++[some (((els0.filter zaN).map rg1).map vp)]) (zag (a:=.d (.int m)) (b:=.d (.int 6)) (h1:=hp++[some (((els0.filter zaN).map rg1).map vp)]) (h2:=hp++[some (((els0.filter zaN).map rg1).map vp)]) rfl rfl (zeM (by decide) (by decide) _)) rfl (hj6 _)) rfl (zb0 (by rfl))) rfl
    rw [znF e,if_pos (by unfold zcF;simp only [zrA,decide_eq_true_eq];exact ⟨(ifk (zrB (j6)) (by simp +arith)),(ifk (r:=2305843009213693952) j6l (by simp +arith))⟩)]
    rfl
   refine Runs.seqR (Runs.for hcnt ?_)
   refine Runs.mono (Q:=DrQ n kd0 m hp) ?_ ?_
   ·refine Runs.forL (DrL n kd0 m hp) ?_ ?_ _ _ ⟨els0,decide (f≠[]),none,none,none,none,.inr (by unfold zbx;simp),by unfold zbx;simp;omega,λv hv=>?_,e2,by rw [e1]⟩
    ·rintro v r st ⟨els,lone,c8,c9,c10,c11,_,hl,hv,hD,rfl⟩
     (refine Eea (hv v (.head _)) λi hi q0=>?_;subst q0)
     simp only [zrr] at hl
     obtain ⟨e,c9',c10',c11',hD',hst⟩:=zlH (c0:=oI n) (c1:=oN kd0) (c4:=none) (g:=hp.length) (m:=m) (c9:=c9) (c10:=c10) (c11:=c11) hi (fk (r:=256) hl (by lia)) hD (zbL hp _)
     rw [zb6] at hst
     exact ⟨⟨[oI n,oN kd0,oI m,oS SG,none,oS (els.flatMap El.txt),oL hp.length,oB lone,oN i,c9,c10,c11],hp++[some (((els.filter zaN).map rg1).map vp)]⟩,rfl,Runs.of hst ⟨els++[e],e.isLone,oN i,c9',c10',c11',.inl (by simp),by simp;exact (zrn (by lia) hl),λv hv'=>hv v (.tail _ hv'),hD',rfl⟩⟩
    ·rintro st ⟨els,lone,c8,c9,c10,c11,h1,h2,_,hD,rfl⟩
     refine ⟨rfl,els,lone,c8,c9,c10,c11,?_,by simpa using h2,hD,rfl⟩
     rcases h1 with h | h
     ·exact h
     ·exact absurd rfl h
    ·unfold zbx at hv
     (refine Eea (zsz.mp hv) λi hi q0=>?_;subst q0)
     have:=zsk.mp hi
     exact ⟨i,by lia,by rw [zs9,zuJ]⟩
   ·rintro fl st' ⟨rfl,els,lone,c8,c9,c10,c11,hne,hl4,hD,rfl⟩
    refine ⟨rfl,?_⟩
    have htl:=zmH els
    have hfl4:=zsj zaN els
    refine Runs.seqR (Runs.mono (Q:=λfl st'=>fl=.next/\∃ tr,st'=⟨[oI n,oN kd0,oI m,oS SG,none,oS (els.flatMap El.txt++trl tr),oL hp.length,oB lone,c8,c9,c10,c11],hp++[some ((zgH els tr).map vp)]⟩) ?_ ?_)
    ·have hge:(hp++[some (((els.filter zaN).map rg1).map vp)])[hp.length]?=some (some (((els.filter zaN).map rg1).map vp)):=zbL _ _
     refine Runs.ite (x:=((jt:Int)==1)) (h:=hp++[some (((els.filter zaN).map rg1).map vp)]) (zaB (zag (b:=.d (.int 1)) (h2:=hp++[some (((els.filter zaN).map rg1).map vp)]) (zag (b:=.d (.int 2)) (h2:=hp++[some (((els.filter zaN).map rg1).map vp)]) (zag (a:=.d (.int m)) (b:=.d (.int 3)) (h1:=hp++[some (((els.filter zaN).map rg1).map vp)]) (h2:=hp++[some (((els.filter zaN).map rg1).map vp)]) rfl rfl (zeM (by decide) (by decide) _)) rfl (hjt _)) rfl (zen _ _ _))) (λZ=>?_) λZ=>?_
     ·refine Runs.of (zam (st1:=⟨[oI n,oN kd0,oI m,oS SG,none,oS (els.flatMap El.txt++trl true),oL hp.length,oB lone,c8,c9,c10,c11],hp++[some (((els.filter zaN).map rg1).map vp)]⟩) (zaD (zag (a:=.d (.str (T (els.flatMap El.txt)))) (h1:=hp++[some (((els.filter zaN).map rg1).map vp)]) rfl (zaG zb5) (zkG (fk (r:=1048576) (al2 (ml2 3 hl4) htl) (by lia)) (by exact zrw _))) rfl) (zam (zbh (v:=.d .none) (zbk (v:=.l hp.length) (vs:=[vp (45,45)]) (h:=hp++[some (((els.filter zaN).map rg1).map vp)]) (h':=hp++[some (((els.filter zaN).map rg1).map vp)]) rfl (zcL hge) rfl (zfW hge (by rw [zrN];exact (fk (r:=1048576) (al2 hl4 hfl4) (by lia)))))) rfl)) ⟨rfl,true,?_⟩
      have hrt:(els.filter zaN).map rg1++[((45:Int),(45:Int))]=zgH els true:=by unfold zgH;rw [zrR];rfl
      rw [zb6,hrt]
     ·refine Runs.of rfl ⟨rfl,false,?_⟩
      exact (Eq.symm (show els.flatMap El.txt++trl false=els.flatMap El.txt from zrE _))▸(Eq.symm (show els.filter zaN++trE false=els.filter zaN from zrE _))▸rfl
    ·rintro fl st' ⟨rfl,tr,rfl⟩
     refine ⟨rfl,?_⟩
     have hbar:zay (zat (za6 false) (zae 1) (zal (.int 2))) ⟨[oI n,oN kd0,oI m,oS SG,none,oS (els.flatMap El.txt++trl tr),oL hp.length,oB lone,c8,c9,c10,c11],hp++[some ((zgH els tr).map vp)]⟩=some ((kd0:Int)==2,hp++[some ((zgH els tr).map vp)]):=h3 2 _ _ _ _ _ _ _ _ _
     generalize hbv:((kd0:Int)==2)=bar at hbar
     have htrl:(trl tr).length<=1:=by cases tr <;> simp [trl]
     have hbrl:(brI bar).length<=1:=by cases bar <;> simp [brI]
     have hbang:zdT (zay (zat (za6 false) (zae 1) (zal (.int 2)))) (zal (.str ("!":zS))) (zal (.str ("":zS))) ⟨[oI n,oN kd0,oI m,oS SG,none,oS (els.flatMap El.txt++trl tr),oL hp.length,oB lone,c8,c9,c10,c11],hp++[some ((zgH els tr).map vp)]⟩=some (.d (.str (T (brI bar))),hp++[some ((zgH els tr).map vp)]):=by
      cases bar with
      | true=>exact zer hbar (zaG zct)
      | false=>exact zfw hbar (zaG zeu)
     have hA:=zag (op:=zac zbg) (a:=.d (.str (T [91]))) (b:=.d (.str (T (brI bar)))) (ml:=zal (.str ("[":zS))) (st:=⟨[oI n,oN kd0,oI m,oS SG,none,oS (els.flatMap El.txt++trl tr),oL hp.length,oB lone,c8,c9,c10,c11],hp++[some ((zgH els tr).map vp)]⟩) (zaG zcM) hbang (zkG (a:=[91]) (b:=brI bar) (by exact zrw _) (zrn (k:=1048576) hbrl (by lia)))
     have hB:=zag (op:=zac zbg) (a:=.d (.str (T ([91]++brI bar)))) (mr:=zae 5) (b:=.d (.str (T (els.flatMap El.txt++trl tr)))) hA rfl (zkG (a:=[91]++brI bar) (b:=els.flatMap El.txt++trl tr) (by simp only [zro,zrr,zrz];exact (fk (r:=1048576) hbrl (by lia))) (by simp only [zro];exact (fk (r:=1048576) (al2 (al2 (ml2 3 hl4) htl) htrl) (by lia))))
     have htext:=zag (op:=zac zbg) (a:=.d (.str (T ([91]++brI bar++(els.flatMap El.txt++trl tr))))) (b:=.d (.str (T [93]))) (mr:=zal (.str ("]":zS))) hB (zaG zcC) (zkG (a:=[91]++brI bar++(els.flatMap El.txt++trl tr)) (b:=[93]) (by simp only [zro,zrr,zrz];exact (fk (r:=1048576) (al2 (al2 (al2 (ml2 3 hl4) htl) htrl) hbrl) (by lia))) (by exact zrw _))
     have hfz:zhE (hp++[some ((zgH els tr).map vp)]) (.l hp.length)=some (.d (.list ((zgH els tr).map pv2)),hp++[none]):=by
      exact (zdI (zbL _ _) (zfV _)).trans (by rw [zb6])
     refine Runs.of (zbA (zbN (xs:=[.str (T ([91]++brI bar++(els.flatMap El.txt++trl tr)++[93])),.bool bar,.list ((zgH els tr).map pv2)]) (zaj htext (zaj (v:=.d (.bool bar)) (h:=hp++[some ((zgH els tr).map vp)]) (zag (a:=.d (.int (kd0:Int))) (b:=.d (.int 2)) (h1:=hp++[some ((zgH els tr).map vp)]) (h2:=hp++[some ((zgH els tr).map vp)]) rfl rfl ((zen _ _ _).trans (by exact hbv▸rfl))) (zaj (r:=zaw) (zn0 (v:=.l hp.length) (h:=hp++[some ((zgH els tr).map vp)]) rfl hfz) rfl))) (zN rfl))) ⟨_,_,_,_,rfl,⟨[none],rfl⟩,zp1 P hk (bar:=bar) (tr:=tr) (els:=els) ⟨by simp,?_,?_,by exact (zrn (k:=256) hl4 (by lia)),hne,hD.ch,λc hc=>(hD.sg c hc).2,?_⟩ hl4⟩
     ·refine okL_app.mpr ⟨okL_app.mpr ⟨okL_app.mpr ⟨ok1 (by decide),?_⟩,okL_app.mpr ⟨λc hc=>(hD.sg c hc).1,?_⟩⟩,ok1 (by decide)⟩
      ·cases bar <;> (intro c hc;simp [brI] at hc;try (subst hc;decide))
      ·cases tr <;> (intro c hc;simp [trl] at hc;try (subst hc;decide))
     ·simp only [zro,zrr,zrz];exact (fk (r:=256) (al2 (al2 (al2 (ml2 3 hl4) htl) htrl) hbrl) (by lia))
     ·cases hx:els.flatMap El.txt with
      | nil=>
       exfalso
       cases els with
       | nil=>exact hne rfl
       | cons e r=>rw [zrp] at hx;cases e <;> contradiction
      | cons x xs=>
       refine ⟨x,xs++trl tr,rfl,λq=>?_⟩
       rcases zrU.mp q with q | q
       ·exact hD.cl x xs hx q
       ·cases tr <;> contradiction
  obtain ⟨fl,⟨loc,hp'⟩,e,t,bar,rs,A,rfl,⟨ext,hx⟩,hpat⟩:=hR
  dsimp only at hx
  subst hx
  exact ⟨t,bar,rs,A,zcX (args:=[.d (.int n)]) rfl e,hpat⟩
end Mine
namespace Mine
open PySem PySem.W PySem.Spec PySem.Calls PyProof.Rows PySem.Builtin PySem.Builtin.Str
theorem zgX {hp:HP}{xs:List PyData}{i:Nat}{x:PyData}(hi:xs[i]?=some x) (hs:i < 2 ^ 62):zdk hp (.d (.tuple xs)) (.d (.int (i:Int)))=some (.d x,hp):=by
 have hlt:i < xs.length:=by
  rcases zr4 i xs.length with q | q
  ·exact q
  ·rw [zrH q] at hi;exact zan hi
 have e1:zfv (i:Int)=true:=by
  unfold zfv
  simp only [zrA,decide_eq_true_eq]
  exact zni hs
 have e2:seqIndex? (i:Int) xs.length=some i:=by
  unfold seqIndex?
  have h0:¬ ((i:Int) < 0):=inn _
  simp only [h0,if_false]
  rw [if_pos (by simp;omega)]
  simp
 rw [zcc]
 dsimp only
 rw [if_pos e1,e2]
 simp [hi]
theorem znq (k:zdR):(kd k).canLay0=true/\(kd k).depth<=3:=by
 constructor
 ·show (true && ((PyData.list (k.2.map pv2)).canLay0 && true))=true
  have:(PyData.list (k.2.map pv2)).canLay0=true:=zgQ k.2
  refine (Eq.symm this)▸?_;rfl
 ·show max 0 (max (PyData.depthAll (k.2.map pv2) + 1) 0) + 1<=3
  have:=zim k.2
  lia
theorem zl5:∀ ks:List zdR,PyData.canLayAll0 (ks.map kd)=true/\PyData.depthAll (ks.map kd)<=3:=by
 intro zz
 induction zz with
 | nil=>
  exact ⟨rfl,zr2 _⟩
 | cons k r ih=>
  obtain ⟨a,b⟩:=ih
  obtain ⟨c,d⟩:=znq k
  constructor
  ·show ((kd k).canLay0 && PyData.canLayAll0 (r.map kd))=true
   refine (Eq.symm a)▸(Eq.symm c)▸?_;rfl
  ·show max (kd k).depth (PyData.depthAll (r.map kd))<=3
   exact zu1.mpr ⟨d,b⟩
theorem zo9 (ks:List zdR):shp (.list (ks.map kd))=true:=by
 refine Ea (zl5 ks) λa b=>?_
 unfold shp SeqAt.shaped PyData.canLay0 PyData.depth
 rw [a,decide_eq_true (by exact zrt b (zN rfl))];rfl
theorem zlM {x:PyData}{hp:HP}{neg:Bool}(h:shp x=true):za6 neg hp (.d x) (.d x)=some (.d (.bool (if neg then false else true)),hp):=by
 have h2:x.canLay0=true:=(zsZ.mp h).1
 unfold za6
 dsimp only [zdr]
 refine (Eq.symm h)▸(Eq.symm (PySem.SeqAt.eqv_refl x h2))▸?_
 cases neg <;> rfl
theorem zqP (ns:List Int) (a b c:Int):∃ n1 n2 n3,(ns.take 3++[a,b,c]).take 3=[n1,n2,n3]:=by
 match ns with
 | []=>exact ⟨a,b,c,rfl⟩
 | [x]=>exact ⟨x,a,b,rfl⟩
 | [x,y]=>exact ⟨x,y,a,rfl⟩
 | x::y::z::r=>exact ⟨x,y,z,rfl⟩
theorem ziW (xs:List PyData) {hp:HP}(hl:xs.length<=2 ^ 20):zd9 hp (.d (.list xs)) none (some 3)=some (.d (.list (xs.take 3)),hp):=by
 refine Eq.trans (if_pos (za2 (by simpa using hl))) ?_
 have:zaY (xs.map V.d) none (some 3)=(xs.take 3).map V.d:=by
  unfold zaY hiB loB zb1
  dsimp only [bV,bL,bO,on1,on2,onD,onR,dI,dS,dL,onS,onI,onL]
  rw [if_neg (by decide),List.drop_zero,ztW]
  rw [show min (3:Int).toNat (xs.map V.d).length=min 3 xs.length by simp]
  rcases Nat.le_total 3 xs.length with h | h
  ·rw [zse h]
  ·rw [zuz h,zsC (by simp),zsC (by simpa using h)]
 rw [this,zcJ];rfl
noncomputable def pd (t:List Nat) (k:zdR):PyData:=.tuple [.str (T t),.bool k.1,.list (k.2.map pv2)]
theorem zmZ {src:St->Option (List V × HP)}{e:St->Option (V × HP)}{st:St}{a1 a2 a3 b1 b2 b3:PyData}{hp:HP}(hs:src st=some ([.d a1,.d a2,.d a3],hp))
  (h1:e ⟨[some (.d a1)],hp⟩=some (.d b1,hp)) (h2:e ⟨[some (.d a2)],hp⟩=some (.d b2,hp)) (h3:e ⟨[some (.d a3)],hp⟩=some (.d b3,hp)) :
  zfI (zbP src 1 none (zaC 0) (zbq true) e) st=some (.d (.list [b1,b2,b3]),hp):=by
 refine zkL ?_
 have:=zem (src:=src) (k:=1) (cap:=none) (u:=zaC 0) (e:=e) (P:=λloc=>∃ x,loc=[x]) (g:=λx:PyData × PyData=>V.d x.1) (o:=λx=>V.d x.2) (st:=st) (h:=hp) (xs:=[(a1,b1),(a2,b2),(a3,b3)]) hs (zN rfl) ⟨none,rfl⟩ λloc hP a ha=>by
  obtain ⟨x,rfl⟩:=hP
  simp only [zrs,zrq,or_false] at ha
  rcases ha with rfl | rfl | rfl
  ·exact ⟨[some (.d a1)],⟨_,rfl⟩,rfl,h1⟩
  ·exact ⟨[some (.d a2)],⟨_,rfl⟩,rfl,h2⟩
  ·exact ⟨[some (.d a3)],⟨_,rfl⟩,rfl,h3⟩
 exact this
theorem law_true {tf:Int->Option Value}(P:zdW tf) (ns:List Int) (hns:ns.length<=63):∃ k hp',zlW tf k [.d (.list (ns.map PyData.int))] []=some (.d (.bool true),hp'):=by
 refine ⟨2 ^ 10,[],?_⟩
 have hk:2 ^ 9<=2 ^ 10:=by decide
 refine zpq (zqP ns 8501224 17254034 371) λn1 n2 n3 htake=>?_
 refine zlw (drawn P hk n1 []) λt1 bar1 rs1 A1 d1 p1=>?_
 refine zlw (drawn P hk n2 []) λt2 bar2 rs2 A2 d2 p2=>?_
 refine zlw (drawn P hk n3 []) λt3 bar3 rs3 A3 d3 p3=>?_
 generalize 2 ^ 10=k at hk d1 d2 d3 p1 p2 p3 ⊢
 refine zbG rfl ?_
 show Runs (zog tf k) ⟨[oD (.list (ns.map PyData.int)),none,none,none,none,none],[]⟩ _
 have hsrc:zb4 (zaR (zat (zac zbg) (zaR (zae 0) (zal .none) (zal (.int 3))) (zbD (zaf (zal (.int 8501224)) (zaf (zal (.int 17254034)) (zaf (zal (.int 371)) (zaw)))))) (zal .none) (zal (.int 3))) ⟨[oD (.list (ns.map PyData.int)),none,none,none,none,none],[]⟩=some ([.d (.int n1),.d (.int n2),.d (.int n3)],[]):=by
  have e1:zaR (zae 0) (zal .none) (zal (.int 3)) ⟨[oD (.list (ns.map PyData.int)),none,none,none,none,none],[]⟩=some (.d (.list ((ns.take 3).map PyData.int)),[]):=
   za9 (a:=.d (.list (ns.map PyData.int))) (lo:=none) (hi:=some 3) (h1:=[]) (h2:=[]) (h3:=[]) rfl rfl rfl ((ziW _ (by simp;exact zrn hns (zN rfl))).trans (by exact ztW▸rfl))
  have e2:zat (zac zbg) (zaR (zae 0) (zal .none) (zal (.int 3))) (zbD (zaf (zal (.int 8501224)) (zaf (zal (.int 17254034)) (zaf (zal (.int 371)) (zaw))))) ⟨[oD (.list (ns.map PyData.int)),none,none,none,none,none],[]⟩=some (.d (.list ((ns.take 3++[8501224,17254034,371]).map PyData.int)),[]):=by
   refine zag (b:=.d (.list ([8501224,17254034,371].map PyData.int))) (h2:=[]) e1 rfl ((znU (by simp;exact zrn (zty _ _) (by decide)) (zN rfl)).trans ?_)
   exact zrR▸rfl
  have e3:=za9 (mlo:=zal .none) (mhi:=zal (.int 3)) (lo:=none) (hi:=some 3) (h2:=[]) (h3:=[]) e2 rfl rfl (ziW _ (by simp;exact zrn (zty _ _) (by decide)))
  rw [<- ztW,htake] at e3
  exact zbH e3
 refine Runs.seq (st1:=⟨[oD (.list (ns.map PyData.int)),oD (.list [pd t1 (bar1,rs1),pd t2 (bar2,rs2),pd t3 (bar3,rs3)]),none,none,none,none],[]⟩) (zaD (zmZ hsrc (zaE (vs:=[.d (.int n1)]) (h:=[]) rfl d1) (zaE (vs:=[.d (.int n2)]) (h:=[]) rfl d2) (zaE (vs:=[.d (.int n3)]) (h:=[]) rfl d3)) rfl) ?_
 have hsub:∀ (t:List Nat) (q:zdR) (i:Nat) (x:PyData),([.str (T t),.bool q.1,.list (q.2.map pv2)]:List PyData)[i]?=some x->i < 2 ^ 62->za4 (zae 0) (zal (.int (i:Int))) ⟨[some (.d (pd t q))],[]⟩=some (.d x,[]):=λt q i x h1 h2=>
  zag (a:=.d (pd t q)) (b:=.d (.int (i:Int))) (h1:=[]) (h2:=[]) rfl rfl (zgX h1 h2)
 have hpat:∀ (c2 c3 c4 c5:Option V),zb4 (zae 1) ⟨[oD (.list (ns.map PyData.int)),oD (.list [pd t1 (bar1,rs1),pd t2 (bar2,rs2),pd t3 (bar3,rs3)]),c2,c3,c4,c5],[]⟩=some ([.d (pd t1 (bar1,rs1)),.d (pd t2 (bar2,rs2)),.d (pd t3 (bar3,rs3))],[]):=λc2 c3 c4 c5=>rfl
 refine Runs.seq (st1:=⟨[oD (.list (ns.map PyData.int)),oD (.list [pd t1 (bar1,rs1),pd t2 (bar2,rs2),pd t3 (bar3,rs3)]),oD (zap [A1,A2,A3]),none,none,none],[]⟩) (zaD (zmZ (hpat _ _ _ _) (zaE (zaj (r:=zaw) (hsub t1 (bar1,rs1) 0 _ rfl (by decide)) rfl) (p1.top [])) (zaE (zaj (r:=zaw) (hsub t2 (bar2,rs2) 0 _ rfl (by decide)) rfl) (p2.top [])) (zaE (zaj (r:=zaw) (hsub t3 (bar3,rs3) 0 _ rfl (by decide)) rfl) (p3.top []))) rfl) ?_
 have l1:=p1.len
 have l2:=p2.len
 have l3:=p3.len
 have hjoin:zjt [.d (.str (T [124])),.d (zap [A1,A2,A3])] []=some (.d (.str (T (A1++124::(A2++124::A3)))),[]):=by
  unfold zjt
  dsimp only [bV,bL,bO,on1,on2,onD,onR,dI,dS,dL,onS,onI,onL]
  refine (show zbl [] (.d (zap [A1,A2,A3]))=some ([A1,A2,A3].map vS) from rfl)▸?_
  dsimp only [bV,bL,bO,on1,on2,onD,onR,dI,dS,dL,onS,onI,onL]
  rw [show zh5 ([A1,A2,A3].map vS)=some ([A1,A2,A3].map T) from zoh _]
  dsimp only [bV,bL,bO,on1,on2,onD,onR,dI,dS,dL,onS,onI,onL]
  rw [if_pos (by simp only [zsm,zux,zuq,zuY,zrr,zrz,zca];exact zrn (zsw (zrY l1 (zrY l2 l3)) 3) (by decide)),zn4]
  show some (V.d (.str (T (A1++[124]++(A2++[124]++A3)))),_)=_
  rw [zrx,zrx];rfl
 have hokJ:okL (A1++124::(A2++124::A3)):=okL_app.mpr ⟨p1.ok,okL_cons.mpr ⟨by decide,okL_app.mpr ⟨p2.ok,okL_cons.mpr ⟨by decide,p3.ok⟩⟩⟩⟩
 have hparted:=zix (k:=k) [] p1.seg p2.seg p3.seg hokJ (by simp only [zro,zrr];exact zrn (zrY l1 (zsE (zrY l2 (zsE l3)))) (by decide))
 refine Runs.seq (st1:=⟨[oD (.list (ns.map PyData.int)),oD (.list [pd t1 (bar1,rs1),pd t2 (bar2,rs2),pd t3 (bar3,rs3)]),oD (zap [A1,A2,A3]),oD (.tuple [.list [zap (us false A1),zap (us false A2),zap (us false A3)],zap [A1,A2,A3]]),none,none],[]⟩) (zaD (zaE (zaj (r:=zaw) (zbk (v:=.d (.str (T [124]))) (vs:=[.d (zap [A1,A2,A3])]) (h:=[]) (h':=[]) (zaG zjv) rfl rfl hjoin) rfl) hparted) rfl) ?_
 have hsub3:∀ (i:Nat) (x:PyData) (c4 c5:Option V),([.list [zap (us false A1),zap (us false A2),zap (us false A3)],zap [A1,A2,A3]]:List PyData)[i]?=some x->i < 2 ^ 62->za4 (zae 3) (zal (.int (i:Int))) ⟨[oD (.list (ns.map PyData.int)),oD (.list [pd t1 (bar1,rs1),pd t2 (bar2,rs2),pd t3 (bar3,rs3)]),oD (zap [A1,A2,A3]),oD (.tuple [.list [zap (us false A1),zap (us false A2),zap (us false A3)],zap [A1,A2,A3]]),c4,c5],[]⟩=some (.d x,[]):=λi x c4 c5 h1 h2=>
  zag (a:=.d (.tuple [.list [zap (us false A1),zap (us false A2),zap (us false A3)],zap [A1,A2,A3]])) (b:=.d (.int (i:Int))) (h1:=[]) (h2:=[]) rfl rfl (zgX h1 h2)
 refine Runs.seq (st1:=⟨[oD (.list (ns.map PyData.int)),oD (.list [pd t1 (bar1,rs1),pd t2 (bar2,rs2),pd t3 (bar3,rs3)]),oD (zap [A1,A2,A3]),oD (.tuple [.list [zap (us false A1),zap (us false A2),zap (us false A3)],zap [A1,A2,A3]]),oD (.list ([(bar1,rs1),(bar2,rs2),(bar3,rs3)].map kd)),none],[]⟩) (zaD (zmZ (zbH (hsub3 0 _ none none rfl (by decide))) (zaE (vs:=[.d (zap (us false A1))]) (h:=[]) rfl (p1.read [])) (zaE (vs:=[.d (zap (us false A2))]) (h:=[]) rfl (p2.read [])) (zaE (vs:=[.d (zap (us false A3))]) (h:=[]) rfl (p3.read []))) rfl) ?_
 have htold:∀ (t:List Nat) (q:zdR),zc1 (zaf (za4 (zae 0) (zal (.int 1))) (zaf (za4 (zae 0) (zal (.int 2))) (zaw))) ⟨[some (.d (pd t q))],[]⟩=some (.d (kd q),[]):=λt q=>
  zbN (xs:=[.bool q.1,.list (q.2.map pv2)]) (zaj (hsub t q 1 _ rfl (by decide)) (zaj (r:=zaw) (hsub t q 2 _ rfl (by decide)) rfl)) (zN rfl)
 refine Runs.seq (st1:=⟨[oD (.list (ns.map PyData.int)),oD (.list [pd t1 (bar1,rs1),pd t2 (bar2,rs2),pd t3 (bar3,rs3)]),oD (zap [A1,A2,A3]),oD (.tuple [.list [zap (us false A1),zap (us false A2),zap (us false A3)],zap [A1,A2,A3]]),oD (.list ([(bar1,rs1),(bar2,rs2),(bar3,rs3)].map kd)),oD (.list ([(bar1,rs1),(bar2,rs2),(bar3,rs3)].map kd))],[]⟩) (zaD (zmZ (hpat _ _ _ _) (htold t1 (bar1,rs1)) (htold t2 (bar2,rs2)) (htold t3 (bar3,rs3))) rfl) ?_
 have hokA:zee [A1,A2,A3]:=λl hl=>by
  simp only [zrs,zrq,or_false] at hl
  rcases hl with rfl | rfl | rfl
  ·exact p1.ok
  ·exact p2.ok
  ·exact p3.ok
 have q1:=zaB (zag (op:=za6 true) (mr:=zae 2) (b:=.d (zap [A1,A2,A3])) (h2:=[]) (hsub3 1 _ (oD (.list ([(bar1,rs1),(bar2,rs2),(bar3,rs3)].map kd))) (oD (.list ([(bar1,rs1),(bar2,rs2),(bar3,rs3)].map kd))) rfl (by decide)) rfl (zox (neg:=true) hokA hokA))
 rw [decide_eq_true rfl] at q1
 generalize hks:([(bar1,rs1),(bar2,rs2),(bar3,rs3)]:List zdR)=ks at q1 ⊢
 have q2:zay (zat (za6 true) (zae 4) (zae 5)) ⟨[oD (.list (ns.map PyData.int)),oD (.list [pd t1 (bar1,rs1),pd t2 (bar2,rs2),pd t3 (bar3,rs3)]),oD (zap [A1,A2,A3]),oD (.tuple [.list [zap (us false A1),zap (us false A2),zap (us false A3)],zap [A1,A2,A3]]),oD (.list (ks.map kd)),oD (.list (ks.map kd))],[]⟩=some (false,[]):=
  zaB (zag (a:=.d (.list (ks.map kd))) (b:=.d (.list (ks.map kd))) (h1:=[]) (h2:=[]) rfl rfl ((zlM (neg:=true) (zo9 ks)).trans rfl))
 refine Runs.seq (zaF (zmk q1 (zmk q2 rfl)) rfl) ?_
 have c1:=p1.cnt
 have c2:=p2.cnt
 have c3:=p3.cnt
 have hmem:∀ q ∈ ks,okr q.2/\q.2.length<=5:=λq hq=>by
  rw [<- hks] at hq
  simp only [zrs,zrq,or_false] at hq
  rcases hq with rfl | rfl | rfl
  ·exact ⟨p1.okr,c1⟩
  ·exact ⟨p2.okr,c2⟩
  ·exact ⟨p3.okr,c3⟩
 have htot:zkA ks=2 * rs1.length + 2 + (2 * rs2.length + 2 + (2 * rs3.length + 2 + 0)):=by refine hks▸?_;rfl
 have hcut:(zbB ks).length<=30:=by
  have hfl:∀ rs:List (Int × Int),(rs.flatMap λp=>[p.1,p.2 + 1]).length=2 * rs.length:=λrs=>by
   induction rs with
   | nil=>rfl
   | cons a t ih=>refine zrp▸zro▸ih▸?_;simp;rw [zt8,zst]
  refine hks▸?_
  show ((rs1.flatMap λp:Int × Int=>[p.1,p.2 + 1])++((rs2.flatMap λp:Int × Int=>[p.1,p.2 + 1])++((rs3.flatMap λp:Int × Int=>[p.1,p.2 + 1])++[]))).length<=30
  simp only [zro,hfl,zrz]
  exact zrY (zsg 2 c1) (zrY (zsg 2 c2) (zsg 2 c3))
 have hk2:512<=k:=hk
 have htk:zkA ks<=36:=(fk (al2 (al2 (al2 (ml2 2 c1) (ml2 2 c2)) (ml2 2 c3)) (leq htot)) (by lia))
 obtain ⟨tr,g1,g2,g3⟩:=zjn (k:=k) (ks:=ks) (hp:=[]) (λq hq=>by
  obtain ⟨a,b⟩:=hmem q hq
  exact ⟨a,by exact zrt (zsE (zsg 2 b)) (zry (by decide) hk),by exact zrn b (zN rfl)⟩) (zrn htk (by decide))
 obtain ⟨srt,s1,s2,s3⟩:=zf8 (k:=k) (l:=tr) (hp:=[]) (zrt (zsE (zrn g2 htk)) (zry (by decide) hk)) (zrn (zrn g2 htk) (by decide))
 have hdue:=zlV (k:=k) (ks:=ks) (hp:=[]) (λq hq=>by
  obtain ⟨a,b⟩:=hmem q hq
  exact ⟨a,by exact (zrn (k:=131072) b (by lia))⟩) (by refine hks▸?_;exact zN rfl) (fk hcut (by lia)) (zrn htk (by decide))
 have hsame:=zmG (λq hq=>(hmem q hq).1) (zhd _) (ziX _) s1 s2 g1
 rw [hsame] at s3
 refine Runs.of (zbA (zag (op:=za6 false) (zaE (zaj (r:=zaw) (zaE (zaj (r:=zaw) (v:=.d (.list (ks.map kd))) (h:=[]) rfl rfl) g3) rfl) s3) (zaE (zaj (r:=zaw) (v:=.d (.list (ks.map kd))) (h:=[]) rfl rfl) hdue) (zlM (neg:=false) (zjJ _)))) ⟨rfl,[],rfl⟩
end Mine
end
set_option Elab.async true
open PySem PySem.W PySem.Spec PySem.Calls PyProof.Rows
namespace Mine.hd9
theorem tw9106312041855671276:True:=⟨⟩
theorem tw10549697654164086739:True:=⟨⟩
theorem tw2584226376468977091:True:=⟨⟩
theorem tw15556084308779515851:True:=⟨⟩
theorem tw1867615354561345130:True:=⟨⟩
theorem tw12811595661062194269:True:=⟨⟩
theorem tw9808945676551745050:True:=⟨⟩
theorem tw5135855073900787920:True:=⟨⟩
theorem tw9340805381017219384:True:=⟨⟩
theorem tw1606468784164975819:True:=⟨⟩
theorem tw17364183220784692284:True:=⟨⟩
theorem tw8967179450163150565:True:=⟨⟩
theorem tw4729669113524779111:True:=⟨⟩
theorem tw17181612297282064552:True:=⟨⟩
theorem tw12270173515467647188:True:=⟨⟩
theorem tw15790194597370482236:True:=⟨⟩
theorem tw6805950511804006364:True:=⟨⟩
theorem tw11865115771011823756:True:=⟨⟩
theorem tw8025698097864295323:True:=⟨⟩
theorem tw2736110295515487754:True:=⟨⟩
theorem tw3679298328194229662:True:=⟨⟩
theorem tw16783714057584897703:True:=⟨⟩
theorem tw16523796174044270935:True:=⟨⟩
theorem tw588025679637348470:True:=⟨⟩
theorem tw7531943726359597021:True:=⟨⟩
theorem tw14096915188390565920:True:=⟨⟩
theorem tw12198744627563450975:True:=⟨⟩
theorem tw5835603643531391837:True:=⟨⟩
theorem tw3209455780008422180:True:=⟨⟩
theorem tw2558394741831203474:True:=⟨⟩
theorem tw16140549808680337981:True:=⟨⟩
theorem tw13322952885720351491:True:=⟨⟩
theorem tw12863914159249455586:True:=⟨⟩
theorem tw5687615918910885707:True:=⟨⟩
theorem tw2502535307277737163:True:=⟨⟩
theorem tw4297859340669973645:True:=⟨⟩
theorem tw2430195492748734148:True:=⟨⟩
theorem tw14614747759860735290:True:=⟨⟩
theorem tw1277972139370059634:True:=⟨⟩
theorem tw2239864437944626916:True:=⟨⟩
theorem tw18133465481670961445:True:=⟨⟩
theorem tw10914602564388514703:True:=⟨⟩
theorem tw7888094193827369693:True:=⟨⟩
theorem tw15369640875224685871:True:=⟨⟩
theorem tw1871922783554673095:True:=⟨⟩
theorem tw9405568339410771833:True:=⟨⟩
theorem tw5447346583950934561:True:=⟨⟩
theorem tw6390712157859911409:True:=⟨⟩
theorem tw18267317456307420591:True:=⟨⟩
theorem tw1119174226025367273:True:=⟨⟩
theorem tw12930846266727086543:True:=⟨⟩
theorem tw4296531142906609571:True:=⟨⟩
theorem tw6270606921191847736:True:=⟨⟩
theorem tw15981475481734782255:True:=⟨⟩
theorem tw2558845949333342327:True:=⟨⟩
theorem tw12949106157741044574:True:=⟨⟩
theorem tw13547564877479748115:True:=⟨⟩
theorem tw16389148200778894663:True:=⟨⟩
theorem tw15479839761067184569:True:=⟨⟩
theorem tw424139222788448143:True:=⟨⟩
theorem tw5066270364696167816:True:=⟨⟩
theorem tw12312206982773685242:True:=⟨⟩
theorem tw8381657612034332493:True:=⟨⟩
theorem tw18443984766007937963:True:=⟨⟩
theorem tw108797678759917525:True:=⟨⟩
theorem tw13083147610628382247:True:=⟨⟩
theorem tw7306338148496408377:True:=⟨⟩
theorem tw7259357769049062666:True:=⟨⟩
theorem tw7246286585531266383:True:=⟨⟩
theorem tw942429962298729482:True:=⟨⟩
theorem tw4605111096575925301:True:=⟨⟩
theorem tw17322226132631935518:True:=⟨⟩
theorem tw4378281889945402443:True:=⟨⟩
theorem tw11943005326605602259:True:=⟨⟩
theorem tw4239211622028045829:True:=⟨⟩
theorem tw16692037123807829640:True:=⟨⟩
theorem tw17963895743799452444:True:=⟨⟩
theorem tw17668196573386436424:True:=⟨⟩
theorem tw4251755694852400104:True:=⟨⟩
theorem tw5523358953071116423:True:=⟨⟩
theorem tw3394226545207259709:True:=⟨⟩
theorem tw17976202761796616755:True:=⟨⟩
theorem tw16712937375551097384:True:=⟨⟩
theorem tw11627500790947935094:True:=⟨⟩
theorem tw13866889852558034230:True:=⟨⟩
theorem tw4303283826304697308:True:=⟨⟩
theorem tw12668413746225671771:True:=⟨⟩
theorem tw2165361487522486685:True:=⟨⟩
theorem tw10308228823458563986:True:=⟨⟩
theorem tw16667724774312432159:True:=⟨⟩
theorem tw14697848797954538718:True:=⟨⟩
theorem tw3570896861605846440:True:=⟨⟩
theorem tw6777333446920951298:True:=⟨⟩
theorem tw1655878146446878216:True:=⟨⟩
theorem tw5330069544721047268:True:=⟨⟩
theorem tw7662472912109282967:True:=⟨⟩
theorem tw14054068742534113058:True:=⟨⟩
theorem tw8971009620554535184:True:=⟨⟩
theorem tw7245726376765177383:True:=⟨⟩
theorem tw14551414223574775195:True:=⟨⟩
theorem tw11037717397387359878:True:=⟨⟩
theorem tw7195533971947414305:True:=⟨⟩
theorem tw6635554400137442950:True:=⟨⟩
theorem tw9021857377525732890:True:=⟨⟩
theorem tw16553202446193297651:True:=⟨⟩
theorem tw17423793308502168792:True:=⟨⟩
theorem tw329668592563858088:True:=⟨⟩
theorem tw487206785838769060:True:=⟨⟩
theorem tw6766860552951890918:True:=⟨⟩
theorem tw801458076431190349:True:=⟨⟩
theorem tw15354928184650599793:True:=⟨⟩
theorem tw17305791928751171860:True:=⟨⟩
theorem tw17367005523956093850:True:=⟨⟩
theorem tw4526102055335582287:True:=⟨⟩
theorem tw6527749076972022315:True:=⟨⟩
theorem tw479824595973277250:True:=⟨⟩
theorem tw13568889274084902077:True:=⟨⟩
theorem tw17783969913427243729:True:=⟨⟩
theorem tw15598313467465580017:True:=⟨⟩
theorem tw7995278134627254609:True:=⟨⟩
theorem tw16449472913238464648:True:=⟨⟩
theorem tw2502234221673148133:True:=⟨⟩
theorem tw8052602834555548817:True:=⟨⟩
theorem tw9985981164770245241:True:=⟨⟩
theorem tw10400892625869298999:True:=⟨⟩
theorem tw11327442749386464750:True:=⟨⟩
theorem tw7273130638740721158:True:=⟨⟩
theorem tw1160463944965927730:True:=⟨⟩
theorem tw788627361954019738:True:=⟨⟩
theorem tw7241973175316064089:True:=⟨⟩
theorem tw18211541130713530123:True:=⟨⟩
theorem tw12903733499832924936:True:=⟨⟩
theorem tw16175128847558213781:True:=⟨⟩
theorem tw10370131481467247380:True:=⟨⟩
theorem tw10802401359841529375:True:=⟨⟩
theorem tw5392835117475296067:True:=⟨⟩
theorem tw17591401508068339639:True:=⟨⟩
theorem tw14675544716721249056:True:=⟨⟩
theorem tw16077285985830620993:True:=⟨⟩
theorem tw11901929527616516910:True:=⟨⟩
theorem tw6484835886223887701:True:=⟨⟩
theorem tw13748882959593903007:True:=⟨⟩
theorem tw10171531853742169582:True:=⟨⟩
theorem tw10048503037203024057:True:=⟨⟩
theorem tw11961575745299031930:True:=⟨⟩
theorem tw891613977266498856:True:=⟨⟩
theorem tw6229894943711409789:True:=⟨⟩
theorem tw7369670613058013741:True:=⟨⟩
theorem tw2144252560563137229:True:=⟨⟩
theorem tw16392202971249513344:True:=⟨⟩
theorem tw9147875399587684787:True:=⟨⟩
theorem tw2565346912441481485:True:=⟨⟩
theorem tw6524368696187261375:True:=⟨⟩
theorem tw10598544286940095199:True:=⟨⟩
theorem tw12129818442255131980:True:=⟨⟩
theorem tw1268590892515038880:True:=⟨⟩
theorem tw3391767962471468540:True:=⟨⟩
theorem tw2731637095360682449:True:=⟨⟩
theorem tw4099745878141649365:True:=⟨⟩
theorem tw18002674933379272198:True:=⟨⟩
theorem tw5110888779955335419:True:=⟨⟩
theorem tw2593867026482736730:True:=⟨⟩
theorem tw13679521932681123100:True:=⟨⟩
theorem tw12142805189493528093:True:=⟨⟩
theorem tw9117702078254008829:True:=⟨⟩
theorem tw2973708462412495452:True:=⟨⟩
theorem tw16704651765250647093:True:=⟨⟩
theorem tw15326827468283207857:True:=⟨⟩
theorem tw15199852791052551612:True:=⟨⟩
theorem tw7734687739540825733:True:=⟨⟩
theorem tw12432885743245595535:True:=⟨⟩
theorem tw1591869725527158494:True:=⟨⟩
theorem tw2293291817015511526:True:=⟨⟩
theorem tw17819943979850692964:True:=⟨⟩
theorem tw15531211246457510505:True:=⟨⟩
theorem tw14626958905465214063:True:=⟨⟩
theorem tw12868774823333343288:True:=⟨⟩
theorem tw12029605773471096589:True:=⟨⟩
theorem tw2650296401937842583:True:=⟨⟩
theorem tw10015440245108273119:True:=⟨⟩
theorem tw12445963805996311333:True:=⟨⟩
theorem tw14020593487074859340:True:=⟨⟩
theorem tw765746941427226402:True:=⟨⟩
theorem tw3635678370976558460:True:=⟨⟩
theorem tw13762983406908797224:True:=⟨⟩
theorem tw17974362277148912142:True:=⟨⟩
theorem tw11292480346522738627:True:=⟨⟩
theorem tw6034145056430560602:True:=⟨⟩
theorem tw7552998380099328977:True:=⟨⟩
theorem tw18254988704341623970:True:=⟨⟩
theorem tw10936775590874964393:True:=⟨⟩
theorem tw4526723643249859516:True:=⟨⟩
theorem tw9591617234271170137:True:=⟨⟩
theorem tw17969631494898678541:True:=⟨⟩
theorem tw8450359513208474966:True:=⟨⟩
theorem tw16124023127092004358:True:=⟨⟩
theorem tw16483822773177754266:True:=⟨⟩
theorem tw13788242996934447625:True:=⟨⟩
theorem tw4089905707680221098:True:=⟨⟩
theorem tw6573674689128819945:True:=⟨⟩
theorem tw6471514419514515807:True:=⟨⟩
theorem tw10344536929959767095:True:=⟨⟩
theorem tw8335712587098959230:True:=⟨⟩
theorem tw11984693909033632581:True:=⟨⟩
theorem tw6585302667001353816:True:=⟨⟩
theorem tw10432977101478191873:True:=⟨⟩
theorem tw4659958032021073866:True:=⟨⟩
theorem tw10130468647817260101:True:=⟨⟩
theorem tw4593335068263139967:True:=⟨⟩
theorem tw15765169442362284040:True:=⟨⟩
theorem tw12630609596054678996:True:=⟨⟩
theorem tw1473063707913207336:True:=⟨⟩
theorem tw12843814361087102380:True:=⟨⟩
theorem tw16244355460471970398:True:=⟨⟩
theorem tw12714794075702447270:True:=⟨⟩
theorem tw12529607213384789975:True:=⟨⟩
theorem tw10740232119755844603:True:=⟨⟩
theorem tw17583459242607248800:True:=⟨⟩
theorem tw8338668692885410066:True:=⟨⟩
theorem tw6715880833876116219:True:=⟨⟩
theorem tw17928753259830309334:True:=⟨⟩
theorem tw3275164318195832308:True:=⟨⟩
theorem tw4602856849437673299:True:=⟨⟩
theorem tw11293402850097267709:True:=⟨⟩
theorem tw6317252138941829831:True:=⟨⟩
theorem tw10758312699365258540:True:=⟨⟩
theorem tw17057975027541428441:True:=⟨⟩
theorem tw12124040145937502227:True:=⟨⟩
theorem tw15721697722976199191:True:=⟨⟩
theorem tw3520939956256755958:True:=⟨⟩
theorem tw12698454239487328342:True:=⟨⟩
theorem tw8944445493002644481:True:=⟨⟩
theorem tw113115315931814235:True:=⟨⟩
theorem tw2702912641933940317:True:=⟨⟩
theorem tw15121301317219129474:True:=⟨⟩
theorem tw4722542409791226272:True:=⟨⟩
theorem tw11234973758319358912:True:=⟨⟩
theorem tw18129626779370239979:True:=⟨⟩
theorem tw17618031134758825028:True:=⟨⟩
theorem tw8052516431471615200:True:=⟨⟩
theorem tw12523504140268041457:True:=⟨⟩
theorem tw10113415384861610474:True:=⟨⟩
theorem tw3374192774680799673:True:=⟨⟩
theorem tw11271135789013113956:True:=⟨⟩
theorem tw2714360846814048916:True:=⟨⟩
theorem tw11747476994976073500:True:=⟨⟩
theorem tw15645292523006109958:True:=⟨⟩
theorem tw6533371212873558585:True:=⟨⟩
theorem tw13487300273812535541:True:=⟨⟩
theorem tw4198061726070593685:True:=⟨⟩
theorem tw1124875857576038707:True:=⟨⟩
theorem tw14268731185189884627:True:=⟨⟩
theorem tw5309259900284572448:True:=⟨⟩
theorem tw3471345929880690178:True:=⟨⟩
end Mine.hd9
theorem Mine.hd9 : PySem.Challenge.rw_kl0418_01.Holds := by
  w_on; o_law; k_head; (case hw => w_witness2)
  intro w s₀ s₁ mg mb G Y fa o pm cd doc dV kV ho hdd hcd hD hmg hg args vals as hpre hlay hrd hwl hlo
  have KX := km_in_of Y
  have hT8 := km_tabs_of Y
  refine Ground.open G ?_
  intro T B D TE TW
  clear ho hdd hcd hD Y D TE TW
  have hT : TabsAt [(61, 57)] s₁.heap := List.forall_mem_cons.mpr ⟨⟨codeHd_of_K (c := 61) (P := 57) KX (by kernel_rfl), hT8 57 (.head _)⟩, fun _ h => nomatch h⟩
  have EX := ghost_K hT KX (by kernel_rfl)
  have hB : Mine.Base s₁.heap mg mb := by
    refine ⟨?_, ?_, ?_, ?_, ?_, hT, T.g, T.b, T.nolimit, T.builtins, T.bmain⟩
    · repeat' (first | exact List.forall_mem_nil _ | refine List.forall_mem_cons.mpr ⟨⟨_, _, EX _ _ rfl, rfl, ⟨_, _, _, _, rfl, EX _ _ rfl, rfl, rfl⟩⟩, ?_⟩)
    · repeat' (first | exact List.forall_mem_nil _ | refine List.forall_mem_cons.mpr ⟨mg_of KX T.g (by kernel_rfl), ?_⟩)
    · repeat' (first | exact List.forall_mem_nil _ | refine List.forall_mem_cons.mpr ⟨mg_none_of KX T.g (by kernel_rfl), ?_⟩)
    · exact Mine.map45 EX rfl ⟨rfl, rfl, rfl⟩ rfl (by kernel_rfl) (by kernel_rfl)
    · exact ⟨⟨_, _, _, EX 36 _ rfl, by decide +kernel, rfl, by decide +kernel, EX 35 _ rfl, by constructor <;> decide +kernel⟩⟩
  have hfa : fa = 157 := by
    have h1 := hB.gN ("law", 157) (by decide +kernel)
    have h2 : mg ("law" : PySem.Str) = some (.ref fa) := hmg
    rw [h1] at h2
    cases h2; rfl
  subst hfa
  clear hmg
  wrow_args hpre hlay hrd hwl hlo
  rename_i ns hs hlay0 hL1 hrA hl2 as1 as2 la lvs as3 hL ra w1 r0 hI hr hc1 hc2
  refine wpAny_mono (Mine.core (fun _ h ns hn => Mine.law_true h ns hn) hB hg hL hI (by omega)) (fun v s' p => ?_) fun _ _ x => x.elim
  obtain ⟨rfl, p1, p2, p3⟩ := p
  refine ⟨.inl ⟨.bool true, ofPy (.bool true), [], rfl, ?_, .bool true, ?_, fun _ => ⟨List.nodup_nil, fun a ha => nomatch ha⟩⟩, p1, p2, p3⟩
  · intro cls; rfl
  · wrow_post
theorem PySem.Challenge.cw_kl0418_01_holds : PySem.Challenge.rw_kl0418_01.Holds := by
  exact Mine.hd9
