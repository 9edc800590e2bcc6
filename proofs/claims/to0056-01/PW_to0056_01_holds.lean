import PyProof.Rows.All
import PyProof.NoPylong
import PyProof.StrWalks
import PyProof.CompFree
import PyProof.Draws
import PyProof.EnumMake
import PyProof.WalksMore
import PyProof.RangeFor
import PyProof.GenRules
import PyProof.GenQ
import PyProof.ListMulRoad
import Wide.FinOn
import OpenK.AllK
import Wide.All
import PySem.Challenge.RW_to0056_01
set_option Elab.async false
set_option linter.all false
set_option genCtorIdx false

open PySem.Str renaming ofString → qA0,empty → qFl,mk → qHw
open List renaming length_append → qA1,mem_cons_of_mem → qA3,getElem?_set_self → qA4,mem_cons_self → qA5,mem_cons → qA6,length_map → qAa,getElem?_eq_getElem → qAb,mem_append → qAc,length_cons → qAd,append_assoc → qAe,range → qAf,map_cons → qAh,mem_singleton → qAi,getElem?_eq_some_iff → qAk,range' → qAm,length_drop → qAn,getD_eq_getElem?_getD → qAo,map_append → qAt,append_nil → qAu,length_set → qAv,count_append → qAx,take_append_drop → qAy,not_mem_nil → qB0,getElem?_set_ne → qB1,length_take → qB6,cons_append → qB7,length → qB8,isPrefixOf_iff_prefix → qBa,flatten_cons → qBe,mem_map → qBf,replicate → qBh,mem_map_of_mem → qBk,flatten_append → qBl,mem_append_left → qBn,length_range → qBp,getElem?_append_right → qBq,range'_succ → qBt,take_of_length_le → qBu,map_map → qBx,size_toArray → qBy,eq_append_cons_of_mem → qC0,all_eq_true → qC2,getElem?_map → qC4,mem_range → qC7,head_eq_of_cons_eq → qCb,count_pos_iff → qCe,take_succ_cons → qCk,getElem?_append_left → qCm,nodup_cons → qCp,length_nil → qCq,nil_append → qCs,count_eq_zero → qCt,filter_append → qCv,range_eq_range' → qCx,length_eq_zero_iff → qCy,getElem?_cons_succ → qCz,flatMap_cons → qD4,replicate_succ → qD7,take_left' → qD8,isSuffixOf_iff_suffix → qDa,mem_reverse → qDc,getElem?_toArray → qDd,map_nil → qDe,mem_iff_getElem? → qDg,mem_of_mem_drop → qDj,drop_eq_nil_iff → qDl,mem_range'_1 → qDo,length_reverse → qDv,pairwise_cons → qE0,forIn_cons → qE3,getElem?_eq_none → qE4,idxOf_lt_length_of_mem → qE6,count_cons → qE7,length_filter_le → qE8,nodup_append → qE9,mem_of_mem_take → qEe,range'_append_1 → qEg,count_singleton → qEh,count_singleton_self → qEl,lookup_cons → qEm,getElem?_cons_zero → qEs,foldl_cons → qEt,all_cons → qEv,find?_cons → qEw,getElem?_drop → qEx,drop_eq_nil_of_le → qF0,eraseIdx_eq_take_drop_succ → qF4,drop_left → qF5,length_singleton → qF6,mem_append_right → qF7,eq_nil_of_length_eq_zero → qFa,filter_cons → qFc,mem_of_getElem? → qFf,count_cons_self → qFg,map_drop → qFi,map_take → qFj,filterMap_cons → qFm,getElem?_range → qFn,map_congr_left → qFo,length_pos_iff → qFq,flatMap_append → qFr,zip_cons_cons → qFw,length_range' → qFy,drop_eq_getElem_cons → qFz,tail_drop → qG0,drop_drop → qG1,take_add_one → qG4,getElem?_take_of_lt → qG7,length_erase_of_mem → qG9,reverse_cons → qGa,getElem?_replicate → qGg,take_length → qGi,getElem_mem → qGk,length_pos_of_mem → qGn,forIn'_nil → qGo,contains_iff_mem → qGv,range_succ → qGy,mem_filter → qGz,prefix_take_iff → qH3,take_zero → qH5,take_left → qH6,drop_succ_cons → qH9,eraseDups_cons → qHa,any_cons → qHf,filterMap_nil → qHg,append_of_mem → qHi
open PySem renaming Expr → qA2
open Nat renaming le_refl → qA7,le_trans → qA9,sub_add_cancel → qAg,le_succ → qAj,le_of_lt → qAq,zero_add → qB2,lt_of_lt_of_le → qB3,le_succ_of_le → qB4,le_add_right → qB5,succ → qBb,div_add_mod → qBc,ne_of_lt → qBg,succ_pos → qBi,lt_trans → qBj,lt_succ_self → qBo,zero_le → qBr,le_add_left → qBv,mod_lt → qC6,lt_of_le_of_lt → qC9,add_sub_cancel_left → qCc,ne_of_gt → qCf,mul_le_mul_left → qCh,lt_succ_of_le → qCi,not_lt → qCj,add_comm → qCo,min_le_left → qCr,add_right_comm → qCu,succ_ne_zero → qCw,lt_succ_of_lt → qD3,testBit_add_one → qD9,add_le_add_right → qDk,pow_le_pow_right → qDm,succ_le_of_lt → qDn,add_zero → qDq,add_sub_cancel' → qDu,le_of_not_lt → qDx,add_le_add → qDy,pos_of_ne_zero → qE1,le_antisymm → qE2,testBit_xor → qE5,add_assoc → qEc,mod_eq_of_lt → qEn,le_of_eq → qEo,sub_self → qEq,sub_eq_zero_iff_le → qEz,testBit_lt_two_pow → qF1,le_of_succ_le → qF3,lt_of_le_of_ne → qFt,add_sub_cancel → qFx,le_of_lt_succ → qG8,lt_irrefl → qGb,lt_of_not_le → qGh,add_sub_add_right → qGq,lt_asymm → qGt,sub_zero → qGw,succ_mul → qGx,add_add_add_comm → qH0,eq_of_testBit_eq → qH4,add_lt_add_left → qHc,add_left_cancel → qHd,pow_succ → qHp,one_mul → qHq,one_pos → qHt,testBit → qHu
open Option.some renaming inj → qA8,injEq → qD1
open Bool renaming and_eq_true_iff → qAl,false_ne_true → qAr,and_eq_true → qAw,eq_iff_iff → qC1,eq_false_iff → qC5,and_false → qCn,false_and → qDh,and_true → qDs,xor_false → qDz,not_eq_true' → qEa,true_and → qEb,or_eq_false_iff → qEf,or_eq_true → qEu,not_eq_true → qFd,noConfusion → qFe,or_false → qFh,or_true → qFv,xor_assoc → qG2,false_eq_true → qHh
open PySem.Heap renaming get?_push_of_some → qAp,get?_push_size → qB9,lt_size → qCg,size_push → qEk,get?_none_of_le → qH2
open Option renaming isSome_iff_exists → qAs,ite_none_left_eq_some → qBd,map_eq_some_iff → qBm,ite_none_right_eq_some → qBs,bind_some → qDb,bind_eq_some_iff → qEr,bind → qF2,bind_assoc → qHj
open Eq renaming trans → qAz,refl → qHs
open PySem.Builtin.Str renaming strSliceIndices → qBw,strKind → qC3,occurrences → qCa
open Ne renaming symm → qBz
open ForInStep renaming yield → qC8
open Int.NonNeg renaming mk → qCd
open PySem.Sem renaming bind_eq_wrap' → qCl,wrap_wrap → qDt
open PySem.Calls renaming docDef → qD0
open Int renaming toNat_natCast → qD2,ofNat_lt → qF9,natCast_emod → qGl,ofNat_le → qGr,toNat_of_nonneg → qH7
open PySem.W.Fast renaming tw10110043849684766642 → qD5,tw14364793385576792824 → qD6
open PySem.NameKind renaming free → qDf,cell → qGc
open PySem.Value renaming isInt → qDi,int → qEj,none → qHk
open PySem.Frame renaming where_ → qDp
open Prod.mk renaming inj → qDr
open List.cons renaming inj → qDw
open PySem.Builtin.List renaming listFitsIndex → qEd,listTooLong → qG6
open PySem.Txt renaming split → qEi
open PUnit renaming unit → qEp
open PySem.F renaming plainAttrs_str → qEy,slot_str_split → qFb,args_str_split_2 → qFu,entry_str_split → qG3,plainAttrs_list → qGf,slot_list_iadd → qGj,slot_str_find → qGs
open Nat.succ renaming inj → qF8
open PySem.Obj renaming mapSeq → qFk
open Array renaming getElem?_push → qFp,getElem?_eq_some_iff → qFs,toList_append → qHb,ext_getElem? → qHe,toList_push → qHm
open PySem.AutoSeq1 renaming sub_tuple_tuple → qG5,sub_tuple_list → qGd,sub_list_tuple → qGe,sub_list_list → qGm
open PySem.Shared renaming asleep_of_life → qGp
open PySem.W.WShape renaming hasItems → qGu,has → qHn
open PyProof.Rows renaming neg_int → qH1
open Nat.le renaming step → qH8
open PySem.Spec renaming ltCps → qHl
open Decidable renaming not_not → qHo
open Iff renaming rfl → qHr
open PySem.GenState renaming fresh → qHv
open Int.ofNat renaming inj → qHx
section
set_option Elab.async false
set_option linter.all false
set_option genSizeOf false
set_option genCtorIdx false
set_option genInjectivity false
namespace Mine
inductive FEx where
 |v (i:Nat)
 |n (k:Nat)
 |a (x y:FEx)
 |m (k:Nat) (x:FEx)
inductive FCx where
 |l (x y:FEx)
 |t (x y:FEx)
 |q (x y:FEx)
 |r (x y:FEx)
 |f
noncomputable def FCx.ctorIdx (x:FCx):Nat:=@FCx.casesOn (fun _=>Nat) x (fun _ _=>0) (fun _ _=>1) (fun _ _=>2) (fun _ _=>3) 4
noncomputable def fg:List Nat→Nat→Nat
 |[],_=>0
 |x::_,0=>x
 |_::t,i+1=>fg t i
noncomputable def fdz (c:List Nat):FEx→Nat
 |.v i=>fg c i
 |.n k=>k
 |.a x y=>fdz c x+fdz c y
 |.m k x=>k*fdz c x
noncomputable def fpz (c:List Nat):FCx→Prop
 |.l x y=>fdz c x≤fdz c y
 |.t x y=>fdz c x<fdz c y
 |.q x y=>fdz c x=fdz c y
 |.r x y=>fdz c x=fdz c y
 |.f=>False
noncomputable def fDz (c:List Nat):List FCx→Prop→Prop
 |[],g=>g
 |h::hs,g=>fpz c h→fDz c hs g
noncomputable def faz:List Nat→List Nat→List Nat
 |[],y=>y
 |x::s,[]=>x::s
 |x::s,y::t=>(x+y)::faz s t
noncomputable def fm (k:Nat):List Nat→List Nat
 |[]=>[]
 |x::s=>(k*x)::fm k s
noncomputable def fu:Nat→List Nat
 |0=>[1]
 |i+1=>0::fu i
noncomputable def ff:FEx→List Nat
 |.v i=>0::fu i
 |.n k=>[k]
 |.a x y=>faz (ff x) (ff y)
 |.m k x=>fm k (ff x)
noncomputable def fle:List Nat→List Nat→Bool
 |[],_=>true
 |x::s,[]=>Nat.beq x 0&&fle s []
 |x::s,y::t=>Nat.ble x y&&fle s t
noncomputable def fo:List Nat→List Nat→Nat
 |[],_=>0
 |_::_,[]=>0
 |a::c,x::s=>x*a+fo c s
noncomputable def fh:List Nat→Nat
 |[]=>1
 |x::_=>x
noncomputable def ft:List Nat→List Nat
 |[]=>[]
 |_::t=>t
noncomputable def fc (L R:List Nat):List FCx→List Nat→Bool
 |[],_=>fle (faz [1] R) L
 |.l x y::hs,k=>fc (faz L (fm (fh k) (ff x))) (faz R (fm (fh k) (ff y))) hs (ft k)
 |.t x y::hs,k=>fc (faz L (fm (fh k) (faz [1] (ff x)))) (faz R (fm (fh k) (ff y))) hs (ft k)
 |.q x y::hs,k=>fc (faz L (fm (fh k) (ff x))) (faz R (fm (fh k) (ff y))) hs (ft k)
 |.r x y::hs,k=>fc (faz L (fm (fh k) (ff y))) (faz R (fm (fh k) (ff x))) hs (ft k)
 |.f::_,_=>true
noncomputable def fk' (hs:List FCx)(k:List Nat):FCx→Bool
 |.l x y=>fc (fm (fh k) (faz [1] (ff y))) (fm (fh k) (ff x)) hs (ft k)
 |.t x y=>fc (fm (fh k) (ff y)) (fm (fh k) (ff x)) hs (ft k)
 |.f=>fc [] [] hs k
 |_=>false
theorem fo_nil (c):fo c []=0:=by cases c<;>rfl
theorem fo_fa:∀(c s t:List Nat),fo c (faz s t)=fo c s+fo c t
 |c,[],t=>((congrArg (·+fo c t) (fo_nil c)).trans (qB2 _)).symm
 |c,x::s,[]=>(congrArg (fo c (x::s)+·) (fo_nil c)).symm
 |[],_::_,_::_=>rfl
 |a::c,x::s,y::t=>by
   show (x+y)*a+fo c (faz s t)=(x*a+fo c s)+(y*a+fo c t)
   rw [fo_fa c s t,Nat.add_mul];exact qH0 ..
theorem fo_fm (k):∀(c s:List Nat),fo c (fm k s)=k*fo c s
 |c,[]=>by rw [fo_nil];exact fo_nil c
 |[],_::_=>rfl
 |a::c,x::s=>by
   show k*x*a+fo c (fm k s)=k*(x*a+fo c s)
   rw [fo_fm k c s,Nat.mul_add,Nat.mul_assoc]
theorem fo_fu:∀(c:List Nat) (i),fo c (fu i)=fg c i
 |[],i=>by cases i<;>rfl
 |a::c,0=>by show 1*a+fo c []=a;rw [fo_nil];exact qHq a
 |a::c,i+1=>by show 0*a+fo c (fu i)=fg c i;rw [Nat.zero_mul,qB2];exact fo_fu c i
theorem fo_ff (c):∀e:FEx,fo (1::c) (ff e)=fdz c e
 |.v i=>show 0+fo c (fu i)=fg c i from (qB2 _).trans (fo_fu c i)
 |.n k=>by show k*1+fo c []=k;rw [fo_nil];exact Nat.mul_one k
 |.a x y=>by show fo (1::c) (faz (ff x) (ff y))=fdz c x+fdz c y;rw [fo_fa,fo_ff c x,fo_ff c y]
 |.m k x=>by show fo (1::c) (fm k (ff x))=k*fdz c x;rw [fo_fm,fo_ff c x]
theorem fo_fle:∀(c s t:List Nat),fle s t=true→fo c s≤fo c t
 |c,[],t,_=>by rw [fo_nil];exact qBr _
 |[],x::s,t,_=>qBr _
 |a::c,x::s,[],h=>by
   have⟨h1,h2⟩:=(qAw _ _).mp h
   have h3:=fo_fle c s [] h2
   rw [fo_nil] at h3
   show x*a+fo c s≤0
   rw [Nat.eq_of_beq_eq_true h1,Nat.zero_mul,qB2];exact h3
 |a::c,x::s,y::t,h=>by
   have⟨h1,h2⟩:=(qAw _ _).mp h
   exact qDy (Nat.mul_le_mul_right _ (Nat.le_of_ble_eq_true h1)) (fo_fle c s t h2)
theorem fo_1 (c:List Nat):fo (1::c) [1]=1:=congrArg (1+·) (fo_nil c)
theorem fc_ok (c):∀(hs:List FCx) (k L R:List Nat),fc L R hs k=true→fo (1::c) L≤fo (1::c) R→fDz c hs False
 |[],k,L,R,h,h1=>by
   have h2:=fo_fle (1::c) _ _ h
   rw [fo_fa,fo_1] at h2
   exact absurd (qA9 h2 h1) (by rw [qCo];exact Nat.not_succ_le_self _)
 |.l x y::hs,k,L,R,h,h1=>fun h2=>fc_ok c hs _ _ _ h (by
   rw [fo_fa,fo_fa,fo_fm,fo_fm,fo_ff,fo_ff];exact qDy h1 (qCh _ h2))
 |.t x y::hs,k,L,R,h,h1=>fun h2=>fc_ok c hs _ _ _ h (by
   rw [fo_fa,fo_fa,fo_fm,fo_fm,fo_fa,fo_1,fo_ff,fo_ff,qCo 1];exact qDy h1 (qCh _ h2))
 |.q x y::hs,k,L,R,h,h1=>fun h2=>fc_ok c hs _ _ _ h (by
   rw [fo_fa,fo_fa,fo_fm,fo_fm,fo_ff,fo_ff];exact qDy h1 (qCh _ (qEo h2)))
 |.r x y::hs,k,L,R,h,h1=>fun h2=>fc_ok c hs _ _ _ h (by
   rw [fo_fa,fo_fa,fo_fm,fo_fm,fo_ff,fo_ff];exact qDy h1 (qCh _ (qEo (Eq.symm h2))))
 |.f::hs,k,L,R,h,h1=>fun h2=>h2.elim
theorem fD_of {c}{g g':Prop}(h:g→g'):∀hs:List FCx,fDz c hs g→fDz c hs g'
 |[],h1=>h h1
 |_::hs,h1=>fun h2=>fD_of h hs (h1 h2)
theorem fD_tr {c}:∀hs:List FCx,fDz c hs True
 |[]=>trivial
 |_::hs=>fun _=>fD_tr hs
theorem fD_em {c}{g:Prop}(hs:List FCx)(h:¬g→fDz c hs False):fDz c hs g:=
 (Classical.em g).elim (fun h1=>fD_of (fun _=>h1) hs (fD_tr hs))
  (fun h1=>fD_of False.elim hs (h h1))
theorem jk (c:List Nat)(hs:List FCx)(g:FCx)(k:List Nat)(h:fk' hs k g=true):fDz c hs (fpz c g):=by
 refine fD_em hs fun h1=>?_
 cases g with
 |l x y=>exact fc_ok c hs _ _ _ h (by rw [fo_fm,fo_fm,fo_fa,fo_1,fo_ff,fo_ff,qCo 1];exact qCh _ (qGh h1))
 |t x y=>exact fc_ok c hs _ _ _ h (by rw [fo_fm,fo_fm,fo_ff,fo_ff];exact qCh _ (qDx h1))
 |q x y=>exact absurd (show false=true from h) qAr
 |r x y=>exact absurd (show false=true from h) qAr
 |f=>exact fc_ok c hs k _ _ h (by rw [fo_nil];exact qA7 _)
noncomputable def flz:FCx→FCx
 |.q x y=>.r x y
 |.r x y=>.q x y
 |x=>x
theorem fD_fl {c}{g:Prop}:∀hs:List FCx,fDz c (hs.map flz) g→fDz c hs g
 |[],h=>h
 |x::hs,h=>fun h1=>fD_fl hs (h (by cases x<;>exact h1))
theorem fD_and {c}{g g' G:Prop}(h:g→g'→G):∀hs:List FCx,fDz c hs g→fDz c hs g'→fDz c hs G
 |[],a,b=>h a b
 |_::hs,a,b=>fun x=>fD_and h hs (a x) (b x)
theorem jq (c:List Nat)(hs:List FCx)(x y:FEx)(k k2:List Nat)(h:fk' hs k (.l x y)=true)(h2:fk' (hs.map flz) k2 (.l y x)=true) :
  fDz c hs (fdz c x=fdz c y):=
 fD_and (fun a b=>qE2 a b) hs (jk c hs (.l x y) k h) (fD_fl hs (jk c (hs.map flz) (.l y x) k2 h2))
theorem jL (c:List Nat)(hs:List FCx)(g:FCx)(h:fk' hs [] g=true):fDz c hs (fpz c g):=jk c hs g [] h
theorem jQ (c:List Nat)(hs:List FCx)(x y:FEx)(h:fk' hs [] (.l x y)=true)(h2:fk' (hs.map flz) [] (.l y x)=true) :
  fDz c hs (fdz c x=fdz c y):=jq c hs x y [] [] h h2
theorem jT:true=true:=rfl
noncomputable def xa:FEx:=.v 0
noncomputable def xb:FEx:=.v 1
noncomputable def xc:FEx:=.v 2
noncomputable def xd:FEx:=.v 3
noncomputable def xe:FEx:=.v 4
noncomputable def xf:FEx:=.v 5
noncomputable def xg:FEx:=.v 6
noncomputable def xh:FEx:=.v 7
noncomputable def eN (k:Nat):FEx:=.n k
noncomputable def eA (x y:FEx):FEx:=.a x y
noncomputable def eU (x:FEx):FEx:=.a x (.n 1)
noncomputable def eM (k:Nat)(x:FEx):FEx:=.m k x
noncomputable def cL (x y:FEx):FCx:=.l x y
noncomputable def cT (x y:FEx):FCx:=.t x y
noncomputable def cQ (x y:FEx):FCx:=.q x y
noncomputable def cR (x y:FEx):FCx:=.r x y
noncomputable def cF:FCx:=.f
end Mine
end

section
open PySem PySem.W PyProof.Rows
namespace Mine
noncomputable def evS (p:Program)(w:World)(n₀:Nat)(ann:Option Value)(rec:Code→List (Code×Pos)→Shared→Pos→Option (Flow×Shared×Pos))(code:Code)(below:List (Code×Pos)){α:Type} :
  Sem α→Shared→Pos→Option (α×Shared×Pos)
 |.pure a,s,q=>some (a,s,q)
 |.rule _ k,s,q=>evS p w n₀ ann rec code below (k ()) s q
 |.at q' k,s,_=>evS p w n₀ ann rec code below (k ()) s q'
 |.load a _ k,s,q=>match s.heap.get? a with
  |some o=>evS p w n₀ ann rec code below (k o) s q
  |none=>none
 |.update a _ f k,s,q=>match (Nat.ble n₀ a || a==mainNs || a==cStatics || ann==some (.ref a))&&(s.heap.get? a).isSome with
  |true=>evS p w n₀ ann rec code below (k ()) { s with heap:=s.heap.update a f } q
  |false=>none
 |.alloc o k,s,q=>evS p w n₀ ann rec code below (k s.heap.objs.size) { s with heap:=s.heap.push o } q
 |.loadIfAlive a k,s,q=>evS p w n₀ ann rec code below (k (s.heap.get? a)) s q
 |.point _ k,s,q=>evS p w n₀ ann rec code below (k ()) s q
 |.fresh k,s,q=>evS p w n₀ ann rec code below (k s.toks) { s with toks:=s.toks+1 } q
 |.ask k,s,q=>evS p w n₀ ann rec code below (k ⟨p,w.params⟩) s q
 |.stack k,s,q=>evS p w n₀ ann rec code below (k ((code,q)::below)) s q
 |.call c _ _ _ k,s,q=>match rec c ((code,q)::below) s q with
  |some (f,s',_)=>evS p w n₀ ann rec code below (k (.ok f)) s' q
  |none=>none
 |_,_,_=>none
noncomputable def evC (tb:String→Option Builtin)(p:Program)(w:World)(n₀:Nat)(ann:Option Value):Nat→Code→List (Code×Pos)→Shared→Pos→Option (Flow×Shared×Pos)
 |0,_,_,_,_=>none
 |g+1,c,below,s,q=>match evS p w n₀ ann (evC tb p w n₀ ann g) c below (denote tb c) s q with
  |some (.done f,s',q')=>some (f,s',q')
  |some (.again c',s',q')=>match c'.quiet with
   |true=>evC tb p w n₀ ann g c' below s' q'
   |false=>none
  |none=>none
section
variable {tb:String→Option Builtin}{p:Program}{w:World}{n₀:Nat}{ann:Option Value}{b:Nat}
theorem ob_inv {α β:Type}{x:Option α}{f:α→Option β}{r:β}(h:x.bind f=some r):∃a,x=some a∧f a=some r:=by
 cases x with
 |none=>cases h
 |some a=>exact⟨a,rfl,h⟩
theorem ob_of {α β:Type}{x:Option α}{f:α→Option β}{r:β}{a:α}(h:x=some a)(k:f a=some r):x.bind f=some r:=by rw [h];exact k
theorem cd_inv {α:Type}{c:Bool}{x:Option α}{r:α}(h:cond c x none=some r):c=true∧x=some r:=by
 cases c with
 |false=>cases h
 |true=>exact⟨rfl,h⟩
theorem cd_of {α:Type}{c:Bool}{x:Option α}{r:α}(h:c=true)(k:x=some r):cond c x none=some r:=by rw [h];exact k
theorem cd_bind {α β:Type}{c:Bool}{x:Option α}{f:α→Option β}:(cond c x none).bind f=cond c (x.bind f) none:=by rcases c with _|_<;>rfl
noncomputable def stepK {α:Type}(e:Option Flow)(k:Bool)(r:Step)(f:Shared→Thread→Option α):Option α:=match e with
 |some _=>none
 |none=>match k with
  |false=>none
  |true=>match r with
   |.go s' t'=>f s' t'
   |.halt _ _=>none
theorem sk_inv {α:Type}{e:Option Flow}{k:Bool}{r:Step}{f:Shared→Thread→Option α}{z:α}(h:stepK e k r f=some z):e=none∧k=true∧∃s' t',r=.go s' t'∧f s' t'=some z:=by
 cases e with
 |some _=>cases h
 |none=>cases k with
  |false=>cases h
  |true=>cases r with
   |halt _ _=>cases h
   |go s' t'=>exact⟨rfl,rfl,s',t',rfl,h⟩
theorem sk_of {α:Type}{e:Option Flow}{k:Bool}{r:Step}{f:Shared→Thread→Option α}{s':Shared}{t':Thread}(he:e=none)(hk:k=true)(hr:r=.go s' t'):stepK e k r f=f s' t':=by rw [he,hk,hr];rfl
theorem sg_succ {n:Nat}{s:Shared}{t:Thread}:segGo tb p w n₀ ann b (n+1) s t=stepK (endAt b t) (stepOk n₀ ann t) (step (denote tb) p w s t) (fun s' t'=>segGo tb p w n₀ ann b n s' t'):=by kernel_rfl
theorem segGo_add:∀{n m:Nat} {s s₁:Shared} {t t₁:Thread} {r:Shared×Thread},segGo tb p w n₀ ann b n s t=some (s₁,t₁)→segGo tb p w n₀ ann b m s₁ t₁=some r→
  segGo tb p w n₀ ann b (n+m) s t=some r
 |0,m,s,s₁,t,t₁,r,h,k=>by
  have h:=qA8 (show some (s,t)=some (s₁,t₁) from h)
  cases h
  rw [qB2];exact k
 |n+1,m,s,s₁,t,t₁,r,h,k=>by
  obtain⟨he,hk,s',t',hs,h⟩:=sk_inv (sg_succ.symm.trans h)
  rw [Nat.succ_add]
  exact sg_succ.trans ((sk_of he hk hs).trans (segGo_add h k))
theorem segGo_one {s s':Shared}{t t':Thread}(he:endAt b t=none)(hk:stepOk n₀ ann t=true)(hs:step (denote tb) p w s t=.go s' t') :
  segGo tb p w n₀ ann b 1 s t=some (s',t'):=sg_succ.trans (sk_of he hk hs)
noncomputable def endM:Bool→Sem Fin→Option Flow
 |true,.pure (.done f)=>some f
 |_,_=>none
theorem ev_step {s s₁:Shared}{x:Sem Fin}{code:Code}{q:Pos}{st:List Frame}{t₁:Thread}{r:Shared×Thread}(he:∀y,endM y x=none)(hk:stepOk n₀ ann ⟨x,code,q,st⟩=true)(hs:step (denote tb) p w s ⟨x,code,q,st⟩=.go s₁ t₁)
  (h:∃n,segGo tb p w n₀ ann b n s₁ t₁=some r):∃n,segGo tb p w n₀ ann b n s ⟨x,code,q,st⟩=some r:=by
 obtain⟨n,hn⟩:=h
 exact⟨n+1,sg_succ.trans ((sk_of (show endM (st.length==b) x=none from he _) hk hs).trans hn)⟩
noncomputable def CallOk (tb:String→Option Builtin)(p:Program)(w:World)(n₀:Nat)(ann:Option Value)(rec:Code→List (Code×Pos)→Shared→Pos→Option (Flow×Shared×Pos)):Prop:=
 ∀c below s q f s' q',rec c below s q=some (f,s',q')→∀k h gd l cd p0 kept st b,(cd,p0)::st.map qDp=below→b≤st.length→
  ∃n c' kept',segGo tb p w n₀ ann b n s ⟨denote tb c,c,q,.ret k h gd l cd p0 kept::st⟩=some (s',⟨.pure (.done f),c',q',.ret k h gd l cd p0 kept'::st⟩)
theorem endAt_long {t:Thread}(h:b<t.stack.length):endAt b t=none:=by
 unfold endAt
 rw [show (t.stack.length==b)=false from beq_eq_false_iff_ne.mpr (qCf h)]
theorem step_call_go {s:Shared}{c:Code}{m:Option Value}{g:Bool}{l:List Value}{k:Result→Sem Fin}{code:Code}{q:Pos}{st:List Frame} :
  ∃kept,step (denote tb) p w s ⟨.call c m g l k,code,q,st⟩=.go s ⟨denote tb c,c,q,.ret k m g l code q kept::st⟩:=by
 obtain⟨heap,gens,drawn,toks,os⟩:=s
 exact⟨_,rfl⟩
section
variable {rec:Code→List (Code×Pos)→Shared→Pos→Option (Flow×Shared×Pos)}{code:Code}{below:List (Code×Pos)}{α:Type}{s:Shared}{q:Pos}
theorem es_load {x:Addr}{y:Option Value}{k:Obj→Sem α}:evS p w n₀ ann rec code below (.load x y k) s q=(s.heap.get? x).bind fun o=>evS p w n₀ ann rec code below (k o) s q:=by kernel_rfl
theorem es_update {x:Addr}{y:Option Value}{f:Obj→Obj}{k:Unit→Sem α}:evS p w n₀ ann rec code below (.update x y f k) s q =
  cond ((Nat.ble n₀ x || x==mainNs || x==cStatics || ann==some (.ref x))&&(s.heap.get? x).isSome) (evS p w n₀ ann rec code below (k ()) { s with heap:=s.heap.update x f } q) none:=by kernel_rfl
theorem es_call {c:Code}{m:Option Value}{g:Bool}{l:List Value}{k:Result→Sem α}:evS p w n₀ ann rec code below (.call c m g l k) s q =
  (rec c ((code,q)::below) s q).bind fun r=>evS p w n₀ ann rec code below (k (.ok r.1)) r.2.1 q:=by kernel_rfl
end
noncomputable def SegTo (tb:String→Option Builtin)(p:Program)(w:World)(n₀:Nat)(ann:Option Value)(code:Code)(below:List (Code×Pos)){α:Type}(x:Sem α)(s s':Shared)(q q':Pos)(a:α):Prop:=
 ∀(K:α→Sem Fin) (H:Value→Sem Fin) (gd:Bool→Bool) (lv:List Value→List Value) (st:List Frame) (b:Nat),st.map qDp=below→b≤st.length→
    ∃n,segGo tb p w n₀ ann b n s ⟨x.wrap K H gd lv,code,q,st⟩=some (s',⟨K a,code,q',st⟩)
theorem evS_spec {rec:Code→List (Code×Pos)→Shared→Pos→Option (Flow×Shared×Pos)}(hrec:CallOk tb p w n₀ ann rec){code:Code}{below:List (Code×Pos)}{α:Type} :
  ∀(x:Sem α) (s s':Shared) (q q':Pos) (a:α),evS p w n₀ ann rec code below x s q=some (a,s',q')→SegTo tb p w n₀ ann code below x s s' q q' a:=by
 intro x
 induction x with
 |pure a=>
  intro s s' q q' a' h K H gd lv st b _ _
  obtain⟨rfl,g⟩:=qDr (qA8 (show some (a,s,q)=some (a',s',q') from h))
  obtain⟨rfl,rfl⟩:=qDr g
  exact⟨0,rfl⟩
 |load x y k ih=>
  intro s s' q q' a h K H gd lv st b hst hb
  obtain⟨o,ho,h⟩:=ob_inv (es_load.symm.trans h)
  exact ev_step (fun y=>by rcases y with _|_<;>rfl) rfl (by cases s;simp only [Sem.wrap,step,ho]) (ih o s s' q q' a h K H gd lv st b hst hb)
 |update x y f k ih=>
  intro s s' q q' a h K H gd lv st b hst hb
  obtain⟨hc,h⟩:=cd_inv (es_update.symm.trans h)
  obtain⟨hc1,hc2⟩:=qAl.mp hc
  exact ev_step (fun y=>by rcases y with _|_<;>rfl) hc1 (by cases s;simp only [Sem.wrap,step,hc2,if_true]) (ih () _ s' q q' a h K H gd lv st b hst hb)
 |stack k ih=>
  intro s s' q q' a h K H gd lv st b hst hb
  subst hst
  exact ev_step (fun y=>by rcases y with _|_<;>rfl) rfl rfl (ih _ s s' q q' a h K H gd lv st b rfl hb)
 |call c m g l k ih=>
  intro s s' q q' a h K H gd lv st b hst hb
  obtain⟨⟨f,s₁,q₁⟩,hr,h⟩:=ob_inv (es_call.symm.trans h)
  obtain⟨kept,hk⟩:=step_call_go (tb:=tb) (p:=p) (w:=w) (s:=s) (c:=c) (m:=m) (g:=gd g) (l:=lv l) (k:=fun x=>(k x).wrap K H gd lv) (code:=code) (q:=q) (st:=st)
  obtain⟨n',c',kept',h2⟩:=hrec _ _ _ _ _ _ _ hr (fun x=>(k x).wrap K H gd lv) m (gd g) (lv l) code q kept st b (by rw [hst]) hb
  obtain⟨n,hn⟩:=ih _ _ s' q q' a h K H gd lv st b hst hb
  refine ev_step (fun y=>by rcases y with _|_<;>rfl) rfl hk ⟨n'+(1+n),segGo_add h2 (segGo_add (segGo_one (endAt_long (qCi hb)) rfl ?_) hn)⟩
  rfl
 |os=>intro s s' q q' a h;exact nomatch (show (none:Option (α×Shared×Pos))=some (a,s',q') from h)
 |raise=>intro s s' q q' a h;exact nomatch (show (none:Option (α×Shared×Pos))=some (a,s',q') from h)
 |_=>
  intro s s' q q' a h
  rename_i ih
  first
  |(intro K H gd lv st b hst hb;exact ev_step (fun y=>by rcases y with _|_<;>rfl) rfl rfl (ih _ _ _ _ _ _ h K H gd lv st b hst hb))
  |exact nomatch (show (none:Option (α×Shared×Pos))=some (a,s',q') from h)
theorem wrap_self {α:Type}(x:Sem α):x.wrap .pure .raise id id=x:=by
 induction x<;>simp only [Sem.wrap,id, *]
noncomputable def finK (tb:String→Option Builtin)(p:Program)(w:World)(n₀:Nat)(ann:Option Value)(g:Nat)(below:List (Code×Pos)):Fin×Shared×Pos→Option (Flow×Shared×Pos)
 |(.done f,s',q')=>some (f,s',q')
 |(.again c',s',q')=>cond c'.quiet (evC tb p w n₀ ann g c' below s' q') none
theorem evC_succ {g:Nat}{c:Code}{below:List (Code×Pos)}{s:Shared}{q:Pos}:evC tb p w n₀ ann (g+1) c below s q=(evS p w n₀ ann (evC tb p w n₀ ann g) c below (denote tb c) s q).bind (finK tb p w n₀ ann g below):=by kernel_rfl
theorem evC_ok:∀g,CallOk tb p w n₀ ann (evC tb p w n₀ ann g)
 |0=>fun c below s q f s' q' h=>nomatch (show (none:Option (Flow×Shared×Pos))=some (f,s',q') from h)
 |g+1=>fun c below s q f s' q' h k hd gd l cd p0 kept st b hst hb=>by
  have ih:=evC_ok g
  obtain⟨⟨fin,s₁,q₁⟩,he,h⟩:=ob_inv (evC_succ.symm.trans h)
  obtain⟨n,hn⟩:=evS_spec ih (denote tb c) s s₁ q q₁ fin he .pure .raise id id (.ret k hd gd l cd p0 kept::st) b (by rw [←hst];rfl) (qB4 hb)
  rw [wrap_self] at hn
  cases fin with
  |done f'=>
   cases qA8 (show some (f',s₁,q₁)=some (f,s',q') from h)
   exact⟨n,c,kept,hn⟩
  |again c'=>
   obtain⟨hq,h⟩:=cd_inv (show cond c'.quiet (evC tb p w n₀ ann g c' below s₁ q₁) none=_ from h)
   obtain⟨n',c'',kept'',h2⟩:=ih _ _ _ _ _ _ _ h k hd gd l cd p0 (keptBy c c' l kept) st b hst hb
   refine⟨n+(1+n'),c'',kept'',segGo_add hn (segGo_add (segGo_one (endAt_long (qCi hb)) ?_ ?_) h2)⟩
   ·simp only [stepOk,qDs,Thread.calm_eq,Thread.loud_again,hq,Thread.refused];rfl
   ·obtain⟨heap,gens,drawn,toks,os⟩:=s₁
    exact step_again
theorem seg_ev {g:Nat}{st:Stmt}{env:Env}{s s':Shared}{c:Code}{q q' q₀:Pos}(h:evS p w n₀ ann (evC tb p w n₀ ann g) c ([topFrame q₀].map qDp) (exec st env) s q=some (.next,s',q')) :
  ∃n,segRun tb p w n₀ ann 1 n s (pieceOf st env c q [topFrame q₀])=some (.next,s',c,q'):=by
 obtain⟨n,hn⟩:=evS_spec (evC_ok g) _ _ _ _ _ _ h doneF deadEnd id id [topFrame q₀] 1 rfl (qA7 _)
 exact⟨n+1,seg_go hn (by unfold segRun;rfl)⟩
end

section
variable {p:Program}{w:World}{n₀:Nat}{ann:Option Value}{rec:Code→List (Code×Pos)→Shared→Pos→Option (Flow×Shared×Pos)}{code:Code}{below:List (Code×Pos)}
theorem evS_bind {α β:Type}(x:Sem α)(f:α→Sem β):∀s q,evS p w n₀ ann rec code below (x >>= f) s q=(evS p w n₀ ann rec code below x s q).bind fun r=>evS p w n₀ ann rec code below (f r.1) r.2.1 r.2.2:=by
 show ∀s q,evS p w n₀ ann rec code below (x.bind f) s q=_
 induction x with
 |load a y k ih=>exact fun s q=>(es_load (k:=fun o=>(k o).bind f)).trans ((congrArg _ (funext fun o=>ih o s q)).trans ((qHj _ _ _).symm.trans (congrArg (qF2 · _) es_load.symm)))
 |update a y g k ih=>exact fun s q=>(es_update (k:=fun o=>(k o).bind f)).trans ((congrArg (cond _ · none) (ih () _ q)).trans (cd_bind.symm.trans (congrArg (qF2 · _) es_update.symm)))
 |call c m g l k ih=>exact fun s q=>(es_call (k:=fun o=>(k o).bind f)).trans ((congrArg _ (funext fun r=>ih _ _ q)).trans ((qHj _ _ _).symm.trans (congrArg (qF2 · _) es_call.symm)))
 |_=>intro s q;first|rfl|(rename_i ih;exact ih _ _ _)
theorem evS_keep {α:Type}(vs:List Value)(x:Sem α):∀s q,evS p w n₀ ann rec code below (x.keep vs) s q=evS p w n₀ ann rec code below x s q:=by
 induction x with
 |load a y k ih=>exact fun s q=>(es_load (k:=fun o=>(k o).keep vs)).trans ((congrArg _ (funext fun o=>ih o s q)).trans es_load.symm)
 |update a y g k ih=>exact fun s q=>(es_update (k:=fun o=>(k o).keep vs)).trans ((congrArg (cond _ · none) (ih () _ q)).trans es_update.symm)
 |call c m g l k ih=>exact fun s q=>(es_call (k:=fun o=>(k o).keep vs)).trans ((congrArg _ (funext fun r=>ih _ _ q)).trans es_call.symm)
 |_=>intro s q;first|rfl|(rename_i ih;exact ih _ _ _)
theorem evS_holding {α:Type}(vs:List Value)(x:Sem α)(s:Shared)(q:Pos):evS p w n₀ ann rec code below (holding vs x) s q=evS p w n₀ ann rec code below x s q:=by
 unfold holding
 split
 ·rfl
 ·exact evS_keep _ _ _ _
theorem ev_b {α β:Type}{x:Sem α}{f:α→Sem β}{s s':Shared}{q q':Pos}{a:α}{r:Option (β×Shared×Pos)}(h:evS p w n₀ ann rec code below x s q=some (a,s',q'))(k:evS p w n₀ ann rec code below (f a) s' q'=r):evS p w n₀ ann rec code below (x >>= f) s q=r:=
 (evS_bind x f s q).trans ((congrArg (qF2 · _) h).trans k)
theorem ev_h {α:Type}{vs:List Value}{x:Sem α}{s:Shared}{q:Pos}{r:Option (α×Shared×Pos)}(k:evS p w n₀ ann rec code below x s q=r):evS p w n₀ ann rec code below (holding vs x) s q=r:=(evS_holding vs x s q).trans k
theorem ev_no {α:Type}{c:Prop} [Decidable c]{x y:Sem α}{s:Shared}{q:Pos}{r:Option (α×Shared×Pos)}(h:¬c)(k:evS p w n₀ ann rec code below y s q=r):evS p w n₀ ann rec code below (if c then x else y) s q=r:=by rw [if_neg h];exact k
theorem evS_onRaise {α:Type}(h:Value→Sem Unit)(x:Sem α):∀s q r,evS p w n₀ ann rec code below x s q=some r→evS p w n₀ ann rec code below (x.onRaise h) s q=some r:=by
 induction x with
 |load a y k ih=>
  intro s q r e
  obtain⟨o,ho,e⟩:=ob_inv (es_load.symm.trans e)
  exact (es_load (k:=fun o=>(k o).onRaise h)).trans (ob_of ho (ih o s q r e))
 |update a y g k ih=>
  intro s q r e
  obtain⟨ho,e⟩:=cd_inv (es_update.symm.trans e)
  exact (es_update (k:=fun o=>(k o).onRaise h)).trans (cd_of ho (ih () _ q r e))
 |call c m g l k ih=>
  intro s q r e
  obtain⟨o,ho,e⟩:=ob_inv (es_call.symm.trans e)
  exact (es_call (k:=fun o=>(k o).onRaise h)).trans (ob_of ho (ih _ _ q r e))
 |pure a=>intro s q r e;exact e
 |os=>intro s q r e;exact nomatch (show (none:Option (α×Shared×Pos))=some r from e)
 |raise=>intro s q r e;exact nomatch (show (none:Option (α×Shared×Pos))=some r from e)
 |_=>intro s q r e;rename_i ih;first|exact ih _ _ _ _ e|exact nomatch (show (none:Option (α×Shared×Pos))=some r from e)
end
end Mine
end

section
open PySem PySem.W PyProof.Rows
namespace Mine
set_option maxRecDepth 100000
section
variable (p:Program)(w:World)(n₀:Nat)(ann:Option Value)(g:Nat)(code:Code)(below:List (Code×Pos))
theorem ev_bsib (i:Int)(t:Nat)(s:Shared)(q:Pos) (rec) :
 evS p w n₀ ann rec code below (bindSpecialIfBound? (.int i t) "__hash__") s q=some (some (.builtin "int.__hash__", [.int i t]),s,q):=by
 cases h:w.params.followText "special-get-raises" with
 |true=>
  unfold bindSpecialIfBound?
  rw [evS_bind,show evS p w n₀ ann rec code below (specialOf (.int i t) "__hash__") s q=some (some (.builtin "int.__hash__"),s,q) by kernel_rfl]
  simp only [qDb]
  rw [evS_bind]
  show (some (_,s,q)).bind (fun r=>_)=_
  simp only [qDb,h,if_true]
  kernel_rfl
 |false=>
  unfold bindSpecialIfBound?
  rw [evS_bind,show evS p w n₀ ann rec code below (specialOf (.int i t) "__hash__") s q=some (some (.builtin "int.__hash__"),s,q) by kernel_rfl]
  simp only [qDb]
  rw [evS_bind]
  show (some (_,s,q)).bind (fun r=>_)=_
  simp only [qDb,h]
  kernel_rfl
theorem ev_call_hash (i:Int)(t:Nat)(s:Shared)(q:Pos) :
  evS p w n₀ ann (evC treeTable p w n₀ ann (g+3)) code below (call (.builtin "int.__hash__") [.int i t]) s q=some (.int (rawHash i) s.toks,{ s with toks:=s.toks+1 },q):=by
 obtain⟨heap,gens,drawn,toks,os⟩:=s
 kernel_rfl
theorem ev_pyHash (i:Int)(t:Nat)(s:Shared)(q:Pos) :
  evS p w n₀ ann (evC treeTable p w n₀ ann (g+3)) code below (pyHash (.int i t)) s q=some (hashInt i,{ s with toks:=s.toks+1 },q):=by
 have hr:=rawHash_range i
 show evS p w n₀ ann (evC treeTable p w n₀ ann (g+3)) code below (pyHashByItsType (.int i t)) s q=_
 have e1:evS p w n₀ ann (evC treeTable p w n₀ ann (g+3)) code below (cRoomFor "hash" [.int i t]) s q=some ((),s,q):=by kernel_rfl
 have e2:evS p w n₀ ann (evC treeTable p w n₀ ann (g+3)) code below (specialOf (.int i t) "__hash__") s q=some (some (.builtin "int.__hash__"),s,q):=by kernel_rfl
 have e3:evS p w n₀ ann (evC treeTable p w n₀ ann (g+3)) code below (callSpecialIfBoundUnlessNone? (.int i t) "__hash__" (do rule "hash.unhashable"; raiseError "TypeError" s!"unhashable type: '{← typeNameOf (.int i t)}'")) s q=some (some (.int (rawHash i) s.toks),{ s with toks:=s.toks+1 },q):=
  ev_h (ev_b (ev_bsib ..) (ev_no (by rw [show (Value.builtin "int.__hash__" == qHk)=false by rfl];exact qAr) (ev_b (ev_call_hash ..) rfl)))
 refine ev_b e1 (ev_b e2 (ev_no (by rw [beq_builtin_none];exact qAr) (ev_b e2 (ev_no (by exact qAr) (ev_b e3 ?_)))))
 show evS p w n₀ ann (evC treeTable p w n₀ ann (g+3)) code below (if (decide (-(2:Int) ^ 63≤rawHash i)&&decide (rawHash i<2 ^ 63))=true then _ else _) _ q=_
 rw [if_pos (by rw [decide_eq_true hr.1,decide_eq_true hr.2];rfl)]
 rfl
end
noncomputable def hp (l:List Obj)(life:Life):Heap:=⟨l.toArray,life⟩
noncomputable def dObj (es:List DictEntry):Obj:={ cls:=.type "dict", data:=.dict es.toArray es.length }
theorem hp_push (l:List Obj)(life:Life)(o:Obj):(hp l life).push o=hp (l++[o]) life:=by simp [hp,Heap.push]
theorem hp_get {l r:List Obj}{life:Life}{es:List DictEntry}{d:Nat}(hd:d=l.length):(hp (l++dObj es::r) life).get? d=some (dObj es):=by
 subst hd
 refine Heap.get?_some_iff.mpr ⟨?_,rfl⟩
 simp [hp]
theorem hp_update {l r:List Obj}{life:Life}{o:Obj}{f:Obj→Obj}{d:Nat}(hd:d=l.length):(hp (l++o::r) life).update d f=hp (l++f o::r) life:=by
 subst hd
 unfold hp Heap.update
 simp only [Heap.mk.injEq,and_true]
 apply qHe
 intro i
 rw [Array.getElem?_modify,qDd,qDd]
 by_cases hi:l.length=i
 ·subst hi;simp
 ·rw [if_neg hi]
  by_cases h2:i<l.length
  ·rw [qCm h2,qCm h2]
  ·rw [qBq (qCj.mp h2),qBq (qCj.mp h2)]
   obtain⟨j,hj⟩:∃j,i-l.length=j+1:=⟨i-l.length-1,(qAg (Nat.sub_pos_of_lt (qFt (qCj.mp h2) hi))).symm⟩
   rw [hj];rfl
theorem dObj_push (es:List DictEntry)(e:DictEntry):Obj.mapDictKeys (·.push e) (dObj es)=dObj (es++[e]):=
 congr (congrArg (fun a n=>(⟨.type "dict", none,.dict a n,#[]⟩:Obj)) (List.push_toArray ..)) (qA1 (as:=es) (bs:=[e])).symm
section
variable {p:Program}{w:World}{n₀:Nat}{ann:Option Value}{rec:Code→List (Code×Pos)→Shared→Pos→Option (Flow×Shared×Pos)}{code:Code}{below:List (Code×Pos)}
variable {l r:List Obj}{life:Life}{es:List DictEntry}{gens:Array GenState}{drawn:Drawn}{toks:Nat}{os:OsState}{q:Pos}{d:Nat}
theorem ev_load {α:Type}{a:Addr}{part:Option Value}{k:Obj→Sem α}{s:Shared}{o:Obj}(h:s.heap.get? a=some o) :
  evS p w n₀ ann rec code below (.load a part k) s q=evS p w n₀ ann rec code below (k o) s q:=by
 rw [es_load,h];rfl
theorem ev_update {α:Type}{a:Addr}{part:Option Value}{f:Obj→Obj}{k:Unit→Sem α}{s:Shared}{o:Obj}(h:s.heap.get? a=some o)(h0:n₀≤a) :
  evS p w n₀ ann rec code below (.update a part f k) s q=evS p w n₀ ann rec code below (k ()) { s with heap:=s.heap.update a f } q:=by
 have hb:Nat.ble n₀ a=true:=Nat.ble_eq_true_of_le h0
 rw [es_update,h,hb];rfl
theorem ev_dictEntries {part:Option Value}{s:Shared}(h:s.heap.get? d=some (dObj es)) :
  evS p w n₀ ann rec code below (dictEntries d part) s q=some (es.toArray,s,q):=by
 exact ev_b (ev_load (k:=.pure) h) rfl
theorem ev_dictEpoch {part:Option Value}{s:Shared}(h:s.heap.get? d=some (dObj es)) :
  evS p w n₀ ann rec code below (dictEpoch d part) s q=some (es.length,s,q):=by
 exact ev_b (ev_load (k:=.pure) h) rfl
theorem places_none (es:List DictEntry)(h:Int)(hn:∀e∈es,e.hash≠h):placesWithHash es.toArray.size (fun i=>es.toArray[i]?.map (·.hash)) h=[]:=by
 unfold placesWithHash
 rw [List.filter_eq_nil_iff]
 intro i hi
 show ¬((es.toArray[i]?.map (·.hash))==some h)=true
 rw [qDd]
 cases he:es[i]? with
 |none=>simp
 |some e=>simpa using hn e (qFf he)
theorem ev_dictFind {i:Int}{t:Nat}{h:Int}{s:Shared}(hd:s.heap.get? d=some (dObj es))(hn:∀e∈es,e.hash≠h) :
  evS p w n₀ ann rec code below (dictFind d (.int i t) h) s q=some (none,s,q):=by
 refine ev_h (ev_b (ev_dictEntries hd) ?_)
 exact (places_none es h hn).symm▸rfl
theorem ev_push {part:Option Value}{e:DictEntry}(hd:d=l.length)(h0:n₀≤d)(hsz:es.length<100000) :
  evS p w n₀ ann rec code below (updateDictKeys d (·.push e) part) ⟨hp (l++dObj es::r) life,gens,drawn,toks,os⟩ q =
   some ((),⟨hp (l++dObj (es++[e])::r) life,gens,drawn,toks,os⟩,q):=by
 have hl:(dObj (es++[e])).data.pastItsLine=none:=by
  show (if (es++[e]).toArray.size > sizeLine+1 then some "dict:memory" else none)=none
  rw [if_neg]
  simp [sizeLine];exact jL [_] [cT xa (eN 100000)] (cL xa (eN 16777216)) jT hsz
 have h2:evS p w n₀ ann rec code below (lookBehind d part) ⟨hp (l++dObj (es++[e])::r) life,gens,drawn,toks,os⟩ q=some ((),⟨hp (l++dObj (es++[e])::r) life,gens,drawn,toks,os⟩,q):=
  ev_b (ev_load (k:=.pure) (o:=dObj (es++[e])) (hp_get hd)) (hl.symm▸rfl)
 refine ev_b (ev_load (k:=.pure) (o:=dObj es) (hp_get hd)) (ev_b (x:=updatePart d part (Obj.mapDictKeys (·.push e))) (ev_update (k:=.pure) (o:=dObj es) (hp_get hd) h0) ?_)
 rw [hp_update hd,dObj_push]
 exact h2
theorem ev_dictSet {g:Nat}{i:Int}{t:Nat}{v:Value}(hd:d=l.length)(h0:n₀≤d)(hsz:es.length<100000)(hn:∀e∈es,e.hash≠hashInt i) :
  evS p w n₀ ann (evC treeTable p w n₀ ann (g+3)) code below (dictSet d (.int i t) v) ⟨hp (l++dObj es::r) life,gens,drawn,toks,os⟩ q =
   some ((),⟨hp (l++dObj (es++[⟨hashInt i,.int i t,v⟩])::r) life,gens,drawn,toks+1,os⟩,q):=by
 exact ev_h (ev_b (ev_pyHash ..) (ev_h (ev_b (ev_dictFind (hp_get hd) hn) (ev_b (a:=()) rfl (ev_push hd h0 hsz)))))
theorem ev_dictPut {i:Int}{t:Nat}{h:Int}{v:Value}(hd:d=l.length)(h0:n₀≤d)(hsz:es.length<100000)(hn:∀e∈es,e.hash≠h) :
  evS p w n₀ ann rec code below (dictPut d h (.int i t) v) ⟨hp (l++dObj es::r) life,gens,drawn,toks,os⟩ q =
   some ((),⟨hp (l++dObj (es++[⟨h,.int i t,v⟩])::r) life,gens,drawn,toks,os⟩,q):=by
 exact ev_b (ev_dictFind (hp_get hd) hn) (ev_push hd h0 hsz)
end
noncomputable def entsL:Nat→List (Int×Str)→List DictEntry
 |_,[]=>[]
 |t,(i,x)::r=>⟨hashInt i,.int i t,.str x (t+1)⟩::entsL (t+3) r
noncomputable def entsS:Nat→List (Int×Str)→List DictEntry
 |_,[]=>[]
 |t,(i,x)::r=>⟨hashInt i,.int i t,.str x (t+1)⟩::entsS (t+2) r
noncomputable def PairOk (p:Program)(w:World)(n₀:Nat)(ann:Option Value)(rec:Code→List (Code×Pos)→Shared→Pos→Option (Flow×Shared×Pos))(code:Code)(below:List (Code×Pos))(x:Sem Value×Sem Value)(e:Int×Str):Prop:=
 ∀heap gens drawn toks os q,(∃q',evS p w n₀ ann rec code below x.1 ⟨heap,gens,drawn,toks,os⟩ q=some (.int e.1 toks,⟨heap,gens,drawn,toks+1,os⟩,q'))∧
  ∃q',evS p w n₀ ann rec code below x.2 ⟨heap,gens,drawn,toks,os⟩ q=some (.str e.2 toks,⟨heap,gens,drawn,toks+1,os⟩,q')
noncomputable def AllOk (p:Program)(w:World)(n₀:Nat)(ann:Option Value)(rec:Code→List (Code×Pos)→Shared→Pos→Option (Flow×Shared×Pos))(code:Code)(below:List (Code×Pos)):List (Sem Value×Sem Value)→List (Int×Str)→Prop
 |[],[]=>True
 |x::xs,e::es=>PairOk p w n₀ ann rec code below x e∧AllOk p w n₀ ann rec code below xs es
 |_,_=>False
theorem hash_entsL:∀t l,(entsL t l).map (·.hash)=l.map (fun x=>hashInt x.1)
 |_,[]=>rfl
 |t,(i,x)::r=>by simp [entsL,hash_entsL (t+3) r]
theorem hash_entsS:∀t l,(entsS t l).map (·.hash)=l.map (fun x=>hashInt x.1)
 |_,[]=>rfl
 |t,(i,x)::r=>by simp [entsS,hash_entsS (t+2) r]
section
variable {p:Program}{w:World}{n₀:Nat}{ann:Option Value}{g:Nat}{code:Code}{below:List (Code×Pos)}
variable {life:Life}{gens:Array GenState}{drawn:Drawn}{os:OsState}
theorem AllOk.length:∀{xs:List (Sem Value×Sem Value)} {l:List (Int×Str)},AllOk p w n₀ ann rec code below xs l→xs.length=l.length
 |[],[],_=>rfl
 |_::_,_::_,h=>by simp [AllOk.length h.2]
 |[],_::_,h=>h.elim
 |_::_,[],h=>h.elim
theorem ev_cons {α σ:Type}{rec:Code→List (Code×Pos)→Shared→Pos→Option (Flow×Shared×Pos)}{f:α→σ→Sem (ForInStep σ)}{a:α}{xs:List α}{b b':σ}{s s':Shared}{q q':Pos}{r:Option (σ×Shared×Pos)}
  (h:evS p w n₀ ann rec code below (f a b) s q=some (.yield b',s',q')) (k:evS p w n₀ ann rec code below (forIn xs b' f) s' q'=r):evS p w n₀ ann rec code below (forIn (a::xs) b f) s q=r:=
 (congrArg (fun z=>evS p w n₀ ann rec code below z s q) (qE3 ..)).trans (ev_b h k)
theorem fin_eq {α:Type}{a:α}{l r:List Obj}{A B:List DictEntry}{n m:Nat}{q:Pos}(ha:A=B)(hn:n=m):some (a,(⟨hp (l++dObj A::r) life,gens,drawn,n,os⟩:Shared),q)=some (a,⟨hp (l++dObj B::r) life,gens,drawn,m,os⟩,q):=by rw [ha,hn]
theorem ev_longLoop (f:Sem Value×Sem Value→PUnit→Sem (ForInStep PUnit)){d:Nat}
  (hf:∀k v,f (k,v) ⟨⟩=do let kv ←k;let vv ←holding [kv] v;holding [kv,vv] (dictSet d kv vv);pure (.yield ⟨⟩)) {l r:List Obj} (hd:d=l.length) (h0:n₀≤d) :
  ∀(xs:List (Sem Value×Sem Value)) (ents:List (Int×Str)) (es:List DictEntry) (toks:Nat) (q:Pos),AllOk p w n₀ ann (evC treeTable p w n₀ ann (g+3)) code below xs ents→
   es.length+ents.length<100000→(∀e∈es,∀x∈ents,e.hash≠hashInt x.1)→(ents.map fun x=>hashInt x.1).Nodup→
   ∃q',evS p w n₀ ann (evC treeTable p w n₀ ann (g+3)) code below (forIn xs qEp f) ⟨hp (l++dObj es::r) life,gens,drawn,toks,os⟩ q =
    some (qEp,⟨hp (l++dObj (es++entsL toks ents)::r) life,gens,drawn,toks+3*ents.length,os⟩,q')
 |[],[],es,toks,q,_,_,_,_=>⟨q,by simp [entsL,forIn,qGo];rfl⟩
 |(k,v)::xs,(i,x)::ents,es,toks,q,ha,hl,hn,hnd=>by
  obtain⟨hp1,ha⟩:=ha
  simp only [qAd] at hl
  simp only [qAh,qCp] at hnd
  obtain⟨⟨q1,h1⟩,_⟩:=hp1 (hp (l++dObj es::r) life) gens drawn toks os q
  obtain⟨_,⟨q2,h2⟩⟩:=hp1 (hp (l++dObj es::r) life) gens drawn (toks+1) os q1
  obtain⟨q3,h3⟩:=ev_longLoop (r:=r) f hf hd h0 xs ents (es++[⟨hashInt i,.int i toks,.str x (toks+1)⟩]) (toks+3) q2 ha (by simp;exact jL [_,_] [cT (eA xa (eU xb)) (eN 100000)] (cT (eA (eU xa) xb) (eN 100000)) jT hl)
   (by
    intro e he y hy
    rcases qAc.mp he with he|he
    ·exact hn e he y (qA3 _ hy)
    ·obtain rfl:e=_:=by simpa using he
     exact fun (q:hashInt i=hashInt y.1)=>hnd.1 (by rw [q];exact qBk (f:=fun x:Int×Str=>hashInt x.1) hy)) hnd.2
  exact⟨q3,ev_cons ((hf k v).symm▸ev_b h1 (ev_b (ev_h h2) (ev_b (ev_h (ev_dictSet hd h0 (jL [_,_] [cT (eA xa (eU xb)) (eN 100000)] (cT xa (eN 100000)) jT hl) fun e he=>hn e he (i,x) (qA5 ..))) rfl)))
   (h3.trans (fin_eq (qAe ..) (show toks+3+3*ents.length=toks+3*(ents.length+1) by exact jQ [_,_] [] (eA (eA xa (eN 3)) (eM 3 xb)) (eA xa (eM 3 (eU xb))) jT jT)))⟩
 |[],_::_,_,_,_,h,_,_,_=>h.elim
 |_::_,[],_,_,_,h,_,_,_=>h.elim
theorem ev_evalPairs:∀(xs:List (Sem Value×Sem Value)) (ents:List (Int×Str)) (toks:Nat) (q:Pos) (heap:Heap),AllOk p w n₀ ann (evC treeTable p w n₀ ann (g+3)) code below xs ents→
   ∃q',evS p w n₀ ann (evC treeTable p w n₀ ann (g+3)) code below (evalPairs xs) ⟨heap,gens,drawn,toks,os⟩ q =
    some ((entsS toks ents).map (fun e=>(e.key,e.val)),⟨heap,gens,drawn,toks+2*ents.length,os⟩,q')
 |[],[],toks,q,heap,_=>⟨q,rfl⟩
 |(k,v)::xs,(i,x)::ents,toks,q,heap,ha=>by
  obtain⟨hp1,ha⟩:=ha
  obtain⟨⟨q1,h1⟩,_⟩:=hp1 heap gens drawn toks os q
  obtain⟨_,⟨q2,h2⟩⟩:=hp1 heap gens drawn (toks+1) os q1
  obtain⟨q3,h3⟩:=ev_evalPairs xs ents (toks+2) q2 heap ha
  exact⟨q3,ev_b h1 (ev_b (ev_h h2) (ev_b (ev_h h3) (congrArg (fun n=>some (_,(⟨heap,gens,drawn,n,os⟩:Shared),q3)) (show toks+2+2*ents.length=toks+2*(ents.length+1) by exact jQ [_,_] [] (eA (eA xa (eN 2)) (eM 2 xb)) (eA xa (eM 2 (eU xb))) jT jT))))⟩
 |[],_::_,_,_,_,h=>h.elim
 |_::_,[],_,_,_,h=>h.elim
theorem ev_shortLoop (f:Value×Value→PUnit→Sem (ForInStep PUnit)){d:Nat}
  (hf:∀k v,f (k,v) ⟨⟩=do dictSet d k v;pure (.yield ⟨⟩)) {l r:List Obj} (hd:d=l.length) (h0:n₀≤d) :
  ∀(ents:List (Int×Str)) (es:List DictEntry) (t toks:Nat) (q:Pos),
   es.length+ents.length<100000→(∀e∈es,∀x∈ents,e.hash≠hashInt x.1)→(ents.map fun x=>hashInt x.1).Nodup→
   evS p w n₀ ann (evC treeTable p w n₀ ann (g+3)) code below (forIn ((entsS t ents).map (fun e=>(e.key,e.val))) qEp f) ⟨hp (l++dObj es::r) life,gens,drawn,toks,os⟩ q =
    some (qEp,⟨hp (l++dObj (es++entsS t ents)::r) life,gens,drawn,toks+ents.length,os⟩,q)
 |[],es,t,toks,q,_,_,_=>by simp [entsS,forIn,qGo];rfl
 |(i,x)::ents,es,t,toks,q,hl,hn,hnd=>by
  simp only [qAd] at hl
  simp only [qAh,qCp] at hnd
  have h3:=ev_shortLoop (r:=r) f hf hd h0 ents (es++[⟨hashInt i,.int i t,.str x (t+1)⟩]) (t+2) (toks+1) q (by simp;exact jL [_,_] [cT (eA xa (eU xb)) (eN 100000)] (cT (eA (eU xa) xb) (eN 100000)) jT hl)
   (by
    intro e he y hy
    rcases qAc.mp he with he|he
    ·exact hn e he y (qA3 _ hy)
    ·obtain rfl:e=_:=by simpa using he
     exact fun (q:hashInt i=hashInt y.1)=>hnd.1 (by rw [q];exact qBk (f:=fun x:Int×Str=>hashInt x.1) hy)) hnd.2
  exact ev_cons ((hf ..).symm▸ev_b (ev_dictSet hd h0 (by exact jL [_,_] [cT (eA xa (eU xb)) (eN 100000)] (cT xa (eN 100000)) jT hl) fun e he=>hn e he (i,x) (qA5 ..)) rfl) (h3.trans (fin_eq (qAe ..) (show toks+1+ents.length=toks+(ents.length+1) by exact jQ [_,_] [] (eA (eU xa) xb) (eA xa (eU xb)) jT jT)))
theorem ev_new {l:List Obj}{toks:Nat}{rec:Code→List (Code×Pos)→Shared→Pos→Option (Flow×Shared×Pos)}{q:Pos}{o:Obj}:evS p w n₀ ann rec code below (alloc o) ⟨hp l life,gens,drawn,toks,os⟩ q=some (l.length,⟨hp (l++[o]) life,gens,drawn,toks,os⟩,q):=by
 rw [←hp_push];rfl
theorem ev_yes {α:Type}{rec:Code→List (Code×Pos)→Shared→Pos→Option (Flow×Shared×Pos)}{c:Prop} [Decidable c]{x y:Sem α}{s:Shared}{q:Pos}{r:Option (α×Shared×Pos)}(h:c)(k:evS p w n₀ ann rec code below x s q=r):evS p w n₀ ann rec code below (if c then x else y) s q=r:=by rw [if_pos h];exact k
theorem ev_subDict_long {l:List Obj}{toks:Nat}{q:Pos}{xs:List (Sem Value×Sem Value)}{ents:List (Int×Str)}(h0:n₀≤l.length)(ha:AllOk p w n₀ ann (evC treeTable p w n₀ ann (g+3)) code below xs ents)
  (hlen:15<ents.length) (hl:ents.length<100000) (hnd:(ents.map fun x=>hashInt x.1).Nodup) :
  ∃q',evS p w n₀ ann (evC treeTable p w n₀ ann (g+3)) code below (subDict xs) ⟨hp l life,gens,drawn,toks,os⟩ q =
   some (l.length,⟨hp (l++[dObj (entsL toks ents)]) life,gens,drawn,toks+3*ents.length,os⟩,q'):=by
 obtain⟨q',h⟩:=ev_longLoop (p:=p) (w:=w) (n₀:=n₀) (ann:=ann) (g:=g) (code:=code) (below:=below) (life:=life) (gens:=gens) (drawn:=drawn) (os:=os)
  (fun (x:Sem Value×Sem Value) (_:PUnit)=>(do let kv ←x.1;let vv ←holding [kv] x.2;holding [kv,vv] (dictSet l.length kv vv);pure (qC8 qEp)))
  (fun _ _=>rfl) (l:=l) (r:=[]) rfl h0 xs ents [] toks q ha (by simpa using hl) (by simp) hnd
 exact⟨q',ev_b ev_new (ev_b (ev_h (ev_no (by rw [ha.length];exact (fun e_=>jL [_] [cT (eN 15) xa,cL xa (eN 15)] cF jT hlen e_)) (ev_b (a:=()) rfl (ev_b h rfl)))) rfl)⟩
theorem ev_subDict_short {l:List Obj}{toks:Nat}{q:Pos}{xs:List (Sem Value×Sem Value)}{ents:List (Int×Str)}(h0:n₀≤l.length)(ha:AllOk p w n₀ ann (evC treeTable p w n₀ ann (g+3)) code below xs ents)
  (hlen:ents.length≤15) (hnd:(ents.map fun x=>hashInt x.1).Nodup) :
  ∃q',evS p w n₀ ann (evC treeTable p w n₀ ann (g+3)) code below (subDict xs) ⟨hp l life,gens,drawn,toks,os⟩ q =
   some (l.length,⟨hp (l++[dObj (entsS toks ents)]) life,gens,drawn,toks+3*ents.length,os⟩,q'):=by
 obtain⟨q',h⟩:=ev_evalPairs (p:=p) (w:=w) (n₀:=n₀) (ann:=ann) (g:=g) (code:=code) (below:=below) (gens:=gens) (drawn:=drawn) (os:=os) xs ents toks q (hp (l++[dObj []]) life) ha
 have h2:=ev_shortLoop (p:=p) (w:=w) (n₀:=n₀) (ann:=ann) (g:=g) (code:=code) (below:=below) (life:=life) (gens:=gens) (drawn:=drawn) (os:=os)
  (fun (x:Value×Value) (_:PUnit)=>(do dictSet l.length x.1 x.2;pure (qC8 qEp):Sem (ForInStep PUnit)))
  (fun _ _=>rfl) (l:=l) (r:=[]) rfl h0 ents [] toks (toks+2*ents.length) q' (by simp;exact jL [_] [cL xa (eN 15)] (cT xa (eN 100000)) jT hlen) (by simp) hnd
 exact⟨q',ev_b ev_new (ev_b (ev_h (ev_yes (by rw [ha.length];exact hlen) (ev_b h (ev_h (ev_b (h2.trans (fin_eq rfl (show toks+2*ents.length+ents.length=toks+3*ents.length by exact jQ [_,_] [] (eA (eA xa (eM 2 xb)) xb) (eA xa (eM 3 xb)) jT jT))) rfl))))) rfl)⟩
end
section
variable {p:Program}{w:World}{n₀:Nat}{ann:Option Value}{rec:Code→List (Code×Pos)→Shared→Pos→Option (Flow×Shared×Pos)}{code:Code}{below:List (Code×Pos)}
variable {life:Life}{gens:Array GenState}{drawn:Drawn}{toks:Nat}{os:OsState}{q:Pos}
theorem ev_typeOf_dict {a:Addr}{fs:List DictEntry}{s:Shared}(h:s.heap.get? a=some (dObj fs)) :
  evS p w n₀ ann rec code below (typeOf (.ref a)) s q=some (.type "dict", s,q):=by
 exact ev_b (x:=loadPart a (some headPart)) (f:=fun o=>pure o.cls) (ev_load (k:=.pure) h) rfl
theorem ev_isInst_dict {a:Addr}{fs:List DictEntry}{s:Shared}(h:s.heap.get? a=some (dObj fs)) :
  evS p w n₀ ann rec code below (isInstance (.ref a) (.type "dict")) s q=some (true,s,q):=by
 exact ev_b (ev_typeOf_dict h) (by kernel_rfl)
theorem ev_special_dict {a:Addr}{fs:List DictEntry}{s:Shared}(h:s.heap.get? a=some (dObj fs)) :
  evS p w n₀ ann rec code below (specialOf (.ref a) "__iter__") s q=some (some (.builtin "dict.__iter__"),s,q):=by
 exact ev_b (ev_typeOf_dict h) (by kernel_rfl)
noncomputable def IntKeyed (fs:List DictEntry):Prop:=∀e∈fs,∃i t,e.key=.int i t
theorem ev_mergeLoop (f:Nat→PUnit→Sem (ForInStep PUnit)){d a:Nat}{epoch:Nat}
  (hf:∀i,∃G:Array DictEntry→Sem (ForInStep PUnit),f i ⟨⟩=(dictEntries a >>= G)∧∀(es:Array DictEntry) e,es[i]?=some e→G es=do
    holding [e.key,e.val] (dictPut d e.hash e.key e.val)
    let ep ←dictEpoch a
    if (ep != epoch)=true then do
      unsupported "dict.changed-during-merge"
      pure (.yield ⟨⟩)
     else pure (.yield ⟨⟩))
  {l r:List Obj} (hd:d=l.length) (h0:n₀≤d) {fs:List DictEntry} (hep:epoch=fs.length) (hk:IntKeyed fs) :
  ∀(rest dn es:List DictEntry) (k:Nat),fs=dn++rest→k=dn.length→a=(l++dObj es::r).length→es.length+rest.length<100000→
   (∀e∈es,∀x∈rest,e.hash≠x.hash)→(rest.map (·.hash)).Nodup→
   evS p w n₀ ann rec code below (forIn (qAm k rest.length) qEp f) ⟨hp (l++dObj es::(r++[dObj fs])) life,gens,drawn,toks,os⟩ q =
    some (qEp,⟨hp (l++dObj (es++rest)::(r++[dObj fs])) life,gens,drawn,toks,os⟩,q)
 |[],dn,es,k,_,_,_,_,_,_=>by simp [forIn,qGo];rfl
 |⟨eh,ek,ev⟩::rest,dn,es,k,hfs,hkk,ha,hl,hn,hnd=>by
  obtain⟨i,t,rfl⟩:∃i t,ek=.int i t:=hk ⟨eh,ek,ev⟩ (by rw [hfs];simp)
  have hg:∀es',(hp (l++dObj es'::(r++[dObj fs])) life).get? a=some (dObj fs):=fun es'=>by
   have:a=(l++dObj es'::r).length:=by rw [ha];simp
   have:=hp_get (l:=l++dObj es'::r) (r:=[]) (life:=life) (es:=fs) this
   simpa using this
  simp only [qAd] at hl
  simp only [qAh,qCp] at hnd
  have h3:=ev_mergeLoop (r:=r) f hf hd h0 hep hk rest (dn++[⟨eh,.int i t,ev⟩]) (es++[⟨eh,.int i t,ev⟩]) (k+1) (by simp [hfs]) (by simp [hkk]) (by rw [ha];simp) (by simp;exact jL [_,_] [cT (eA xa (eU xb)) (eN 100000)] (cT (eA (eU xa) xb) (eN 100000)) jT hl)
   (by
    intro x hx y hy
    rcases qAc.mp hx with hx|hx
    ·exact hn x hx y (qA3 _ hy)
    ·obtain rfl:=qAi.mp hx
     exact fun (q:eh=y.hash)=>hnd.1 (by rw [q];exact qBk (f:=fun x:DictEntry=>x.hash) hy)) hnd.2
  obtain⟨G,hG1,hG⟩:=hf k
  have he:fs.toArray[k]?=some ⟨eh,.int i t,ev⟩:=by rw [qDd,hfs,hkk];simp
  exact ev_cons (xs:=qAm (k+1) rest.length) (hG1.symm▸ev_b (ev_dictEntries (hg es)) ((hG _ _ he).symm▸ev_b (ev_h (ev_dictPut hd h0 (jL [_,_] [cT (eA xa (eU xb)) (eN 100000)] (cT xa (eN 100000)) jT hl) fun x hx=>hn x hx _ (qA5 ..))) (ev_b (ev_dictEpoch (hg _)) (ev_no (by simp [hep]) rfl))))
   (h3.trans (fin_eq (qAe ..) rfl))
theorem ev_merge {l r:List Obj}{d a:Nat}{es fs:List DictEntry}(hd:d=l.length)(h0:n₀≤d)(ha:a=(l++dObj es::r).length)(hs:(a==sysModules)=false)(hne:es≠[])(hk:IntKeyed fs)
  (hl:es.length+fs.length<100000) (hn:∀e∈es,∀x∈fs,e.hash≠x.hash) (hnd:(fs.map (·.hash)).Nodup) :
  evS p w n₀ ann rec code below (mergeMapping d (.ref a) false) ⟨hp (l++dObj es::(r++[dObj fs])) life,gens,drawn,toks,os⟩ q =
    some ((),⟨hp (l++dObj (es++fs)::(r++[dObj fs])) life,gens,drawn,toks,os⟩,q):=by
 have hg:(hp (l++dObj es::(r++[dObj fs])) life).get? a=some (dObj fs):=by
  have:=hp_get (l:=l++dObj es::r) (r:=[]) (life:=life) (es:=fs) ha
  simpa using this
 have hgd:(hp (l++dObj es::(r++[dObj fs])) life).get? d=some (dObj es):=hp_get hd
 refine ev_b (ev_isInst_dict hg) (ev_yes rfl (ev_b (ev_special_dict hg) (ev_b (a:=true) (s':=⟨hp (l++dObj es::(r++[dObj fs])) life,gens,drawn,toks,os⟩) (q':=q) (by kernel_rfl) ?_)))
 refine ev_no (c:=(a==sysModules)=true) (by rw [hs];exact qAr) ?_
 refine ev_b (ev_dictEntries hgd) ?_
 refine ev_no (c:=es.toArray.isEmpty=true) (by simpa using hne) ?_
 refine ev_b (ev_dictEntries hg) (ev_b (ev_dictEpoch hg) (ev_b
   ((congrArg (fun z=>evS p w n₀ ann rec code below (forIn z qEp _) _ q) (show qAf fs.toArray.size=qAm 0 fs.length by rw [qCx];rfl)).trans (ev_mergeLoop _ ?_ hd h0 rfl hk fs [] es 0 rfl rfl ha hl hn hnd)) rfl))
 exact fun i=>⟨_,rfl,fun es e he=>by simp only [he];rfl⟩
end
end Mine
end

section
open PySem PySem.W PyProof.Rows
namespace Mine
set_option genSizeOf false
set_option genInjectivity false
set_option maxRecDepth 100000
theorem entsL_append:∀(t:Nat) (a b:List (Int×Str)),entsL t (a++b)=entsL t a++entsL (t+3*a.length) b
 |t,[],b=>rfl
 |t,(i,x)::a,b=>by
  simp only [qB7,entsL,qAd,entsL_append (t+3) a b]
  rw [show t+3+3*a.length=t+3*(a.length+1) by exact jQ [_,_] [] (eA (eA xa (eN 3)) (eM 3 xb)) (eA xa (eM 3 (eU xb))) jT jT]
theorem entsL_keyed:∀(t:Nat) (a:List (Int×Str)),IntKeyed (entsL t a)
 |_,[]=>fun _ h=>nomatch h
 |t,(i,x)::a=>fun e he=>by
  rcases qA6.mp he with rfl|he
  ·exact⟨_,_,rfl⟩
  ·exact entsL_keyed _ a e he
theorem entsS_keyed:∀(t:Nat) (a:List (Int×Str)),IntKeyed (entsS t a)
 |_,[]=>fun _ h=>nomatch h
 |t,(i,x)::a=>fun e he=>by
  rcases qA6.mp he with rfl|he
  ·exact⟨_,_,rfl⟩
  ·exact entsS_keyed _ a e he
theorem entsL_length:∀(t:Nat) (a:List (Int×Str)),(entsL t a).length=a.length
 |_,[]=>rfl
 |t,(i,x)::a=>by simp [entsL,entsL_length (t+3) a]
theorem entsS_length:∀(t:Nat) (a:List (Int×Str)),(entsS t a).length=a.length
 |_,[]=>rfl
 |t,(i,x)::a=>by simp [entsS,entsS_length (t+2) a]
noncomputable def subsL:Nat→Nat→List (Int×Str)→List Obj
 |0,_,_=>[]
 |n+1,t,l=>dObj (entsL t (l.take 17))::subsL n (t+51) (l.drop 17)
noncomputable abbrev LoopF:=Option (Sem Value)×Sem Value→Option Addr×List (Sem Value×Sem Value)→Sem (ForInStep (Option Addr×List (Sem Value×Sem Value)))
noncomputable def somes (xs:List (Sem Value×Sem Value)):List (Option (Sem Value)×Sem Value):=xs.map fun x=>(some x.1,x.2)
theorem fill (f:LoopF)(F1:∀k v m run,run.length+1≠17→f (some k,v) (m,run)=pure (.yield (m,run++[(k,v)]))) :
  ∀(xs:List (Sem Value×Sem Value)) (rest:List (Option (Sem Value)×Sem Value)) (m:Option Addr) (run:List (Sem Value×Sem Value)),run.length+xs.length<17→
   forIn (somes xs++rest) (m,run) f=forIn rest (m,run++xs) f
 |[],rest,m,run,_=>by simp [somes]
 |(k,v)::xs,rest,m,run,h=>by
  simp only [qAd] at h
  show forIn ((some k,v)::(somes xs++rest)) (m,run) f=_
  rw [qE3,F1 k v m run (by exact (fun e_=>jL [_,_] [cT (eA xa (eU xb)) (eN 17),cR (eU xa) (eN 17)] cF jT h e_))]
  show forIn (somes xs++rest) (m,run++[(k,v)]) f=_
  rw [fill f F1 xs rest m (run++[(k,v)]) (by simp;exact jL [_,_] [cT (eA xa (eU xb)) (eN 17)] (cT (eA (eU xa) xb) (eN 17)) jT h)]
  simp
section
variable {p:Program}{w:World}{n₀:Nat}{ann:Option Value}{g:Nat}{code:Code}{below:List (Code×Pos)}
variable {life:Life}{gens:Array GenState}{drawn:Drawn}{toks:Nat}{os:OsState}{q:Pos}
structure LoopOk (p:Program)(w:World)(n₀:Nat)(ann:Option Value)(rec:Code→List (Code×Pos)→Shared→Pos→Option (Flow×Shared×Pos))(code:Code)(below:List (Code×Pos))(f:LoopF):Prop where
 F1:∀k v m run,run.length+1≠17→f (some k,v) (m,run)=pure (.yield (m,run++[(k,v)]))
 F2:∀k v run s q a s' q',run.length+1=17→evS p w n₀ ann rec code below (subDict (run++[(k,v)])) s q=some (a,s',q')→evS p w n₀ ann rec code below (f (some k,v) (none,run)) s q=some (.yield (some a,[]),s',q')
 F3:∀k v d run s q a s' q' s'' q'',run.length+1=17→evS p w n₀ ann rec code below (subDict (run++[(k,v)])) s q=some (a,s',q')→evS p w n₀ ann rec code below (mergeMapping d (.ref a) false) s' q'=some ((),s'',q'')→
  evS p w n₀ ann rec code below (f (some k,v) (some d,run)) s q=some (.yield (some d,[]),s'',q'')
theorem AllOk.append {rec}:∀{a b:List (Sem Value×Sem Value)} {l:List (Int×Str)},AllOk p w n₀ ann rec code below (a++b) l→AllOk p w n₀ ann rec code below a (l.take a.length)∧AllOk p w n₀ ann rec code below b (l.drop a.length)
 |[],b,l,h=>⟨trivial,h⟩
 |x::a,b,[],h=>h.elim
 |x::a,b,e::l,h=>by
  obtain⟨h1,h2⟩:=h
  obtain⟨h3,h4⟩:=AllOk.append h2
  exact⟨⟨h1,by simpa using h3⟩,by simpa using h4⟩
theorem snoc17 {α:Type}{n:Nat}{xs:List α}(hx:xs.length=n+1):∃ys y,xs=ys++[y]:=⟨xs.dropLast,xs.getLast (by intro e;rw [e] at hx;cases hx),(List.dropLast_concat_getLast _).symm⟩
theorem fill17 (f:LoopF)(F1:∀k v m run,run.length+1≠17→f (some k,v) (m,run)=pure (.yield (m,run++[(k,v)]))){ys:List (Sem Value×Sem Value)}{y:Sem Value×Sem Value}{rest:List (Option (Sem Value)×Sem Value)}(m:Option Addr)
  (hx:ys.length+1=17):forIn (somes (ys++[y])++rest) (m,[]) f=forIn ((some y.1,y.2)::rest) (m,ys) f:=by
 rw [show somes (ys++[y])++rest=somes ys++((some y.1,y.2)::rest) by simp [somes]]
 exact fill f F1 ys _ m [] (by rw [qCq,qB2];exact Nat.lt_of_succ_le (qEo hx))
theorem st_eq {l r r':List Obj}{A B:List DictEntry}{n m:Nat}(hA:A=B)(hr:r=r')(hn:n=m):(⟨hp (l++dObj A::r) life,gens,drawn,n,os⟩:Shared)=⟨hp (l++dObj B::r') life,gens,drawn,m,os⟩:=by rw [hA,hr,hn]
theorem ev_chunk1 {f:LoopF}(F:LoopOk p w n₀ ann (evC treeTable p w n₀ ann (g+3)) code below f){xs:List (Sem Value×Sem Value)}{rest:List (Option (Sem Value)×Sem Value)}{ents:List (Int×Str)}{l:List Obj}
  (hx:xs.length=17) (h0:n₀≤l.length) (ha:AllOk p w n₀ ann (evC treeTable p w n₀ ann (g+3)) code below xs ents) (hnd:(ents.map fun x=>hashInt x.1).Nodup) :
  ∃q',evS p w n₀ ann (evC treeTable p w n₀ ann (g+3)) code below (forIn (somes xs++rest) (none,[]) f) ⟨hp l life,gens,drawn,toks,os⟩ q =
   evS p w n₀ ann (evC treeTable p w n₀ ann (g+3)) code below (forIn rest (some l.length,[]) f) ⟨hp (l++[dObj (entsL toks ents)]) life,gens,drawn,toks+51,os⟩ q':=by
 have hlen:=ha.length
 obtain⟨q',h⟩:=ev_subDict_long (toks:=toks) (q:=q) (life:=life) (gens:=gens) (drawn:=drawn) (os:=os) h0 ha (by rw [←hlen,hx];decide) (by rw [←hlen,hx];decide) hnd
 rw [←hlen,hx] at h
 clear hnd ha hlen
 obtain⟨ys,y,rfl⟩:=snoc17 hx
 rw [qA1,qF6] at hx
 exact⟨q',(congrArg (fun z=>evS p w n₀ ann (evC treeTable p w n₀ ann (g+3)) code below z _ q) (fill17 f F.F1 none hx)).trans (ev_cons (F.F2 y.1 y.2 _ _ _ _ _ _ hx h) rfl)⟩
theorem ev_chunk {f:LoopF}(F:LoopOk p w n₀ ann (evC treeTable p w n₀ ann (g+3)) code below f){xs:List (Sem Value×Sem Value)}{rest:List (Option (Sem Value)×Sem Value)}{ents:List (Int×Str)}{l r:List Obj}{es:List DictEntry}
  (hx:xs.length=17) (h0:n₀≤l.length) (hs:sysModules<n₀) (ha:AllOk p w n₀ ann (evC treeTable p w n₀ ann (g+3)) code below xs ents) (hnd:(ents.map fun x=>hashInt x.1).Nodup)
  (hne:es≠[]) (hl:es.length+17<100000) (hn:∀e∈es,∀x∈ents,e.hash≠hashInt x.1) :
  ∃q',evS p w n₀ ann (evC treeTable p w n₀ ann (g+3)) code below (forIn (somes xs++rest) (some l.length,[]) f) ⟨hp (l++dObj es::r) life,gens,drawn,toks,os⟩ q =
   evS p w n₀ ann (evC treeTable p w n₀ ann (g+3)) code below (forIn rest (some l.length,[]) f) ⟨hp (l++dObj (es++entsL toks ents)::(r++[dObj (entsL toks ents)])) life,gens,drawn,toks+51,os⟩ q':=by
 have hlen:=ha.length
 obtain⟨q',h⟩:=ev_subDict_long (l:=l++dObj es::r) (toks:=toks) (q:=q) (life:=life) (gens:=gens) (drawn:=drawn) (os:=os) (by rw [qA1];exact qA9 h0 (qB5 ..)) ha (by rw [←hlen,hx];decide) (by rw [←hlen,hx];decide) hnd
 rw [←hlen,hx] at h
 have hm:=ev_merge (p:=p) (w:=w) (n₀:=n₀) (ann:=ann) (rec:=evC treeTable p w n₀ ann (g+3)) (code:=code) (below:=below) (life:=life) (gens:=gens) (drawn:=drawn) (toks:=toks+51) (os:=os) (q:=q') (l:=l) (r:=r) (d:=l.length) (a:=(l++dObj es::r).length) (es:=es) (fs:=entsL toks ents) rfl h0 rfl
  (beq_eq_false_iff_ne.mpr (qCf (qB3 hs (by rw [qA1];exact qA9 h0 (qB5 ..))))) hne (entsL_keyed _ _) (by rw [entsL_length,←hlen,hx];exact hl)
  (by
   intro e he x hx'
   have:x.hash∈(entsL toks ents).map (·.hash):=qBk (f:=fun x:DictEntry=>x.hash) hx'
   rw [hash_entsL] at this
   obtain⟨y,hy,e2⟩:=qBf.mp this
   rw [←e2]
   exact hn e he y hy) (by rw [hash_entsL];exact hnd)
 clear hnd ha hlen hn hl hne
 obtain⟨ys,y,rfl⟩:=snoc17 hx
 rw [qA1,qF6] at hx
 have h':=h.trans (congrArg (fun z=>some (_,(⟨hp z life,gens,drawn,_,os⟩:Shared),q')) (qAe ..))
 exact⟨q',(congrArg (fun z=>evS p w n₀ ann (evC treeTable p w n₀ ann (g+3)) code below z _ q) (fill17 f F.F1 _ hx)).trans (ev_cons (F.F3 y.1 y.2 _ _ _ _ _ _ _ _ _ hx h' hm) rfl)⟩
theorem ev_chunks {f:LoopF}(F:LoopOk p w n₀ ann (evC treeTable p w n₀ ann (g+3)) code below f){rest:List (Option (Sem Value)×Sem Value)}{l:List Obj}(h0:n₀≤l.length)(hs:sysModules<n₀) :
  ∀(n:Nat) (xs:List (Sem Value×Sem Value)) (ents:List (Int×Str)) (r:List Obj) (es:List DictEntry) (toks:Nat) (q:Pos),xs.length=17*n→
   AllOk p w n₀ ann (evC treeTable p w n₀ ann (g+3)) code below xs ents→(ents.map fun x=>hashInt x.1).Nodup→es≠[]→es.length+17*n<100000→(∀e∈es,∀x∈ents,e.hash≠hashInt x.1)→
   ∃q',evS p w n₀ ann (evC treeTable p w n₀ ann (g+3)) code below (forIn (somes xs++rest) (some l.length,[]) f) ⟨hp (l++dObj es::r) life,gens,drawn,toks,os⟩ q =
    evS p w n₀ ann (evC treeTable p w n₀ ann (g+3)) code below (forIn rest (some l.length,[]) f) ⟨hp (l++dObj (es++entsL toks ents)::(r++subsL n toks ents)) life,gens,drawn,toks+51*n,os⟩ q'
 |0,xs,ents,r,es,toks,q,hx,ha,_,_,_,_=>by
  obtain rfl:xs=[]:=qCy.mp (by simpa using hx)
  have:=ha.length
  obtain rfl:ents=[]:=qCy.mp this.symm
  exact⟨q,by simp [somes,entsL,subsL]⟩
 |n+1,xs,ents,r,es,toks,q,hx,ha,hnd,hne,hl,hn=>by
  have hlen:=ha.length
  have hsp:=qAy 17 xs
  rw [←hsp] at ha
  obtain⟨ha1,ha2⟩:=AllOk.append ha
  have h17:(xs.take 17).length=17:=by rw [qB6];lia
  rw [h17] at ha1 ha2
  have hsp2:=qAy 17 ents
  have hnd':=hnd
  rw [←hsp2,qAt,qE9] at hnd'
  obtain⟨q1,h1⟩:=ev_chunk F (rest:=somes (xs.drop 17)++rest) (r:=r) (es:=es) (toks:=toks) (q:=q) (life:=life) (gens:=gens) (drawn:=drawn) (os:=os) h17 h0 hs ha1 hnd'.1 hne (jL [_,_] [cT (eA xa (eM 17 (eU xb))) (eN 100000)] (cT (eA xa (eN 17)) (eN 100000)) jT hl) (fun e he x hx=>hn e he x (qEe hx))
  obtain⟨q2,h2⟩:=ev_chunks F h0 hs n (xs.drop 17) (ents.drop 17) (r++[dObj (entsL toks (ents.take 17))]) (es++entsL toks (ents.take 17)) (toks+51) q1 (by rw [qAn];exact jQ [_,_,_] [cQ xa (eM 17 (eU xb)),cQ (eA xc (eN 17)) xa] xc (eM 17 xb) jT jT hx (qAg (jL [_,_] [cR xa (eM 17 (eU xb))] (cL (eN 17) xa) jT hx))) ha2 hnd'.2.1 (by simp [hne]) (by rw [qA1,entsL_length,qB6];exact jL [_,_,_] [cT (eA xa (eM 17 (eU xb))) (eN 100000),cL xc (eN 17)] (cT (eA (eA xa xc) (eM 17 xb)) (eN 100000)) jT hl (qCr _ _))
   (by
    intro e he x hx
    rcases qAc.mp he with he|he
    ·exact hn e he x (qDj hx)
    ·have:e.hash∈(entsL toks (ents.take 17)).map (·.hash):=qBk (f:=fun x:DictEntry=>x.hash) he
     rw [hash_entsL] at this
     exact hnd'.2.2 _ this _ (qBk (f:=fun x:Int×Str=>hashInt x.1) hx))
  have hso:somes xs++rest=somes (xs.take 17)++(somes (xs.drop 17)++rest):=(congrArg (somes ·++rest) hsp.symm).trans ((congrArg (·++rest) qAt).trans (qAe ..))
  have e1:entsL toks (ents.take 17)++entsL (toks+51) (ents.drop 17)=entsL toks ents:=by
   have:=entsL_append toks (ents.take 17) (ents.drop 17)
   rw [hsp2,qB6,show min 17 ents.length=17 by lia] at this
   exact this.symm
  exact⟨q2,(congrArg (fun z=>evS p w n₀ ann (evC treeTable p w n₀ ann (g+3)) code below (forIn z _ f) _ q) hso).trans (h1.trans (h2.trans (congrArg (fun z=>evS p w n₀ ann (evC treeTable p w n₀ ann (g+3)) code below _ z q2)
   (st_eq ((qAe ..).trans (congrArg (es++·) e1)) (qAe ..) (show toks+51+51*n=toks+51*(n+1) by exact jQ [_,_] [] (eA (eA xa (eN 51)) (eM 51 xb)) (eA xa (eM 51 (eU xb))) jT jT)))))⟩
end
end Mine
end

section
open PySem PySem.W PyProof.Rows
namespace Mine
set_option maxRecDepth 100000
section
variable {p:Program}{w:World}{n₀:Nat}{ann:Option Value}{g:Nat}{code:Code}{below:List (Code×Pos)}
variable {life:Life}{gens:Array GenState}{drawn:Drawn}{toks:Nat}{os:OsState}{q:Pos}
theorem hash_apart {E:List DictEntry}{a b:List (Int×Str)}(hE:E.map (·.hash)=a.map (fun x=>hashInt x.1))(h:∀x∈a.map (fun x=>hashInt x.1),∀y∈b.map (fun x=>hashInt x.1),x≠y):∀e∈E,∀x∈b,e.hash≠hashInt x.1:=by
 intro e he x hx
 have:=qBk (f:=fun x:DictEntry=>x.hash) he
 rw [hE] at this
 exact h _ this _ (qBk (f:=fun x:Int×Str=>hashInt x.1) hx)
theorem ev_disp {f:LoopF}{K:Option Addr×List (Sem Value×Sem Value)→Sem Value}(F:LoopOk p w n₀ ann (evC treeTable p w n₀ ann (g+3)) code below f)
  (hK:∀d run s q a s' q' s'' q'',run≠[]→evS p w n₀ ann (evC treeTable p w n₀ ann (g+3)) code below (subDict run) s q=some (a,s',q')→evS p w n₀ ann (evC treeTable p w n₀ ann (g+3)) code below (mergeMapping d (.ref a) false) s' q'=some ((),s'',q'')→
   evS p w n₀ ann (evC treeTable p w n₀ ann (g+3)) code below (K (some d,run)) s q=some (.ref d,s'',q''))
  {n:Nat} {a b c:List (Sem Value×Sem Value)} {A B C:List (Int×Str)} {l:List Obj} (hA:A.length=17) (hB:B.length=17*n) (hC:c≠[]) (hC2:C.length≤15) (hn:n<1000) (h0:n₀≤l.length) (hs:sysModules<n₀)
  (ha:AllOk p w n₀ ann (evC treeTable p w n₀ ann (g+3)) code below a A) (hb:AllOk p w n₀ ann (evC treeTable p w n₀ ann (g+3)) code below b B) (hc:AllOk p w n₀ ann (evC treeTable p w n₀ ann (g+3)) code below c C) (hnd:((A++(B++C)).map fun x=>hashInt x.1).Nodup) :
  ∃q',evS p w n₀ ann (evC treeTable p w n₀ ann (g+3)) code below (forIn (somes a++(somes b++(somes c++[]))) (none,[]) f >>= K) ⟨hp l life,gens,drawn,toks,os⟩ q =
   some (.ref l.length,⟨hp (l++dObj (entsL toks A++entsL (toks+51) B++entsS (toks+51+51*n) C)::(subsL n (toks+51) B++[dObj (entsS (toks+51+51*n) C)])) life,gens,drawn,toks+51+51*n+3*C.length,os⟩,q'):=by
 rw [qAt,qE9,qAt,qE9] at hnd
 obtain⟨hd1,⟨hd2,hd3,hd4⟩,hd5⟩:=hnd
 obtain⟨q1,h1⟩:=ev_chunk1 F (rest:=somes b++(somes c++[])) (toks:=toks) (q:=q) (life:=life) (gens:=gens) (drawn:=drawn) (os:=os) (ha.length.trans hA) h0 ha hd1
 have hne:entsL toks A≠[]:=fun e=>by
  have h:=congrArg qB8 e
  rw [entsL_length,hA] at h
  cases h
 have hlong:n₀≤(l++dObj (entsL toks A++entsL (toks+51) B)::subsL n (toks+51) B).length:=by rw [qA1];exact qA9 h0 (qB5 ..)
 obtain⟨q2,h2⟩:=ev_chunks F (l:=l) (rest:=somes c++[]) h0 hs n b B [] (entsL toks A) (toks+51) q1 (hb.length.trans hB) hb hd2 hne (by rw [entsL_length,hA];exact jk [_] [cT xa (eN 1000)] (cT (eA (eN 17) (eM 17 xa)) (eN 100000)) [1,17] jT hn)
  (hash_apart (hash_entsL ..) fun x hx y hy=>hd5 x hx y (qBn _ hy)) (life:=life) (gens:=gens) (drawn:=drawn) (os:=os)
 have hfin:=fill f F.F1 c [] (some l.length) [] (by rw [hc.length];exact qC9 (by rw [qCq,qB2];exact hC2) (by decide))
 obtain⟨q3,h3⟩:=ev_subDict_short (p:=p) (w:=w) (n₀:=n₀) (ann:=ann) (g:=g) (code:=code) (below:=below) (toks:=toks+51+51*n) (q:=q2) (life:=life) (gens:=gens) (drawn:=drawn) (os:=os) hlong hc hC2 hd3
 have h4:=ev_merge (p:=p) (w:=w) (n₀:=n₀) (ann:=ann) (rec:=evC treeTable p w n₀ ann (g+3)) (code:=code) (below:=below) (life:=life) (gens:=gens) (drawn:=drawn) (toks:=toks+51+51*n+3*C.length) (os:=os) (q:=q3)
  (l:=l) (r:=subsL n (toks+51) B) (es:=entsL toks A++entsL (toks+51) B) (fs:=entsS (toks+51+51*n) C) rfl h0 rfl
  (beq_eq_false_iff_ne.mpr (qCf (qB3 hs hlong))) (fun e=>hne (List.append_eq_nil_iff.mp e).1) (entsS_keyed _ _) (by rw [qA1,entsL_length,entsL_length,entsS_length,hA,hB];exact jk [_,_] [cL xa (eN 15),cT xb (eN 1000)] (cT (eA (eA (eN 17) (eM 17 xb)) xa) (eN 100000)) [1,1,17] jT hC2 hn)
  (by
   intro e he x hx
   have hx2:=qBk (f:=fun x:DictEntry=>x.hash) hx
   rw [hash_entsS] at hx2
   obtain⟨y,hy,e2⟩:=qBf.mp hx2
   rw [←e2]
   rcases qAc.mp he with he|he
   ·exact hash_apart (hash_entsL ..) (fun x hx y hy=>hd5 x hx y (qF7 _ hy)) e he y hy
   ·exact hash_apart (hash_entsL ..) hd4 e he y hy) (by rw [hash_entsS];exact hd3)
 exact⟨q3,ev_b (h1.trans (h2.trans (congrArg (fun z=>evS p w n₀ ann (evC treeTable p w n₀ ann (g+3)) code below z _ q2) hfin))) (hK _ c _ _ _ _ _ _ _ hC
  (h3.trans (congrArg (fun z=>some (_,(⟨hp z life,gens,drawn,_,os⟩:Shared),q3)) (qAe ..))) h4)⟩
theorem ev_display {n:Nat}{a b c xs:List (Sem Value×Sem Value)}{A B C:List (Int×Str)}{l:List Obj}(hx:xs=a++(b++c))(hA:A.length=17)(hB:B.length=17*n)(hC:c≠[])(hC2:C.length≤15)(hn:n<1000)(h0:n₀≤l.length)(hs:sysModules<n₀)
  (ha:AllOk p w n₀ ann (evC treeTable p w n₀ ann (g+3)) code below a A) (hb:AllOk p w n₀ ann (evC treeTable p w n₀ ann (g+3)) code below b B) (hc:AllOk p w n₀ ann (evC treeTable p w n₀ ann (g+3)) code below c C) (hnd:((A++(B++C)).map fun x=>hashInt x.1).Nodup) :
  ∃q',evS p w n₀ ann (evC treeTable p w n₀ ann (g+3)) code below (dictDisplay (somes xs)) ⟨hp l life,gens,drawn,toks,os⟩ q =
   some (.ref l.length,⟨hp (l++dObj (entsL toks A++entsL (toks+51) B++entsS (toks+51+51*n) C)::(subsL n (toks+51) B++[dObj (entsS (toks+51+51*n) C)])) life,gens,drawn,toks+51+51*n+3*C.length,os⟩,q'):=by
 rw [hx,show somes (a++(b++c))=somes a++(somes b++(somes c++[])) by simp [somes]]
 refine ev_disp ⟨fun k v m run h=>if_neg (by simpa using h),
  fun k v run s q a s' q' h e=>ev_yes (c:=((run++[(k,v)]).length==17)=true) (by simpa using h) (ev_b (ev_no (by simp) (ev_b e rfl)) rfl),
  fun k v d run s q a s' q' s'' q'' h e e2=>ev_yes (c:=((run++[(k,v)]).length==17)=true) (by simpa using h) (ev_b (ev_no (by simp) (ev_b (ev_h e) (ev_b (evS_onRaise _ _ _ _ _ (ev_h e2)) rfl))) rfl)⟩
  (fun d run s q a s' q' s'' q'' h e e2=>by
   refine ev_b (a:=some d) (s':=s'') (q':=q'') ?_ rfl
   refine ev_no (c:=run.isEmpty=true) (by simpa using h) ?_
   exact ev_b (ev_h e) (ev_b (evS_onRaise _ _ _ _ _ (ev_h e2)) rfl)) hA hB hC hC2 hn h0 hs ha hb hc hnd
end
end Mine
end

section
open PySem
namespace Mine
noncomputable def gp:Pos:=⟨0,0,0,0⟩
noncomputable def gxE:qA2:=.Name qFl gp
noncomputable def gs:Stmt:=.Expr gxE gp
noncomputable abbrev ExT:Type:=Pos×qA2×List qA2×Str×Option qA2×List (Option qA2)×Nat×Const
noncomputable def exP:qA2→ExT
 |.Name x p=>(p,gxE,[],x,none,[],0,.none)
 |.Tuple es k p=>(p,gxE,es,qFl,none,[],k,.none)
 |.Call f as _ p=>(p,f,as,qFl,none,[],0,.none)
 |.Yield e p=>(p,gxE,[],qFl,e,[],0,.none)
 |.Compare l _ rs p=>(p,l,rs,qFl,none,[],0,.none)
 |.Attribute e n p=>(p,e,[],n,none,[],0,.none)
 |.Dict k v p=>(p,gxE,v,qFl,none,k,0,.none)
 |.Constant c _ p=>(p,gxE,[],qFl,none,[],0,c)
 |_=>(gp,gxE,[],qFl,none,[],0,.none)
noncomputable def exK (e:qA2):Const:=(exP e).2.2.2.2.2.2.2
noncomputable abbrev StT:Type:=Pos×qA2×List qA2×qA2×List Stmt×List Stmt×Option qA2×FuncData
noncomputable def stP:Stmt→StT
 |.Assign ts e p=>(p,e,ts,gxE,[],[],none,default)
 |.For t it b _ p=>(p,t,[],it,b,[],none,default)
 |.If t a b p=>(p,t,[],gxE,a,b,none,default)
 |.Expr e p=>(p,e,[],gxE,[],[],none,default)
 |.Return e p=>(p,gxE,[],gxE,[],[],e,default)
 |.FunctionDef n a b _ _ _ sc _ _ p=>(p,gxE,[],gxE,b,[],none,{ name:=n,qualname:=n,params:=a,body:=.stmts b,scope:=sc,globals:=0,closure:=[],defaults:=.none,kwdefaults:=.none })
 |_=>(gp,gxE,[],gxE,[],[],none,default)
end Mine
end

section
open PySem PySem.W PyProof.Rows
namespace Mine
set_option maxRecDepth 100000
noncomputable def fnRaw (p:Program)(i:Nat):FuncData:=(stP (p.main.body[i]?.getD gs)).2.2.2.2.2.2.2
noncomputable def fnFull (p:Program)(i:Nat)(pm cd:Value):FuncData:={ fnRaw p i with globals:=mainGlobals,pyModule:=pm,code:=cd }
noncomputable def ob (c:Value)(d:Data):Obj:=⟨c,none,d,#[]⟩
noncomputable def nm (P:Params)(x:String)(t:Nat)(v:Value):DictEntry:=⟨PyData.keyHash P (qA0 x),.str (qA0 x) t,v⟩
noncomputable def tu (l:List Value):Obj:=ob (.type "tuple") (.seq l.toArray 0)
noncomputable def fl (c:Value)(l:List Value):Obj:=ob c (.fields l.toArray)
noncomputable def conS:Const→Option Int×Option Str
 |.int i=>(some i,none)
 |.str x=>(none,some x)
 |_=>(none,none)
noncomputable def intK (k:Option Expr):Option Int:=k.bind fun e=>(conS (exK e)).1
noncomputable def strK (e:Expr):Option Str:=(conS (exK e)).2
theorem nosH {α:Type}{a:α}{P:Prop}(h:none=some a):P:=nomatch h
theorem intK_inv {k:Option Expr}{i:Int}(h:intK k=some i):∃c p,k=some (.Constant (.int i) c p):=by
 rcases k with _|e
 ·exact nosH h
 rcases e with _|_<;>first|exact nosH h|skip
 rename_i k c p
 rcases k with _|_<;>first|exact nosH h|exact⟨c,p,congrArg (fun i=>some (Expr.Constant (.int i) c p)) (qA8 h)⟩
theorem strK_inv {e:Expr}{x:Str}(h:strK e=some x):∃c p,e=.Constant (.str x) c p:=by
 rcases e with _|_<;>first|exact nosH h|skip
 rename_i k c p
 rcases k with _|_<;>first|exact nosH h|exact⟨c,p,congrArg (fun i=>Expr.Constant (.str i) c p) (qA8 h)⟩
noncomputable def readEnts:List (Option Expr)→List Expr→Option (List (Int×Str))
 |[],[]=>some []
 |k::ks,v::vs=>(intK k).bind fun i=>(strK v).bind fun x=>(readEnts ks vs).map ((i,x)::·)
 |_,_=>none
theorem read_inv {k:Option Expr}{ks:List (Option Expr)}{v:Expr}{vs:List Expr}{ents:List (Int×Str)}(h:readEnts (k::ks) (v::vs)=some ents) :
  ∃i c p x c' p' r,k=some (.Constant (.int i) c p)∧v=.Constant (.str x) c' p'∧readEnts ks vs=some r∧ents=(i,x)::r:=by
 obtain⟨i,hi,h⟩:=ob_inv (show ((intK k).bind fun i=>(strK v).bind fun x=>(readEnts ks vs).map ((i,x)::·))=some ents from h)
 obtain⟨x,hx,h⟩:=ob_inv h
 obtain⟨r,hr,h2⟩:=qBm.mp h
 obtain⟨c,p,rfl⟩:=intK_inv hi
 obtain⟨c',p',rfl⟩:=strK_inv hx
 exact⟨i,c,p,x,c',p',r,rfl,rfl,hr,h2.symm⟩
section
variable {p:Program}{w:World}{n₀:Nat}{ann:Option Value}{rec:Code→List (Code×Pos)→Shared→Pos→Option (Flow×Shared×Pos)}{code:Code}{below:List (Code×Pos)}
theorem read_shape:∀{ks:List (Option Expr)} {vs:List Expr} {ents:List (Int×Str)},readEnts ks vs=some ents→ks.all (·.isSome)=true∧ks.length=vs.length:=by
 intro ks
 induction ks with
 |nil=>
  intro vs ents h
  cases vs with
  |nil=>exact⟨rfl,rfl⟩
  |cons=>cases h
 |cons k ks ih=>
  intro vs ents h
  cases vs with
  |nil=>cases h
  |cons v vs=>
   obtain⟨i,c,p,x,c',p',r,rfl,rfl,hr,rfl⟩:=read_inv h
   obtain⟨h3,h4⟩:=ih hr
   exact⟨h3,congrArg qBb h4⟩
theorem allOk_of_read {env:Env}{pos:Pos}:∀{ks:List (Option Expr)} {vs:List Expr} {ents:List (Int×Str)},readEnts ks vs=some ents→
  AllOk p w n₀ ann rec code below (pairTrees ks vs env pos) ents:=by
 intro ks
 induction ks with
 |nil=>
  intro vs ents h
  cases vs with
  |nil=>cases h;exact trivial
  |cons=>cases h
 |cons k ks ih=>
  intro vs ents h
  cases vs with
  |nil=>cases h
  |cons v vs=>
   obtain⟨i,c,p,x,c',p',r,rfl,rfl,hr,rfl⟩:=read_inv h
   exact⟨fun heap gens drawn toks os q=>⟨⟨q,by kernel_rfl⟩,⟨pos,by kernel_rfl⟩⟩,ih hr⟩
theorem ev_assign_dict {nme:Str}{p1 pd pos q q':Pos}{keys:List (Option Expr)}{vals:List Expr}{env:Env}{s s':Shared}{r:Value×Shared×Pos}
  (h:evS p w n₀ ann rec code below (eval (.Dict keys vals pd) env) s pos=some r) (h2:evS p w n₀ ann rec code below (assign (.Name nme p1) env r.1) r.2.1 r.2.2=some ((),s',q')) :
  evS p w n₀ ann rec code below (exec (.Assign [.Name nme p1] (.Dict keys vals pd) pos) env) s q=some (.next,s',q'):=by
 have e:exec (.Assign [.Name nme p1] (.Dict keys vals pd) pos) env=(do
  standAt pos
  let v ←eval (.Dict keys vals pd) env
  assign (.Name nme p1) env v
  pure .next):=by kernel_rfl
 rw [e]
 exact ev_b (a:=()) rfl (ev_b h (ev_b h2 rfl))
theorem eval_dict_eq {keys:List (Option Expr)}{vals:List Expr}{pd:Pos}{env:Env}{ents:List (Int×Str)}(h:readEnts keys vals=some ents) :
  eval (.Dict keys vals pd) env=(do standAt pd;dictDisplay (somes (pairTrees keys vals env pd))):=by
 have h2:=read_shape h
 rw [arm_eval_Dict,zip_pairTrees keys vals env pd h2.1 h2.2]
 rfl
end
end Mine
end

section
open PySem PySem.W PyProof.Rows
namespace Mine
set_option linter.unusedVariables false
noncomputable section
set_option maxRecDepth 100000
noncomputable abbrev prg:Program:=PySem.Challenge.rw_to0056_01.prog
noncomputable def entsO:Option (List (Int×Str)):=let e:=exP (stP (prg.main.body[10]?.getD gs)).2.1;readEnts e.2.2.2.2.2.1 e.2.2.1
noncomputable def ents:List (Int×Str):=entsO.getD []
noncomputable def dMain:Obj:=dObj (entsL 306 (ents.take (17*(37+1)))++entsS (306+51*(37+1)) (ents.drop (17*(37+1))))
noncomputable def dSubs:List Obj:=subsL 37 (306+51) ((ents.drop 17).take (17*37))++[dObj (entsS (306+51*(37+1)) (ents.drop (17*(37+1))))]
noncomputable def dSub (i:Nat):Obj:=dSubs.getD i default
noncomputable abbrev envT:Env:={ scope:=prg.main.scope,locals:=3,globals:=3,cells:=[],code:=.ref 13,frame:=some 14 }
noncomputable def o11_a (P:Params):Obj:=tu []
noncomputable def o12_a (P:Params):Obj:=fl (.none) []
noncomputable def o13_a (P:Params):Obj:=fl (.type "code") [.str (qA0 "<module>") 182,.str (qA0 "<module>") 183,.str (qA0 "/claim/cut.py") 184,.int 1 0,.int 0 0,.int 0 0,.int 0 0,.int 0 0,.ref 11,.bool false,.int 181 0,.ref 12,.none,.none,.none,.none,.int 185 0,.int 1 0,.str (qA0 "/claim/cut.py") 186]
noncomputable def o14_a (P:Params):Obj:=⟨(.type "frame"),none,.plain,[some (.ref 13),some (.ref 3),some (.ref 3),none,some (.str (qA0 "__main__") 164),none,some (.ref 0)].toArray⟩
noncomputable def La (P:Params):List Obj:=[(boot_o_0 P),(boot_o_1 P),(boot_o_2 P),(boot_o_3 P),(boot_o_4 P),(boot_o_5 P),(boot_o_6 P),(boot_o_7 P),(boot_o_8 P),(boot_o_9 P),(boot_o_10 P),(o11_a P),(o12_a P),(o13_a P),(o14_a P)]
noncomputable def Ta (P:Params):BT:=(.node (boot_o_0 P) (.node (boot_o_1 P) (.node (boot_o_3 P) (.node (boot_o_7 P) .nil .nil) (.node (o11_a P) .nil .nil)) (.node (boot_o_5 P) (.node (boot_o_9 P) .nil .nil) (.node (o13_a P) .nil .nil))) (.node (boot_o_2 P) (.node (boot_o_4 P) (.node (boot_o_8 P) .nil .nil) (.node (o12_a P) .nil .nil)) (.node (boot_o_6 P) (.node (boot_o_10 P) .nil .nil) (.node (o14_a P) .nil .nil))))
noncomputable def o3_1 (P:Params):Obj:=ob (.type "dict") (.dict [nm P "__name__" 165 (.str (qA0 "cpy313.stringprep") 237),nm P "__doc__" 166 (.none),nm P "__package__" 167 (.none),nm P "__loader__" 168 (.builtin "__main__.__loader__#opaque"),nm P "__spec__" 169 (.none),nm P "__annotations__" 170 (.ref 6),nm P "__builtins__" 171 (.ref 4),nm P "__file__" 173 (.str (qA0 "/claim/cut.py") 172),nm P "__cached__" 174 (.none),nm P "_iter_escaped_chars" 198 (.ref 21),nm P "_strip_quoted_realnames" 210 (.ref 28),nm P "_check_parenthesis" 220 (.ref 35),nm P "ELLIPSIS_MARKER" 224 (.str (qA0 "...") 223),nm P "_ellipsis_match" 236 (.ref 42)].toArray 14)
noncomputable def o12_1 (P:Params):Obj:=fl (.none) [.int 2 0,.int 0 0,.ref 20,.int 15 0,.int 0 0,.ref 27,.int 33 0,.int 0 0,.ref 34,.int 46 0,.int 0 0,.ref 41]
noncomputable def o15_1 (P:Params):Obj:=tu []
noncomputable def o16_1 (P:Params):Obj:=fl (.none) []
noncomputable def o17_1 (P:Params):Obj:=tu [.str (qA0 "addr") 192,.str (qA0 "pos") 193,.str (qA0 "escape") 194,.str (qA0 "ch") 195]
noncomputable def o18_1 (P:Params):Obj:=tu []
noncomputable def o19_1 (P:Params):Obj:=ob (.none) (.func (fnRaw prg 1))
noncomputable def o20_1 (P:Params):Obj:=fl (.type "code") [.str (qA0 "_iter_escaped_chars") 189,.str (qA0 "_iter_escaped_chars") 190,.str (qA0 "/claim/cut.py") 191,.int 2 0,.int 1 0,.int 0 0,.int 0 0,.int 35 0,.ref 15,.bool true,.int 181 0,.ref 16,.none,.ref 17,.ref 18,.ref 19,.int 196 0,.int 2 0,.str (qA0 "/claim/cut.py") 197]
noncomputable def o21_1 (P:Params):Obj:=ob (.type "function") (.func (fnFull prg 1 (.str (qA0 "cpy313.email.utils") 187) (.ref 20)))
noncomputable def o22_1 (P:Params):Obj:=tu []
noncomputable def o23_1 (P:Params):Obj:=fl (.none) []
noncomputable def o24_1 (P:Params):Obj:=tu [.str (qA0 "addr") 202,.str (qA0 "start") 203,.str (qA0 "open_pos") 204,.str (qA0 "result") 205,.str (qA0 "pos") 206,.str (qA0 "ch") 207]
noncomputable def o25_1 (P:Params):Obj:=tu []
noncomputable def o26_1 (P:Params):Obj:=ob (.none) (.func (fnRaw prg 2))
noncomputable def o27_1 (P:Params):Obj:=fl (.type "code") [.str (qA0 "_strip_quoted_realnames") 199,.str (qA0 "_strip_quoted_realnames") 200,.str (qA0 "/claim/cut.py") 201,.int 15 0,.int 1 0,.int 0 0,.int 0 0,.int 3 0,.ref 22,.bool true,.int 181 0,.ref 23,.none,.ref 24,.ref 25,.ref 26,.int 208 0,.int 15 0,.str (qA0 "/claim/cut.py") 209]
noncomputable def o28_1 (P:Params):Obj:=ob (.type "function") (.func (fnFull prg 2 (.str (qA0 "cpy313.email.utils") 187) (.ref 27)))
noncomputable def o29_1 (P:Params):Obj:=tu []
noncomputable def o30_1 (P:Params):Obj:=fl (.none) []
noncomputable def o31_1 (P:Params):Obj:=tu [.str (qA0 "addr") 214,.str (qA0 "opens") 215,.str (qA0 "pos") 216,.str (qA0 "ch") 217]
noncomputable def o32_1 (P:Params):Obj:=tu []
noncomputable def o33_1 (P:Params):Obj:=ob (.none) (.func (fnRaw prg 3))
noncomputable def o34_1 (P:Params):Obj:=fl (.type "code") [.str (qA0 "_check_parenthesis") 211,.str (qA0 "_check_parenthesis") 212,.str (qA0 "/claim/cut.py") 213,.int 33 0,.int 1 0,.int 0 0,.int 0 0,.int 3 0,.ref 29,.bool true,.int 181 0,.ref 30,.none,.ref 31,.ref 32,.ref 33,.int 218 0,.int 33 0,.str (qA0 "/claim/cut.py") 219]
noncomputable def o35_1 (P:Params):Obj:=ob (.type "function") (.func (fnFull prg 3 (.str (qA0 "cpy313.email.utils") 187) (.ref 34)))
noncomputable def o36_1 (P:Params):Obj:=tu []
noncomputable def o37_1 (P:Params):Obj:=fl (.none) []
noncomputable def o38_1 (P:Params):Obj:=tu [.str (qA0 "want") 228,.str (qA0 "got") 229,.str (qA0 "ws") 230,.str (qA0 "startpos") 231,.str (qA0 "endpos") 232,.str (qA0 "w") 233]
noncomputable def o39_1 (P:Params):Obj:=tu []
noncomputable def o40_1 (P:Params):Obj:=ob (.none) (.func (fnRaw prg 6))
noncomputable def o41_1 (P:Params):Obj:=fl (.type "code") [.str (qA0 "_ellipsis_match") 225,.str (qA0 "_ellipsis_match") 226,.str (qA0 "/claim/cut.py") 227,.int 46 0,.int 2 0,.int 0 0,.int 0 0,.int 3 0,.ref 36,.bool true,.int 181 0,.ref 37,.none,.ref 38,.ref 39,.ref 40,.int 234 0,.int 46 0,.str (qA0 "/claim/cut.py") 235]
noncomputable def o42_1 (P:Params):Obj:=ob (.type "function") (.func (fnFull prg 6 (.str (qA0 "cpy313.doctest") 221) (.ref 41)))
noncomputable def L1 (P:Params):List Obj:=[(boot_o_0 P),(boot_o_1 P),(boot_o_2 P),(o3_1 P),(boot_o_4 P),(boot_o_5 P),(boot_o_6 P),(boot_o_7 P),(boot_o_8 P),(boot_o_9 P),(boot_o_10 P),(o11_a P),(o12_1 P),(o13_a P),(o14_a P),(o15_1 P),(o16_1 P),(o17_1 P),(o18_1 P),(o19_1 P),(o20_1 P),(o21_1 P),(o22_1 P),(o23_1 P),(o24_1 P),(o25_1 P),(o26_1 P),(o27_1 P),(o28_1 P),(o29_1 P),(o30_1 P),(o31_1 P),(o32_1 P),(o33_1 P),(o34_1 P),(o35_1 P),(o36_1 P),(o37_1 P),(o38_1 P),(o39_1 P),(o40_1 P),(o41_1 P),(o42_1 P)]
noncomputable def T1 (P:Params):BT:=(.node (boot_o_0 P) (.node (boot_o_1 P) (.node (o3_1 P) (.node (boot_o_7 P) (.node (o15_1 P) (.node (o31_1 P) .nil .nil) .nil) (.node (o23_1 P) (.node (o39_1 P) .nil .nil) .nil)) (.node (o11_a P) (.node (o19_1 P) (.node (o35_1 P) .nil .nil) .nil) (.node (o27_1 P) .nil .nil))) (.node (boot_o_5 P) (.node (boot_o_9 P) (.node (o17_1 P) (.node (o33_1 P) .nil .nil) .nil) (.node (o25_1 P) (.node (o41_1 P) .nil .nil) .nil)) (.node (o13_a P) (.node (o21_1 P) (.node (o37_1 P) .nil .nil) .nil) (.node (o29_1 P) .nil .nil)))) (.node (boot_o_2 P) (.node (boot_o_4 P) (.node (boot_o_8 P) (.node (o16_1 P) (.node (o32_1 P) .nil .nil) .nil) (.node (o24_1 P) (.node (o40_1 P) .nil .nil) .nil)) (.node (o12_1 P) (.node (o20_1 P) (.node (o36_1 P) .nil .nil) .nil) (.node (o28_1 P) .nil .nil))) (.node (boot_o_6 P) (.node (boot_o_10 P) (.node (o18_1 P) (.node (o34_1 P) .nil .nil) .nil) (.node (o26_1 P) (.node (o42_1 P) .nil .nil) .nil)) (.node (o14_a P) (.node (o22_1 P) (.node (o38_1 P) .nil .nil) .nil) (.node (o30_1 P) .nil .nil)))))
noncomputable def o3_2 (P:Params):Obj:=ob (.type "dict") (.dict [nm P "__name__" 165 (.str (qA0 "cpy313.stringprep") 237),nm P "__doc__" 166 (.none),nm P "__package__" 167 (.none),nm P "__loader__" 168 (.builtin "__main__.__loader__#opaque"),nm P "__spec__" 169 (.none),nm P "__annotations__" 170 (.ref 6),nm P "__builtins__" 171 (.ref 4),nm P "__file__" 173 (.str (qA0 "/claim/cut.py") 172),nm P "__cached__" 174 (.none),nm P "_iter_escaped_chars" 198 (.ref 21),nm P "_strip_quoted_realnames" 210 (.ref 28),nm P "_check_parenthesis" 220 (.ref 35),nm P "ELLIPSIS_MARKER" 224 (.str (qA0 "...") 223),nm P "_ellipsis_match" 236 (.ref 42),nm P "b1_set" 298 (.ref 50)].toArray 15)
noncomputable def o43_2 (P:Params):Obj:=ob (.type "list") (.seq [.int 173 239,.int 847 240,.int 6150 241,.int 6155 242,.int 6156 243,.int 6157 244,.int 8203 245,.int 8204 246,.int 8205 247,.int 8288 248,.int 65279 249].toArray 0)
noncomputable def o44_2 (P:Params):Obj:=fl (.type "range") [.int 65024 250,.int 65040 251,.int 1 252]
noncomputable def o45_2 (P:Params):Obj:=ob (.type "list") (.seq [.int 65024 255,.int 65025 256,.int 65026 257,.int 65027 258,.int 65028 259,.int 65029 260,.int 65030 261,.int 65031 262,.int 65032 263,.int 65033 264,.int 65034 265,.int 65035 266,.int 65036 267,.int 65037 268,.int 65038 269,.int 65039 270].toArray 18)
noncomputable def o46_2 (P:Params):Obj:=fl (.type "range_iterator") [.int 65040 0,.int 0 0,.int 1 0]
noncomputable def o47_2 (P:Params):Obj:=tu []
noncomputable def o48_2 (P:Params):Obj:=fl (.type "StopIteration") [.ref 47,.none,.none,.none,.bool false,.none]
noncomputable def o49_2 (P:Params):Obj:=ob (.type "list") (.seq [.int 173 239,.int 847 240,.int 6150 241,.int 6155 242,.int 6156 243,.int 6157 244,.int 8203 245,.int 8204 246,.int 8205 247,.int 8288 248,.int 65279 249,.int 65024 255,.int 65025 256,.int 65026 257,.int 65027 258,.int 65028 259,.int 65029 260,.int 65030 261,.int 65031 262,.int 65032 263,.int 65033 264,.int 65034 265,.int 65035 266,.int 65036 267,.int 65037 268,.int 65038 269,.int 65039 270].toArray 0)
noncomputable def o50_2 (P:Params):Obj:=ob (.type "set") (.set [(65024,.int 65024 255),(65025,.int 65025 256),(65026,.int 65026 257),(65027,.int 65027 258),(65028,.int 65028 259),(65029,.int 65029 260),(6150,.int 6150 241),(65030,.int 65030 261),(65031,.int 65031 262),(65032,.int 65032 263),(65033,.int 65033 264),(6155,.int 6155 242),(6156,.int 6156 243),(6157,.int 6157 244),(8203,.int 8203 245),(8204,.int 8204 246),(8205,.int 8205 247),(65034,.int 65034 265),(65035,.int 65035 266),(65036,.int 65036 267),(65037,.int 65037 268),(65038,.int 65038 269),(65039,.int 65039 270),(173,.int 173 239),(847,.int 847 240),(8288,.int 8288 248),(65279,.int 65279 249)].toArray 29 ⟨127,[0,1,2,3,4,5,6,7,8,9,10,11,12,13,14,15,16,17,18,19,20,21,22,45,79,96,127].toArray,[].toArray,0,!P.followText "set-order", 2,true⟩)
noncomputable def o51_2 (P:Params):Obj:=fl (.type "list_iterator") [.none,.int 27 0]
noncomputable def o52_2 (P:Params):Obj:=tu []
noncomputable def o53_2 (P:Params):Obj:=fl (.type "StopIteration") [.ref 52,.none,.none,.none,.bool false,.none]
noncomputable def L2 (P:Params):List Obj:=[(boot_o_0 P),(boot_o_1 P),(boot_o_2 P),(o3_2 P),(boot_o_4 P),(boot_o_5 P),(boot_o_6 P),(boot_o_7 P),(boot_o_8 P),(boot_o_9 P),(boot_o_10 P),(o11_a P),(o12_1 P),(o13_a P),(o14_a P),(o15_1 P),(o16_1 P),(o17_1 P),(o18_1 P),(o19_1 P),(o20_1 P),(o21_1 P),(o22_1 P),(o23_1 P),(o24_1 P),(o25_1 P),(o26_1 P),(o27_1 P),(o28_1 P),(o29_1 P),(o30_1 P),(o31_1 P),(o32_1 P),(o33_1 P),(o34_1 P),(o35_1 P),(o36_1 P),(o37_1 P),(o38_1 P),(o39_1 P),(o40_1 P),(o41_1 P),(o42_1 P),(o43_2 P),(o44_2 P),(o45_2 P),(o46_2 P),(o47_2 P),(o48_2 P),(o49_2 P),(o50_2 P),(o51_2 P),(o52_2 P),(o53_2 P)]
noncomputable def T2 (P:Params):BT:=(.node (boot_o_0 P) (.node (boot_o_1 P) (.node (o3_2 P) (.node (boot_o_7 P) (.node (o15_1 P) (.node (o31_1 P) .nil .nil) (.node (o47_2 P) .nil .nil)) (.node (o23_1 P) (.node (o39_1 P) .nil .nil) .nil)) (.node (o11_a P) (.node (o19_1 P) (.node (o35_1 P) .nil .nil) (.node (o51_2 P) .nil .nil)) (.node (o27_1 P) (.node (o43_2 P) .nil .nil) .nil))) (.node (boot_o_5 P) (.node (boot_o_9 P) (.node (o17_1 P) (.node (o33_1 P) .nil .nil) (.node (o49_2 P) .nil .nil)) (.node (o25_1 P) (.node (o41_1 P) .nil .nil) .nil)) (.node (o13_a P) (.node (o21_1 P) (.node (o37_1 P) .nil .nil) (.node (o53_2 P) .nil .nil)) (.node (o29_1 P) (.node (o45_2 P) .nil .nil) .nil)))) (.node (boot_o_2 P) (.node (boot_o_4 P) (.node (boot_o_8 P) (.node (o16_1 P) (.node (o32_1 P) .nil .nil) (.node (o48_2 P) .nil .nil)) (.node (o24_1 P) (.node (o40_1 P) .nil .nil) .nil)) (.node (o12_1 P) (.node (o20_1 P) (.node (o36_1 P) .nil .nil) (.node (o52_2 P) .nil .nil)) (.node (o28_1 P) (.node (o44_2 P) .nil .nil) .nil))) (.node (boot_o_6 P) (.node (boot_o_10 P) (.node (o18_1 P) (.node (o34_1 P) .nil .nil) (.node (o50_2 P) .nil .nil)) (.node (o26_1 P) (.node (o42_1 P) .nil .nil) .nil)) (.node (o14_a P) (.node (o22_1 P) (.node (o38_1 P) .nil .nil) .nil) (.node (o30_1 P) (.node (o46_2 P) .nil .nil) .nil)))))
noncomputable def o3_3 (P:Params):Obj:=ob (.type "dict") (.dict [nm P "__name__" 165 (.str (qA0 "cpy313.stringprep") 237),nm P "__doc__" 166 (.none),nm P "__package__" 167 (.none),nm P "__loader__" 168 (.builtin "__main__.__loader__#opaque"),nm P "__spec__" 169 (.none),nm P "__annotations__" 170 (.ref 6),nm P "__builtins__" 171 (.ref 4),nm P "__file__" 173 (.str (qA0 "/claim/cut.py") 172),nm P "__cached__" 174 (.none),nm P "_iter_escaped_chars" 198 (.ref 21),nm P "_strip_quoted_realnames" 210 (.ref 28),nm P "_check_parenthesis" 220 (.ref 35),nm P "ELLIPSIS_MARKER" 224 (.str (qA0 "...") 223),nm P "_ellipsis_match" 236 (.ref 42),nm P "b1_set" 298 (.ref 50),nm P "in_table_b1" 305 (.ref 60)].toArray 16)
noncomputable def o12_3 (P:Params):Obj:=fl (.none) [.int 2 0,.int 0 0,.ref 20,.int 15 0,.int 0 0,.ref 27,.int 33 0,.int 0 0,.ref 34,.int 46 0,.int 0 0,.ref 41,.int 76 0,.int 0 0,.ref 59]
noncomputable def o54_3 (P:Params):Obj:=tu []
noncomputable def o55_3 (P:Params):Obj:=fl (.none) []
noncomputable def o56_3 (P:Params):Obj:=tu [.str (qA0 "code") 302]
noncomputable def o57_3 (P:Params):Obj:=tu []
noncomputable def o58_3 (P:Params):Obj:=ob (.none) (.func (fnRaw prg 9))
noncomputable def o59_3 (P:Params):Obj:=fl (.type "code") [.str (qA0 "in_table_b1") 299,.str (qA0 "in_table_b1") 300,.str (qA0 "/claim/cut.py") 301,.int 76 0,.int 1 0,.int 0 0,.int 0 0,.int 3 0,.ref 54,.bool true,.int 181 0,.ref 55,.none,.ref 56,.ref 57,.ref 58,.int 303 0,.int 76 0,.str (qA0 "/claim/cut.py") 304]
noncomputable def o60_3 (P:Params):Obj:=ob (.type "function") (.func (fnFull prg 9 (.str (qA0 "cpy313.stringprep") 237) (.ref 59)))
noncomputable def L3 (P:Params):List Obj:=[(boot_o_0 P),(boot_o_1 P),(boot_o_2 P),(o3_3 P),(boot_o_4 P),(boot_o_5 P),(boot_o_6 P),(boot_o_7 P),(boot_o_8 P),(boot_o_9 P),(boot_o_10 P),(o11_a P),(o12_3 P),(o13_a P),(o14_a P),(o15_1 P),(o16_1 P),(o17_1 P),(o18_1 P),(o19_1 P),(o20_1 P),(o21_1 P),(o22_1 P),(o23_1 P),(o24_1 P),(o25_1 P),(o26_1 P),(o27_1 P),(o28_1 P),(o29_1 P),(o30_1 P),(o31_1 P),(o32_1 P),(o33_1 P),(o34_1 P),(o35_1 P),(o36_1 P),(o37_1 P),(o38_1 P),(o39_1 P),(o40_1 P),(o41_1 P),(o42_1 P),(o43_2 P),(o44_2 P),(o45_2 P),(o46_2 P),(o47_2 P),(o48_2 P),(o49_2 P),(o50_2 P),(o51_2 P),(o52_2 P),(o53_2 P),(o54_3 P),(o55_3 P),(o56_3 P),(o57_3 P),(o58_3 P),(o59_3 P),(o60_3 P)]
noncomputable def T3 (P:Params):BT:=(.node (boot_o_0 P) (.node (boot_o_1 P) (.node (o3_3 P) (.node (boot_o_7 P) (.node (o15_1 P) (.node (o31_1 P) .nil .nil) (.node (o47_2 P) .nil .nil)) (.node (o23_1 P) (.node (o39_1 P) .nil .nil) (.node (o55_3 P) .nil .nil))) (.node (o11_a P) (.node (o19_1 P) (.node (o35_1 P) .nil .nil) (.node (o51_2 P) .nil .nil)) (.node (o27_1 P) (.node (o43_2 P) .nil .nil) (.node (o59_3 P) .nil .nil)))) (.node (boot_o_5 P) (.node (boot_o_9 P) (.node (o17_1 P) (.node (o33_1 P) .nil .nil) (.node (o49_2 P) .nil .nil)) (.node (o25_1 P) (.node (o41_1 P) .nil .nil) (.node (o57_3 P) .nil .nil))) (.node (o13_a P) (.node (o21_1 P) (.node (o37_1 P) .nil .nil) (.node (o53_2 P) .nil .nil)) (.node (o29_1 P) (.node (o45_2 P) .nil .nil) .nil)))) (.node (boot_o_2 P) (.node (boot_o_4 P) (.node (boot_o_8 P) (.node (o16_1 P) (.node (o32_1 P) .nil .nil) (.node (o48_2 P) .nil .nil)) (.node (o24_1 P) (.node (o40_1 P) .nil .nil) (.node (o56_3 P) .nil .nil))) (.node (o12_3 P) (.node (o20_1 P) (.node (o36_1 P) .nil .nil) (.node (o52_2 P) .nil .nil)) (.node (o28_1 P) (.node (o44_2 P) .nil .nil) (.node (o60_3 P) .nil .nil)))) (.node (boot_o_6 P) (.node (boot_o_10 P) (.node (o18_1 P) (.node (o34_1 P) .nil .nil) (.node (o50_2 P) .nil .nil)) (.node (o26_1 P) (.node (o42_1 P) .nil .nil) (.node (o58_3 P) .nil .nil))) (.node (o14_a P) (.node (o22_1 P) (.node (o38_1 P) .nil .nil) (.node (o54_3 P) .nil .nil)) (.node (o30_1 P) (.node (o46_2 P) .nil .nil) .nil)))))
noncomputable def o3_4 (P:Params):Obj:=ob (.type "dict") (.dict [nm P "__name__" 165 (.str (qA0 "cpy313.stringprep") 237),nm P "__doc__" 166 (.none),nm P "__package__" 167 (.none),nm P "__loader__" 168 (.builtin "__main__.__loader__#opaque"),nm P "__spec__" 169 (.none),nm P "__annotations__" 170 (.ref 6),nm P "__builtins__" 171 (.ref 4),nm P "__file__" 173 (.str (qA0 "/claim/cut.py") 172),nm P "__cached__" 174 (.none),nm P "_iter_escaped_chars" 198 (.ref 21),nm P "_strip_quoted_realnames" 210 (.ref 28),nm P "_check_parenthesis" 220 (.ref 35),nm P "ELLIPSIS_MARKER" 224 (.str (qA0 "...") 223),nm P "_ellipsis_match" 236 (.ref 42),nm P "b1_set" 298 (.ref 50),nm P "in_table_b1" 305 (.ref 60),nm P "b3_exceptions" 2256 (.ref 61)].toArray 17)
noncomputable def L4 (P:Params):List Obj:=[(boot_o_0 P),(boot_o_1 P),(boot_o_2 P),(o3_4 P),(boot_o_4 P),(boot_o_5 P),(boot_o_6 P),(boot_o_7 P),(boot_o_8 P),(boot_o_9 P),(boot_o_10 P),(o11_a P),(o12_3 P),(o13_a P),(o14_a P),(o15_1 P),(o16_1 P),(o17_1 P),(o18_1 P),(o19_1 P),(o20_1 P),(o21_1 P),(o22_1 P),(o23_1 P),(o24_1 P),(o25_1 P),(o26_1 P),(o27_1 P),(o28_1 P),(o29_1 P),(o30_1 P),(o31_1 P),(o32_1 P),(o33_1 P),(o34_1 P),(o35_1 P),(o36_1 P),(o37_1 P),(o38_1 P),(o39_1 P),(o40_1 P),(o41_1 P),(o42_1 P),(o43_2 P),(o44_2 P),(o45_2 P),(o46_2 P),(o47_2 P),(o48_2 P),(o49_2 P),(o50_2 P),(o51_2 P),(o52_2 P),(o53_2 P),(o54_3 P),(o55_3 P),(o56_3 P),(o57_3 P),(o58_3 P),(o59_3 P),(o60_3 P),dMain,(dSub 0),(dSub 1),(dSub 2),(dSub 3),(dSub 4),(dSub 5),(dSub 6),(dSub 7),(dSub 8),(dSub 9),(dSub 10),(dSub 11),(dSub 12),(dSub 13),(dSub 14),(dSub 15),(dSub 16),(dSub 17),(dSub 18),(dSub 19),(dSub 20),(dSub 21),(dSub 22),(dSub 23),(dSub 24),(dSub 25),(dSub 26),(dSub 27),(dSub 28),(dSub 29),(dSub 30),(dSub 31),(dSub 32),(dSub 33),(dSub 34),(dSub 35),(dSub 36),(dSub 37)]
noncomputable def T4 (P:Params):BT:=(.node (boot_o_0 P) (.node (boot_o_1 P) (.node (o3_4 P) (.node (boot_o_7 P) (.node (o15_1 P) (.node (o31_1 P) (.node (dSub 1) .nil .nil) (.node (dSub 33) .nil .nil)) (.node (o47_2 P) (.node (dSub 17) .nil .nil) .nil)) (.node (o23_1 P) (.node (o39_1 P) (.node (dSub 9) .nil .nil) .nil) (.node (o55_3 P) (.node (dSub 25) .nil .nil) .nil))) (.node (o11_a P) (.node (o19_1 P) (.node (o35_1 P) (.node (dSub 5) .nil .nil) (.node (dSub 37) .nil .nil)) (.node (o51_2 P) (.node (dSub 21) .nil .nil) .nil)) (.node (o27_1 P) (.node (o43_2 P) (.node (dSub 13) .nil .nil) .nil) (.node (o59_3 P) (.node (dSub 29) .nil .nil) .nil)))) (.node (boot_o_5 P) (.node (boot_o_9 P) (.node (o17_1 P) (.node (o33_1 P) (.node (dSub 3) .nil .nil) (.node (dSub 35) .nil .nil)) (.node (o49_2 P) (.node (dSub 19) .nil .nil) .nil)) (.node (o25_1 P) (.node (o41_1 P) (.node (dSub 11) .nil .nil) .nil) (.node (o57_3 P) (.node (dSub 27) .nil .nil) .nil))) (.node (o13_a P) (.node (o21_1 P) (.node (o37_1 P) (.node (dSub 7) .nil .nil) .nil) (.node (o53_2 P) (.node (dSub 23) .nil .nil) .nil)) (.node (o29_1 P) (.node (o45_2 P) (.node (dSub 15) .nil .nil) .nil) (.node dMain (.node (dSub 31) .nil .nil) .nil))))) (.node (boot_o_2 P) (.node (boot_o_4 P) (.node (boot_o_8 P) (.node (o16_1 P) (.node (o32_1 P) (.node (dSub 2) .nil .nil) (.node (dSub 34) .nil .nil)) (.node (o48_2 P) (.node (dSub 18) .nil .nil) .nil)) (.node (o24_1 P) (.node (o40_1 P) (.node (dSub 10) .nil .nil) .nil) (.node (o56_3 P) (.node (dSub 26) .nil .nil) .nil))) (.node (o12_3 P) (.node (o20_1 P) (.node (o36_1 P) (.node (dSub 6) .nil .nil) .nil) (.node (o52_2 P) (.node (dSub 22) .nil .nil) .nil)) (.node (o28_1 P) (.node (o44_2 P) (.node (dSub 14) .nil .nil) .nil) (.node (o60_3 P) (.node (dSub 30) .nil .nil) .nil)))) (.node (boot_o_6 P) (.node (boot_o_10 P) (.node (o18_1 P) (.node (o34_1 P) (.node (dSub 4) .nil .nil) (.node (dSub 36) .nil .nil)) (.node (o50_2 P) (.node (dSub 20) .nil .nil) .nil)) (.node (o26_1 P) (.node (o42_1 P) (.node (dSub 12) .nil .nil) .nil) (.node (o58_3 P) (.node (dSub 28) .nil .nil) .nil))) (.node (o14_a P) (.node (o22_1 P) (.node (o38_1 P) (.node (dSub 8) .nil .nil) .nil) (.node (o54_3 P) (.node (dSub 24) .nil .nil) .nil)) (.node (o30_1 P) (.node (o46_2 P) (.node (dSub 16) .nil .nil) .nil) (.node (dSub 0) (.node (dSub 32) .nil .nil) .nil))))))
noncomputable def o3_5 (P:Params):Obj:=ob (.type "dict") (.dict [nm P "__name__" 165 (.str (qA0 "law_to0056_01") 2265),nm P "__doc__" 166 (.none),nm P "__package__" 167 (.none),nm P "__loader__" 168 (.builtin "__main__.__loader__#opaque"),nm P "__spec__" 169 (.none),nm P "__annotations__" 170 (.ref 6),nm P "__builtins__" 171 (.ref 4),nm P "__file__" 173 (.str (qA0 "/claim/cut.py") 172),nm P "__cached__" 174 (.none),nm P "_iter_escaped_chars" 198 (.ref 21),nm P "_strip_quoted_realnames" 210 (.ref 28),nm P "_check_parenthesis" 220 (.ref 35),nm P "ELLIPSIS_MARKER" 224 (.str (qA0 "...") 223),nm P "_ellipsis_match" 236 (.ref 42),nm P "b1_set" 298 (.ref 50),nm P "in_table_b1" 305 (.ref 60),nm P "b3_exceptions" 2256 (.ref 61),nm P "map_table_b3" 2264 (.ref 106),nm P "_law_spelled" 2277 (.ref 113),nm P "_law_read" 2289 (.ref 120),nm P "_law_by_mail" 2304 (.ref 127),nm P "_law_by_dots" 2316 (.ref 134),nm P "_law_ways" 2332 (.ref 141),nm P "_law_lack" 2346 (.ref 148),nm P "law" 2352 (.ref 153)].toArray 25)
noncomputable def o12_5 (P:Params):Obj:=fl (.none) [.int 2 0,.int 0 0,.ref 20,.int 15 0,.int 0 0,.ref 27,.int 33 0,.int 0 0,.ref 34,.int 46 0,.int 0 0,.ref 41,.int 76 0,.int 0 0,.ref 59,.int 79 0,.int 0 0,.ref 105,.int 85 0,.int 0 0,.ref 112,.int 96 0,.int 0 0,.ref 119,.int 108 0,.int 0 0,.ref 126,.int 121 0,.int 0 0,.ref 133,.int 126 0,.int 0 0,.ref 140,.int 147 0,.int 0 0,.ref 147,.int 158 0,.int 0 0,.ref 152]
noncomputable def o100_5 (P:Params):Obj:=tu []
noncomputable def o101_5 (P:Params):Obj:=fl (.none) []
noncomputable def o102_5 (P:Params):Obj:=tu [.str (qA0 "code") 2260,.str (qA0 "r") 2261]
noncomputable def o103_5 (P:Params):Obj:=tu []
noncomputable def o104_5 (P:Params):Obj:=ob (.none) (.func (fnRaw prg 11))
noncomputable def o105_5 (P:Params):Obj:=fl (.type "code") [.str (qA0 "map_table_b3") 2257,.str (qA0 "map_table_b3") 2258,.str (qA0 "/claim/cut.py") 2259,.int 79 0,.int 1 0,.int 0 0,.int 0 0,.int 3 0,.ref 100,.bool true,.int 181 0,.ref 101,.none,.ref 102,.ref 103,.ref 104,.int 2262 0,.int 79 0,.str (qA0 "/claim/cut.py") 2263]
noncomputable def o106_5 (P:Params):Obj:=ob (.type "function") (.func (fnFull prg 11 (.str (qA0 "cpy313.stringprep") 237) (.ref 105)))
noncomputable def o107_5 (P:Params):Obj:=tu []
noncomputable def o108_5 (P:Params):Obj:=fl (.none) []
noncomputable def o109_5 (P:Params):Obj:=tu [.str (qA0 "name") 2270,.str (qA0 "form") 2271,.str (qA0 "unseen") 2272,.str (qA0 "text") 2273,.str (qA0 "sort") 2274]
noncomputable def o110_5 (P:Params):Obj:=tu []
noncomputable def o111_5 (P:Params):Obj:=ob (.none) (.func (fnRaw prg 13))
noncomputable def o112_5 (P:Params):Obj:=fl (.type "code") [.str (qA0 "_law_spelled") 2267,.str (qA0 "_law_spelled") 2268,.str (qA0 "/claim/cut.py") 2269,.int 85 0,.int 2 0,.int 0 0,.int 0 0,.int 3 0,.ref 107,.bool true,.int 181 0,.ref 108,.none,.ref 109,.ref 110,.ref 111,.int 2275 0,.int 85 0,.str (qA0 "/claim/cut.py") 2276]
noncomputable def o113_5 (P:Params):Obj:=ob (.type "function") (.func (fnFull prg 13 (.str (qA0 "law_to0056_01") 2265) (.ref 112)))
noncomputable def o114_5 (P:Params):Obj:=tu []
noncomputable def o115_5 (P:Params):Obj:=fl (.none) []
noncomputable def o116_5 (P:Params):Obj:=tu [.str (qA0 "text") 2281,.str (qA0 "letters") 2282,.str (qA0 "great") 2283,.str (qA0 "sign") 2284,.str (qA0 "held") 2285,.str (qA0 "told") 2286]
noncomputable def o117_5 (P:Params):Obj:=tu []
noncomputable def o118_5 (P:Params):Obj:=ob (.none) (.func (fnRaw prg 14))
noncomputable def o119_5 (P:Params):Obj:=fl (.type "code") [.str (qA0 "_law_read") 2278,.str (qA0 "_law_read") 2279,.str (qA0 "/claim/cut.py") 2280,.int 96 0,.int 1 0,.int 0 0,.int 0 0,.int 3 0,.ref 114,.bool true,.int 181 0,.ref 115,.none,.ref 116,.ref 117,.ref 118,.int 2287 0,.int 96 0,.str (qA0 "/claim/cut.py") 2288]
noncomputable def o120_5 (P:Params):Obj:=ob (.type "function") (.func (fnFull prg 14 (.str (qA0 "law_to0056_01") 2265) (.ref 119)))
noncomputable def o121_5 (P:Params):Obj:=tu []
noncomputable def o122_5 (P:Params):Obj:=fl (.none) []
noncomputable def o123_5 (P:Params):Obj:=tu [.str (qA0 "letters") 2293,.str (qA0 "nest") 2294,.str (qA0 "x") 2295,.str (qA0 "y") 2296,.str (qA0 "parts") 2297,.str (qA0 "place") 2298,.str (qA0 "text") 2299,.str (qA0 "turned") 2300,.str (qA0 "between") 2301]
noncomputable def o124_5 (P:Params):Obj:=tu []
noncomputable def o125_5 (P:Params):Obj:=ob (.none) (.func (fnRaw prg 15))
noncomputable def o126_5 (P:Params):Obj:=fl (.type "code") [.str (qA0 "_law_by_mail") 2290,.str (qA0 "_law_by_mail") 2291,.str (qA0 "/claim/cut.py") 2292,.int 108 0,.int 4 0,.int 0 0,.int 0 0,.int 3 0,.ref 121,.bool true,.int 181 0,.ref 122,.none,.ref 123,.ref 124,.ref 125,.int 2302 0,.int 108 0,.str (qA0 "/claim/cut.py") 2303]
noncomputable def o127_5 (P:Params):Obj:=ob (.type "function") (.func (fnFull prg 15 (.str (qA0 "law_to0056_01") 2265) (.ref 126)))
noncomputable def o128_5 (P:Params):Obj:=tu []
noncomputable def o129_5 (P:Params):Obj:=fl (.none) []
noncomputable def o130_5 (P:Params):Obj:=tu [.str (qA0 "letters") 2308,.str (qA0 "x") 2309,.str (qA0 "y") 2310,.str (qA0 "first") 2311,.str (qA0 "ring") 2312,.str (qA0 "stretch") 2313]
noncomputable def o131_5 (P:Params):Obj:=tu []
noncomputable def o132_5 (P:Params):Obj:=ob (.none) (.func (fnRaw prg 16))
noncomputable def o133_5 (P:Params):Obj:=fl (.type "code") [.str (qA0 "_law_by_dots") 2305,.str (qA0 "_law_by_dots") 2306,.str (qA0 "/claim/cut.py") 2307,.int 121 0,.int 3 0,.int 0 0,.int 0 0,.int 3 0,.ref 128,.bool true,.int 181 0,.ref 129,.none,.ref 130,.ref 131,.ref 132,.int 2314 0,.int 121 0,.str (qA0 "/claim/cut.py") 2315]
noncomputable def o134_5 (P:Params):Obj:=ob (.type "function") (.func (fnFull prg 16 (.str (qA0 "law_to0056_01") 2265) (.ref 133)))
noncomputable def o135_5 (P:Params):Obj:=tu []
noncomputable def o136_5 (P:Params):Obj:=fl (.none) []
noncomputable def o137_5 (P:Params):Obj:=tu [.str (qA0 "letters") 2320,.str (qA0 "great") 2321,.str (qA0 "size") 2322,.str (qA0 "turn") 2323,.str (qA0 "place") 2324,.str (qA0 "other") 2325,.str (qA0 "ways") 2326,.str (qA0 "seen") 2327,.str (qA0 "start") 2328,.str (qA0 "side") 2329]
noncomputable def o138_5 (P:Params):Obj:=tu []
noncomputable def o139_5 (P:Params):Obj:=ob (.none) (.func (fnRaw prg 17))
noncomputable def o140_5 (P:Params):Obj:=fl (.type "code") [.str (qA0 "_law_ways") 2317,.str (qA0 "_law_ways") 2318,.str (qA0 "/claim/cut.py") 2319,.int 126 0,.int 2 0,.int 0 0,.int 0 0,.int 3 0,.ref 135,.bool true,.int 181 0,.ref 136,.none,.ref 137,.ref 138,.ref 139,.int 2330 0,.int 126 0,.str (qA0 "/claim/cut.py") 2331]
noncomputable def o141_5 (P:Params):Obj:=ob (.type "function") (.func (fnFull prg 17 (.str (qA0 "law_to0056_01") 2265) (.ref 140)))
noncomputable def o142_5 (P:Params):Obj:=tu []
noncomputable def o143_5 (P:Params):Obj:=fl (.none) []
noncomputable def o144_5 (P:Params):Obj:=tu [.str (qA0 "taken") 2336,.str (qA0 "unlike") 2337,.str (qA0 "crossing") 2338,.str (qA0 "basis") 2339,.str (qA0 "x") 2340,.str (qA0 "bits") 2341,.str (qA0 "y") 2342,.str (qA0 "one") 2343]
noncomputable def o145_5 (P:Params):Obj:=tu []
noncomputable def o146_5 (P:Params):Obj:=ob (.none) (.func (fnRaw prg 18))
noncomputable def o147_5 (P:Params):Obj:=fl (.type "code") [.str (qA0 "_law_lack") 2333,.str (qA0 "_law_lack") 2334,.str (qA0 "/claim/cut.py") 2335,.int 147 0,.int 3 0,.int 0 0,.int 0 0,.int 3 0,.ref 142,.bool true,.int 181 0,.ref 143,.none,.ref 144,.ref 145,.ref 146,.int 2344 0,.int 147 0,.str (qA0 "/claim/cut.py") 2345]
noncomputable def o148_5 (P:Params):Obj:=ob (.type "function") (.func (fnFull prg 18 (.str (qA0 "law_to0056_01") 2265) (.ref 147)))
noncomputable def o149_5 (P:Params):Obj:=tu []
noncomputable def o150_5 (P:Params):Obj:=fl (.none) []
noncomputable def o151_5 (P:Params):Obj:=ob (.none) (.func (fnRaw prg 19))
noncomputable def o152_5 (P:Params):Obj:=fl (.type "code") [.str (qA0 "law") 2347,.str (qA0 "law") 2348,.str (qA0 "/claim/cut.py") 2349,.int 158 0,.int 1 0,.int 0 0,.int 0 0,.int 3 0,.ref 149,.bool true,.int 181 0,.ref 150,.none,.none,.none,.ref 151,.int 2350 0,.int 158 0,.str (qA0 "/claim/cut.py") 2351]
noncomputable def o153_5 (P:Params):Obj:=ob (.type "function") (.func (fnFull prg 19 (.str (qA0 "law_to0056_01") 2265) (.ref 152)))
noncomputable def L5 (P:Params):List Obj:=[(boot_o_0 P),(boot_o_1 P),(boot_o_2 P),(o3_5 P),(boot_o_4 P),(boot_o_5 P),(boot_o_6 P),(boot_o_7 P),(boot_o_8 P),(boot_o_9 P),(boot_o_10 P),(o11_a P),(o12_5 P),(o13_a P),(o14_a P),(o15_1 P),(o16_1 P),(o17_1 P),(o18_1 P),(o19_1 P),(o20_1 P),(o21_1 P),(o22_1 P),(o23_1 P),(o24_1 P),(o25_1 P),(o26_1 P),(o27_1 P),(o28_1 P),(o29_1 P),(o30_1 P),(o31_1 P),(o32_1 P),(o33_1 P),(o34_1 P),(o35_1 P),(o36_1 P),(o37_1 P),(o38_1 P),(o39_1 P),(o40_1 P),(o41_1 P),(o42_1 P),(o43_2 P),(o44_2 P),(o45_2 P),(o46_2 P),(o47_2 P),(o48_2 P),(o49_2 P),(o50_2 P),(o51_2 P),(o52_2 P),(o53_2 P),(o54_3 P),(o55_3 P),(o56_3 P),(o57_3 P),(o58_3 P),(o59_3 P),(o60_3 P),dMain,(dSub 0),(dSub 1),(dSub 2),(dSub 3),(dSub 4),(dSub 5),(dSub 6),(dSub 7),(dSub 8),(dSub 9),(dSub 10),(dSub 11),(dSub 12),(dSub 13),(dSub 14),(dSub 15),(dSub 16),(dSub 17),(dSub 18),(dSub 19),(dSub 20),(dSub 21),(dSub 22),(dSub 23),(dSub 24),(dSub 25),(dSub 26),(dSub 27),(dSub 28),(dSub 29),(dSub 30),(dSub 31),(dSub 32),(dSub 33),(dSub 34),(dSub 35),(dSub 36),(dSub 37),(o100_5 P),(o101_5 P),(o102_5 P),(o103_5 P),(o104_5 P),(o105_5 P),(o106_5 P),(o107_5 P),(o108_5 P),(o109_5 P),(o110_5 P),(o111_5 P),(o112_5 P),(o113_5 P),(o114_5 P),(o115_5 P),(o116_5 P),(o117_5 P),(o118_5 P),(o119_5 P),(o120_5 P),(o121_5 P),(o122_5 P),(o123_5 P),(o124_5 P),(o125_5 P),(o126_5 P),(o127_5 P),(o128_5 P),(o129_5 P),(o130_5 P),(o131_5 P),(o132_5 P),(o133_5 P),(o134_5 P),(o135_5 P),(o136_5 P),(o137_5 P),(o138_5 P),(o139_5 P),(o140_5 P),(o141_5 P),(o142_5 P),(o143_5 P),(o144_5 P),(o145_5 P),(o146_5 P),(o147_5 P),(o148_5 P),(o149_5 P),(o150_5 P),(o151_5 P),(o152_5 P),(o153_5 P)]
noncomputable def T5 (P:Params):BT:=(.node (boot_o_0 P) (.node (boot_o_1 P) (.node (o3_5 P) (.node (boot_o_7 P) (.node (o15_1 P) (.node (o31_1 P) (.node (dSub 1) (.node (o127_5 P) .nil .nil) .nil) (.node (dSub 33) .nil .nil)) (.node (o47_2 P) (.node (dSub 17) (.node (o143_5 P) .nil .nil) .nil) (.node (o111_5 P) .nil .nil))) (.node (o23_1 P) (.node (o39_1 P) (.node (dSub 9) (.node (o135_5 P) .nil .nil) .nil) (.node (o103_5 P) .nil .nil)) (.node (o55_3 P) (.node (dSub 25) (.node (o151_5 P) .nil .nil) .nil) (.node (o119_5 P) .nil .nil)))) (.node (o11_a P) (.node (o19_1 P) (.node (o35_1 P) (.node (dSub 5) (.node (o131_5 P) .nil .nil) .nil) (.node (dSub 37) .nil .nil)) (.node (o51_2 P) (.node (dSub 21) (.node (o147_5 P) .nil .nil) .nil) (.node (o115_5 P) .nil .nil))) (.node (o27_1 P) (.node (o43_2 P) (.node (dSub 13) (.node (o139_5 P) .nil .nil) .nil) (.node (o107_5 P) .nil .nil)) (.node (o59_3 P) (.node (dSub 29) .nil .nil) (.node (o123_5 P) .nil .nil))))) (.node (boot_o_5 P) (.node (boot_o_9 P) (.node (o17_1 P) (.node (o33_1 P) (.node (dSub 3) (.node (o129_5 P) .nil .nil) .nil) (.node (dSub 35) .nil .nil)) (.node (o49_2 P) (.node (dSub 19) (.node (o145_5 P) .nil .nil) .nil) (.node (o113_5 P) .nil .nil))) (.node (o25_1 P) (.node (o41_1 P) (.node (dSub 11) (.node (o137_5 P) .nil .nil) .nil) (.node (o105_5 P) .nil .nil)) (.node (o57_3 P) (.node (dSub 27) (.node (o153_5 P) .nil .nil) .nil) (.node (o121_5 P) .nil .nil)))) (.node (o13_a P) (.node (o21_1 P) (.node (o37_1 P) (.node (dSub 7) (.node (o133_5 P) .nil .nil) .nil) (.node (o101_5 P) .nil .nil)) (.node (o53_2 P) (.node (dSub 23) (.node (o149_5 P) .nil .nil) .nil) (.node (o117_5 P) .nil .nil))) (.node (o29_1 P) (.node (o45_2 P) (.node (dSub 15) (.node (o141_5 P) .nil .nil) .nil) (.node (o109_5 P) .nil .nil)) (.node dMain (.node (dSub 31) .nil .nil) (.node (o125_5 P) .nil .nil)))))) (.node (boot_o_2 P) (.node (boot_o_4 P) (.node (boot_o_8 P) (.node (o16_1 P) (.node (o32_1 P) (.node (dSub 2) (.node (o128_5 P) .nil .nil) .nil) (.node (dSub 34) .nil .nil)) (.node (o48_2 P) (.node (dSub 18) (.node (o144_5 P) .nil .nil) .nil) (.node (o112_5 P) .nil .nil))) (.node (o24_1 P) (.node (o40_1 P) (.node (dSub 10) (.node (o136_5 P) .nil .nil) .nil) (.node (o104_5 P) .nil .nil)) (.node (o56_3 P) (.node (dSub 26) (.node (o152_5 P) .nil .nil) .nil) (.node (o120_5 P) .nil .nil)))) (.node (o12_5 P) (.node (o20_1 P) (.node (o36_1 P) (.node (dSub 6) (.node (o132_5 P) .nil .nil) .nil) (.node (o100_5 P) .nil .nil)) (.node (o52_2 P) (.node (dSub 22) (.node (o148_5 P) .nil .nil) .nil) (.node (o116_5 P) .nil .nil))) (.node (o28_1 P) (.node (o44_2 P) (.node (dSub 14) (.node (o140_5 P) .nil .nil) .nil) (.node (o108_5 P) .nil .nil)) (.node (o60_3 P) (.node (dSub 30) .nil .nil) (.node (o124_5 P) .nil .nil))))) (.node (boot_o_6 P) (.node (boot_o_10 P) (.node (o18_1 P) (.node (o34_1 P) (.node (dSub 4) (.node (o130_5 P) .nil .nil) .nil) (.node (dSub 36) .nil .nil)) (.node (o50_2 P) (.node (dSub 20) (.node (o146_5 P) .nil .nil) .nil) (.node (o114_5 P) .nil .nil))) (.node (o26_1 P) (.node (o42_1 P) (.node (dSub 12) (.node (o138_5 P) .nil .nil) .nil) (.node (o106_5 P) .nil .nil)) (.node (o58_3 P) (.node (dSub 28) .nil .nil) (.node (o122_5 P) .nil .nil)))) (.node (o14_a P) (.node (o22_1 P) (.node (o38_1 P) (.node (dSub 8) (.node (o134_5 P) .nil .nil) .nil) (.node (o102_5 P) .nil .nil)) (.node (o54_3 P) (.node (dSub 24) (.node (o150_5 P) .nil .nil) .nil) (.node (o118_5 P) .nil .nil))) (.node (o30_1 P) (.node (o46_2 P) (.node (dSub 16) (.node (o142_5 P) .nil .nil) .nil) (.node (o110_5 P) .nil .nil)) (.node (dSub 0) (.node (dSub 32) .nil .nil) (.node (o126_5 P) .nil .nil)))))))
noncomputable def Sa (w:World)(os:OsState):SharedT:=⟨Ta w.params,15,{},#[],{},187,os⟩
noncomputable def S1 (w:World)(os:OsState):SharedT:=⟨T1 w.params,43,{},#[],{},239,os⟩
noncomputable def S2 (w:World)(os:OsState):SharedT:=⟨T2 w.params,54,{},#[],{},299,os⟩
noncomputable def S3 (w:World)(os:OsState):SharedT:=⟨T3 w.params,61,{},#[],{},306,os⟩
noncomputable def S4 (w:World)(os:OsState):SharedT:=⟨T4 w.params,100,{},#[],{},2257,os⟩
noncomputable def S5 (w:World)(os:OsState):SharedT:=⟨T5 w.params,154,{},#[],{},2353,os⟩
noncomputable abbrev q0:Pos:=⟨0,0,0,0⟩
noncomputable abbrev annV:Option Value:=some (.ref 6)
noncomputable abbrev topB:List Stmt:=behindTheImports prg
noncomputable abbrev topC:Code:=.body topB envT
noncomputable abbrev gr1:List Stmt:=topB.take 8
noncomputable abbrev gr2:List Stmt:=(topB.drop 8).take 1
noncomputable abbrev gr3:List Stmt:=(topB.drop 9).take 1
noncomputable abbrev dSt:Stmt:=(topB[10]?).getD (.Pass q0)
noncomputable abbrev gr5:List Stmt:=topB.drop 11
theorem p_pre (w:World)(os:OsState):topGo treeTable prg w 11 annV 12 ⟨boot_heap w.params,Array.mk [],boot_drawn,boot_toks,os⟩ (topStub prg)=some ((Sa w os).abs,⟨denote treeTable topC,topC,q0,[topFrame q0]⟩):=by
 kernel_rfl
theorem p_block (w:World)(os:OsState):segRunT treeTable prg w 11 annV 1 1 (Sa w os) (blockOf topB envT topC q0 [topFrame q0])=some (.next,Sa w os,topC,q0):=by
 kernel_rfl
theorem p_1 (w:World)(os:OsState):segRunT treeTable prg w 11 annV 1 169 (Sa w os) (piecesOf gr1 envT topC q0 [topFrame q0])=some (.next,S1 w os,topC,⟨74,0,74,8⟩):=by
 kernel_rfl
theorem p_3 (w:World)(os:OsState):segRunT treeTable prg w 11 annV 1 30 (S2 w os) (piecesOf gr3 envT topC ⟨75,0,75,6⟩ [topFrame q0])=some (.next,S3 w os,topC,⟨76,0,77,30⟩):=by
 kernel_rfl
theorem p_5 (w:World)(os:OsState):segRunT treeTable prg w 11 annV 1 278 (S4 w os) (piecesOf gr5 envT topC ⟨78,0,78,13⟩ [topFrame q0])=some (.next,S5 w os,topC,⟨158,0,193,102⟩):=by
 kernel_rfl
theorem p_fin (w:World)(os:OsState):topRun treeTable prg w 11 annV 2 (S5 w os).abs ⟨doneF .next,topC,⟨158,0,193,102⟩,[topFrame q0]⟩=some (S5 w os).abs:=by
 kernel_rfl
end
end Mine
end

section
open PySem PySem.W PyProof.Rows
namespace Mine
set_option maxRecDepth 100000
theorem p_2 (os:OsState):∀w:World,segRunT treeTable prg (w) 11 annV 1 999 (S1 (w) os) (piecesOf gr2 envT topC ⟨74,0,74,8⟩ [topFrame q0])=some (.next,S2 (w) os,topC,⟨75,0,75,6⟩):=by
 rw [PySem.W.Fast.te10110043849684766642,PySem.W.Fast.te14364793385576792824]
 exact byRow2 "set-order" (P:=fun w=>qD5 qD6 prg (w) 11 annV 1 999 (S1 (w) os) (piecesOf gr2 envT topC ⟨74,0,74,8⟩ [topFrame q0])=some (.next,S2 (w) os,topC,⟨75,0,75,6⟩))
  (byRow2 "special-get-raises" (P:=fun w=>qD5 qD6 prg (w.withFollow "set-order" false) 11 annV 1 999 (S1 (w.withFollow "set-order" false) os) (piecesOf gr2 envT topC ⟨74,0,74,8⟩ [topFrame q0])=some (.next,S2 (w.withFollow "set-order" false) os,topC,⟨75,0,75,6⟩)) (fun w=>by kernel_rfl) (fun w=>by kernel_rfl))
  (byRow2 "special-get-raises" (P:=fun w=>qD5 qD6 prg (w.withFollow "set-order" true) 11 annV 1 999 (S1 (w.withFollow "set-order" true) os) (piecesOf gr2 envT topC ⟨74,0,74,8⟩ [topFrame q0])=some (.next,S2 (w.withFollow "set-order" true) os,topC,⟨75,0,75,6⟩)) (fun w=>by kernel_rfl) (fun w=>by kernel_rfl))
end Mine
end

section
open PySem PySem.W PyProof.Rows
namespace Mine
set_option maxRecDepth 100000
set_option Elab.async false
noncomputable section
noncomputable def incr:List Int→Bool
 |a::b::r=>decide (a<b)&&incr (b::r)
 |_=>true
theorem incr_lt:∀(l:List Int) (a:Int),incr (a::l)=true→∀b∈l,a<b
 |[],_,_=>fun _ h=>nomatch h
 |b::l,a,h=>fun c hc=>by
  simp only [incr,qAw,decide_eq_true_eq] at h
  rcases qA6.mp hc with rfl|hc
  ·exact h.1
  ·exact Int.lt_trans h.1 (incr_lt l b h.2 c hc)
theorem incr_nodup:∀(l:List Int),incr l=true→l.Nodup
 |[],_=>.nil
 |a::l,h=>by
  refine qCp.mpr ⟨fun hm=>Int.lt_irrefl _ (incr_lt l a h a hm),incr_nodup l ?_⟩
  cases l with
  |nil=>rfl
  |cons b r=>simp only [incr,qAw] at h;exact h.2
noncomputable def dP:Str×Pos×List (Option Expr)×List Expr×Pos×Pos:=
 let a:=stP dSt
 let n:=exP (a.2.2.1.getD 0 gxE)
 let d:=exP a.2.1
 (n.2.2.2.1,n.1,d.2.2.2.2.2.1,d.2.2.1,d.1,a.1)
theorem dSt_eq:dSt=.Assign [.Name dP.1 dP.2.1] (.Dict dP.2.2.1 dP.2.2.2.1 dP.2.2.2.2.1) dP.2.2.2.2.2:=by kernel_rfl
theorem ents_read:readEnts dP.2.2.1 dP.2.2.2.1=some ents:=by kernel_rfl
theorem ents_len:ents.length=650:=by kernel_rfl
theorem ents_nd:(ents.map fun x=>hashInt x.1).Nodup:=incr_nodup _ (by kernel_rfl)
theorem dSubs_eq:dSubs=(qAf 38).map dSub:=by kernel_rfl
theorem L3_len (P:Params):(L3 P).length=61:=by kernel_rfl
theorem T3_eq (P:Params):absHeap (T3 P) 61 {}=hp (L3 P) {}:=by kernel_rfl
theorem a_set (w:World)(os:OsState)(q:Pos):evS prg w 11 annV (evC treeTable prg w 11 annV 3) topC ([topFrame q0].map qDp) (assign (.Name dP.1 dP.2.1) envT (.ref 61))
  ⟨hp (L3 w.params++dMain::(qAf 38).map dSub) {},#[],{},2256,os⟩ q=some ((),(S4 w os).abs,⟨78,0,78,13⟩):=by
 kernel_rfl
theorem p_4 (w:World)(os:OsState)(q:Pos):∃n,segRun treeTable prg w 11 annV 1 n (S3 w os).abs (pieceOf dSt envT topC q [topFrame q0])=some (.next,(S4 w os).abs,topC,⟨78,0,78,13⟩):=by
 refine seg_ev (g:=3) ?_
 have ha:=allOk_of_read (p:=prg) (w:=w) (n₀:=11) (ann:=annV) (rec:=evC treeTable prg w 11 annV (0+3)) (code:=topC) (below:=[topFrame q0].map qDp) (env:=envT) (pos:=dP.2.2.2.2.1) ents_read
 obtain⟨X,hX⟩:∃X,X=pairTrees dP.2.2.1 dP.2.2.2.1 envT dP.2.2.2.2.1:=⟨_,rfl⟩
 rw [←hX] at ha
 have hlen:X.length=650:=ha.length.trans ents_len
 have h17:(X.take 17).length=17:=by rw [qB6,hlen];rfl
 have hn:((X.drop 17).take 629).length=629:=by rw [qB6,qAn,hlen];rfl
 rw [←qAy 17 X] at ha
 obtain⟨ha1,ha2⟩:=AllOk.append ha
 rw [←qAy 629 (X.drop 17)] at ha2
 obtain⟨ha2,ha3⟩:=AllOk.append ha2
 rw [h17] at ha1 ha2 ha3
 rw [hn] at ha2 ha3
 obtain⟨q',h⟩:=ev_display (life:={}) (gens:=#[]) (drawn:={}) (toks:=306) (os:=os) (q:=dP.2.2.2.2.1) (n:=37) (xs:=X) (l:=L3 w.params) (by rw [qAy,qAy]) (by rw [qB6,ents_len];rfl)
  (by rw [qB6,qAn,ents_len];rfl) (fun e=>by have h:=congrArg qB8 e;rw [qAn,qAn,hlen] at h;cases h) (by rw [qAn,qAn,ents_len];decide) (by decide) (by rw [L3_len];decide) (by decide)
  ha1 ha2 ha3 (by rw [qAy,qAy];exact ents_nd)
 rw [L3_len,qAn,qAn,ents_len] at h
 have hs:(S3 w os).abs=⟨hp (L3 w.params) {},#[],{},306,os⟩:=by
  show (⟨absHeap (T3 w.params) 61 {},#[],{},306,os⟩:Shared)=_
  rw [T3_eq]
 rw [hs,dSt_eq]
 refine ev_assign_dict (r:=(.ref 61,⟨hp (L3 w.params++dMain::(qAf 38).map dSub) {},#[],{},2256,os⟩,q')) ?_ (a_set w os q')
 rw [←dSubs_eq,eval_dict_eq ents_read,←hX,evS_bind]
 refine qEr.mpr ⟨((),⟨hp (L3 w.params) {},#[],{},306,os⟩,dP.2.2.2.2.1),rfl,?_⟩
 refine h.trans ?_
 kernel_rfl
end
noncomputable section
noncomputable abbrev qv:Program:=view prg [1,2,3,5,6,8,9,11,13,14,15,16,17,18,19]
noncomputable abbrev lse:List Str:=[qA0 "b1_set", qA0 "b3_exceptions"]
noncomputable abbrev ms:List Str:=importedModules prg.main.body
noncomputable def XtA (s:Shared):Bool:=decide (s.heap.nsMap mainGlobals "b1_set" = some (.ref 50))&&decide (s.heap.nsMap mainGlobals "b3_exceptions" = some (.ref 61))
noncomputable def S5' (w:World)(os:OsState):Shared:=⟨hp (L5 w.params) {},#[],{},2353,os⟩
theorem S5_eq (w:World)(os:OsState):(S5 w os).abs=S5' w os:=by kernel_rfl
theorem lk_1 (w:World)(os:OsState):staticsOk ms (boot_heap w.params) (S5' w os).heap=true:=by kernel_rfl
theorem lk_2 (w:World)(os:OsState):namesBound prg (S5' w os).heap=true:=by kernel_rfl
theorem lk_3 (w:World)(os:OsState):gensDone (S5' w os)=true:=by kernel_rfl
theorem lk_4 (w:World)(os:OsState):laidKept (boot_heap w.params) (S5' w os).heap=true:=by kernel_rfl
theorem lk_5 (w:World)(os:OsState):seen ((recsOf qv).map (·.name)) (ownsOf qv) [] { S5' w os with gens:=#[] }=expectedOf qv:=by kernel_rfl
theorem lk_6 (w:World)(os:OsState):(S5' w os).heap.bltView=bltViewBooted:=by kernel_rfl
theorem lk_7 (w:World)(os:OsState):(S5' w os).heap.keysOk (looseW qv lse) ((recsOf qv).map (·.name)) ((litsOf qv).map (·.1)) ((clssOf qv (looseW qv lse)).map (·.name))=true:=by kernel_rfl
theorem lk_8 (w:World)(os:OsState):(S5' w os).heap.accountedOkI ms=true:=by kernel_rfl
theorem lk_9 (w:World)(os:OsState):((S5' w os).heap.isNs mainGlobals&&(S5' w os).heap.isNs builtinsNs&&tablesOk qv (S5' w os).heap&&XtA (S5' w os))=true:=by kernel_rfl
theorem lk_10 (w:World)(os:OsState):tabsOk qv (S5' w os)=true:=by kernel_rfl
theorem lk_11 (w:World)(os:OsState):pinSeenD qv (drecsOf qv) (S5' w os)=pinGoodD (drecsOf qv):=by kernel_rfl
theorem lk_12 (w:World)(os:OsState):plainSeenE qv (looseW qv lse) (S5' w os)=plainGoodE qv (looseW qv lse):=by kernel_rfl
theorem lk_13 (w:World)(os:OsState):plainSeenD qv lse (S5' w os)=plainGoodD qv lse:=by kernel_rfl
theorem lk_14 (w:World)(os:OsState):wideSeen qv (S5' w os)=wideGood qv:=by kernel_rfl
theorem lk_15 (w:World)(os:OsState):clsSeenW qv lse (S5' w os)=clsGoodW qv lse:=by kernel_rfl
end
end Mine
end

section
open PySem PySem.W PyProof.Rows PySem.Calls
namespace Mine
set_option maxRecDepth 100000
set_option Elab.async false
noncomputable section
theorem topB_eq:topB=gr1++(gr2++(gr3++(dSt::(gr5++[])))):=by kernel_rfl
theorem run_all (w:World)(os:OsState):∃N,topRun treeTable prg w 11 annV N ⟨boot_heap w.params,Array.mk [],boot_drawn,boot_toks,os⟩ (topStub prg)=some (S5' w os):=by
 obtain⟨n4,h4⟩:=p_4 w os ⟨76,0,77,30⟩
 have e:=S5_eq w os
 have h5:=piece_app (rest:=[]) (segRun_of (p_5 w os)) (piece_nil (p_fin w os))
 have h4:=piece_cons h4 h5
 have h3:=piece_app (segRun_of (p_3 w os)) h4
 have h2:=piece_app (segRun_of (p_2 os w)) h3
 have h1:=piece_app (segRun_of (p_1 w os)) h2
 rw [←topB_eq] at h1
 have h0:=piece_block (segRun_of (p_block w os)) h1
 have h:=go_top (p_pre w os) h0
 rw [e] at h
 exact⟨_,h⟩
noncomputable def XP (mg:Str→Option Value)(_:Heap):Prop:=mg "b1_set" = some (.ref 50)∧mg "b3_exceptions" = some (.ref 61)
noncomputable def YP (w:World)(h:Heap):Prop:=h.get? 50=some (o50_2 w.params)∧h.get? 61=some dMain
theorem looks (w:World)(os:OsState):openSeen qv lse ms XtA true (S5' w os)=openGood qv lse:=by
 unfold openSeen openGood
 rw [lk_5,lk_6,lk_10,lk_11,lk_12,lk_13,lk_14,lk_15]
 have h7:=lk_7 w os
 have h8:=lk_8 w os
 have h9:=lk_9 w os
 simp only [qAw] at h9
 obtain⟨⟨⟨h91,h92⟩,h93⟩,h94⟩:=h9
 rw [h7,h8,h91,h92,h93,h94]
 rfl
theorem open_op:opening prg=plainProg prg.main.scope.names:=by kernel_rfl
theorem fence_p (s:Shared):fenceModules? prg s=some s:=by rfl
theorem ann_eq (P:Params):(boot_heap P).nsMap mainGlobals "__annotations__" = annV:=by kernel_rfl
theorem boot_size (P:Params):(boot_heap P).objs.size=11:=by kernel_rfl
theorem boot_ns (P:Params):(boot_heap P).isNs mainGlobals=true:=by kernel_rfl
theorem get50 (w:World)(os:OsState):(S5' w os).heap.get? 50=some (o50_2 w.params):=by kernel_rfl
theorem get61 (w:World)(os:OsState):(S5' w os).heap.get? 61=some dMain:=by kernel_rfl
theorem behind (w:World):(∃s,AfterRun (opening prg) w s)∧∀s,AfterRun (opening prg) w s→∃s₀,fenceModules? prg s=some s₀∧s₀.gens=#[]∧∃s₁,TopRan prg w s₀ s₁∧s₁.asleep∧s₁.gens=#[]∧1≤s₁.toks∧s₁.heap.isNs mainGlobals=true∧
  Ground qv lse [] XP w s₁ (s₁.heap.nsMap mainGlobals) (s₁.heap.nsMap builtinsNs) s₁.heap∧YP w s₁.heap:=by
 have hb:=boot_open (p:=prg) (N:=600) open_op rfl fence_p w
 rw [←table_eq_tree] at hb
 obtain⟨s₀,h2,he⟩:=qBm.mp hb
 obtain⟨s,h4,h5⟩:=qEr.mp h2
 have A:=AfterImport.of_importEnds h4
 refine⟨⟨s,A⟩,fun s' hs'=>?_⟩
 obtain rfl:s'=s:=AfterImport.unique hs' A
 have z:s₀.asleep:=qGp (fence_lifeW h5) A.life
 obtain⟨hp,gs,d,k,os⟩:=s₀
 obtain⟨rfl,rfl,rfl,rfl⟩:hp=boot_heap w.params∧gs=Array.mk []∧d=boot_drawn∧k=boot_toks:=by simpa using he
 obtain⟨N,hr⟩:=run_all w os
 rw [←table_eq_tree,←ann_eq w.params,←boot_size w.params] at hr
 obtain⟨a,l,eos,fr⟩:=topRun_spec _ _ _ _ z hr
 obtain⟨G,g0,g1,g2,g3,g4,g5⟩:=ground_of_open (XP:=XP) (w:=w) (fun s e=>by
  simp only [XtA,qAw,decide_eq_true_eq] at e
  exact e) (by kernel_rfl) (looks w os)
 refine⟨_,h5,rfl,S5' w os,⟨a,l,Shared.rest_eq eos,fun b o hb hn=>fr b o (qCg hb) (fun q=>hn (.inl q)) (fun q=>hn (.inr (.inl q))) (fun q=>hn (.inr (.inr ((Pin.globalOf_eq (boot_ns _) _).trans q)))) hb,
  g2,statics_of_ok (lk_1 w os),g3,g4,g5,gens_of_done (lk_3 w os),names_of_bound (lk_2 w os),laid_of_kept (lk_4 w os)⟩,qGp l z,rfl,by show 1≤2353;exact qAq (qBv (qBb 1) 2351),g1,G,get50 w os,get61 w os⟩
end
noncomputable section
abbrev lw:OpenLaw:=PySem.Challenge.rw_to0056_01
abbrev rr:RowW:=lw.row.toRowW
noncomputable def defAt (i:Nat):DefRec:=
 let s:=stP (prg.main.body[i]?.getD gs)
 let f:=s.2.2.2.2.2.2.2
 ⟨f.name,f.params,s.2.2.2.2.1,f.scope,s.1⟩
noncomputable def dLaw:DefRec:=defAt 19
abbrev CallT:Prop:=∀(w:World) (s₀ s₁:Shared) (mg mb:Str→Option Value),Ground qv lse rr.records XP w s₀ mg mb s₁.heap→YP w s₁.heap→1≤s₀.toks→∀(args:List WData) (vs:List Value) (as:List Addr),
 rr.claim.pre args=true→WData.layableAll args=true→Laid rr.records w s₀ s₁ args vs as→sysModules<s₀.heap.objs.size→∃f,mg rr.name=some f∧
  wpAny (model rr.prog w) callerA (PySem.call f vs) (fun v s'=>GoodWG rr.claim (classAt s₀.heap) (ExcName.means s₀.heap) args s₁ (.ok (.ret v)) s')
   (fun e s'=>GoodWG rr.claim (classAt s₀.heap) (ExcName.means s₀.heap) args s₁ (.error e) s') s₁
theorem holds_of_call (hsaid:lw.row.wellSaid=true)(hbare:rr.prog.bare)(hw:rr.promised)(hop:opensWell rr.prog=true)(hfr:frees rr=true)(call:CallT):lw.row.Holds:=by
 obtain⟨hsame,hu,ha,hap,hm⟩:=frees_parts hfr
 refine⟨hsaid,hw,⟨hbare,hop,rfl⟩,hw.witness,fun w=>⟨(behind w).1,fun s' hs'=>?_⟩⟩
 obtain⟨s₀,hf,hg0,s,hT,hz,hgens,htok,hg,G,y⟩:=(behind w).2 s' hs'
 refine⟨s₀,hf,hg0,s,hT,?_,fun x hx=>(nomatch hx),fun x hx=>(nomatch hx),?_⟩
 ·intro n hn
  obtain rfl:n=rr.name:=qAi.mp hn
  exact pinned_of_view (p:=prg) (q:=qv) (d:=dLaw) (kwd:=[]) hg G (by kernel_rfl) (by kernel_rfl) (by kernel_rfl)
 ·refine ClaimW.callFrom_of_specG (c:=rr.claim) hz hgens fun args hpre hlay ord hord=>?_
  obtain⟨⟨vs,s₁⟩,hlaid⟩:=qAs.mp (layAllW_isSome (P:=w.params) (ord:=ord) G.has args rr.args s (pre_splitW hpre).1)
  have keeps:=layAllW_keeps _ _ _ hlaid
  have hal:=layAllW_rest _ _ _ hlaid
  obtain⟨as,hrd,hin,hold⟩:=reads_layAllW hord _ _ _ hlaid hlay s₁.heap (fun _ _ e=>e)
  have L:Laid rr.records w s s₁ args vs as:=⟨⟨ord,hord,hlaid⟩,hrd,hin,hold,keeps,hal.1.trans hgens,hal.2.2.1⟩
  have G₁:=G.keeps (fun _ _ _ x _=>x) keeps
  obtain⟨f,hf,h⟩:=call w s s₁ _ _ G₁ ⟨keeps _ _ y.1,keeps _ _ y.2⟩ htok args vs as hpre hlay L G.low
  have hi:=ident_freeW hu ha hap
  refine⟨vs,s₁,hlaid,?_⟩
  refine wpAny_bind (wpAny_nsGet (m:=s.heap.nsMap mainGlobals) G₁.T.g ?_)
  show wpAny _ _ (match s.heap.nsMap mainGlobals rr.name with|some f=>_|none=>_) _ _ _
  rw [hf]
  refine wpAny_bind (wpAny_mono h (fun v s' g=>?_) fun e s' g=>?_)
  ·have z:=g.laid (c:=rr.claim) hsame rfl hi L
   exact wpAny_pure ⟨_,rfl,z.1,z.2.1,z.2.2,fun q=>nomatch q⟩
  ·have z:=g.laid (c:=rr.claim) hsame rfl hi L
   exact⟨z.1,z.2.1,z.2.2,fun q=>nomatch q⟩
end
noncomputable section
theorem row_bare:rr.prog.bare:=⟨rfl,rfl,rfl,rfl,rfl,by decide +kernel⟩
theorem row_opens:opensWell rr.prog=true:=by kernel_rfl
theorem row_frees:frees rr=true:=by kernel_rfl
theorem row_prom:rr.promised:=⟨[.list []],by decide +kernel,by decide +kernel⟩
theorem law_t (h:lw.row.Holds):PySem.Challenge.rw_to0056_01.Holds:=by
 refine holds_law ?_ fun _=>h
 unfold OpenLaw.wellSaid
 (repeat' (with_reducible refine look_both ?_ ?_))<;>kernel_rfl
end
end Mine
end

section
set_option maxRecDepth 10000
namespace Mine
set_option genSizeOf false
set_option genCtorIdx false
open PySem PyProof.Rows
theorem dec_lt {N i:Nat}(h:i<N):N+1-(i+1)<N+1-i:=by rw [qGq,Nat.succ_sub (qAq h)];exact qBo _
theorem cnt3 {N i m:Nat}(h:N-i=m+1):i<N∧N-1-m=i∧N-(i+1)=m:=by
 have hlt:i<N:=Nat.sub_pos_iff_lt.mp (by rw [h];exact qBi m)
 exact⟨hlt,by rw [Nat.sub_sub,qCo 1 m,←h,Nat.sub_sub_self (qAq hlt)],by rw [Nat.sub_add_eq,h];rfl⟩
theorem nos {α:Type _}{a:α}{P:Prop}(h:none=some a):P:=nomatch h
theorem sinj {α β:Type _}{a c:α}{b d:β}(h:some (some (a,b))=some (some (c,d))):a=c∧b=d:=qDr (qA8 (qA8 h))
theorem nof {P:Prop}(h:false=true):P:=nomatch h
theorem nsh {α:Type _}{x:Option α}{a:α}{P:Prop}(h:x=none)(e:x=some a):P:=nos (h.symm.trans e)
theorem gx {α:Sort _}(a:α):∃x,a=x:=⟨a,rfl⟩
theorem hid {P:Prop}(h:∀G:Prop,(P→G)→G):P:=h P id
inductive D where
 |none
 |bool (b:Bool)
 |int (i:Int)
 |str (l:List Nat)
 |cst (l:List Nat)
 |list (ds:List D)
 deriving Inhabited
noncomputable def D.ctorIdx (x:D):Nat:=@D.casesOn (fun _=>Nat) x 0 (fun _=>1) (fun _=>2) (fun _=>3) (fun _=>4) (fun _=>5)
set_option genInjectivity false in
mutual
inductive BOp where
 |add|sub|mul|fdiv|mod|xor
inductive COp where
 |eq|ne|lt|le|gt|ge|is|isnot|in_|notin
inductive ME where
 |find|rfind|find3|split|startswith|endswith|count|join
inductive BI where
 |len|chr|min|sorted|sum
end
noncomputable def BOp.ctorIdx (x:BOp):Nat:=@BOp.casesOn (fun _=>Nat) x 0 1 2 3 4 5
set_option genInjectivity false in
mutual
inductive PE where
 |none
 |bool (b:Bool)
 |int (i:Int)
 |str (l:List Nat)
 |gstr (l:List Nat)
 |var (i:Nat)
 |bin (op:BOp) (a b:PE)
 |neg (a:PE)
 |cmp (op:COp) (a b:PE)
 |and (a b:PE)
 |ife (t:PT) (a b:PE)
 |idx (a i:PE)
 |slice (a:PE) (lo hi:PO)
 |rev (a:PE)
 |two (a:PE) (k:Nat)
 |list (es:PL)
 |comp (elt:PE) (v:Nat) (it:PI) (c:PTo)
 |call (f:Nat) (args:PL)
 |bi (b:BI) (args:PL)
 |meth (m:ME) (o:PE) (args:PL)
 |pick (cs:List (List Nat)) (i:PE)
 |repl (o:PE) (old:List Nat) (new:PE)
 |lmul (i:Int) (e:PE)
inductive PO where
 |no|some (e:PE)
inductive PL where
 |nil|cons (e:PE) (r:PL)
inductive PT where
 |val (e:PE)
 |cmp (op:COp) (a b:PE)
 |not (t:PT)
 |and (t u:PT)
 |or (t u:PT)
inductive PTo where
 |no|some (t:PT)
inductive PI where
 |val (e:PE)
 |range1 (n:PE)
 |range2 (a b:PE)
end
set_option genInjectivity false in
mutual
inductive PS where
 |asg (v:Nat) (e:PE)
 |asg2 (v1 v2:Nat) (e1 e2:PE)
 |unpack (vs:List Nat) (e:PE)
 |aug (v:Nat) (op:BOp) (e:PE)
 |app (v:Nat) (e:PE)
 |ins (v:Nat) (e1 e2:PE)
 |del (v:Nat) (last:Bool)
 |if_ (t:PT) (b o:PSs)
 |for_ (v:Nat) (it:PI) (b:PSs)
 |forG (v1 v2:Nat) (e:PE) (b:PSs)
 |while_ (t:PT) (b:PSs)
 |ret (e:PE)
 |assert_ (t:PT)
inductive PSs where
 |nil|cons (st:PS) (r:PSs)
end
noncomputable def PE.ctorIdx (x:PE):Nat:=@PE.casesOn (fun _=>Nat) x 0 (fun _=>1) (fun _=>2) (fun _=>3) (fun _=>4) (fun _=>5) (fun _ _ _=>6) (fun _=>7) (fun _ _ _=>8) (fun _ _=>9) (fun _ _ _=>10) (fun _ _=>11) (fun _ _ _=>12) (fun _=>13) (fun _ _=>14) (fun _=>15) (fun _ _ _ _=>16) (fun _ _=>17) (fun _ _=>18) (fun _ _ _=>19) (fun _ _=>20) (fun _ _ _=>21) (fun _ _=>22)
noncomputable def PI.ctorIdx (x:PI):Nat:=@PI.casesOn (fun _=>Nat) x (fun _=>0) (fun _=>1) (fun _ _=>2)
structure Tg where
 top:Bool
 deep:Bool
 base:Bool
noncomputable def Tg.z:Tg:=⟨false,false,false⟩
noncomputable def Tg.join (a b:Tg):Tg:=⟨a.top || b.top,a.deep || b.deep,a.base || b.base⟩
noncomputable def Tg.item (a:Tg):Tg:=⟨a.deep,a.deep,a.base⟩
noncomputable def Tg.fresh (a:Tg):Tg:=⟨false,a.deep,a.base⟩
noncomputable def Tg.held (a:Tg):Tg:=⟨false,a.top || a.deep,a.base⟩
noncomputable def D.flat:D→Bool
 |.list _=>false
 |_=>true
noncomputable def eff (d:D)(t:Tg):Tg:=match d with
 |.list _=>t
 |_=>Tg.z
structure Rs where
 d:D
 t:Tg
 f:Bool
noncomputable def Rs.flat (d:D):Rs:=⟨d,Tg.z,false⟩
noncomputable def Rs.val (d:D)(t:Tg):Rs:=⟨d,eff d t,false⟩
noncomputable def Rs.new (d:D)(t:Tg):Rs:=⟨d,eff d t,true⟩
inductive VT where
 |val (t:Tg)
 |own (b:Bool)
 |pin (b:Bool)
noncomputable def VT.ctorIdx (x:VT):Nat:=@VT.casesOn (fun _=>Nat) x (fun _=>0) (fun _=>1) (fun _=>2)
noncomputable def VT.tg:VT→Tg
 |.val t=>t
 |.own b=>⟨true,false,b⟩
 |.pin b=>⟨true,false,b⟩
noncomputable abbrev Slot:=Option (D×VT)
noncomputable abbrev Env':=List Slot
noncomputable def SZ:Nat:=16777216
noncomputable def I63:Int:=9223372036854775808
noncomputable def small (i:Int):Bool:=decide (-I63<i)&&decide (i<I63)
noncomputable def tiny (i:Int):Bool:=decide (-4611686018427387904≤i)&&decide (i<4611686018427387904)
noncomputable def mk (l:List Nat):Str:=⟨l.toArray⟩
noncomputable def rep {α:Type}(n:Nat)(l:List α):List α:=(qBh n l).flatten
noncomputable def slL {α:Type}(l:List α)(lo hi st:Option Int):List α:=
 (qBw lo hi (st.getD 1) l.length).filterMap (l[·]?)
noncomputable def xorI (i j:Int):Int:=Builtin.bitXor i j
noncomputable def D.asInt:D→Option Int
 |.int i=>some i
 |_=>.none
noncomputable def D.asStr:D→Option (List Nat)
 |.str l=>some l
 |_=>.none
noncomputable def D.asList:D→Option (List D)
 |.list l=>some l
 |_=>.none
noncomputable def D.asBool:D→Option Bool
 |.bool b=>some b
 |_=>.none
noncomputable def addD (x y:D):Option D:=match x with
 |.int i=>(match y with
  |.int j=>some (.int (i+j))
  |.bool b=>some (.int (i+if b then 1 else 0))
  |_=>none)
 |.str a=>y.asStr.bind fun b=>if a.length+b.length≤SZ then some (.str (a++b)) else none
 |.list a=>y.asList.bind fun b=>if a.length+b.length≤SZ then some (.list (a++b)) else none
 |_=>none
noncomputable def mulD (x y:D):Option D:=match x with
 |.int i=>y.asInt.bind fun j=>if small i&&small j then some (.int (i*j)) else none
 |.str a=>y.asInt.bind fun k=>if a.length*k.toNat≤SZ&&small k then some (.str (rep k.toNat a)) else none
 |_=>none
noncomputable def binD (op:BOp)(x y:D):Option D:=match op with
 |.add=>addD x y
 |.mul=>mulD x y
 |.sub=>x.asInt.bind fun i=>y.asInt.bind fun j=>some (.int (i-j))
 |.fdiv=>x.asInt.bind fun i=>y.asInt.bind fun j=>if 0<j∧j<1073741824 then some (.int (i / j)) else none
 |.mod=>x.asInt.bind fun i=>y.asInt.bind fun j=>if 0<j then some (.int (i % j)) else none
 |.xor=>x.asInt.bind fun i=>y.asInt.bind fun j=>some (.int (xorI i j))
noncomputable def augD (op:BOp)(x y:D):Option D:=match op with
 |.add=>(match x with
  |.int i=>y.asInt.bind fun j=>some (.int (i+j))
  |.str a=>y.asStr.bind fun b=>if a.length+b.length≤SZ then some (.str (a++b)) else none
  |_=>none)
 |.sub=>x.asInt.bind fun i=>y.asInt.bind fun j=>some (.int (i-j))
 |_=>none
noncomputable def intsOf:List D→Option (List Int)
 |[]=>some []
 |.int i::r=>(intsOf r).map (i::·)
 |_=>none
noncomputable def strsOf:List D→Option (List (List Nat))
 |[]=>some []
 |.str l::r=>(strsOf r).map (l::·)
 |_=>none
noncomputable def boolsOf:List D→Option (List Bool)
 |[]=>some []
 |.bool b::r=>(boolsOf r).map (b::·)
 |_=>none
noncomputable def eqF (x y:D):Option Bool:=match x with
 |.int i=>y.asInt.bind fun j=>some (decide (i=j))
 |.bool a=>y.asBool.bind fun b=>some (a==b)
 |.str a=>y.asStr.bind fun b=>some (decide (a=b))
 |_=>none
noncomputable def eqL:List D→List D→Option Bool
 |[],[]=>some true
 |a::x,b::y=>(eqF a b).bind fun c=>(eqL x y).map (c&&·)
 |_,_=>none
noncomputable def memD (d:D):List D→Option Bool
 |[]=>some false
 |a::x=>(eqF a d).bind fun b=>(memD d x).bind fun c=>some (b || c)
noncomputable def isD (x y:D):Option Bool:=match y with
 |.none=>(match x with
  |.none=>some true
  |.int _=>some false
  |.str _=>some false
  |.bool _=>some false
  |_=>none)
 |.bool b=>x.asBool.bind fun a=>some (a==b)
 |_=>none
noncomputable def eqD (x y:D):Option Bool:=match x with
 |.list a=>y.asList.bind fun b=>eqL a b
 |.int i=>eqF (.int i) y
 |.bool i=>eqF (.bool i) y
 |.str i=>eqF (.str i) y
 |_=>none
noncomputable def inS (a b:List Nat):Bool:=Txt.contains (mk b) (mk a)
noncomputable def inD (x y:D):Option Bool:=match y with
 |.str b=>x.asStr.bind fun a=>some (inS a b)
 |.list b=>memD x b
 |_=>none
noncomputable def cmpD (op:COp)(x y:D):Option Bool:=match op with
 |.eq=>eqD x y
 |.ne=>(eqD x y).map (!·)
 |.lt=>x.asInt.bind fun i=>y.asInt.bind fun j=>some (decide (i<j))
 |.le=>x.asInt.bind fun i=>y.asInt.bind fun j=>some (decide (i≤j))
 |.gt=>x.asInt.bind fun i=>y.asInt.bind fun j=>some (decide (i > j))
 |.ge=>x.asInt.bind fun i=>y.asInt.bind fun j=>some (decide (i≥j))
 |.is=>isD x y
 |.isnot=>(isD x y).map (!·)
 |.in_=>inD x y
 |.notin=>(inD x y).map (!·)
noncomputable def truth:D→Option Bool
 |.bool b=>some b
 |.int i=>some (decide (i≠0))
 |.str l=>some (decide (l≠[]))
 |.list l=>some (decide (l.length≠0))
 |_=>none
noncomputable def idxR (a i:Rs):Option Rs:=
 match a.d,i.d with
 |.list ds,.int k=>
  if 0≤k then (match ds[k.toNat]? with|some d=>some (Rs.val d a.t.item)|none=>none)
  else if -(ds.length:Int)≤k then (match ds[(k+ds.length).toNat]? with|some d=>some (Rs.val d a.t.item)|none=>none) else none
 |.str l,.int k=>if 0≤k∧k<l.length then (match l[k.toNat]? with|some c=>some (Rs.flat (.str [c]))|none=>none) else none
 |_,_=>none
noncomputable def intO:Option Rs→Option (Option Int)
 |none=>none
 |some r=>match r.d with|.int i=>if small i then some (some i) else none|_=>none
noncomputable def sliceR (a:Rs)(lo hi st:Option Int):Option Rs:=
 match a.d with
 |.list ds=>some (Rs.new (.list (slL ds lo hi st)) a.t.fresh)
 |.str l=>some (Rs.flat (.str (slL l lo hi st)))
 |_=>none
noncomputable def insI (i:Int):List Int→List Int
 |[]=>[i]
 |j::r=>if i≤j then i::j::r else j::insI i r
noncomputable def sortI:List Int→List Int
 |[]=>[]
 |i::r=>insI i (sortI r)
noncomputable def arg1:List Rs→Option Rs
 |[a]=>some a
 |_=>none
noncomputable def arg2:List Rs→Option (Rs×Rs)
 |[a,b]=>some (a,b)
 |_=>none
noncomputable def arg3:List Rs→Option (Rs×Rs×Rs)
 |[a,b,c]=>some (a,b,c)
 |_=>none
noncomputable def lenD:D→Option Int
 |.str l=>some l.length
 |.list l=>some l.length
 |_=>none
noncomputable def sortD (l:List D):Option Rs:=match intsOf l with
 |some ns=>some (Rs.new (.list ((sortI ns).map .int)) Tg.z)
 |none=>(strsOf l).bind fun ss=>
  if ss.all (fun s=>s.all (·==115)) then some (Rs.new (.list ((sortI (ss.map fun s=>(s.length:Int))).map fun n=>.str (qBh n.toNat 115))) Tg.z) else none
noncomputable def biR (b:BI)(as:List Rs):Option Rs:=
 match b with
 |.len=>(arg1 as).bind fun a=>(lenD a.d).bind fun n=>some (Rs.flat (.int n))
 |.chr=>(arg1 as).bind fun a=>a.d.asInt.bind fun i=>if 0≤i∧i≤1114111 then some (Rs.flat (.str [i.toNat])) else none
 |.min=>(arg2 as).bind fun p=>p.1.d.asInt.bind fun i=>p.2.d.asInt.bind fun j=>some (Rs.flat (.int (if j<i then j else i)))
 |.sum=>(arg1 as).bind fun a=>a.d.asList.bind fun l=>(intsOf l).bind fun ns=>some (Rs.flat (.int ns.sum))
 |.sorted=>(arg1 as).bind fun a=>a.d.asList.bind fun l=>if l.length<64 then sortD l else none
noncomputable def findI (x y:List Nat):Int:=Txt.find (mk x) (mk y)
noncomputable def rfindI (x y:List Nat):Int:=Txt.rfind (mk x) (mk y)
noncomputable def countI (x y:List Nat):Int:=Txt.count (mk x) (mk y)
noncomputable def startsB (x y:List Nat):Bool:=Txt.startswith (mk x) (mk y)
noncomputable def endsB (x y:List Nat):Bool:=Txt.endswith (mk x) (mk y)
noncomputable def splitL (x y:List Nat):List (List Nat):=(qEi (mk x) (mk y)).map fun s=>s.cps.toList
noncomputable def joinL (x:List Nat)(ys:List (List Nat)):List Nat:=(Txt.join (mk x) (ys.map mk)).cps.toList
noncomputable def replL (x y z:List Nat):List Nat:=(Txt.replace (mk x) (mk y) (mk z)).cps.toList
noncomputable def find3I (x y:List Nat)(i j:Int):Int:=
 match qCa (mk x) (mk y) i.toNat j.toNat 1 with
 |k::_=>(k:Int)
 |[]=>-1
noncomputable def find3R (x y:List Nat)(i j:Int):Option Rs:=
 if 0≤i∧i≤x.length∧0≤j∧j≤x.length then some (Rs.flat (.int (find3I x y i j))) else none
noncomputable def splitR (x y:List Nat):Option Rs:=
 if y.length≠0∧(splitL x y).length≤SZ∧(splitL x y).all (fun l=>decide (l.length≤SZ))=true then some (Rs.new (.list ((splitL x y).map .str)) Tg.z) else none
noncomputable def joinR (x:List Nat)(ys:List (List Nat)):Option Rs:=
 if JoinOk (mk x) (ys.map mk)=true∧(joinL x ys).length≤SZ then some (Rs.flat (.str (joinL x ys))) else none
noncomputable def str1 (as:List Rs)(f:List Nat→Rs):Option Rs:=(arg1 as).bind fun a=>a.d.asStr.bind fun y=>some (f y)
noncomputable def methS (m:ME)(x:List Nat)(as:List Rs):Option Rs:=match m with
 |.find=>str1 as fun y=>Rs.flat (.int (findI x y))
 |.rfind=>str1 as fun y=>Rs.flat (.int (rfindI x y))
 |.count=>str1 as fun y=>Rs.flat (.int (countI x y))
 |.find3=>(arg3 as).bind fun p=>p.1.d.asStr.bind fun y=>p.2.1.d.asInt.bind fun i=>p.2.2.d.asInt.bind fun j=>find3R x y i j
 |.startswith=>str1 as fun y=>Rs.flat (.bool (startsB x y))
 |.endswith=>str1 as fun y=>Rs.flat (.bool (endsB x y))
 |.split=>(arg1 as).bind fun a=>a.d.asStr.bind fun y=>splitR x y
 |.join=>(arg1 as).bind fun a=>a.d.asList.bind fun l=>(strsOf l).bind fun ys=>joinR x ys
noncomputable def methR (m:ME)(o:Rs)(as:List Rs):Option Rs:=o.d.asStr.bind fun x=>methS m x as
noncomputable def replR (o:Rs)(old new:List Nat):Option Rs:=o.d.asStr.bind fun x=>
 if old≠new∧x.length+(x.length+1)*new.length≤SZ∧(replL x old new).length≤SZ then some (Rs.flat (.str (replL x old new))) else none
noncomputable def compL (f:D→Option (Option Rs)):List D→Option (List D)
 |[]=>some []
 |d::ds=>match f d with
  |none=>none
  |some none=>compL f ds
  |some (some r)=>match eff r.d r.t with
   |⟨false,false,false⟩=>(match compL f ds with|some l=>some (r.d::l)|none=>none)
   |_=>none
noncomputable def rangeL (a b:Int):List D:=(qAf (b-a).toNat).map fun (k:Nat)=>D.int (a+(k:Int))
structure Items where
 ds:List D
 t:Tg
 top:Bool
noncomputable abbrev Fns:=Bool→Nat→List D→Option D
noncomputable def VT.get (s:Slot):Option Rs:=match s with
 |some (d,vt)=>some (Rs.val d vt.tg)
 |none=>none
mutual
noncomputable def evE (Φ:Fns)(q:Bool)(ρ:Env'):PE→Option Rs
 |.none=>some (Rs.flat .none)
 |.bool b=>some (Rs.flat (.bool b))
 |.int i=>some (Rs.flat (.int i))
 |.str l=>some (Rs.flat (.str l))
 |.gstr l=>some (Rs.flat (.str l))
 |.var i=>(match ρ[i]? with|some s=>VT.get s|none=>none)
 |.bin op a b=>(match evE Φ q ρ a with
  |some x=>(match evE Φ q ρ b with
   |some y=>(match binD op x.d y.d with
    |some d=>some (Rs.new d (x.t.join y.t).fresh)
    |none=>none)
   |none=>none)
  |none=>none)
 |.neg a=>(match evE Φ q ρ a with
  |some x=>(match x.d with|.int i=>some (Rs.flat (.int (-i)))|_=>none)
  |none=>none)
 |.cmp op a b=>(match evE Φ q ρ a with
  |some x=>(match evE Φ q ρ b with
   |some y=>(match cmpD op x.d y.d with
    |some c=>some (Rs.flat (.bool c))
    |none=>none)
   |none=>none)
  |none=>none)
 |.and a b=>(match evE Φ q ρ a with
  |some x=>(match x.d with
   |.bool true=>evE Φ q ρ b
   |.bool false=>some (Rs.flat (.bool false))
   |_=>none)
  |none=>none)
 |.ife t a b=>(match evT Φ q ρ t with
  |some true=>evE Φ q ρ a
  |some false=>evE Φ q ρ b
  |none=>none)
 |.idx a i=>(match evE Φ q ρ a with
  |some x=>(match evE Φ q ρ i with
   |some y=>idxR x y
   |none=>none)
  |none=>none)
 |.slice a lo hi=>(match evE Φ q ρ a with
  |some x=>(match evO Φ q ρ lo with
   |some l=>(match evO Φ q ρ hi with
    |some h=>sliceR x l h none
    |none=>none)
   |none=>none)
  |none=>none)
 |.rev a=>(match evE Φ q ρ a with
  |some x=>sliceR x none none (some (-1))
  |none=>none)
 |.two a k=>(match evE Φ q ρ a with
  |some x=>sliceR x (some k) none (some 2)
  |none=>none)
 |.list es=>(match evL Φ q ρ es with
  |some rs=>some (Rs.new (.list (rs.map (·.d))) (rs.foldr (fun r t=>(eff r.d r.t).held.join t) Tg.z))
  |none=>none)
 |.comp elt v it c=>(match evI Φ q ρ it with
  |some its=>(match compL (fun d=>match evTo Φ true (ρ.set v (some (d,.val (eff d its.t)))) c with
    |some true=>(match evE Φ true (ρ.set v (some (d,.val (eff d its.t)))) elt with
     |some r=>some (some r)
     |none=>none)
    |some false=>some none
    |none=>none) its.ds with
   |some l=>if l.length≤SZ then some (Rs.new (.list l) Tg.z) else none
   |none=>none)
  |none=>none)
 |.call f as=>(match evL Φ q ρ as with
  |some rs=>(match Φ q f (rs.map (·.d)) with
   |some d=>some (Rs.new d Tg.z)
   |none=>none)
  |none=>none)
 |.bi b as=>(match evL Φ q ρ as with
  |some rs=>biR b rs
  |none=>none)
 |.meth m o as=>(match evE Φ q ρ o with
  |some x=>(match evL Φ q ρ as with
   |some rs=>methR m x rs
   |none=>none)
  |none=>none)
 |.pick cs i=>(match evE Φ q ρ i with
  |some y=>(match y.d with
   |.int k=>if 0≤k then (match cs[k.toNat]? with|some l=>some (Rs.flat (.cst l))|none=>none) else none
   |_=>none)
  |none=>none)
 |.repl o old new=>(match evE Φ q ρ o with
  |some x=>(match new with
   |.str l=>replR x old l
   |.var i=>(match ρ[i]? with
    |some (some (.cst l,_))=>replR x old l
    |_=>none)
   |_=>none)
  |none=>none)
 |.lmul i e=>(match evE Φ q ρ e with
  |some x=>(match x.d with
   |.int k=>if k.toNat≤SZ&&small k then some (Rs.new (.list (qBh k.toNat (.int i))) Tg.z) else none
   |_=>none)
  |none=>none)
noncomputable def evO (Φ:Fns)(q:Bool)(ρ:Env'):PO→Option (Option Int)
 |.no=>some none
 |.some e=>(match evE Φ q ρ e with
  |some r=>(match r.d with|.int i=>if small i then some (some i) else none|_=>none)
  |none=>none)
noncomputable def evL (Φ:Fns)(q:Bool)(ρ:Env'):PL→Option (List Rs)
 |.nil=>some []
 |.cons e r=>(match evE Φ q ρ e with
  |some x=>(match evL Φ q ρ r with
   |some xs=>some (x::xs)
   |none=>none)
  |none=>none)
noncomputable def evT (Φ:Fns)(q:Bool)(ρ:Env'):PT→Option Bool
 |.val e=>(match evE Φ q ρ e with
  |some r=>truth r.d
  |none=>none)
 |.cmp op a b=>(match evE Φ q ρ a with
  |some x=>(match evE Φ q ρ b with
   |some y=>cmpD op x.d y.d
   |none=>none)
  |none=>none)
 |.not t=>(match evT Φ q ρ t with
  |some b=>some (!b)
  |none=>none)
 |.and t u=>(match evT Φ q ρ t with
  |some true=>evT Φ q ρ u
  |some false=>some false
  |none=>none)
 |.or t u=>(match evT Φ q ρ t with
  |some true=>some true
  |some false=>evT Φ q ρ u
  |none=>none)
noncomputable def evTo (Φ:Fns)(q:Bool)(ρ:Env'):PTo→Option Bool
 |.no=>some true
 |.some t=>evT Φ q ρ t
noncomputable def evI (Φ:Fns)(q:Bool)(ρ:Env'):PI→Option Items
 |.val e=>(match evE Φ q ρ e with
  |some r=>(match r.d with
   |.list ds=>some ⟨ds,r.t.item,r.t.top⟩
   |.str l=>some ⟨l.map fun c=>.str [c],Tg.z,false⟩
   |_=>none)
  |none=>none)
 |.range1 n=>(match evE Φ q ρ n with
  |some r=>(match r.d with
   |.int k=>if tiny k&&decide (k≤SZ) then some ⟨rangeL 0 k,Tg.z,false⟩ else none
   |_=>none)
  |none=>none)
 |.range2 a b=>(match evE Φ q ρ a with
  |some x=>(match evE Φ q ρ b with
   |some y=>(match x.d,y.d with
    |.int i,.int j=>if tiny i&&tiny j&&decide (j-i≤SZ) then some ⟨rangeL i j,Tg.z,false⟩ else none
    |_,_=>none)
   |none=>none)
  |none=>none)
end
inductive Fl where
 |next
 |ret (r:Rs)
noncomputable def Fl.ctorIdx (x:Fl):Nat:=@Fl.casesOn (fun _=>Nat) x 0 (fun _=>1)
noncomputable def forS (f:Env'→D→Option (Fl×Env')):List D→Env'→Option (Fl×Env')
 |[],ρ=>some (.next,ρ)
 |d::ds,ρ=>match f ρ d with
  |some (.next,ρ')=>forS f ds ρ'
  |some (.ret r,ρ')=>some (.ret r,ρ')
  |none=>none
noncomputable def whileS (t:Env'→Option Bool)(f:Env'→Option (Fl×Env')):Nat→Env'→Option (Fl×Env')
 |0,_=>none
 |n+1,ρ=>match t ρ with
  |some true=>(match f ρ with
   |some (.next,ρ')=>whileS t f n ρ'
   |some (.ret r,ρ')=>some (.ret r,ρ')
   |none=>none)
  |some false=>some (.next,ρ)
  |none=>none
noncomputable def nxt (f:Env'→Option (Fl×Env'))(r:Fl×Env'):Option (Fl×Env'):=match r with
 |(.next,ρ)=>f ρ
 |(.ret r,ρ)=>some (.ret r,ρ)
theorem whileS_c {t:Env'→Option Bool}{f:Env'→Option (Fl×Env')}{n:Nat}{ρ:Env'}:whileS t f (n+1) ρ=(t ρ).bind fun c=>cond c ((f ρ).bind (nxt (whileS t f n))) (some (.next,ρ)):=by kernel_rfl
theorem forS_c {f:Env'→D→Option (Fl×Env')}{d:D}{ds:List D}{ρ:Env'}:forS f (d::ds) ρ=(f ρ d).bind (nxt (forS f ds)):=by kernel_rfl
theorem for_next {f:Env'→D→Option (Fl×Env')}{d:D}{ds:List D}{ρ ρ':Env'}(h:f ρ d=some (.next,ρ')):forS f (d::ds) ρ=forS f ds ρ':=forS_c.trans ((congrArg (qF2 · _) h).trans rfl)
noncomputable def escG:Nat→Bool→List Nat→List (Int×List Nat)
 |p,true,[]=>[((p:Int)-1,[92])]
 |_,false,[]=>[]
 |p,true,c::r=>((p:Int),[92,c])::escG (p+1) false r
 |p,false,c::r=>if c=92 then escG (p+1) true r else ((p:Int),[c])::escG (p+1) false r
noncomputable def escL (l:List Nat):List (Int×List Nat):=escG 0 false l
noncomputable def pinned:Slot→Bool
 |some (_,.pin _)=>true
 |_=>false
noncomputable def setX (ρ:Env')(v:Nat)(r:Rs):Option Env':=
 match eff r.d r.t with
 |⟨tp,dp,b⟩=>
  if dp then none
  else match r.d,r.f with
   |.list _,true=>if tp then none else some (ρ.set v (some (r.d,.own b)))
   |_,_=>if tp then none else some (ρ.set v (some (r.d,.val ⟨false,false,b⟩)))
noncomputable def setV (ρ:Env')(v:Nat)(r:Rs):Option Env':=(ρ[v]?).bind fun s=>if pinned s then none else setX ρ v r
theorem sv_x {ρ:Env'}{v:Nat}{r:Rs}{s:Slot}(h:ρ[v]?=some s)(hp:pinned s=false):setV ρ v r=setX ρ v r:=
 (congrArg (qF2 · _) h).trans (if_neg (by rw [hp];exact qAr))
noncomputable def setAll (ρ:Env'):List Nat→List D→Tg→Option Env'
 |[],[],_=>some ρ
 |v::vs,d::ds,t=>(match setV ρ v (Rs.val d t) with
  |some ρ'=>setAll ρ' vs ds t
  |none=>none)
 |_,_,_=>none
noncomputable def allFlat (l:List D):Bool:=l.all D.flat
noncomputable def pinIt (ρ:Env'):PI→Option (Env'×Option (Nat×Slot))
 |.val (.var i)=>(match ρ[i]? with
  |some (some (.list ds,.own b))=>some (ρ.set i (some (.list ds,.pin b)),some (i,some (.list ds,.own b)))
  |_=>some (ρ,none))
 |_=>some (ρ,none)
noncomputable def WF:Nat:=100
mutual
noncomputable def exS (Φ:Fns)(q:Bool)(ρ:Env'):PS→Option (Fl×Env')
 |.asg v e=>(match evE Φ q ρ e with
  |some r=>(match setV ρ v r with|some ρ'=>some (.next,ρ')|none=>none)
  |none=>none)
 |.asg2 v1 v2 e1 e2=>(match evE Φ q ρ e1 with
  |some r1=>(match evE Φ q ρ e2 with
   |some r2=>(match r1.d.flat,r2.d.flat with
    |true,true=>(match setV ρ v2 r2 with
     |some ρ'=>(match setV ρ' v1 r1 with|some ρ''=>some (.next,ρ'')|none=>none)
     |none=>none)
    |_,_=>none)
   |none=>none)
  |none=>none)
 |.unpack vs e=>(match evE Φ q ρ e with
  |some r=>(match r.d with
   |.list ds=>if r.t.deep then none else (match setAll ρ vs ds r.t.item with|some ρ'=>some (.next,ρ')|none=>none)
   |_=>none)
  |none=>none)
 |.aug v op e=>(match ρ[v]? with
  |some (some (.list ds,.own b))=>(match op with
   |.add=>(match evE Φ q ρ e with
    |some r=>(match r.d with
     |.list es=>if ds.length+es.length≤SZ then
       (if allFlat es then some (.next,ρ.set v (some (.list (ds++es),.own b)))
       else if r.t.deep then none else some (.next,ρ.set v (some (.list (ds++es),.own (b || r.t.base))))) else none
     |_=>none)
    |none=>none)
   |_=>none)
  |some (some (d,.val _))=>if d.flat then (match evE Φ q ρ e with
   |some r=>(match augD op d r.d with
    |some d'=>(match setV ρ v (Rs.flat d') with|some ρ'=>some (.next,ρ')|none=>none)
    |none=>none)
   |none=>none) else none
  |_=>none)
 |.app v e=>(match evE Φ q ρ e with
  |some r=>(match ρ[v]? with
   |some (some (.list ds,.own b))=>if ds.length+1≤SZ then (match eff r.d r.t with
    |⟨false,false,b'⟩=>some (.next,ρ.set v (some (.list (ds++[r.d]),.own (b || b'))))
    |_=>none) else none
   |_=>none)
  |none=>none)
 |.ins v e1 e2=>(match evE Φ q ρ e1 with
  |some r1=>(match evE Φ q ρ e2 with
   |some r2=>(match ρ[v]? with
    |some (some (.list ds,.own b))=>(match r1.d with
     |.int k=>if 0≤k∧k≤ds.length∧ds.length+1≤SZ then (match eff r2.d r2.t with
      |⟨false,false,b'⟩=>some (.next,ρ.set v (some (.list (ds.take k.toNat++r2.d::ds.drop k.toNat),.own (b || b'))))
      |_=>none) else none
     |_=>none)
    |_=>none)
   |none=>none)
  |none=>none)
 |.del v last=>(match ρ[v]? with
  |some (some (.list ds,.own b))=>if ds.length=0 then none else
    some (.next,ρ.set v (some (.list (if last then ds.dropLast else ds.tail),.own b)))
  |_=>none)
 |.if_ t b o=>(match evT Φ q ρ t with
  |some true=>exSs Φ q ρ b
  |some false=>exSs Φ q ρ o
  |none=>none)
 |.for_ v it b=>(match evI Φ q ρ it with
  |some its=>(match pinIt ρ it with
   |some (ρ',sv)=>if its.t.deep || (its.top&&sv.isNone) then none else
    (match forS (fun ρ d=>match setV ρ v (Rs.val d its.t) with
      |some ρ₁=>exSs Φ q ρ₁ b
      |none=>none) its.ds ρ' with
     |some (fl,ρ'')=>(match sv with
      |some (i,s)=>some (fl,ρ''.set i s)
      |none=>some (fl,ρ''))
     |none=>none)
   |none=>none)
  |none=>none)
 |.forG v1 v2 e b=>if q then none else (match evE Φ q ρ e with
  |some r=>(match r.d with
   |.str l=>forS (fun ρ d=>match d with
     |.list [.int p,.str c]=>(match setV ρ v1 (Rs.flat (.int p)) with
      |some ρ₁=>(match setV ρ₁ v2 (Rs.flat (.str c)) with
       |some ρ₂=>exSs Φ true ρ₂ b
       |none=>none)
      |none=>none)
     |_=>none) ((escL l).map fun x=>D.list [.int x.1,.str x.2]) ρ
   |_=>none)
  |none=>none)
 |.while_ t b=>whileS (fun ρ=>evT Φ q ρ t) (fun ρ=>exSs Φ q ρ b) WF ρ
 |.ret e=>(match evE Φ q ρ e with
  |some r=>some (.ret r,ρ)
  |none=>none)
 |.assert_ t=>(match evT Φ q ρ t with
  |some true=>some (.next,ρ)
  |_=>none)
noncomputable def exSs (Φ:Fns)(q:Bool)(ρ:Env'):PSs→Option (Fl×Env')
 |.nil=>some (.next,ρ)
 |.cons st r=>(match exS Φ q ρ st with
  |some (.next,ρ')=>exSs Φ q ρ' r
  |some (.ret x,ρ')=>some (.ret x,ρ')
  |none=>none)
end
noncomputable def runF (Φ:Fns)(q:Bool)(m n:Nat)(body:PSs)(args:List D):Option D:=
 if args.length≠m then none else match exSs Φ q (args.map (fun d=>some (d,.val (eff d ⟨false,false,true⟩)))++qBh (n-args.length) none) body with
 |some (.ret r,_)=>if (eff r.d r.t).base || !(r.d.flat || r.f) then none else some r.d
 |_=>none
end Mine
end

section
set_option maxRecDepth 10000
namespace Mine
open PySem PyProof.Rows
mutual
noncomputable def Rd (h:Heap)(T:Nat)(Xt Xd:Addr→Prop):D→Value→Prop
 |.none,v=>v=.none
 |.bool b,v=>v=.bool b
 |.int i,v=>∃t,v=.int i t
 |.str l,v=>l.length≤SZ∧∃t,v=.str (mk l) t
 |.cst l,v=>l.length≤SZ∧∃t,v=.str (mk l) t∧t≠0∧t<T
 |.list ds,v=>ds.length≤SZ∧∃(a:Addr) (vs:List Value),v=.ref a∧h.IsList a vs.toArray∧¬Xt a∧Rds h T Xd ds vs
noncomputable def Rds (h:Heap)(T:Nat)(Xd:Addr→Prop):List D→List Value→Prop
 |[],vs=>vs=[]
 |d::ds,vs=>∃v r,vs=v::r∧Rd h T Xd Xd d v∧Rds h T Xd ds r
end
theorem Rds.length {h:Heap}{T:Nat}{X:Addr→Prop}:∀{ds:List D} {vs:List Value},Rds h T X ds vs→vs.length=ds.length
 |[],_,r=>by rw [Rds] at r;subst r;rfl
 |d::ds,vs,r=>by
  rw [Rds] at r
  obtain⟨v,r',rfl,_,r2⟩:=r
  simp [r2.length]
mutual
theorem Rd.mono {h h':Heap}{T T':Nat}{Xt Xd Xt' Xd':Addr→Prop}(hT:T≤T')
  (hk:∀b o,¬Xd' b→h.get? b=some o→h'.get? b=some o) (hkt:∀b o,¬Xt' b→h.get? b=some o→h'.get? b=some o)
  (ht:∀a,(∃o,h.get? a=some o)→Xt' a→Xt a) (hd:∀a,(∃o,h.get? a=some o)→Xd' a→Xd a) :
  ∀(d:D) (v:Value),Rd h T Xt Xd d v→Rd h' T' Xt' Xd' d v
 |.none,v,r=>by rw [Rd] at r ⊢;exact r
 |.bool b,v,r=>by rw [Rd] at r ⊢;exact r
 |.int i,v,r=>by rw [Rd] at r ⊢;exact r
 |.str l,v,r=>by rw [Rd] at r ⊢;exact r
 |.cst l,v,r=>by
  rw [Rd] at r⊢
  obtain⟨a,t,b,c,e⟩:=r
  exact⟨a,t,b,c,qB3 e hT⟩
 |.list ds,v,r=>by
  rw [Rd] at r⊢
  obtain⟨hl,a,vs,rfl,⟨o,ho,hc,n,hn⟩,hx,hs⟩:=r
  have nx:¬Xt' a:=fun q=>hx (ht a ⟨o,ho⟩ q)
  exact⟨hl,a,vs,rfl,⟨o,hkt a o nx ho,hc,n,hn⟩,nx,Rds.mono hT hk hd ds vs hs⟩
theorem Rds.mono {h h':Heap}{T T':Nat}{Xd Xd':Addr→Prop}(hT:T≤T')
  (hk:∀b o,¬Xd' b→h.get? b=some o→h'.get? b=some o)
  (hd:∀a,(∃o,h.get? a=some o)→Xd' a→Xd a) :
  ∀(ds:List D) (vs:List Value),Rds h T Xd ds vs→Rds h' T' Xd' ds vs
 |[],vs,r=>by rw [Rds] at r ⊢;exact r
 |d::ds,vs,r=>by
  rw [Rds] at r⊢
  obtain⟨v,r',rfl,r1,r2⟩:=r
  exact⟨v,r',rfl,Rd.mono hT hk hk hd hd d v r1,Rds.mono hT hk hd ds r' r2⟩
end
theorem Rd.flat_any {h h':Heap}{T:Nat}{Xt Xd Xt' Xd':Addr→Prop}{d:D}{v:Value}(hf:d.flat=true)(r:Rd h T Xt Xd d v):Rd h' T Xt' Xd' d v:=by
 cases d with
 |list ds=>cases hf
 |_=>simp only [Rd] at r ⊢;exact r
theorem Rds.get {h:Heap}{T:Nat}{X:Addr→Prop}:∀{ds:List D} {vs:List Value} {i:Nat} {d:D},Rds h T X ds vs→ds[i]?=some d→∃v,vs[i]?=some v∧Rd h T X X d v
 |d::ds,vs,0,d',r,e=>by
  rw [Rds] at r
  obtain⟨v,r',rfl,r1,r2⟩:=r
  simp only [qEs,qD1] at e
  subst e
  exact⟨v,rfl,r1⟩
 |d::ds,vs,i+1,d',r,e=>by
  rw [Rds] at r
  obtain⟨v,r',rfl,r1,r2⟩:=r
  simp only [qCz] at e⊢
  exact r2.get e
 |[],_,_,_,_,e=>by simp at e
theorem Rds.append {h:Heap}{T:Nat}{X:Addr→Prop}:∀{ds es:List D} {vs us:List Value},Rds h T X ds vs→Rds h T X es us→Rds h T X (ds++es) (vs++us)
 |[],es,vs,us,r,q=>by rw [Rds] at r;subst r;exact q
 |d::ds,es,vs,us,r,q=>by
  rw [Rds] at r
  obtain⟨v,r',rfl,r1,r2⟩:=r
  show Rds h T X (d::(ds++es)) (v::(r'++us))
  rw [Rds]
  exact⟨v,_,rfl,r1,r2.append q⟩
inductive KQ (q:Bool)(s s':Shared):Prop
 |mk (h':Heap) (tk:Nat) (gs:Array GenState) (e1:s'={ s with heap:=h',toks:=tk,gens:=gs }) (e2:∀b o,s.heap.get? b=some o→h'.get? b=some o) (e3:s.toks≤tk)
  (e4:q=true→gs=s.gens) (e5:∀(i:Nat) x,s.gens[i]?=some x→gs[i]?=some x) (e6:AllBare s.gens→AllBare gs)
theorem KQ.refl (q:Bool)(s:Shared):KQ q s s:=⟨s.heap,s.toks,s.gens,rfl,fun _ _ e=>e,qA7 _,fun _=>rfl,fun _ _ e=>e,id⟩
theorem KQ.trans {q:Bool}{s s' s'':Shared}(a:KQ q s s')(b:KQ q s' s''):KQ q s s'':=by
 obtain⟨h1,t1,g1,rfl,k1,l1,e1,p1,b1⟩:=a
 obtain⟨h2,t2,g2,rfl,k2,l2,e2,p2,b2⟩:=b
 exact⟨h2,t2,g2,rfl,fun b o e=>k2 b o (k1 b o e),qA9 l1 l2,fun h=>(e2 h).trans (e1 h),fun i x e=>p2 i x (p1 i x e),fun h=>b2 (b1 h)⟩
theorem KQ.keep {q:Bool}{s s':Shared}(a:KQ q s s'):∀b o,s.heap.get? b=some o→s'.heap.get? b=some o:=by
 obtain⟨h1,t1,g1,rfl,k1,_⟩:=a;exact k1
theorem KQ.toks {q:Bool}{s s':Shared}(a:KQ q s s'):s.toks≤s'.toks:=by
 obtain⟨h1,t1,g1,rfl,k1,l,_⟩:=a;exact l
theorem KQ.weak {q:Bool}{s s':Shared}(a:KQ true s s'):KQ q s s':=by
 obtain⟨h1,t1,g1,rfl,k1,l1,e1,p1,b1⟩:=a
 exact⟨h1,t1,g1,rfl,k1,l1,fun _=>e1 rfl,p1,b1⟩
theorem KQ.eq {s s':Shared}(a:KQ true s s'):s'={ s with heap:=s'.heap,toks:=s'.toks }:=by
 obtain⟨h1,t1,g1,rfl,k1,l1,e1,p1,b1⟩:=a
 have:g1=s.gens:=e1 rfl
 rw [this]
theorem KQ.mk' {q:Bool}{s:Shared}{h':Heap}{tk:Nat}(hk:∀b o,s.heap.get? b=some o→h'.get? b=some o)(ht:s.toks≤tk):KQ q s { s with heap:=h',toks:=tk }:=
 ⟨h',tk,s.gens,rfl,hk,ht,fun _=>rfl,fun _ _ e=>e,id⟩
theorem KQ.heap {q:Bool}{s:Shared}{h':Heap}(hk:∀b o,s.heap.get? b=some o→h'.get? b=some o):KQ q s { s with heap:=h' }:=
 ⟨h',s.toks,s.gens,rfl,hk,qA7 _,fun _=>rfl,fun _ _ e=>e,id⟩
theorem KQ.tok {q:Bool}{s:Shared}{tk:Nat}(ht:s.toks≤tk):KQ q s { s with toks:=tk }:=
 ⟨s.heap,tk,s.gens,rfl,fun _ _ e=>e,ht,fun _=>rfl,fun _ _ e=>e,id⟩
theorem KQ.push {q:Bool}{s:Shared}(o:Obj):KQ q s { s with heap:=s.heap.push o }:=KQ.heap fun _ _ e=>qAp _ e
noncomputable def No:Addr→Prop:=fun _=>False
noncomputable def X (O B:Addr→Prop)(o b:Bool):Addr→Prop:=fun a=>(o=false∧O a)∨(b=false∧B a)
noncomputable def RdT (O B:Addr→Prop)(h:Heap)(T:Nat)(t:Tg)(d:D)(v:Value):Prop:=Rd h T (X O B t.top t.base) (X O B t.deep t.base) d v
theorem RdT.mono {O B:Addr→Prop}{h h':Heap}{T T':Nat}{t:Tg}{d:D}{v:Value}(hT:T≤T')(hk:∀b o,h.get? b=some o→h'.get? b=some o)
  (r:RdT O B h T t d v):RdT O B h' T' t d v:=Rd.mono hT (fun b o _=>hk b o) (fun b o _=>hk b o) (fun _ _=>id) (fun _ _=>id) d v r
theorem nq {a b:Bool}(h:a=true→b=true)(e:b=false):a=false:=by
 cases a with
 |false=>rfl
 |true=>rw [h rfl] at e;cases e
theorem RdT.weaken {O B:Addr→Prop}{h:Heap}{T:Nat}{t t':Tg}{d:D}{v:Value}(h1:t.top=true→t'.top=true)(h2:t.deep=true→t'.deep=true)(h3:t.base=true→t'.base=true)
  (r:RdT O B h T t d v):RdT O B h T t' d v:=by
 refine Rd.mono (qA7 _) (fun b o _=>id) (fun b o _=>id) (fun a _ q=>?_) (fun a _ q=>?_) d v r
 ·rcases q with⟨e,o⟩|⟨e,o⟩
  ·exact .inl ⟨nq h1 e,o⟩
  ·exact .inr ⟨nq h3 e,o⟩
 ·rcases q with⟨e,o⟩|⟨e,o⟩
  ·exact .inl ⟨nq h2 e,o⟩
  ·exact .inr ⟨nq h3 e,o⟩
theorem RdT.flat {O B O' B':Addr→Prop}{h h':Heap}{T:Nat}{t t':Tg}{d:D}{v:Value}(hf:d.flat=true)(r:RdT O B h T t d v):RdT O' B' h' T t' d v:=Rd.flat_any hf r
theorem RdT.eff {O B:Addr→Prop}{h:Heap}{T:Nat}{t:Tg}{d:D}{v:Value}(r:RdT O B h T t d v):RdT O B h T (eff d t) d v:=by
 cases d with
 |list ds=>exact r
 |_=>exact RdT.flat rfl r
theorem RdT.items {O B:Addr→Prop}{h:Heap}{T:Nat}{t:Tg}{ds:List D}{v:Value}(r:RdT O B h T t (.list ds) v) :
  ∃(a:Addr) (vs:List Value),v=.ref a∧h.IsList a vs.toArray∧ds.length≤SZ∧vs.length=ds.length∧∀(i:Nat) (d:D),ds[i]?=some d→∃v,vs[i]?=some v∧RdT O B h T t.item d v:=by
 unfold RdT at r
 rw [Rd] at r
 obtain⟨hl,a,vs,rfl,hL,_,hs⟩:=r
 exact⟨a,vs,rfl,hL,hl,hs.length,fun i d e=>hs.get e⟩
noncomputable def opOf:BOp→Operator
 |.add=>.Add|.sub=>.Sub|.mul=>.Mult|.fdiv=>.FloorDiv|.mod=>.Mod|.xor=>.BitXor
noncomputable def NoE:Value→Shared→Prop:=fun _ _=>False
theorem mk_len (l:List Nat):(mk l).length=l.length:=rfl
theorem mk_inj {a b:List Nat}(h:mk a=mk b):a=b:=by
 have:=congrArg (fun s:Str=>s.cps.toList) h
 exact this
theorem mk_of (s:Str):mk s.cps.toList=s:=by
 obtain⟨c⟩:=s
 simp [mk]
theorem mk_append (a b:List Nat):mk a++mk b=mk (a++b):=by
 show qHw (a.toArray++b.toArray)=qHw (a++b).toArray
 simp
theorem SZ_eq:SZ=sizeLine:=by rw [sizeLine_eq];rfl
noncomputable def Pl (h:Heap)(a:Addr):Prop:=∃items,h.PlainList a items
noncomputable def Made' (O B:Addr→Prop)(s:Shared)(d:D)(t:Tg)(f:Bool)(Q:Value→Shared→Prop):Prop:=
 ∀v s',KQ true s s'→RdT O B s'.heap s'.toks t d v→(f=true→∀a,v=.ref a→s.heap.get? a=none∧Pl s'.heap a)→Q v s'
section
variable {prog:Program}{w:World}{A:Around}{O B:Addr→Prop}{s:Shared}{t:Tg}{f:Bool}{Q:Value→Shared→Prop}
theorem Made'.flat {d:D}{v:Value}{tk:Nat}(h:Made' O B s d t f Q)(hf:d.flat=true)(hr:Rd s.heap s.toks No No d v)(ht:s.toks≤tk)(hv:∀a,v≠.ref a):Q v { s with toks:=tk }:=by
 refine h v _ (KQ.tok ht) ?_ fun _ a e=>absurd e (hv a)
 exact Rd.mono ht (fun _ _ _=>id) (fun _ _ _=>id) (fun _ _=>id) (fun _ _=>id) d v (Rd.flat_any hf hr)
theorem Made'.int {i:Int}{u:Tok}{tk:Nat}(h:Made' O B s (.int i) t f Q)(ht:s.toks≤tk):Q (.int i u) { s with toks:=tk }:=
 h.flat rfl (by rw [Rd];exact⟨u,rfl⟩) ht fun _ e=>by cases e
theorem Made'.bool {b:Bool}(h:Made' O B s (.bool b) t f Q):Q (.bool b) s:=
 h.flat rfl (by rw [Rd]) (qA7 _) fun _ e=>by cases e
theorem Made'.str {l:List Nat}{u:Tok}{tk:Nat}(h:Made' O B s (.str l) t f Q)(hl:l.length≤SZ)(ht:s.toks≤tk):Q (.str (mk l) u) { s with toks:=tk }:=
 h.flat rfl (by rw [Rd];exact⟨hl,u,rfl⟩) ht fun _ e=>by cases e
theorem free_size (h:Heap):h.get? h.objs.size=none:=by
 cases e:h.get? h.objs.size with
 |none=>rfl
 |some o=>exact absurd (qCg e) (qGb _)
theorem X.dom {h:Heap}(hB:∀a,B a→(h.get? a).isSome=true)(hO:∀a,O a→(h.get? a).isSome=true){o b:Bool}{a:Addr}(x:X O B o b a):(h.get? a).isSome=true:=
 x.elim (fun y=>hO a y.2) fun y=>hB a y.2
theorem X.free {h:Heap}(hB:∀a,B a→(h.get? a).isSome=true)(hO:∀a,O a→(h.get? a).isSome=true){o b:Bool}{a:Addr}(e:h.get? a=none):¬X O B o b a:=fun x=>by
 have:=X.dom hB hO x
 rw [e] at this;cases this
theorem X.weak {o b o' b':Bool}(h1:o=true→o'=true)(h2:b=true→b'=true){a:Addr}(x:X O B o' b' a):X O B o b a:=
 x.elim (fun y=>.inl ⟨nq h1 y.1,y.2⟩) fun y=>.inr ⟨nq h2 y.1,y.2⟩
theorem Rds.weak {h:Heap}{T:Nat}{o b o' b':Bool}{ds:List D}{vs:List Value}(h1:o=true→o'=true)(h2:b=true→b'=true)(r:Rds h T (X O B o b) ds vs):Rds h T (X O B o' b') ds vs:=
 Rds.mono (qA7 _) (fun _ _ _=>id) (fun _ _ x=>X.weak h1 h2 x) ds vs r
theorem Made'.list {ds:List D}{vs:List Value}(h:Made' O B s (.list ds) t f Q)(hl:ds.length≤SZ)(hr:Rds s.heap s.toks (X O B t.deep t.base) ds vs)
  (hB:∀a,B a→(s.heap.get? a).isSome=true) (hO:∀a,O a→(s.heap.get? a).isSome=true) (n:Nat:=0) :
  Q (.ref s.heap.objs.size) { s with heap:=s.heap.push { cls:=.type "list", data:=.seq vs.toArray n } }:=by
 refine h _ _ (KQ.push _) ?_ (fun _ a e=>by cases e;exact⟨free_size _,_,_,qB9 _ rfl⟩)
 unfold RdT
 rw [Rd]
 refine⟨hl,s.heap.objs.size,vs,rfl,⟨_,qB9 _ rfl,rfl,n,rfl⟩,X.free hB hO (free_size _),?_⟩
 exact Rds.mono (qA7 _) (fun _ _ _ e=>qAp _ e) (fun _ _=>id) ds vs hr
theorem intBits_small {i:Int}(h:small i=true):Builtin.Int.intBits i≤64:=by
 unfold small I63 at h
 simp only [qAw,decide_eq_true_eq] at h
 exact PySem.intBits_le_64 (by lia) (by lia)
end
theorem foldl_rep (k:Nat)(x:Array Nat):∀acc:Array Nat,((qBh k x).foldl (·++·) acc)=(acc.toList++(qBh k x.toList).flatten).toArray:=by
 induction k with
 |zero=>intro acc;simp
 |succ k ih=>intro acc;rw [qD7,qEt,ih,qD7,qBe];simp
theorem rep_length {α:Type}(k:Nat)(l:List α):(rep k l).length=l.length*k:=by
 unfold rep
 induction k with
 |zero=>simp
 |succ k ih=>rw [qD7,qBe,qA1,ih,Nat.mul_succ];exact jQ [_,_] [] (eA xa xb) (eA xb xa) jT jT
theorem mul_text (a:List Nat)(k:Int):Txt.mul (mk a) k=mk (rep k.toNat a):=by
 unfold Txt.mul
 split
 ·have:k.toNat=0:=by lia
  rw [this];rfl
 ·split
  ·rename_i h1 h2
   simp only [qEu,beq_iff_eq] at h2
   rcases h2 with h2|h2
   ·subst h2;simp [rep,mk]
   ·have:a=[]:=qFa (by simpa [mk_len] using h2)
    subst this
    unfold rep
    simp [mk]
  ·show qHw _=qHw _
   rw [foldl_rep]
   simp [rep,mk]
theorem mul_ok {a:List Nat}{k:Int}(h:a.length*k.toNat≤SZ)(hs:small k=true):MulOk (mk a) k:=by
 unfold small I63 at hs
 simp only [qAw,decide_eq_true_eq] at hs
 unfold SZ at h
 refine⟨qEf.mpr ⟨decide_eq_false (by lia),decide_eq_false (by lia)⟩,fun h1 h2=>?_,fun h1 h2=>?_⟩
 ·rw [mk_len]
  have hk:1≤k:=by lia
  rw [Int.not_lt]
  refine (Int.le_ediv_iff_mul_le (by exact hk)).mpr ?_
  have:((a.length*k.toNat:Nat):Int)≤((16777216:Nat):Int):=qGr.mpr h
  rw [Int.natCast_mul,qH7 (by lia)] at this
  lia
 ·unfold Builtin.Str.tooLong
  rw [mk_len,sizeLine_eq]
  exact decide_eq_false (by exact (fun e_=>jL [_] [cL xa (eN 16777216),cT (eN 16777216) xa] cF jT h e_))
section
variable {prog:Program}{w:World}{A:Around}{O B:Addr→Prop}{s:Shared}{Q:Value→Shared→Prop}
theorem as_i {α:Type}{x:D}{f:Int→Option α}{r:α}(h:x.asInt.bind f=some r):∃i,x=.int i∧f i=some r:=by
 rcases x with _|_<;>first|(cases h;done)|exact⟨_,rfl,h⟩
theorem as_s {α:Type}{x:D}{f:List Nat→Option α}{r:α}(h:x.asStr.bind f=some r):∃i,x=.str i∧f i=some r:=by
 rcases x with _|_<;>first|(cases h;done)|exact⟨_,rfl,h⟩
theorem as_l {α:Type}{x:D}{f:List D→Option α}{r:α}(h:x.asList.bind f=some r):∃i,x=.list i∧f i=some r:=by
 rcases x with _|_<;>first|(cases h;done)|exact⟨_,rfl,h⟩
theorem as_b {α:Type}{x:D}{f:Bool→Option α}{r:α}(h:x.asBool.bind f=some r):∃i,x=.bool i∧f i=some r:=by
 rcases x with _|_<;>first|(cases h;done)|exact⟨_,rfl,h⟩
theorem as_o {α β:Type}{x:Option α}{f:α→Option β}{r:β}(h:x.bind f=some r):∃i,x=some i∧f i=some r:=by
 rcases x with _|_<;>first|(cases h;done)|exact⟨_,rfl,h⟩
theorem as_1 {α:Type}{x:List Rs}{f:Rs→Option α}{r:α}(h:(arg1 x).bind f=some r):∃i,x=[i]∧f i=some r:=by
 cases x with
 |nil=>cases h
 |cons a x=>cases x with
  |nil=>exact⟨_,rfl,h⟩
  |cons=>cases h
theorem as_2 {α:Type}{x:List Rs}{f:Rs×Rs→Option α}{r:α}(h:(arg2 x).bind f=some r):∃i j,x=[i,j]∧f (i,j)=some r:=by
 cases x with
 |nil=>cases h
 |cons a x=>cases x with
  |nil=>cases h
  |cons b x=>cases x with
   |nil=>exact⟨_,_,rfl,h⟩
   |cons=>cases h
theorem as_3 {α:Type}{x:List Rs}{f:Rs×Rs×Rs→Option α}{r:α}(h:(arg3 x).bind f=some r):∃i j k,x=[i,j,k]∧f (i,j,k)=some r:=by
 cases x with
 |nil=>cases h
 |cons a x=>cases x with
  |nil=>cases h
  |cons b x=>cases x with
   |nil=>cases h
   |cons c x=>cases x with
    |nil=>exact⟨_,_,_,rfl,h⟩
    |cons=>cases h
theorem as_if {α:Type}{c:Prop} [Decidable c]{x y:α}(h:(if c then some x else none)=some y):c∧x=y:=by
 by_cases hc:c
 ·exact⟨hc,qA8 ((if_pos hc).symm.trans h)⟩
 ·exact nomatch (if_neg hc).symm.trans h
inductive AddP:D→D→D→Prop
 |int (i j:Int):AddP (.int i) (.int j) (.int (i+j))
 |bool (i:Int) (b:Bool):AddP (.int i) (.bool b) (.int (i+if b then 1 else 0))
 |str (a b:List Nat) (h:a.length+b.length≤SZ):AddP (.str a) (.str b) (.str (a++b))
 |list (a b:List D) (h:a.length+b.length≤SZ):AddP (.list a) (.list b) (.list (a++b))
theorem add_inv {x y d:D}(e:addD x y=some d):AddP x y d:=by
 cases x with
 |int i=>cases y with
  |int j=>cases e;exact .int i j
  |bool b=>cases e;exact .bool i b
  |_=>cases e
 |str a=>
  obtain⟨b,rfl,e'⟩:=as_s e;have e:=e'
  obtain⟨h,rfl⟩:=as_if e
  exact .str a b h
 |list a=>
  obtain⟨b,rfl,e'⟩:=as_l e;have e:=e'
  obtain⟨h,rfl⟩:=as_if e
  exact .list a b h
 |_=>cases e
theorem add_sound {x y d:D}{tx ty:Tg}{vx vy:Value}(e:addD x y=some d)(rx:RdT O B s.heap s.toks tx x vx)(ry:RdT O B s.heap s.toks ty y vy)
  (hB:∀a,B a→(s.heap.get? a).isSome=true) (hO:∀a,O a→(s.heap.get? a).isSome=true)
  (h:Made' O B s d (eff d (tx.join ty).fresh) true Q):wpAny (model prog w) A (binaryOp .Add vx vy) Q NoE s:=by
 cases add_inv e with
 |int i j=>
  obtain⟨t,rfl⟩:=rx;obtain⟨u,rfl⟩:=ry
  exact PyProof.Rows.add_int (h.int (qAj _))
 |bool i b=>
  obtain⟨t,rfl⟩:=rx;subst ry
  exact PySem.add_int_bool (h.int (qAj _))
 |str l1 l2 hc=>
  obtain⟨_,t,rfl⟩:=rx;obtain⟨_,u,rfl⟩:=ry
  refine wpAny_with_toks (qA7 _) (PyProof.Rows.add_str (fun t' tk ht=>?_) (by rw [mk_len,mk_len,←SZ_eq];exact hc))
  rw [mk_append]
  exact h.str (by rw [qA1];exact hc) ht
 |list l1 l2 hc=>
  obtain⟨_,a,vs,rfl,hl,_,r1⟩:=rx
  obtain⟨_,b,us,rfl,hb,_,r2⟩:=ry
  obtain⟨⟨cls,dd,data,sl⟩,ho,rfl,n,rfl⟩:=id hl
  obtain⟨⟨cls2,dd2,data2,sl2⟩,ho2,rfl,n2,rfl⟩:=id hb
  refine concat_meets ⟨_,ho,rfl⟩ ⟨_,ho2,rfl⟩ noFill_list_add seq_list_add PySem.F.slot_list_add PySem.F.entry_list_add (PySem.F.args_list_add_2 _ _)
   (list_addW a b vs.toArray us.toArray n n2 dd dd2 sl sl2 (by rw [qBy,qBy,r1.length,r2.length,←SZ_eq];exact hc)) ⟨ho,ho2,?_⟩
  rw [List.append_toArray]
  refine h.list (by rw [qA1];exact hc) (Rds.append (r1.weak (fun q=>?_) (fun q=>?_)) (r2.weak (fun q=>?_) (fun q=>?_))) hB hO
  all_goals simp [eff,Tg.fresh,Tg.join,q]
theorem mul_sound {x y d:D}{X1 X2 X3 X4:Addr→Prop}{t:Tg}{vx vy:Value}(e:mulD x y=some d)(rx:Rd s.heap s.toks X1 X2 x vx)(ry:Rd s.heap s.toks X3 X4 y vy)
  (h:Made' O B s d t true Q):wpAny (model prog w) A (binaryOp .Mult vx vy) Q NoE s:=by
 cases x with
 |int i=>
  obtain⟨j,rfl,e'⟩:=as_i e;have e:=e'
  obtain⟨hc,rfl⟩:=as_if e
  obtain⟨t,rfl⟩:=rx;obtain⟨u,rfl⟩:=ry
  exact PyProof.Rows.mul_int (h.int (qAj _)) (IntMulOk.of_left (intBits_small (qAl.mp hc).1))
 |str l=>
  obtain⟨i,rfl,e'⟩:=as_i e;have e:=e'
  obtain⟨hc,rfl⟩:=as_if e
  obtain⟨_,t,rfl⟩:=rx;obtain⟨u,rfl⟩:=ry
  obtain⟨h1,h2⟩:=qAl.mp hc
  have h1:=of_decide_eq_true h1
  refine wpAny_with_toks (qA7 _) (SB.mul (mul_ok h1 h2) (fun t' tk ht=>?_))
  rw [mul_text]
  exact h.str (by rw [rep_length];exact h1) ht
 |_=>cases e
theorem two_ints {op:BOp}{f:Int→Int→Option D}{x y d:D}{X1 X2 X3 X4:Addr→Prop}{vx vy:Value}(e:(x.asInt.bind fun i=>y.asInt.bind fun j=>f i j)=some d)(rx:Rd s.heap s.toks X1 X2 x vx)(ry:Rd s.heap s.toks X3 X4 y vy)
  (h:∀i j t u,f i j=some d→wpAny (model prog w) A (binaryOp (opOf op) (.int i t) (.int j u)) Q NoE s):wpAny (model prog w) A (binaryOp (opOf op) vx vy) Q NoE s:=by
 obtain⟨i,rfl,e'⟩:=as_i e;have e:=e'
 obtain⟨j,rfl,e'⟩:=as_i e;have e:=e'
 obtain⟨t,rfl⟩:=rx;obtain⟨u,rfl⟩:=ry
 exact h i j t u e
theorem bin_sound {op:BOp}{x y d:D}{tx ty:Tg}{vx vy:Value}(e:binD op x y=some d)(rx:RdT O B s.heap s.toks tx x vx)(ry:RdT O B s.heap s.toks ty y vy)
  (hB:∀a,B a→(s.heap.get? a).isSome=true) (hO:∀a,O a→(s.heap.get? a).isSome=true)
  (h:Made' O B s d (eff d (tx.join ty).fresh) true Q):wpAny (model prog w) A (binaryOp (opOf op) vx vy) Q NoE s:=by
 cases op with
 |add=>exact add_sound e rx ry hB hO h
 |mul=>exact mul_sound e rx ry h
 |sub=>
  exact two_ints (op:=.sub) e rx ry fun i j t u e=>by
    obtain rfl:=qA8 e
    exact PyProof.Rows.sub_int (h.int (qAj _))
 |xor=>
  exact two_ints (op:=.xor) e rx ry fun i j t u e=>by
    obtain rfl:=qA8 e
    exact PyProof.Rows.xor_int (h.int (qAj _))
 |fdiv=>
  exact two_ints (op:=.fdiv) e rx ry fun i j t u e=>by
    obtain⟨hc,rfl⟩:=as_if e
    refine PyProof.Rows.floordiv_int (Int.ne_of_gt hc.1) ?_ (.inl (PyProof.noPylong_small (by lia)))
    rw [Int.fdiv_eq_ediv_of_nonneg _ (Int.le_of_lt hc.1)]
    exact h.int (qAj _)
 |mod=>
  exact two_ints (op:=.mod) e rx ry fun i j t u e=>by
    obtain⟨hc,rfl⟩:=as_if e
    refine PyProof.Rows.mod_int' (Int.ne_of_gt hc) ?_
    rw [Int.fmod_eq_emod_of_nonneg _ (Int.le_of_lt hc)]
    exact h.int (qAj _)
end
end Mine
end

section
set_option maxRecDepth 10000
namespace Mine
open PySem PyProof.Rows PySem.SeqAt
structure AOk (k:Nat)(A:Around):Prop where
 hd:A.handled=none
 depth:A.depth+4*k+4≤recursionLimit
 units:A.units+100*k+100≤cLine
noncomputable def cpOf:COp→CmpOp
 |.eq=>.Eq|.ne=>.NotEq|.lt=>.Lt|.le=>.LtE|.gt=>.Gt|.ge=>.GtE|.is=>.Is|.isnot=>.IsNot|.in_=>.In|.notin=>.NotIn
noncomputable def eqV:Value→Value→Bool
 |.int i _,.int j _=>i==j
 |.bool a,.bool b=>a==b
 |.str a _,.str b _=>a==b
 |_,_=>false
inductive EqP:D→D→Bool→Prop
 |int (i j:Int):EqP (.int i) (.int j) (decide (i=j))
 |bool (a b:Bool):EqP (.bool a) (.bool b) (a==b)
 |str (a b:List Nat):EqP (.str a) (.str b) (decide (a=b))
theorem eqF_inv {x y:D}{c:Bool}(e:eqF x y=some c):EqP x y c:=by
 cases x with
 |int i=>obtain⟨j,rfl,e'⟩:=as_i e;have e:=e';cases e;exact .int i j
 |bool i=>obtain⟨j,rfl,e'⟩:=as_b e;have e:=e';cases e;exact .bool i j
 |str i=>obtain⟨j,rfl,e'⟩:=as_s e;have e:=e';cases e;exact .str i j
 |_=>cases e
theorem dec_int (i j:Int):decide (i=j)=(i==j):=rfl
theorem dec_str (a b:List Nat):decide (a=b)=(mk a==mk b):=by
 rw [qC1,decide_eq_true_eq,beq_iff_eq]
 exact⟨fun q=>by rw [q],mk_inj⟩
theorem eqF_at {h:Heap}{T:Nat}{X1 X2 X3 X4:Addr→Prop}{x y:D}{c:Bool}{vx vy:Value}(e:eqF x y=some c)(rx:Rd h T X1 X2 x vx)(ry:Rd h T X3 X4 y vy) :
  c=eqV vx vy∧∀A s,EqAt A s vx vy c:=by
 cases eqF_inv e with
 |bool a b=>subst rx ry;exact⟨rfl,fun A s=>EqAt.bool_bool _ _⟩
 |int i j=>
  obtain⟨t,rfl⟩:=rx;obtain⟨u,rfl⟩:=ry
  rw [dec_int]
  exact⟨rfl,fun A s=>EqAt.int_int _ _ _ _⟩
 |str a b=>
  obtain⟨_,t,rfl⟩:=rx;obtain⟨_,u,rfl⟩:=ry
  rw [dec_str]
  exact⟨rfl,fun A s=>EqAt.str_str _ _ _ _⟩
theorem eqL_inv {a b:D}{x y:List D}{c:Bool}(e:eqL (a::x) (b::y)=some c):∃c1 c2,eqF a b=some c1∧eqL x y=some c2∧(c1&&c2)=c:=by
 obtain⟨c1,h1,e⟩:=as_o (show ((eqF a b).bind fun c=>(eqL x y).map (c&&·))=some c from e)
 obtain⟨c2,h2,e⟩:=qBm.mp e
 exact⟨c1,c2,h1,h2,e⟩
theorem eqL_len:∀{x y:List D} {c:Bool},eqL x y=some c→x.length≠y.length→c=false
 |[],[],_,_,h=>absurd rfl h
 |[],_::_,_,e,_=>by cases e
 |_::_,[],_,e,_=>by cases e
 |a::x,b::y,c,e,h=>by
  obtain⟨c1,c2,_,h2,rfl⟩:=eqL_inv e
  rw [eqL_len h2 fun q=>h (congrArg qBb q),qCn]
theorem eqL_all:∀{x y:List D} {c:Bool},eqL x y=some c→x.length=y.length→∃e:Nat→Bool,(∀(j:Nat) d d',x[j]?=some d→y[j]?=some d'→eqF d d'=some (e j))∧c=(qAf x.length).all e
 |[],[],c,e,_=>by
  cases e
  exact⟨fun _=>true,fun j d d' h=>by simp at h,rfl⟩
 |[],_::_,_,_,h=>by cases h
 |_::_,[],_,_,h=>by cases h
 |a::x,b::y,c,e,h=>by
  obtain⟨c1,c2,q,h3,rfl⟩:=eqL_inv e
  obtain⟨f,h1,h2⟩:=eqL_all h3 (qF8 h)
  refine⟨fun j=>Nat.rec c1 (fun j _=>f j) j,fun j d d' hd hd'=>?_,?_⟩
  ·cases j with
   |zero=>cases hd;cases hd';exact q
   |succ j=>exact h1 j d d' hd hd'
  ·rw [h2,qAd,List.range_succ_eq_map,qEv,List.all_map];rfl
theorem memD_any {h:Heap}{T:Nat}{X1 X2 X3:Addr→Prop}{d:D}{v:Value}(rd:Rd h T X1 X2 d v):∀{x:List D} {vs:List Value} {c:Bool},memD d x=some c→Rds h T X3 x vs→
  c=vs.any (eqV · v)∧∀y∈vs,∀A s,EqAt A s y v (eqV y v)
 |[],vs,c,e,r=>by
  obtain rfl:=r;cases e
  exact⟨rfl,fun _ h=>(nomatch h)⟩
 |a::x,vs,c,e,r=>by
  obtain⟨u,vs,rfl,r1,r2⟩:=r
  obtain⟨b,q1,e⟩:=as_o (show ((eqF a d).bind fun b=>(memD d x).bind fun c=>some (b || c))=some c from e)
  obtain⟨c',q2,e⟩:=as_o e
  obtain⟨h1,h2⟩:=memD_any rd q2 r2
  obtain⟨g1,g2⟩:=eqF_at q1 r1 rd
  cases e
  refine⟨by rw [qHf,←g1,←h1],fun y hy A s=>?_⟩
  rcases qA6.mp hy with rfl|hy
  ·rw [←g1];exact g2 A s
  ·exact h2 y hy A s
section
variable {prog:Program}{w:World}{A:Around}{O B:Addr→Prop}{s:Shared}{Q:Value→Shared→Prop}
theorem eqL_at {h:Heap}{T:Nat}{X1 X2:Addr→Prop}{x y:List D}{vs us:List Value}{c:Bool}(e:eqL x y=some c)(r1:Rds h T X1 x vs)(r2:Rds h T X2 y us) :
  (vs.length≠us.length∧c=false)∨(vs.length=us.length∧∃f:Nat→Bool,c=(qAf vs.length).all f∧∀(j:Nat) (h1:j<vs.length) (h2:j<us.length),∀A s,EqAt A s vs[j] us[j] (f j)):=by
 have l1:=r1.length
 have l2:=r2.length
 by_cases hl:x.length=y.length
 ·refine .inr ⟨by rw [l1,l2,hl],?_⟩
  obtain⟨f,h1,h2⟩:=eqL_all e hl
  refine⟨f,by rw [l1];exact h2,fun j h3' h4' A s=>?_⟩
  have h3:j<x.length:=by rw [←l1];exact h3'
  have h4:j<y.length:=by rw [←l2];exact h4'
  obtain⟨v,hv,rv⟩:=r1.get (qAb h3)
  obtain⟨u,hu,ru⟩:=r2.get (qAb h4)
  rw [qAb h3'] at hv
  rw [qAb h4'] at hu
  cases hv;cases hu
  exact (eqF_at (h1 j _ _ (qAb h3) (qAb h4)) rv ru).2 A s
 ·exact .inl ⟨by rw [l1,l2];exact hl,eqL_len e hl⟩
theorem is_sound {x y:D}{c:Bool}{vx vy:Value}{h:Heap}{T:Nat}{X1 X2 X3 X4:Addr→Prop}(e:isD x y=some c)(rx:Rd h T X1 X2 x vx)(ry:Rd h T X3 X4 y vy):plainIs vx vy=true∧(vx==vy)=c:=by
 cases y with
 |none=>
  subst ry
  cases x with
  |none=>subst rx;cases e;exact⟨rfl,rfl⟩
  |bool a=>subst rx;cases e;exact⟨rfl,rfl⟩
  |int a=>obtain⟨t,rfl⟩:=rx;cases e;exact⟨rfl,rfl⟩
  |str a=>obtain⟨_,t,rfl⟩:=rx;cases e;exact⟨rfl,rfl⟩
  |_=>cases e
 |bool b=>
  subst ry
  obtain⟨a,rfl,e'⟩:=as_b e;have e:=e'
  subst rx;cases e;exact⟨rfl,by rcases a with _|_<;>rcases b with _|_<;>rfl⟩
 |_=>cases e
theorem eqF_cmp {x y:D}{c:Bool}{vx vy:Value}{h:Heap}{T:Nat}{X1 X2 X3 X4:Addr→Prop}(e:eqF x y=some c)(rx:Rd h T X1 X2 x vx)(ry:Rd h T X3 X4 y vy) :
  (Q (.bool c) s→wpAny (model prog w) A (compareOp .Eq vx vy) Q NoE s)∧(Q (.bool !c) s→wpAny (model prog w) A (compareOp .NotEq vx vy) Q NoE s):=by
 cases eqF_inv e with
 |bool a b=>subst rx ry;exact⟨fun h=>eq_bool h,fun h=>ne_bool (by rcases a with _|_<;>rcases b with _|_<;>exact h)⟩
 |int i j=>
  obtain⟨t,rfl⟩:=rx;obtain⟨u,rfl⟩:=ry
  exact⟨fun h=>PyProof.Rows.eq_int h,fun h=>PyProof.Rows.ne_int h⟩
 |str a b=>
  obtain⟨_,t,rfl⟩:=rx;obtain⟨_,u,rfl⟩:=ry
  rw [dec_str]
  exact⟨fun h=>PyProof.Rows.eq_str h,fun h=>PyProof.Rows.ne_str h⟩
theorem eqD_cmp {x y:D}{c:Bool}{vx vy:Value}{X1 X2 X3 X4:Addr→Prop}(hu:A.units<cLine)(e:eqD x y=some c)(rx:Rd s.heap s.toks X1 X2 x vx)(ry:Rd s.heap s.toks X3 X4 y vy) :
  (Q (.bool c) s→wpAny (model prog w) A (compareOp .Eq vx vy) Q NoE s)∧(Q (.bool !c) s→wpAny (model prog w) A (compareOp .NotEq vx vy) Q NoE s):=by
 cases x with
 |list l=>
  obtain⟨m,rfl,e'⟩:=as_l e;have e:=e'
  obtain⟨_,a,vs,rfl,ha,_,r1⟩:=rx
  obtain⟨_,b,us,rfl,hb,_,r2⟩:=ry
  rcases eqL_at e r1 r2 with⟨h1,rfl⟩|⟨h1,f,rfl,h3⟩
  ·exact⟨fun h=>eq_list_lengthsAt ha hb (by simpa using h1) hu h,fun h=>RcNeAt.lists_lengths ha hb (by simpa using h1) hu prog w NoE Q h⟩
  ·exact⟨fun h=>eq_listAt (e:=f) ha hb (by simpa using h1) hu (fun j h4 h5=>by simpa using h3 j (by simpa using h4) (by simpa using h5) A.in1 s) (by simpa using h),
    fun h=>RcNeAt.lists (e:=f) ha hb (by simpa using h1) hu (fun j h4 h5=>by simpa using h3 j (by simpa using h4) (by simpa using h5) A.in1 s) prog w NoE Q (by simpa using h)⟩
 |int i=>exact eqF_cmp (show eqF (.int i) y=some c from e) rx ry
 |bool i=>exact eqF_cmp (show eqF (.bool i) y=some c from e) rx ry
 |str i=>exact eqF_cmp (show eqF (.str i) y=some c from e) rx ry
 |_=>cases e
theorem inD_cmp {x y:D}{c:Bool}{vx vy:Value}{X1 X2 X3 X4:Addr→Prop}(e:inD x y=some c)(rx:Rd s.heap s.toks X1 X2 x vx)(ry:Rd s.heap s.toks X3 X4 y vy) :
  (Q (.bool c) s→wpAny (model prog w) A (compareOp .In vx vy) Q NoE s)∧(Q (.bool !c) s→wpAny (model prog w) A (compareOp .NotIn vx vy) Q NoE s):=by
 cases y with
 |str b=>
  obtain⟨a,rfl,e'⟩:=as_s e;have e:=e'
  obtain⟨_,t,rfl⟩:=rx;obtain⟨_,u,rfl⟩:=ry;cases e
  exact⟨fun h=>SB.contains h,fun h=>SB.notContains h⟩
 |list b=>
  obtain⟨_,b,us,rfl,hb,_,r2⟩:=ry
  obtain⟨rfl,h2⟩:=memD_any rx e r2
  exact⟨fun h=>in_listAt (fun y=>eqV y vx) hb (fun y hy=>h2 y (by simpa using hy) A.in1 s) (by simpa using h),
   fun h=>notIn_listAt (fun y=>eqV y vx) hb (fun y hy=>h2 y (by simpa using hy) A.in1 s) (by simpa using h)⟩
 |_=>cases e
theorem cmp_ints {op:COp}{f:Int→Int→Bool}{x y:D}{c:Bool}{X1 X2 X3 X4:Addr→Prop}{vx vy:Value}(e:(x.asInt.bind fun i=>y.asInt.bind fun j=>some (f i j))=some c)(rx:Rd s.heap s.toks X1 X2 x vx)(ry:Rd s.heap s.toks X3 X4 y vy)
  (h:∀i j t u,f i j=c→wpAny (model prog w) A (compareOp (cpOf op) (.int i t) (.int j u)) Q NoE s):wpAny (model prog w) A (compareOp (cpOf op) vx vy) Q NoE s:=by
 obtain⟨i,rfl,e'⟩:=as_i e;have e:=e'
 obtain⟨j,rfl,e'⟩:=as_i e;have e:=e'
 obtain⟨t,rfl⟩:=rx;obtain⟨u,rfl⟩:=ry
 exact h i j t u (qA8 e)
theorem cmp_sound {op:COp}{x y:D}{c:Bool}{tx ty:Tg}{vx vy:Value}(hu:A.units<cLine)(e:cmpD op x y=some c)(rx:RdT O B s.heap s.toks tx x vx)(ry:RdT O B s.heap s.toks ty y vy)
  (h:Q (.bool c) s):wpAny (model prog w) A (compareOp (cpOf op) vx vy) Q NoE s:=by
 cases op with
 |is=>obtain⟨h1,h2⟩:=is_sound e rx ry;exact wpAny_is_plain h1 (by rw [h2];exact h)
 |isnot=>
  obtain⟨c',h3,rfl⟩:=qBm.mp (show (isD x y).map (!·)=some c from e)
  obtain⟨h1,h2⟩:=is_sound h3 rx ry;exact wpAny_isNot_plain h1 (by rw [h2];exact h)
 |lt=>exact cmp_ints (op:=.lt) e rx ry fun i j t u e=>by subst e;exact PyProof.Rows.lt_int h
 |le=>exact cmp_ints (op:=.le) e rx ry fun i j t u e=>by subst e;exact PyProof.Rows.le_int h
 |gt=>exact cmp_ints (op:=.gt) e rx ry fun i j t u e=>by subst e;exact PyProof.Rows.gt_int h
 |ge=>exact cmp_ints (op:=.ge) e rx ry fun i j t u e=>by subst e;exact PyProof.Rows.ge_int h
 |eq=>exact (eqD_cmp hu e rx ry).1 h
 |ne=>
  obtain⟨c',h3,rfl⟩:=qBm.mp (show (eqD x y).map (!·)=some c from e)
  exact (eqD_cmp hu h3 rx ry).2 h
 |in_=>exact (inD_cmp e rx ry).1 h
 |notin=>
  obtain⟨c',h3,rfl⟩:=qBm.mp (show (inD x y).map (!·)=some c from e)
  exact (inD_cmp h3 rx ry).2 h
theorem truth_sound {x:D}{c:Bool}{tx:Tg}{vx:Value}{Q:Bool→Shared→Prop}(e:truth x=some c)(rx:RdT O B s.heap s.toks tx x vx)(h:∀s',KQ true s s'→Q c s'):wpAny (model prog w) A (truthy vx) Q NoE s:=by
 cases x with
 |bool b=>subst rx;cases e;exact wpAny_truthy_bool (h s (KQ.refl _ _))
 |int i=>
  obtain⟨t,rfl⟩:=rx;cases e
  refine PySem.P.truthy_int ?_
  have:(i != 0)=decide (i≠0):=by rw [qC1];simp
  rw [this]
  exact h s (KQ.refl _ _)
 |str l=>
  obtain⟨hl,t,rfl⟩:=rx;cases e
  refine PySem.P.truthy_str (by rw [mk_len];unfold SZ at hl;lia) ?_
  have:(((mk l).length:Int) != 0)=decide (l≠[]):=by rw [qC1,mk_len];simp
  rw [this]
  exact h _ (KQ.tok (qB4 (qAj _)))
 |list l=>
  obtain⟨hl,a,vs,rfl,ha,_,r⟩:=rx;cases e
  have hr:=r.length
  refine wpAny_truthy_list ha (by rw [qBy,hr];unfold SZ at hl;lia) ?_
  have:(!vs.toArray.isEmpty)=decide (l.length≠0):=by
   rw [qC1];rcases vs with _|_<;>rcases l with _|_<;>simp_all
  rw [this]
  exact h _ (KQ.tok (qB4 (qAj _)))
 |_=>cases e
end
theorem sliceRange_step1 (a b:Int):(sliceRange a b 1).length=(b-a).toNat:=by
 unfold sliceRange
 simp only [qAa,qBp]
 split<;>simp<;>lia
noncomputable def notSlice (e:qA2):Bool:=!(e.ctorIdx==26)
theorem sub_idx {slice:qA2}{o i:Value}(h:notSlice slice=true):subscripted slice false o i=operate [o,i] (getItem o i):=by
 rcases slice with _|_<;>first|rfl|exact nof h
theorem sub_slice1 {lo hi:Option qA2}{p:Pos}{o i:Value}:subscripted (.Slice lo hi none p) false o i=operate [i,o] (getItem o i):=rfl
theorem ltg_str {base:qA2}{x:Str}{t:Tok}(r:Value):letTemporaryGo base (.str x t) r=pure ():=by rcases base with _|_<;>rfl
section
variable {prog:Program}{w:World}{A:Around}{O B:Addr→Prop}{s:Shared}{Q:Value→Shared→Prop}
theorem charAt_mk (l:List Nat)(i:Int)(h0:0≤i){c:Nat}(h:l[i.toNat]?=some c):Txt.item (mk l) i=mk [c]:=by
 have hl:=(qAk.mp h).1
 unfold Txt.item Txt.charAt
 rw [mk_len,seqIndex_of h0 (by lia)]
 show qHw #[((l.toArray)[i.toNat]?).getD 0]=qHw [c].toArray
 rw [qDd,h];rfl
theorem idx_sound {value slice:qA2}{x y r:Rs}{vx vy:Value}(e:idxR x y=some r)(rx:RdT O B s.heap s.toks x.t x.d vx)(ry:RdT O B s.heap s.toks y.t y.d vy)
  (hsl:notSlice slice=true)
  (h:Made' O B s r.d r.t r.f Q):wpAny (model prog w) A (subscriptTail value slice vx vy) Q NoE s:=by
 obtain⟨dx,tx,fx⟩:=x
 obtain⟨dy,ty,fy⟩:=y
 simp only at rx ry
 rcases dx with _|_<;>rcases dy with _|_<;>simp only [idxR,reduceCtorEq] at e
 ·-- str
  rename_i l k
  unfold RdT at rx ry
  simp only [Rd] at rx ry;obtain⟨hl,t,rfl⟩:=rx;obtain⟨u,rfl⟩:=ry
  split at e
  ·rename_i hk
   split at e
   ·rename_i c hc
    cases e
    refine item_str (by unfold SZ at hl;simp [fitsSsize];lia) (by rw [mk_len];lia) (by rw [mk_len];lia) (fun _=>?_) (sub_idx hsl) ltg_str
    rw [charAt_mk l k hk.1 hc]
    exact h.str (by unfold SZ;simp) (jL [_] [] (cL xa (eU xa)) jT)
   ·cases e
  ·cases e
 ·rename_i l k
  obtain⟨a,vs,rfl,ha,hl,hn,hi⟩:=rx.items
  unfold RdT at ry
  simp only [Rd] at ry;obtain⟨u,rfl⟩:=ry
  refine tail_any ha.typeIs slot_list_getitem.lookup ?_ (sub_idx hsl)
  split at e
  ·rename_i hk
   split at e
   ·rename_i d hd
    cases e
    obtain⟨v,hv,rv⟩:=hi _ _ hd
    have hlt:=(qAk.mp hd).1
    refine wpAny_getItem_list ha hk (by unfold SZ at hl;lia) (by simpa using hv) ?_
    exact h v s (KQ.refl _ _) rv.eff (fun e=>by cases e)
   ·cases e
  ·rename_i hk
   split at e
   ·rename_i hk2
    split at e
    ·rename_i d hd
     cases e
     obtain⟨v,hv,rv⟩:=hi _ _ hd
     refine wpAny_getItem_list_neg ha (by lia) (by simpa [hn] using hk2) (by unfold SZ at hl;lia) (by simpa [hn] using hv) ?_
     exact h v s (KQ.refl _ _) rv.eff (fun e=>by cases e)
    ·cases e
   ·cases e
theorem isPart_int (i:Int)(t:Tok):IsPart (.int i t) (some i):=.int i t
theorem slL_pick {l:List Value}(lo hi st:Option Int):slicePick l.toArray lo hi st=(slL l lo hi st).toArray:=by
 unfold slicePick slL sliceBounds qBw
 rcases lo with _|_<;>rcases hi with _|_<;>simp
theorem slL_len_le {α:Type}(l:List α)(lo hi st:Option Int)(h0:st≠some 0):(slL l lo hi st).length≤l.length:=
 qA9 (List.length_filterMap_le _ _) (sliceIndicesBy_le lo hi (st.getD 1) (by cases st with|none=>decide|some k=>exact fun q=>h0 (by rw [show k=0 from q])) l.length)
theorem Rds.slL {h:Heap}{T:Nat}{X1:Addr→Prop}{ds:List D}{vs:List Value}(r:Rds h T X1 ds vs)(lo hi st:Option Int):Rds h T X1 (slL ds lo hi st) (slL vs lo hi st):=by
 unfold Mine.slL
 rw [r.length]
 generalize qBw lo hi (st.getD 1) ds.length=ks
 induction ks with
 |nil=>rw [qHg,qHg,Rds]
 |cons k ks ih=>
  rw [qFm,qFm]
  cases e:ds[k]? with
  |none=>
   have:vs[k]?=none:=by
    rw [List.getElem?_eq_none_iff] at e⊢
    rw [r.length];exact e
   rw [this];exact ih
  |some d=>
   obtain⟨v,hv,rv⟩:=r.get e
   rw [hv,Rds]
   exact⟨v,_,rfl,rv,ih⟩
theorem slL_full (l:List Nat)(lo hi:Option Int)(h:(qBw lo hi 1 l.length).length=l.length):slL l lo hi none=l:=by
 unfold slL
 have key:∀a b:Int,0≤a→b≤l.length→(sliceRange a b 1).length=l.length→(sliceRange a b 1).filterMap (l[·]?)=l:=by
  intro a b ha hb hl
  rw [sliceRange_step1] at hl
  by_cases hn:l.length=0
  ·have:l=[]:=qFa hn
   subst this
   induction (sliceRange a b 1) with
   |nil=>rfl
   |cons k ks ih=>simp [qFm,ih]
  ·have e1:a=((0:Nat):Int):=by lia
   have e2:b=(l.length:Int):=by lia
   rw [e1,e2,sliceRange_one 0 l.length]
   have:=pick_run l.toArray 0 l.length
   simpa using this
 unfold qBw at h⊢
 simp only [Option.getD_none,show (1:Int) > 0 from by decide,if_true] at h⊢
 refine key _ _ ?_ ?_ h
 ·cases lo with
  |none=>simp
  |some i=>simp only [];split<;>lia
 ·cases hi with
  |none=>simp
  |some i=>simp only [];split<;>lia
theorem part_of {v:Value}{k:Option Int}(h:IsPart v k):∃p:Option (Int×Tok),v=partValue p∧p.map (·.1)=k:=by
 cases h with
 |none=>exact⟨none,rfl,rfl⟩
 |int i t=>exact⟨some (i,t),rfl,rfl⟩
theorem slice_sound {value slice:qA2}{x r:Rs}{lo hi st:Option Int}{vx vl vh vs:Value}{sl:Addr}{ops:List Value}(e:sliceR x lo hi st=some r)
  (rx:RdT O B s.heap s.toks x.t x.d vx) (hs:s.heap.IsSliceOf sl vl vh vs)
  (pl:IsPart vl lo) (pu:IsPart vh hi) (ps:IsPart vs st) (h0:st≠some 0)
  (hB:∀a,B a→(s.heap.get? a).isSome=true) (hO:∀a,O a→(s.heap.get? a).isSome=true)
  (hops:subscripted slice false vx (.ref sl)=operate ops (getItem vx (.ref sl)))
  (h:Made' O B s r.d r.t r.f Q):wpAny (model prog w) A (subscriptTail value slice vx (.ref sl)) Q NoE s:=by
 obtain⟨dx,tx,fx⟩:=x
 simp only at rx
 rcases dx with _|_<;>simp only [sliceR,reduceCtorEq,qD1] at e
 ·rename_i l
  subst e
  unfold RdT at rx
  simp only [Rd] at rx;obtain⟨hl,t,rfl⟩:=rx
  obtain⟨p1,rfl,q1⟩:=part_of pl
  obtain⟨p2,rfl,q2⟩:=part_of pu
  obtain⟨p3,rfl,q3⟩:=part_of ps
  refine tail_any (typeIs_str s _ _) F.slot_str_getitem.lookup ?_ hops
  have h3:((p3.map (·.1)).getD 1==0)=false:=by
   rw [q3]
   cases st with
   |none=>rfl
   |some k=>simp only [Option.getD_some,beq_eq_false_iff_ne];exact fun q=>h0 (by rw [q])
  refine wpAny_getItem_str_slice (l:=p1) (u:=p2) (st:=p3) hs h3 ?_
  unfold sliceMade slicePicked
  rw [q1,q2,q3,mk_len]
  split
  ·rename_i hc
   rw [qAw,beq_iff_eq,beq_iff_eq] at hc
   have hst:slL l lo hi st=l:=by
    have:=slL_full l lo hi (by rw [←hc.1];exact hc.2)
    unfold slL at this⊢
    rw [hc.1];exact this
   rw [hst] at h
   exact h.str hl (qA7 _)
  ·show _≤sizeLine∧_
   have hle:=slL_len_le l lo hi st h0
   have e:(qHw ((qBw lo hi (st.getD 1) l.length).filterMap ((mk l).cps[·]?)).toArray)=mk (slL l lo hi st):=by
    unfold mk slL
    simp
   rw [e]
   exact⟨by rw [mk_len,←SZ_eq];exact jL [_,_,_] [cL xa xb,cL xc xa] (cL xc xb) jT hl hle,h.str (jL [_,_,_] [cL xa xb,cL xc xa] (cL xc xb) jT hl hle) (jL [_] [] (cL xa (eU xa)) jT)⟩
 ·rename_i l
  subst e
  unfold RdT at rx
  simp only [Rd] at rx;obtain⟨hl,a,us,rfl,ha,_,r1⟩:=rx
  refine tail_any ha.typeIs slot_list_getitem.lookup ?_ hops
  refine wpAny_getItem_list_slice ha hs pl pu ps h0 ?_ (by rw [qBy,r1.length,←SZ_eq];exact hl)
  rw [slL_pick]
  exact h.list (qA9 (slL_len_le _ _ _ _ h0) hl) (r1.slL lo hi st) hB hO
end
noncomputable def bname:BI→String
 |.len=> "len" | .chr=> "chr" | .min=> "min" | .sorted=> "sorted" | .sum=> "sum"
theorem ints_of {h:Heap}{T:Nat}{X1:Addr→Prop}:∀{ds:List D} {vs:List Value} {ns:List Int},intsOf ds=some ns→Rds h T X1 ds vs→IntsAre vs ns∧ds=ns.map .int
 |[],vs,ns,e,r=>by rw [Rds] at r;subst r;cases e;exact⟨.nil,rfl⟩
 |d::ds,vs,ns,e,r=>by
  rw [Rds] at r
  obtain⟨v,r',rfl,r1,r2⟩:=r
  rcases d with _|_<;>try exact nos e
  rename_i i
  obtain⟨ms,h1,rfl⟩:=qBm.mp (show (intsOf ds).map (i::·)=some ns from e)
  obtain⟨h2,h3⟩:=ints_of h1 r2
  rw [Rd] at r1;obtain⟨t,rfl⟩:=r1
  exact⟨.cons _ _ h2,by rw [h3];rfl⟩
theorem strs_of {h:Heap}{T:Nat}{X1:Addr→Prop}:∀{ds:List D} {vs:List Value} {ss:List (List Nat)},strsOf ds=some ss→Rds h T X1 ds vs→
  StrsAre vs (ss.map mk)∧(∃l:List (Str×Tok),vs=strValues l∧l.map (·.1)=ss.map mk)∧ds=ss.map .str∧∀s∈ss,s.length≤SZ
 |[],vs,ns,e,r=>by rw [Rds] at r;subst r;cases e;exact⟨.nil,⟨[],rfl,rfl⟩,rfl,fun _ h=>(nomatch h)⟩
 |d::ds,vs,ns,e,r=>by
  rw [Rds] at r
  obtain⟨v,r',rfl,r1,r2⟩:=r
  rcases d with _|_<;>try exact nos e
  rename_i i
  obtain⟨ms,h1,rfl⟩:=qBm.mp (show (strsOf ds).map (i::·)=some ns from e)
  obtain⟨h2,⟨l,h3,h4⟩,h5,h6⟩:=strs_of h1 r2
  rw [Rd] at r1;obtain⟨hl,t,rfl⟩:=r1
  refine⟨.cons _ _ h2,⟨(_,t)::l,by rw [h3];rfl,by rw [qAh,h4];rfl⟩,by rw [h5];rfl,fun s hs=>?_⟩
  rcases qA6.mp hs with rfl|hs
  ·exact hl
  ·exact h6 s hs
theorem insI_c {i j:Int}{r:List Int}:insI i (j::r)=if i≤j then i::j::r else j::insI i r:=rfl
theorem insI_perm (i:Int):∀l:List Int,(insI i l).Perm (i::l)
 |[]=>.refl _
 |j::r=>by
  rw [insI_c]
  split
  ·exact .refl _
  ·exact ((insI_perm i r).cons j).trans (.swap i j r)
theorem sortI_perm:∀l:List Int,(sortI l).Perm l
 |[]=>.refl _
 |i::r=>(insI_perm i (sortI r)).trans ((sortI_perm r).cons i)
theorem insI_sorted (i:Int):∀l:List Int,l.Pairwise (·≤·)→(insI i l).Pairwise (·≤·)
 |[],_=>List.pairwise_singleton _ _
 |j::r,h=>by
  obtain⟨h1,h2⟩:=qE0.mp h
  rw [insI_c]
  split
  ·rename_i hij
   refine qE0.mpr ⟨fun k hk=>?_,h⟩
   rcases qA6.mp hk with rfl|hk
   ·exact hij
   ·exact Int.le_trans hij (h1 k hk)
  ·rename_i hij
   refine qE0.mpr ⟨fun k hk=>?_,insI_sorted i r h2⟩
   rcases qA6.mp ((insI_perm i r).mem_iff.mp hk) with rfl|hk
   ·lia
   ·exact h1 k hk
theorem sortI_sorted:∀l:List Int,(sortI l).Pairwise (·≤·)
 |[]=>.nil
 |i::r=>insI_sorted i _ (sortI_sorted r)
theorem sortI_unique {l l':List Int}(h1:l'.Perm l)(h2:l'.Pairwise (·≤·)):l'=sortI l:=
 List.Perm.eq_of_pairwise (le:=(·≤·)) (fun a b _ _=>Int.le_antisymm) h2 (sortI_sorted l) (h1.trans (sortI_perm l).symm)
theorem sortI_length (l:List Int):(sortI l).length=l.length:=(sortI_perm l).length_eq
section
variable {prog:Program}{w:World}{A:Around}{O B:Addr→Prop}{s:Shared}{Q:Value→Shared→Prop}
theorem Rds.ints {h:Heap}{T:Nat}{X1:Addr→Prop}:∀{vs:List Value} {ns:List Int},IntsAre vs ns→Rds h T X1 (ns.map .int) vs
 |_,_,.nil=>by rw [qDe,Rds]
 |_,_,.cons n t r=>by rw [qAh,Rds];exact⟨_,_,rfl,by rw [Rd];exact⟨t,rfl⟩,Rds.ints r⟩
theorem ints_pairs:∀{vs:List Value} {ns:List Int},IntsAre vs ns→∃xs:List (Int×Tok),vs=xs.map (fun p=>qEj p.1 p.2)∧xs.map (·.1)=ns
 |_,_,.nil=>⟨[],rfl,rfl⟩
 |_,_,.cons n t r=>by obtain⟨xs,h1,h2⟩:=ints_pairs r;exact⟨(n,t)::xs,by rw [h1];rfl,by rw [←h2];rfl⟩
noncomputable def allS (l:List Nat):Prop:=l=qBh l.length 115
theorem allS_of {l:List Nat}(h:l.all (·==115)=true):allS l:=by
 unfold allS
 refine List.eq_replicate_iff.mpr ⟨rfl,fun b hb=>?_⟩
 have:=qC2.mp h b hb
 simpa using this
theorem ltCps_reps:∀n m:Nat,qHl (qBh n 115) (qBh m 115)=decide (n<m)
 |0,0=>rfl
 |0,m+1=>by simp [qD7,qHl]
 |n+1,0=>by simp [qD7,qHl]
 |n+1,m+1=>by simp [qD7,qHl,ltCps_reps n m]
theorem risingS_le:∀(r:List Str) (x:Str),(∀y∈x::r,allS y.cps.toList)→risingS x r=true→((x::r).map fun y=>(y.cps.toList.length:Int)).Pairwise (·≤·)
 |[],x,_,_=>by simp
 |y::r,x,ha,h=>by
  rw [risingS,qAw,qEa] at h
  have hx:allS x.cps.toList:=ha x (.head _)
  have hy:allS y.cps.toList:=ha y (.tail _ (.head _))
  have ih:=risingS_le r y (fun z hz=>ha z (.tail _ hz)) h.2
  have h1:=h.1
  rw [hx,hy,ltCps_reps] at h1
  have hle:x.cps.toList.length≤y.cps.toList.length:=by
   have:=of_decide_eq_false h1
   lia
  rw [qAh,qE0]
  refine⟨fun k hk=>?_,ih⟩
  rw [qAh,qE0] at ih
  rw [qAh] at hk
  rcases qA6.mp hk with rfl|hk
  ·exact qGr.mpr hle
  ·exact Int.le_trans (qGr.mpr hle) (ih.1 k hk)
theorem Rds.reps {h:Heap}{T:Nat}{X1:Addr→Prop}:∀{vs:List Value} {ss:List Str},StrsAre vs ss→(∀y∈ss,allS y.cps.toList∧y.cps.toList.length≤SZ)→
  Rds h T X1 ((ss.map fun y=>(y.cps.toList.length:Int)).map fun n=>.str (qBh n.toNat 115)) vs
 |_,_,.nil,_=>by rw [qDe,qDe,Rds]
 |_,_,.cons y t r,ha=>by
  rw [qAh,qAh,Rds]
  have h1:=ha y (.head _)
  refine⟨_,_,rfl,?_,Rds.reps r fun z hz=>ha z (.tail _ hz)⟩
  rw [Rd]
  refine⟨by simpa using h1.2,t,?_⟩
  have:y=mk (qBh ((y.cps.toList.length:Int)).toNat 115):=by
   rw [qD2,←h1.1];exact (mk_of y).symm
  rw [←this]
noncomputable def Args' (O B:Addr→Prop)(s:Shared):List Rs→List Value→Prop
 |[],vs=>vs=[]
 |r::rs,vs=>∃v us,vs=v::us∧RdT O B s.heap s.toks r.t r.d v∧Args' O B s rs us
theorem RdT.isS {h:Heap}{T:Nat}{t:Tg}{d:D}{v:Value}{l:List Nat}(r:RdT O B h T t d v)(e:d=.str l):l.length≤SZ∧∃u,v=.str (mk l) u:=by subst e;exact r
theorem RdT.isI {h:Heap}{T:Nat}{t:Tg}{d:D}{v:Value}{l:Int}(r:RdT O B h T t d v)(e:d=.int l):∃u,v=.int l u:=by subst e;exact r
theorem Args'.one {a:Rs}{vs:List Value}(r:Args' O B s [a] vs):∃v,vs=[v]∧RdT O B s.heap s.toks a.t a.d v:=by
 obtain⟨v,us,rfl,rv,ra⟩:=r
 obtain rfl:=ra
 exact⟨v,rfl,rv⟩
theorem len_sound {d:D}{n:Int}{t t':Tg}{f:Bool}{v:Value}(e:lenD d=some n)(rv:RdT O B s.heap s.toks t d v)(h:Made' O B s (.int n) t' f Q):wpAny (model prog w) A (call (.builtin (bname .len)) [v]) Q NoE s:=by
 cases d with
 |str l=>
  cases e
  obtain⟨hl,t,rfl⟩:=rv
  refine PyProof.Rows.len_str (by rw [mk_len];unfold SZ at hl;lia) ?_
  rw [mk_len]
  exact h.int (qB4 (qAj _))
 |list l=>
  cases e
  obtain⟨a,vs,rfl,ha,hl,hn,_⟩:=rv.items
  refine PyProof.Rows.len_list ha (by rw [qBy,hn];unfold SZ at hl;lia) ?_
  rw [qBy,hn]
  exact h.int (qB4 (qAj _))
 |_=>cases e
theorem free_two:s.heap.get? (s.heap.objs.size+1)=none:=by
 cases q:s.heap.get? (s.heap.objs.size+1) with
 |none=>rfl
 |some o=>exact absurd (qCg q) (qCj.mpr (qAj _))
theorem sort_sound {l:List D}{r:Rs}{a:Addr}{vs:List Value}{X1:Addr→Prop}(e:sortD l=some r)(h64:l.length<64)(hl:l.length≤SZ)(ha:s.heap.IsList a vs.toArray)(r1:Rds s.heap s.toks X1 l vs)
  (hB:∀a,B a→(s.heap.get? a).isSome=true) (hO:∀a,O a→(s.heap.get? a).isSome=true)
  (h:Made' O B s r.d r.t r.f Q):wpAny (model prog w) A (call (.builtin (bname .sorted)) [.ref a]) Q NoE s:=by
 have hlen:=r1.length
 unfold sortD at e
 cases hns:intsOf l with
 |some ns=>
  rw [hns] at e
  cases e
  obtain⟨hI,hl2⟩:=ints_of hns r1
  refine sorted_ints ha hI (by rw [hlen];exact h64) fun out ns' a1 a2 a3=>?_
  obtain⟨e,he⟩:=sortedAll_at s.heap vs out
  refine h _ _ (KQ.heap fun _ _=>sortedAll_old) ?_ (fun _ a q=>?_)
  ·have hs:=sortI_unique a2 a3
   refine⟨?_,_,out.toList,rfl,⟨_,he,rfl,e,rfl⟩,X.free hB hO free_two,?_⟩
   ·rw [qAa,sortI_length];have:=hl2▸hl;simpa using this
   ·rw [←hs];exact Rds.ints a1
  ·cases q
   exact⟨free_two,out,e,he⟩
 |none=>
  rw [hns] at e
  obtain⟨ss,hss,e⟩:=as_o e
  obtain⟨hall,rfl⟩:=as_if e
  obtain⟨hS,_,hl2,hsz⟩:=strs_of hss r1
  refine sorted_strs ha hS (by rw [hlen];exact h64) fun out ss' a1 a2 a3=>?_
  obtain⟨e,he⟩:=sortedAll_at s.heap vs out
  have hfree:=free_two (s:=s)
  have hss':∀y∈ss',allS y.cps.toList∧y.cps.toList.length≤SZ:=fun y hy=>by
   obtain⟨z,hz,rfl⟩:=qBf.mp (a2.mem_iff.mp hy)
   exact⟨allS_of (qC2.mp hall z hz),hsz z hz⟩
  have hs:(ss'.map fun y=>(y.cps.toList.length:Int))=sortI (ss.map fun s=>(s.length:Int)):=by
   refine sortI_unique ?_ ?_
   ·have:=a2.map fun y:Str=>(y.cps.toList.length:Int)
    rw [qBx] at this
    exact this
   ·cases ss' with
    |nil=>exact .nil
    |cons x r=>exact risingS_le r x (fun y hy=>(hss' y hy).1) a3
  refine h _ _ (KQ.heap fun _ _=>sortedAll_old) ?_ (fun _ a q=>by cases q;exact⟨hfree,out,e,he⟩)
  unfold RdT
  simp only [Rs.new]
  rw [Rd]
  refine⟨?_,_,out.toList,rfl,⟨_,he,rfl,e,rfl⟩,X.free hB hO hfree,?_⟩
  ·rw [qAa,sortI_length];have:=hl2▸hl;simpa using this
  ·rw [←hs];exact Rds.reps a1 hss'
theorem bi_sound {b:BI}{as:List Rs}{r:Rs}{vs:List Value}(hA:AOk 0 A)(e:biR b as=some r)(ra:Args' O B s as vs)
  (hB:∀a,B a→(s.heap.get? a).isSome=true) (hO:∀a,O a→(s.heap.get? a).isSome=true)
  (h:Made' O B s r.d r.t r.f Q):wpAny (model prog w) A (call (.builtin (bname b)) vs) Q NoE s:=by
 cases b with
 |len=>
  obtain⟨a,rfl,e⟩:=as_1 e
  obtain⟨n,hn,e⟩:=as_o e
  cases e
  obtain⟨v,rfl,rv⟩:=ra.one
  exact len_sound hn rv h
 |chr=>
  obtain⟨a,rfl,e⟩:=as_1 e
  obtain⟨i,hd,e⟩:=as_i e
  obtain⟨hi,rfl⟩:=as_if e
  obtain⟨v,rfl,rv⟩:=ra.one
  obtain⟨t,rfl⟩:=rv.isI hd
  refine chr_of_range hi.1 hi.2 ?_
  exact h.str (l:=[i.toNat]) (by unfold SZ;simp) (qAj _)
 |min=>
  obtain⟨a,b,rfl,e⟩:=as_2 e
  obtain⟨i,hd,e⟩:=as_i e
  obtain⟨j,hd2,e⟩:=as_i e
  cases e
  obtain⟨v,us,rfl,rv,ra⟩:=ra
  obtain⟨u,rfl,ru⟩:=Args'.one ra
  obtain⟨t,rfl⟩:=rv.isI hd
  obtain⟨t2,rfl⟩:=ru.isI hd2
  refine wpAny_with_toks (qA7 _) (min_two_ints hA.hd fun h' tk hk ht=>?_)
  refine h _ _ (KQ.mk' hk ht) ?_ (fun e=>by cases e)
  by_cases hc:j<i
  ·rw [if_pos hc,if_pos hc];exact⟨_,rfl⟩
  ·rw [if_neg hc,if_neg hc];exact⟨_,rfl⟩
 |sum=>
  obtain⟨a,rfl,e⟩:=as_1 e
  obtain⟨l,hd,e⟩:=as_l e
  obtain⟨ns,hns,e⟩:=as_o e
  cases e
  obtain⟨v,rfl,rv⟩:=ra.one
  rw [hd] at rv
  obtain⟨hl,a,vs,rfl,ha,_,r1⟩:=rv
  obtain⟨hI,_⟩:=ints_of hns r1
  obtain⟨xs,rfl,hxs⟩:=ints_pairs hI
  have hi:(xs.map (fun p=>qEj p.1 p.2)).toArray=intItems xs.toArray:=by unfold intItems;simp
  rw [hi] at ha
  refine wpAny_with_toks (qA7 _) (sum_intListG hA.hd ha fun h' tk t' hk ht=>?_)
  refine h _ _ (KQ.mk' hk ht) ⟨t',?_⟩ (fun e=>by cases e)
  rw [preSum_eq,qBu (by simp)]
  simp [hxs]
 |sorted=>
  obtain⟨a,rfl,e⟩:=as_1 e
  obtain⟨l,hd,e⟩:=as_l e
  obtain⟨h64,e⟩:=qBs.mp e
  obtain⟨v,rfl,rv⟩:=ra.one
  rw [hd] at rv
  obtain⟨hl,a,vs,rfl,ha,_,r1⟩:=rv
  exact sort_sound e h64 hl ha r1 hB hO h
end
noncomputable def mname:ME→Str
 |.find=> "find" | .rfind=> "rfind" | .find3=> "find" | .split=> "split" | .startswith=> "startswith" | .endswith=> "endswith" | .count=> "count" | .join=> "join"
noncomputable def mid:ME→String
 |.find=> "str.find" | .rfind=> "str.rfind" | .find3=> "str.find" | .split=> "str.split" | .startswith=> "str.startswith" | .endswith=> "str.endswith" | .count=> "str.count" | .join=> "str.join"
theorem gives_find4 (x y:Str)(i j:Int)(t u v z:Tok)(h0:0≤i)(h1:0≤j)(h2:j≤x.length) :
  Gives (Builtin.«str.find» ⟨[.str x t,.str y u,.int i v,.int j z],[]⟩) (.int (match qCa x y i.toNat j.toNat 1 with|k::_=>(k:Int)|[]=>-1)):=by
 show Gives (match qCa x y (max 0 (if i<0 then i+x.length else i)).toNat (min (max 0 (if j<0 then j+x.length else j)).toNat x.length) 1 with|k::_=>retInt k|[]=>(do rule "str.find.not-found"; retInt (-1))) _
 rw [if_neg (by lia),if_neg (by lia),Int.max_eq_right h0,Int.max_eq_right h1,Nat.min_eq_left (by lia)]
 cases qCa x y i.toNat j.toNat 1 with
 |nil=>exact .rule (.of_eq rfl)
 |cons k _=>exact .of_eq rfl
section
variable {prog:Program}{w:World}{A:Around}{O B:Addr→Prop}{s:Shared}{Q:Value→Shared→Prop}
theorem Rds.texts {h:Heap}{T:Nat}{X1:Addr→Prop}:∀{l:List (Str×Tok)} {ss:List Str},l.map (·.1)=ss→(∀x∈ss,x.cps.toList.length≤SZ)→Rds h T X1 (ss.map fun s=>.str s.cps.toList) (strValues l)
 |[],_,e,_=>by subst e;rw [qDe,qDe,Rds];rfl
 |(x,t)::l,ss,e,ha=>by
  subst e
  rw [qAh,qAh,Rds]
  refine⟨_,_,rfl,?_,Rds.texts rfl fun z hz=>ha z (.tail _ hz)⟩
  rw [Rd]
  exact⟨ha x (.head _),t,by rw [mk_of]⟩
theorem split_sound {x y:List Nat}{t u:Tok}(hx:x.length≤SZ)(hy:y.length≠0)(h1:(splitL x y).length≤SZ)(h2:(splitL x y).all (fun l=>decide (l.length≤SZ))=true)
  (hB:∀a,B a→(s.heap.get? a).isSome=true) (hO:∀a,O a→(s.heap.get? a).isSome=true)
  (h:Made' O B s (.list ((splitL x y).map .str)) Tg.z true Q):wpAny (model prog w) A (call (.builtin "str.split") [.str (mk x) t,.str (mk y) u]) Q NoE s:=by
 have hall:∀z∈qEi (mk x) (mk y),z.cps.toList.length≤SZ:=fun z hz=>of_decide_eq_true (qC2.mp h2 _ (qBk hz))
 have hlen:(qEi (mk x) (mk y)).length≤SZ:=by unfold splitL at h1;rwa [qAa] at h1
 have fin:∀(l:List (Str×Tok)) (tk:Nat),s.toks≤tk→l.map (·.1)=qEi (mk x) (mk y)→
   Q (.ref s.heap.objs.size) { s with toks:=tk,heap:=s.heap.push { cls:=.type "list", data:=.seq (strValues l).toArray } }:=fun l tk ht e=>by
  have h':Made' O B { s with toks:=tk } (.list ((splitL x y).map .str)) Tg.z true Q:=fun v s' k r f=>h v s' ((KQ.tok ht).trans k) r f
  refine h'.list (s:={ s with toks:=tk }) (by rw [qAa];exact h1) ?_ hB hO
  have:=Rds.texts (h:=s.heap) (T:=tk) (X1:=X O B Tg.z.deep Tg.z.base) e hall
  unfold splitL
  rw [qBx]
  exact this
 have hy':((mk y).length==0)=false:=by rw [mk_len];simpa using hy
 cases c1:(decide ((mk x).length<(mk y).length) || decide (qC3 (mk x)<qC3 (mk y)))
 ·cases c2:(qCa (mk x) (mk y) 0 (mk x).length ((mk x).length+1)).isEmpty
  ·have e:qEi (mk x) (mk y)=Builtin.Str.partsBetween (mk x) (qCa (mk x) (mk y) 0 (mk x).length ((mk x).length+1)) (mk y).length:=by
    unfold qEi;rw [c1,c2];rfl
   refine call_meets qFb (typeIs_str _ _ _) qG3 (qFu _ _) (meets_str_split_sep (mk x) (mk y) t u c1 hy' c2 (by rw [mk_len,←SZ_eq];exact hx) (by rw [←e,←SZ_eq];exact hlen)) ?_
   show wants Q NoE _ _
   rw [strsFrom_eq]
   exact fin (numbered s.toks _) _ (qB5 _ _) ((numbered_texts _ _).trans e.symm)
  ·have e:qEi (mk x) (mk y)=[mk x]:=by unfold qEi;rw [c1,c2];rfl
   exact call_meets qFb (typeIs_str _ _ _) qG3 (qFu _ _) (meets_str_split_not_found (mk x) (mk y) t u c1 hy' c2)
    (fin [(mk x,t)] s.toks (qA7 _) e.symm)
 ·have e:qEi (mk x) (mk y)=[mk x]:=by unfold qEi;rw [c1];rfl
  exact call_meets qFb (typeIs_str _ _ _) qG3 (qFu _ _) (meets_str_split_cannot_occur (mk x) (mk y) t u c1)
   (fin [(mk x,t)] s.toks (qA7 _) e.symm)
theorem as_1s {as:List Rs}{vs:List Value}{f:List Nat→Rs}{r:Rs}(e:str1 as f=some r)(ra:Args' O B s as vs):∃y u,vs=[.str (mk y) u]∧f y=r:=by
 obtain⟨a,rfl,e'⟩:=as_1 e
 obtain⟨y,hy,e''⟩:=as_s e'
 obtain⟨v,rfl,rv⟩:=ra.one
 obtain⟨_,u,rfl⟩:=rv.isS hy
 exact⟨y,u,rfl,qA8 e''⟩
theorem find3_sound {x:List Nat}{t:Tok}{as:List Rs}{r:Rs}{vs:List Value}(e:methS .find3 x as=some r)(ra:Args' O B s as vs)(h:Made' O B s r.d r.t r.f Q) :
  wpAny (model prog w) A (call (.builtin (mid .find3)) (.str (mk x) t::vs)) Q NoE s:=by
 obtain⟨a,b,c,rfl,e1⟩:=as_3 e
 obtain⟨y,hy,e2⟩:=as_s e1
 obtain⟨i,hi,e3⟩:=as_i e2
 obtain⟨j,hj,e4⟩:=as_i e3
 obtain⟨hc,rfl⟩:=as_if e4
 obtain⟨v,us,rfl,rv,v2,us,rfl,rv2,ra⟩:=ra
 obtain⟨v3,rfl,rv3⟩:=Args'.one ra
 obtain⟨_,u,rfl⟩:=rv.isS hy
 obtain⟨u2,rfl⟩:=rv2.isI hi
 obtain⟨u3,rfl⟩:=rv3.isI hj
 refine call_gives qGs (typeIs_str _ _ _) F.entry_str_find (F.args_str_find_4 _ _ _ _) (gives_find4 (mk x) (mk y) i j t u u2 u3 hc.1 hc.2.2.1 (by rw [mk_len];exact hc.2.2.2)) ?_
 exact h.int (qAj _)
theorem join_sound {x:List Nat}{t:Tok}{as:List Rs}{r:Rs}{vs:List Value}(e:methS .join x as=some r)(ra:Args' O B s as vs)(h:Made' O B s r.d r.t r.f Q) :
  wpAny (model prog w) A (call (.builtin (mid .join)) (.str (mk x) t::vs)) Q NoE s:=by
 obtain⟨a,rfl,e1⟩:=as_1 e
 obtain⟨l,hl,e2⟩:=as_l e1
 obtain⟨ys,hys,e3⟩:=as_o e2
 obtain⟨hc,rfl⟩:=as_if e3
 obtain⟨v,rfl,rv⟩:=Args'.one ra
 rw [hl] at rv
 obtain⟨_,a,us,rfl,ha,_,r1⟩:=rv
 obtain⟨_,⟨l,rfl,hl⟩,_,_⟩:=strs_of hys r1
 refine wpAny_with_toks (qA7 _) (SC.join ha hl hc.1 fun t' k ht=>?_)
 have:=h.str (u:=t') (tk:=k) hc.2 ht
 unfold joinL at this
 rwa [mk_of] at this
theorem meth_sound {m:ME}{o r:Rs}{as:List Rs}{vo:Value}{vs:List Value}(e:methR m o as=some r)(ro:RdT O B s.heap s.toks o.t o.d vo)(ra:Args' O B s as vs)
  (hB:∀a,B a→(s.heap.get? a).isSome=true) (hO:∀a,O a→(s.heap.get? a).isSome=true)
  (h:Made' O B s r.d r.t r.f Q):wpAny (model prog w) A (call (.builtin (mid m)) (vo::vs)) Q NoE s:=by
 obtain⟨x,hd,e'⟩:=as_s e
 obtain⟨hx,t,rfl⟩:=ro.isS hd
 clear e ro
 cases m with
 |find=>obtain⟨y,u,rfl,rfl⟩:=as_1s e' ra;exact SC.find (h.int (qAj _))
 |rfind=>obtain⟨y,u,rfl,rfl⟩:=as_1s e' ra;exact SC.rfind (h.int (qAj _))
 |count=>obtain⟨y,u,rfl,rfl⟩:=as_1s e' ra;exact SC.count (h.int (qAj _))
 |find3=>exact find3_sound e' ra h
 |startswith=>obtain⟨y,u,rfl,rfl⟩:=as_1s e' ra;exact SC.startswith h.bool
 |endswith=>obtain⟨y,u,rfl,rfl⟩:=as_1s e' ra;exact SC.endswith h.bool
 |split=>
  obtain⟨a,rfl,e1⟩:=as_1 e'
  obtain⟨y,hy,e2⟩:=as_s e1
  obtain⟨hc,rfl⟩:=as_if e2
  obtain⟨v,rfl,rv⟩:=Args'.one ra
  obtain⟨_,u,rfl⟩:=rv.isS hy
  exact split_sound hx hc.1 hc.2.1 hc.2.2 hB hO h
 |join=>exact join_sound e' ra h
theorem repl_sound {o r:Rs}{old new:List Nat}{vo:Value}{u v:Tok}(e:replR o old new=some r)(ro:RdT O B s.heap s.toks o.t o.d vo)(hu:u≠0)(hv:v≠0)(huv:u≠v)
  (h:Made' O B s r.d r.t r.f Q):wpAny (model prog w) A (call (.builtin "str.replace") [vo,.str (mk old) u,.str (mk new) v]) Q NoE s:=by
 obtain⟨x,hd,e'⟩:=as_s e
 obtain⟨hc,rfl⟩:=as_if e'
 obtain⟨hx,t,rfl⟩:=ro.isS hd
 refine wpAny_with_toks (qA7 _) (SC.replace hu hv huv (by simpa using fun q=>hc.1 (mk_inj q)) (by rw [mk_len,mk_len];exact hc.2.1) fun t' k ht=>?_)
 have:=h.str (u:=t') (tk:=k) hc.2.2 ht
 unfold replL at this
 rwa [mk_of] at this
end
end Mine
end

section
set_option maxRecDepth 10000
namespace Mine
set_option genSizeOf false
set_option genInjectivity false
open PySem PyProof.Rows PySem.SeqAt
noncomputable abbrev Kinds:=List (Str×NameKind)
noncomputable def relK (names kd:Kinds):Kinds:=names.map fun (n,k)=>if (k==.free&&kd.lookup n==some .cell) then (n,.cell) else (n,k)
noncomputable def notSet (e:qA2):Bool:=!(e.ctorIdx==7)
noncomputable def notStar (e:qA2):Bool:=!(e.ctorIdx==22)
noncomputable def notSuper (e:qA2):Bool:=!(e.ctorIdx==16&&(exP e).2.1.ctorIdx==23)
noncomputable def isVar (nm:List Str)(kd:Kinds)(i:Nat)(x:Str):Bool:=nm[i]?==some x&&(kd.lookup x==some .local || kd.lookup x==some .cell)&&!(x==("__debug__" : Str))
noncomputable def isGlob (kd:Kinds)(x y:Str):Bool:=x==y&&kd.lookup x==some .globalImplicit&&!(x==("__debug__" : Str))
theorem isVar_of {nm:List Str}{kd:Kinds}{i:Nat}{x:Str}(h:isVar nm kd i x=true):nm[i]?=some x∧(kd.lookup x=some .local∨kd.lookup x=some .cell)∧(x==("__debug__" : Str))=false:=by
 simp only [isVar,qAw,qEu,beq_iff_eq,qEa] at h
 obtain⟨⟨a,b⟩,c⟩:=h;exact⟨a,b,c⟩
theorem isGlob_of {kd:Kinds}{x y:Str}(h:isGlob kd x y=true):x=y∧kd.lookup x=some .globalImplicit∧(x==("__debug__" : Str))=false:=by
 simp only [isGlob,qAw,beq_iff_eq,qEa] at h
 exact⟨h.1.1,h.1.2,h.2⟩
noncomputable def compOk (scope:Scope)(nm:List Str)(kd:Kinds)(x:Str)(v:Nat):Bool:=
 decide (scope.kind=.function)&&scope.names.all (fun y=>y.2 != .cell&&(y.2 != .local || scope.names.lookup y.1==some .local)&&(y.2 != .free || kd.lookup y.1==some .cell))&&scope.names.lookup x==some .local
  && (nm.set v "").all (fun y=>y != x&&(scope.names.lookup y != some .local))&&decide (0<x.length)
structure Nm where
 fn:List Str
 fa:Nat→Addr
 mg:Str→Option Value
 mb:Str→Option Value
 ex:Heap→Prop
 exk:∀h h',ex h→(∀b o,h.get? b=some o→h'.get? b=some o)→ex h'
structure NmOk (c:Nm):Prop where
 fns:∀(f:Nat) x,c.fn[f]?=some x→c.mg x=some (.ref (c.fa f))
 dots:∃t,c.mg "ELLIPSIS_MARKER" = some (.str (mk [46,46,46]) t)
 bi:∀b,c.mg (qA0 (bname b))=none∧c.mb (qA0 (bname b))=some (.builtin (bname b))
 range:c.mg "range" = none∧c.mb "range" = some (.type "range")
structure St (c:Nm)(h:Heap):Prop where
 g:h.Ns mainGlobals c.mg
 b:h.Ns builtinsNs c.mb
 lim:h.NoLimit
 fun_:∀(f:Nat) x,c.fn[f]?=some x→∃o fd,h.get? (c.fa f)=some o∧o.data=.func fd
 ex:c.ex h
theorem St.keeps {c:Nm}{h h':Heap}(x:St c h)(hk:∀b o,h.get? b=some o→h'.get? b=some o):St c h':=
 ⟨x.g.keeps hk,x.b.keeps hk,x.lim.keeps hk,fun f y e=>let ⟨o,fd,a,b⟩:=x.fun_ f y e;⟨o,fd,hk _ _ a,b⟩,c.exk _ _ x.ex hk⟩
noncomputable def dom (h:Heap):Addr→Prop:=fun a=>(h.get? a).isSome=true
noncomputable def FnsOk (prog:Program)(w:World)(c:Nm)(Φ:Fns)(k:Nat):Prop:=
 ∀q f args d,Φ q f args=some d→∀A s vs,AOk k A→St c s.heap→1≤s.toks→Rds s.heap s.toks No args vs→
  ∀Q:Value→Shared→Prop,(∀v s',KQ q s s'→Rd s'.heap s'.toks (dom s.heap) (dom s.heap) d v→(∀a,v=.ref a→Pl s'.heap a)→Q v s')→wpAny (model prog w) A (call (.ref (c.fa f)) vs) Q NoE s
structure EnvOk (env:Env)(kd:Kinds):Prop where
 names:env.scope.names=kd
 kind:env.scope.kind=.function
 glob:env.globals=mainGlobals
 blt:env.builtins=builtinsNs
 cells:∀x,kd.lookup x=some .cell→∃a,env.cells.lookup x=some a
noncomputable def VarAt (env:Env)(kd:Kinds)(h:Heap)(x:Str)(v:Value):Prop:=
 (kd.lookup x=some .local∧∃m,h.Ns env.locals m∧m x=some v)∨(kd.lookup x=some .cell∧∃a,env.cells.lookup x=some a∧h.IsCell a (some v))
theorem VarAt.keeps {env:Env}{kd:Kinds}{h h':Heap}{x:Str}{v:Value}(y:VarAt env kd h x v)(hk:∀b o,h.get? b=some o→h'.get? b=some o):VarAt env kd h' x v:=by
 rcases y with⟨a,m,b,c⟩|⟨a,m,b,c⟩
 ·exact .inl ⟨a,m,b.keeps hk,c⟩
 ·exact .inr ⟨a,m,b,c.keeps hk⟩
noncomputable def ifsRun (ifs:List qA2)(env:Env):Sem Bool:=forIn ifs true fun c r=>if r=true then do let ok ←isTrue c env (eval c env);pure (qC8 ok) else pure (qC8 r)
structure FrE (c:Nm)(env:Env)(nm:List Str)(kd:Kinds)(O B:Addr→Prop)(ρ:Env')(s:Shared):Prop where
 ok:EnvOk env kd
 st:St c s.heap
 tk:1≤s.toks
 hO:∀a,O a→dom s.heap a
 hB:∀a,B a→dom s.heap a
 vars:∀(i:Nat) d vt x,ρ[i]?=some (some (d,vt))→nm[i]?=some x→(kd.lookup x=some .local∨kd.lookup x=some .cell)→∃v,VarAt env kd s.heap x v∧RdT O B s.heap s.toks vt.tg d v
theorem dom.keeps {h h':Heap}(hk:∀b o,h.get? b=some o→h'.get? b=some o){a:Addr}(x:dom h a):dom h' a:=by
 unfold dom at x⊢
 obtain⟨o,e⟩:=qAs.mp x
 rw [hk a o e];rfl
theorem FrE.next {c:Nm}{env:Env}{nm:List Str}{kd:Kinds}{O B:Addr→Prop}{ρ:Env'}{s s':Shared}{q:Bool}(F:FrE c env nm kd O B ρ s)(k:KQ q s s'):FrE c env nm kd O B ρ s':=
 ⟨F.ok,F.st.keeps k.keep,qA9 F.tk k.toks,fun a x=>dom.keeps k.keep (F.hO a x),fun a x=>dom.keeps k.keep (F.hB a x),fun i d vt x h1 h2 h3=>
  let ⟨v,a,b⟩:=F.vars i d vt x h1 h2 h3;⟨v,a.keeps k.keep,b.mono k.toks k.keep⟩⟩
noncomputable def Res (O B:Addr→Prop)(q:Bool)(s:Shared)(r:Rs)(Q:Value→Shared→Prop):Prop:=
 ∀v s',KQ q s s'→RdT O B s'.heap s'.toks r.t r.d v→(r.f=true→∀a,v=.ref a→s.heap.get? a=none∧Pl s'.heap a)→Q v s'
theorem none_back {h h':Heap}(hk:∀b o,h.get? b=some o→h'.get? b=some o){a:Addr}(e:h'.get? a=none):h.get? a=none:=by
 cases q:h.get? a with
 |none=>rfl
 |some o=>rw [hk a o q] at e;cases e
theorem Res.made {O B:Addr→Prop}{q:Bool}{s s':Shared}{r:Rs}{Q:Value→Shared→Prop}(h:Res O B q s r Q)(k:KQ q s s'):Made' O B s' r.d r.t r.f Q:=
 fun v s₂ k' rd f=>h v s₂ (k.trans k'.weak) rd fun e a ev=>⟨none_back k.keep (f e a ev).1,(f e a ev).2⟩
theorem Res.after {O B:Addr→Prop}{q:Bool}{s s':Shared}{r:Rs}{Q:Value→Shared→Prop}(h:Res O B q s r Q)(k:KQ q s s'):Res O B q s' r Q:=
 fun v s₂ k' rd f=>h v s₂ (k.trans k') rd fun e a ev=>⟨none_back k.keep (f e a ev).1,(f e a ev).2⟩
end Mine
end

section
set_option maxRecDepth 10000
namespace Mine
open PySem PyProof.Rows PySem.SeqAt
theorem notSet_marks {op:CmpOp}{b:qA2}(h:notSet b=true):behindInMarks op b=false:=by rcases b with _|_<;>first|rfl|exact nof h
noncomputable def clAcc (env:Env):List (Str×NameKind)→List (Str×Addr)→List (Str×Addr)
 |[],acc=>acc
 |(n,k)::r,acc=>clAcc env r (if k==.free then (match env.cells.lookup n with|some a=>(n,a)::acc|none=>acc) else acc)
theorem closureFor_eq {scope:Scope}{env:Env}(h:∀y∈scope.names,y.2=.free→∃a,env.cells.lookup y.1=some a):closureFor scope env=pure (clAcc env scope.names []):=by
 simp only [closureFor]
 generalize scope.names=l at h
 have key:∀(l:List (Str×NameKind)) (acc:List (Str×Addr)),(∀y∈l,y.2=.free→∃a,env.cells.lookup y.1=some a)→
   (forIn l acc fun (x:Str×NameKind) (r:List (Str×Addr))=>(if (x.snd==qDf)=true then do let a ←cellOf env x.fst;pure (qC8 ((x.fst,a)::r)) else pure (qC8 r):Sem (ForInStep (List (Str×Addr)))))=pure (clAcc env l acc):=by
  intro l
  induction l with
  |nil=>intro acc _;rfl
  |cons x r ih=>
   intro acc hx
   obtain⟨n,k⟩:=x
   have ih':=fun acc=>ih acc fun y hy=>hx y (qA3 _ hy)
   rw [qE3]
   cases hk:k==qDf with
   |true=>
    obtain⟨a,ha⟩:=hx (n,k) qA5 (by simpa using hk)
    simp only at ha
    simp only [hk,if_true,cellOf,ha,clAcc]
    exact ih' _
   |false=>
    simp only [hk,clAcc,qHh,if_false]
    exact ih' _
 rw [key l [] h]
 rfl
theorem clAcc_lookup (env:Env){x:Str}{a:Addr}(ha:env.cells.lookup x=some a):∀(l:List (Str×NameKind)) (acc:List (Str×Addr)),
  (((x,qDf)∈l)∨acc.lookup x=some a)→(∀b,acc.lookup x=some b→b=a)→(clAcc env l acc).lookup x=some a
 |[],acc,h,_=>by simpa [clAcc] using h
 |(n,k)::r,acc,h,hb=>by
  unfold clAcc
  refine clAcc_lookup env ha r _ ?_ ?_
  ·by_cases hx:x=n
   ·subst hx
    cases hk:k==qDf with
    |true=>right;simp [ha]
    |false=>
     rcases h with h|h
     ·rcases qA6.mp h with h|h
      ·cases h;simp at hk
      ·exact .inl h
     ·right;simpa using h
   ·rcases h with h|h
    ·rcases qA6.mp h with h|h
     ·cases h;exact absurd rfl hx
     ·exact .inl h
    ·right
     split
     ·split
      ·rw [qEm,show (x==n)=false by simpa using hx];exact h
      ·exact h
     ·exact h
  ·intro b
   split
   ·split
    ·rename_i a' ha'
     rw [qEm]
     by_cases hx:x=n
     ·subst hx;rw [ha] at ha';cases ha';simp;rintro rfl;rfl
     ·rw [show (x==n)=false by simpa using hx];exact hb b
    ·exact hb b
   ·exact hb b
inductive Src (prog:Program)(w:World)(A:Around)(O B:Addr→Prop)(q:Bool)(s:Shared)(its:Items)(Lx:Addr→Prop)(itv:Value)(s₂:Shared):Prop
 |mk (I:Addr) (fp wr:List Addr) (P:Nat→Value→Prop) (St:Nat→Heap→Prop) (s₁:Shared) (h₂:Heap) (tk₂:Nat) (e1:itv=.ref I) (e2:Walks prog w A I fp wr its.ds.length P St) (e3:its.ds.length≤SZ)
  (e4:St 0 s₂.heap) (e5:∀b∈fp,b<s₂.heap.objs.size) (e6:KQ q s s₁) (e7:s₂={ s₁ with heap:=h₂,toks:=tk₂ }) (e8:KQ true s₁ s₂) (e9:∀b∈wr,s₁.heap.get? b=none) (e10:∀i h,St i h→∀b∈wr,dom h b)
  (e11:∀i v,i<its.ds.length→P i v→∃d,its.ds[i]?=some d∧RdT O B s₁.heap s₁.toks its.t d v) (e12:∀b∈fp,b∉wr→dom s₁.heap b∧Lx b)
theorem KQ.trans' {q:Bool}{s s':Shared}{h':Heap}(k:KQ q s s')(hk:∀b o,s.heap.get? b=some o→h'.get? b=some o):KQ q s { s' with heap:=h' }:=by
 obtain⟨h1,t1,g1,rfl,k1,l1,e1,p1,b1⟩:=k
 exact⟨h',t1,g1,rfl,hk,l1,e1,p1,b1⟩
section
variable {prog:Program}{w:World}{A:Around}
noncomputable def compOne (f:D→Option (Option Rs))(d:D)(l:List D):Option (List D):=match f d with
 |none=>none
 |some none=>some l
 |some (some r)=>match eff r.d r.t with
  |⟨false,false,false⟩=>some (l++[r.d])
  |_=>none
theorem compL_snoc (f:D→Option (Option Rs)):∀(ds:List D) (d:D),compL f (ds++[d])=match compL f ds with
  |none=>none
  |some l=>compOne f d l
 |[],d=>by
  show (match f d with
   |none=>none
   |some none=>some []
   |some (some r)=>match eff r.d r.t with
    |⟨false,false,false⟩=>some [r.d]
    |_=>none)=compOne f d []
  unfold compOne
  cases f d with
  |none=>rfl
  |some o=>cases o with
   |none=>rfl
   |some r=>rfl
 |a::ds,d=>by
  simp only [qB7,compL,compL_snoc f ds d]
  cases f a with
  |none=>rfl
  |some o=>cases o with
   |none=>rfl
   |some r=>
    simp only
    split
    ·cases compL f ds with
     |none=>rfl
     |some l=>
      simp only [compOne]
      cases f d with
      |none=>rfl
      |some o=>cases o with
       |none=>rfl
       |some r'=>
        simp only
        generalize eff r'.d r'.t=z
        obtain⟨a1,a2,a3⟩:=z
        rcases a1 with _|_<;>rcases a2 with _|_<;>rcases a3 with _|_<;>rfl
    ·cases compL f ds<;>rfl
theorem compL_take {f:D→Option (Option Rs)}:∀{ds:List D} {l:List D},compL f ds=some l→∀k,∃l',compL f (ds.take k)=some l'
 |[],l,e,k=>⟨[],by simp [compL]⟩
 |d::ds,l,e,0=>⟨[],rfl⟩
 |d::ds,l,e,k+1=>by
  simp only [qCk,compL] at e⊢
  revert e
  cases f d with
  |none=>intro e;cases e
  |some o=>cases o with
   |none=>exact fun e=>compL_take e k
   |some r=>
    simp only
    split
    ·intro e
     split at e
     ·rename_i l₂ e₂
      obtain⟨l',h⟩:=compL_take e₂ k
      rw [h];exact⟨_,rfl⟩
     ·cases e
    ·intro e;cases e
theorem compL_len {f:D→Option (Option Rs)}:∀{ds:List D} {l:List D},compL f ds=some l→l.length≤ds.length
 |[],l,e=>by simp only [compL,qD1] at e;subst e;simp
 |d::ds,l,e=>by
  simp only [compL] at e
  revert e
  cases f d with
  |none=>intro e;cases e
  |some o=>cases o with
   |none=>intro e;have:=compL_len e;simp only [qAd];exact qH8 this
   |some r=>
    simp only
    split
    ·intro e
     split at e
     ·rename_i l₂ e₂
      cases e
      have:=compL_len e₂
      simp only [qAd];exact qCi this
     ·cases e
    ·intro e;cases e
theorem Rds.snoc {h:Heap}{T:Nat}{X:Addr→Prop}{ds:List D}{vs:List Value}{d:D}{v:Value}(r:Rds h T X ds vs)(rd:Rd h T X X d v):Rds h T X (ds++[d]) (vs++[v]):=
 Rds.append r (by rw [Rds];exact⟨v,[],rfl,rd,by rw [Rds]⟩)
noncomputable def Own3 (O:Addr→Prop)(D C:Addr)(wr:List Addr):Addr→Prop:=fun a=>O a∨a=D∨a=C∨a∈wr
inductive CLoop (O B:Addr→Prop)(aD aC:Addr)(wr:List Addr)(St:Nat→Heap→Prop)(ds:List D)(f:D→Option (Option Rs))(sr:Shared)(k:Nat)(s':Shared):Prop
 |mk (i:Nat) (h':Heap) (tk:Nat) (m':Str→Option Value) (ys:Array Value) (l':List D) (e1:s'={ sr with heap:=h',toks:=tk }) (e2:i≤ds.length) (e3:k=ds.length+1-i) (e4:St i h') (e5:h'.PlainList aD ys) (e6:h'.Ns aC m')
  (e7:compL f (ds.take i)=some l') (e8:Rds h' tk (X (Own3 O aD aC wr) B false false) l' ys.toList) (e9:∀b o,sr.heap.get? b=some o→h'.get? b=some o) (e10:sr.toks≤tk)
theorem comp_core {O B:Addr→Prop}{env:Env}{elt iter:qA2}{x:Str}{px:Pos}{ifs:List qA2}{scope:Scope}{cl:List (Str×Addr)}{pos:Pos}{Q:Value→Shared→Prop}{s:Shared}{q:Bool}{its:Items}{l:List D}{Lx:Addr→Prop}
  (f:D→Option (Option Rs))
  (hclos:closureFor scope env=pure cl) (hcell:∀y∈scope.names,y.2≠.cell) (hkind:scope.kind=.function)
  (hnames:∀y∈scope.names,y.2=.local→scope.names.lookup y.1=some .local) (hx:scope.names.lookup x=some .local)
  (hB:∀a,B a→dom s.heap a) (hO:∀a,O a→dom s.heap a)
  (hs:∀x,foldedSetIterable iter env x=pure x)
  (he:compL f its.ds=some l)
  (hit:wpAny (model prog w) A (eval iter env) (fun xv s₁=>wpAny (model prog w) A (pyIter xv) (fun itv s₂=>Src prog w A O B q s its Lx itv s₂) NoE s₁) NoE s)
  (body:∀D C wr v s₁ s₃ m₃ d r,s.heap.get? D=none→s.heap.get? C=none→(∀b∈wr,s.heap.get? b=none)→KQ q s s₁→dom s₃.heap D→dom s₃.heap C→(∀b∈wr,dom s₃.heap b)→
   s₃.heap.Ns C m₃→m₃ x=some v→(∀b o,s₁.heap.get? b=some o→s₃.heap.get? b=some o)→s₁.toks≤s₃.toks→(∃gs,s₃={ s₁ with heap:=s₃.heap,toks:=s₃.toks,gens:=gs })→
   RdT (Own3 O D C wr) B s₃.heap s₃.toks its.t d v→f d=some r→
   wpAny (model prog w) A (ifsRun ifs (compEnvC scope cl C env))
    (fun ok s₄=>KQ true s₃ s₄∧(match r with
     |none=>ok=false
     |some r=>ok=true∧wpAny (model prog w) A (eval elt (compEnvC scope cl C env)) (fun y s₅=>KQ true s₄ s₅∧RdT (Own3 O D C wr) B s₅.heap s₅.toks r.t r.d y) NoE s₄)) NoE s₃)
  (use:Option (Value→Sem Unit))
  (h:∀D C m' vs s',KQ q s s'→s.heap.get? D=none→s.heap.get? C=none→D≠C→s'.heap.Ns C m'→s'.heap.PlainList D vs.toArray→Rds s'.heap s'.toks (X (fun a=>O a∨a=C) B false false) l vs→
   compPost (model prog w) A NoE use Q (.ref D) C (.ok .next) s') {pos':Pos} :
  wpAny (model prog w) A (comprehension (.ListComp elt [⟨.Name x px,iter,ifs,0⟩] scope pos) scope env pos' (newList []) false (eval iter env) use) Q NoE s:=by
 refine wpAny_comprehension_free (use:=use) rfl hs hclos hkind hnames (wpAny_mono hit (fun xv s₁ h₁=>wpAny_mono h₁ (fun it s₂ h₂=>?_) fun _ _ e=>e) fun _ _ e=>e)
 obtain⟨I,fp,wr,P,St,sr,h₂,tk₂,rfl,W,hsz,hst,hfp,k1,rfl,k2,hwr,hWd,hP,_⟩:=h₂
 refine wpAny_newObj_type (wpAny_newFunctionEnv hcell (by intro y hy;simp at hy) (fun h₁ hns₁ hsb₁=>?_) hkind)
 dsimp only at hns₁ hsb₁⊢
 dsimp only at hst hfp
 obtain⟨H2,hH2⟩:=gx (h₂.push { cls:=.type "list", dict:=none,data:=.seq ([]:List Value).toArray })
 rw [hH2] at hns₁ hsb₁⊢
 have hC:H2.objs.size=h₂.objs.size+1:=by rw [←hH2,qEk]
 obtain⟨D,hDe⟩:=gx h₂.objs.size
 obtain⟨C,hCe⟩:=gx H2.objs.size
 rw [hCe,hDe] at hC
 rw [hCe] at hns₁ hsb₁⊢
 rw [hDe] at hfp⊢
 have hdc:@LT.lt Nat _ D C:=by rw [hC];exact qBo D
 have hDC:D≠C:=qBg hdc
 have r2:∀b o,sr.heap.get? b=some o→h₂.get? b=some o:=k2.keep
 have below2:∀b o,h₂.get? b=some o→b<D:=fun b o e=>hDe▸qCg e
 have belowr:∀b o,sr.heap.get? b=some o→b<D:=fun b o e=>below2 b o (r2 b o e)
 have freshR:∀a,D≤a→sr.heap.get? a=none:=fun a ha=>by
  cases e:sr.heap.get? a with
  |none=>rfl
  |some o=>exact absurd (belowr a o e) (qCj.mpr ha)
 have freshS:∀a,sr.heap.get? a=none→s.heap.get? a=none:=fun a ha=>none_back k1.keep ha
 have hDf:D∉fp:=fun hm=>qGb _ (hDe▸hfp _ hm)
 have hCf:C∉fp:=fun hm=>qGt hdc (hfp _ hm)
 have hDw:D∉wr:=fun h=>hDf (W.sub _ h)
 have hCw:C∉wr:=fun h=>hCf (W.sub _ h)
 have old1:∀b o,h₂.get? b=some o→h₁.get? b=some o:=fun b o e=>hsb₁.extBut b o (qBg (qBj (below2 b o e) hdc)) (qAp _ (hH2▸qAp _ e))
 have hacc:h₁.PlainList D #[]:=⟨_,hsb₁.extBut _ _ hDC (qAp _ (hH2▸hDe▸qB9 _ rfl))⟩
 have hst₁:St 0 h₁:=W.frame _ _ _ hst fun b _ o e=>old1 b o e
 have hxk:(compEnvC scope cl C env).kindOf x=some .local:=lookup_relabel_local hx
 have hp:((compEnvC scope cl C env).scope.kind==.class || ((compEnvC scope cl C env).scope.kind==.module&&(compEnvC scope cl C env).locals != (compEnvC scope cl C env).globals))=false:=by
  simp [compEnvC,relabel,hkind]
 have xnot:∀(o b:Bool) a,(∃ob,sr.heap.get? a=some ob)→X (Own3 O D C wr) B o b a→X O B o b a:=by
  rintro o b a ⟨ob,e⟩ (⟨h1,h2|h2|h2|h2⟩|h1)
  ·exact .inl ⟨h1,h2⟩
  ·rw [h2] at e;exact absurd (belowr _ _ e) (qGb _)
  ·rw [h2] at e;exact absurd (belowr _ _ e) (qGt hdc)
  ·rw [hwr a h2] at e;cases e
  ·exact .inr h1
 have loop:∀s₃:Shared,s₃={ sr with heap:=h₁,toks:=tk₂+([]:List (Str×Value)).length }→
   codeAny (model prog w) A (.compLoop (.ListComp elt [⟨.Name x px,iter,ifs,0⟩] scope pos) 0 (.ref I) (.ref D) (compEnvC scope cl C env))
    (compPost (model prog w) A NoE use Q (.ref D) C) s₃:=by
  rintro s₃ rfl
  refine codeAny_compLoop_tests (CLoop O B D C wr St its.ds f sr) ?_ (its.ds.length+1)
   ⟨0,h₁,_,_,#[],[],rfl,qBr _,rfl,hst₁,hacc,hns₁,rfl,by rw [Rds],fun b o e=>old1 b o (r2 b o e),qA9 k2.toks (qB5 _ _)⟩
  rintro k s' ⟨i,h',tk,m',ys,l',rfl,hi,rfl,hst',hacc',hn',hl',hR,hk,htk⟩
  by_cases hlt:i<its.ds.length
  ·refine wpAny_with_toks (n:=tk) (qA7 _) (W.item i _ _ _ hlt hst' fun v ha tka hPv hsta hka htka=>?_)
   refine wpAny_assign_Name (wpAny_storeName_local hxk (hn'.at' fun o e=>hka _ o hCw e) (fun hb hnb hsb=>?_) hp)
   have htka':tk≤tka:=htka
   have upb:∀b o,b≠C→b∉wr→h'.get? b=some o→hb.get? b=some o:=fun b o h1 h2 e=>hsb.extBut b o h1 (hka b o h2 e)
   have rb:∀b o,sr.heap.get? b=some o→hb.get? b=some o:=fun b o e=>
    upb b o (fun q=>by rw [q] at e;rw [freshR C (qAq hdc)] at e;cases e) (fun q=>by rw [hwr b q] at e;cases e) (hk b o e)
   have hstb:St (i+1) hb:=W.frame _ _ _ hsta fun b hm o e=>hsb.extBut b o (fun (h:b=C)=>hCf (h▸hm)) e
   have hDb:hb.PlainList D ys:=hacc'.at fun o e=>upb D o hDC hDw e
   have hRb:Rds hb tka (X (Own3 O D C wr) B false false) l' ys.toList:=Rds.mono htka'
    (fun b o hx e=>upb b o (fun q=>hx (.inl ⟨rfl,.inr (.inr (.inl q))⟩)) (fun q=>hx (.inl ⟨rfl,.inr (.inr (.inr q))⟩)) e) (fun _ _=>id) _ _ hR
   refine hid fun G hG=>?_
   obtain⟨d,hd,hrd⟩:=hP i v hlt hPv
   obtain⟨l'',hl''⟩:=compL_take he (i+1)
   have htake:its.ds.take (i+1)=its.ds.take i++[d]:=by rw [qG4,hd];rfl
   have hone:compOne f d l'=some l'':=by
    have:=hl''
    rw [htake,compL_snoc,hl'] at this
    exact this
   have hlen:l'.length≤i:=qA9 (compL_len hl') (by rw [qB6];exact qCr _ _)
   have hys:ys.size=l'.length:=by have:=hR.length;simpa using this
   have hrd3:RdT (Own3 O D C wr) B hb (tka+1) its.t d v:=
    Rd.mono (qB4 (qA9 htk htka')) (fun b o _=>rb b o) (fun b o _=>rb b o) (xnot _ _) (xnot _ _) d v hrd
   obtain⟨rr,hrr⟩:∃rr,f d=some rr:=by
    revert hone;unfold compOne;cases f d with
    |none=>intro e;cases e
    |some rr=>exact fun _=>⟨rr,rfl⟩
   have hdomC:dom hb C:=by obtain⟨o,_,_,ho,_⟩:=(show hb.Ns C _ from hnb);unfold dom;rw [ho];rfl
   have hdomD:dom hb D:=by obtain⟨_,ho⟩:=hDb;unfold dom;rw [ho];rfl
   refine hG (wpAny_mono (body D C wr v sr { sr with heap:=hb,toks:=tka+1 } _ d rr (freshS _ (freshR _ (qA7 _))) (freshS _ (freshR _ (qAq hdc))) (fun b hm=>freshS _ (hwr b hm)) k1 hdomD hdomC (hWd _ _ hstb) hnb (by simp) rb
    (qB4 (qA9 htk htka')) ⟨sr.gens,rfl⟩ hrd3 hrr) (fun ok s₄ h₄=>?_) fun _ _ e=>e.elim)
   clear hG
   have k4:=h₄.1
   have hm:=h₄.2
   clear h₄
   have up4:∀b o,hb.get? b=some o→s₄.heap.get? b=some o:=k4.keep
   have t4:tka≤s₄.toks:=qF3 k4.toks
   unfold compOne at hone
   rw [hrr] at hone
   rcases rr with _|r
   ·obtain rfl:=qA8 hone
    rw [show ok=false from hm,if_neg qAr]
    exact⟨its.ds.length+1-(i+1),dec_lt hlt,i+1,s₄.heap,s₄.toks,_,ys,l',k4.eq,hlt,rfl,W.frame _ _ _ hstb fun b _ o e=>up4 b o e,hDb.at fun o e=>up4 _ o e,hnb.keeps up4,hl'',
     Rds.mono t4 (fun b o _ e=>up4 b o e) (fun _ _=>id) _ _ hRb,fun b o e=>up4 b o (rb b o e),qA9 htk (qA9 htka' t4)⟩
   ·rw [hm.1,if_pos rfl]
    refine wpAny_mono hm.2 (fun y s₅ h₅=>?_) fun _ _ e=>e.elim
    have up45:∀b o,hb.get? b=some o→s₅.heap.get? b=some o:=fun b o e=>h₅.1.keep b o (up4 b o e)
    have t5:tka≤s₅.toks:=qA9 t4 h₅.1.toks
    refine wpAny_list_append_plain (hsz:=by rw [hys];have:=SZ_eq;exact jL [_,_,_,_,_] [cL xa xb,cT xc xa,cL xd xc,cQ xb xe] (cL xd xe) jT hsz hlt hlen this) (hDb.at fun o e=>up45 _ o e) fun h6 hl6 hs6=>?_
    have hone':l''=l'++[r.d]∧eff r.d r.t=Tg.z:=by
     clear up45 t5 h₅ hs6 hl6
     revert hone
     show (match eff r.d r.t with|⟨false,false,false⟩=>some (l'++[r.d])|_=>none)=some l''→_
     obtain⟨z,hz⟩:=gx (eff r.d r.t)
     rw [hz]
     obtain⟨a1,a2,a3⟩:=z
     rcases a1 with _|_<;>rcases a2 with _|_<;>rcases a3 with _|_<;>first|exact fun e=>⟨(qA8 e).symm,rfl⟩|exact fun e=>nos e
    rw [hone'.1] at hl''
    refine⟨its.ds.length+1-(i+1),dec_lt hlt,i+1,h6,s₅.toks,_,ys.push y,l'++[r.d],congrArg (fun z:Shared=>{ z with heap:=h6 }) (k4.trans h₅.1).eq,hlt,rfl,?_,hl6,(hnb.keeps up45).sameBut hs6 (qBz hDC),hl'',?_,fun b o e=>?_,qA9 htk (qA9 htka' t5)⟩
    ·exact W.frame _ _ _ hstb fun b hm o e=>hs6.extBut b o (fun h=>hDf (h▸hm)) (up45 b o e)
    ·rw [qHm]
     exact Rds.mono (qA7 _) (fun b o hx e=>hs6.extBut b o (fun q=>hx (.inl ⟨rfl,.inr (.inl q)⟩)) e) (fun _ _=>id) _ _ (Rds.snoc (Rds.mono t5 (fun b o _ e=>up45 b o e) (fun _ _=>id) _ _ hRb) (by have:=h₅.2.eff;rw [hone'.2] at this;exact this))
    ·exact hs6.extBut b o (fun q=>nsh (freshR D (qA7 _)) (q▸e)) (up45 b o (rb b o e))
  ·have hin:i=its.ds.length:=qE2 hi (qCj.mp hlt)
   rw [hin] at hst' hl'
   refine wpAny_with_toks (n:=tk) (qA7 _) (W.done _ _ _ hst' fun ha tka hka htka=>?_)
   have htka':tk≤tka:=htka
   rw [qGi,he] at hl'
   obtain rfl:=qA8 hl'
   have up:∀b o,b∉wr→h'.get? b=some o→ha.get? b=some o:=fun b o h2 e=>hka b o h2 e
   refine h D C m' ys.toList _ (k1.trans ?_) (freshS _ (freshR _ (qA7 _))) (freshS _ (freshR _ (qAq hdc))) hDC (hn'.at' fun o e=>hka _ o hCw e) ?_ ?_
   ·exact KQ.mk' (fun b o e=>up b o (fun q=>by rw [hwr b q] at e;cases e) (hk b o e)) (qA9 htk htka')
   ·exact hacc'.at fun o e=>up D o hDw e
   ·have r1:Rds ha tka (X (Own3 O D C wr) B false false) l ys.toList:=Rds.mono htka' (fun b o hx e=>up b o (fun q=>hx (.inl ⟨rfl,.inr (.inr (.inr q))⟩)) e) (fun _ _=>id) _ _ hR
    exact Rds.mono (qA7 _) (fun b o _=>id) (fun a _ hx=>hx.imp (fun z=>⟨z.1,z.2.elim .inl fun y=>.inr (.inr (.inl y))⟩) id) _ _ r1
 refine codeAny_compStart_list (loop _ rfl) (W.self 0 _ _ _ hst₁ (loop _ rfl))
theorem comp_rule {O B:Addr→Prop}{env:Env}{elt iter:qA2}{x:Str}{px:Pos}{ifs:List qA2}{scope:Scope}{cl:List (Str×Addr)}{pos:Pos}{Q:Value→Shared→Prop}{s:Shared}{q:Bool}{its:Items}{l:List D}{Lx:Addr→Prop}
  (f:D→Option (Option Rs))
  (hclos:closureFor scope env=pure cl) (hcell:∀y∈scope.names,y.2≠.cell) (hkind:scope.kind=.function)
  (hnames:∀y∈scope.names,y.2=.local→scope.names.lookup y.1=some .local) (hx:scope.names.lookup x=some .local)
  (hB:∀a,B a→dom s.heap a) (hO:∀a,O a→dom s.heap a)
  (hs:∀x,foldedSetIterable iter env x=pure x)
  (he:compL f its.ds=some l)
  (hit:wpAny (model prog w) A (eval iter env) (fun xv s₁=>wpAny (model prog w) A (pyIter xv) (fun itv s₂=>Src prog w A O B q s its Lx itv s₂) NoE s₁) NoE s)
  (body:∀D C wr v s₁ s₃ m₃ d r,s.heap.get? D=none→s.heap.get? C=none→(∀b∈wr,s.heap.get? b=none)→KQ q s s₁→dom s₃.heap D→dom s₃.heap C→(∀b∈wr,dom s₃.heap b)→
   s₃.heap.Ns C m₃→m₃ x=some v→(∀b o,s₁.heap.get? b=some o→s₃.heap.get? b=some o)→s₁.toks≤s₃.toks→(∃gs,s₃={ s₁ with heap:=s₃.heap,toks:=s₃.toks,gens:=gs })→
   RdT (Own3 O D C wr) B s₃.heap s₃.toks its.t d v→f d=some r→
   wpAny (model prog w) A (ifsRun ifs (compEnvC scope cl C env))
    (fun ok s₄=>KQ true s₃ s₄∧(match r with
     |none=>ok=false
     |some r=>ok=true∧wpAny (model prog w) A (eval elt (compEnvC scope cl C env)) (fun y s₅=>KQ true s₄ s₅∧RdT (Own3 O D C wr) B s₅.heap s₅.toks r.t r.d y) NoE s₄)) NoE s₃)
  (h:∀D vs s',KQ q s s'→s.heap.get? D=none→s'.heap.PlainList D vs.toArray→Rds s'.heap s'.toks (X O B false false) l vs→Q (.ref D) s') :
  wpAny (model prog w) A (eval (.ListComp elt [⟨.Name x px,iter,ifs,0⟩] scope pos) env) Q NoE s:=by
 rw [eval_ListComp]
 refine comp_core f hclos hcell hkind hnames hx hB hO hs he hit body none fun D C m' vs s' k hD hC hDC hn hl hr=>⟨m',hn,fun h' hs'=>?_⟩
 have up:∀b o,b≠C→s'.heap.get? b=some o→h'.get? b=some o:=fun b o hb e=>hs'.extBut b o hb e
 refine h D vs _ (k.trans' ?_) hD (hl.at fun o e=>up D o hDC e) ?_
 ·exact fun b o e=>up b o (fun q=>by rw [q,hC] at e;cases e) (k.keep b o e)
 ·have r1:Rds h' s'.toks (X (fun a=>O a∨a=C) B false false) l vs:=Rds.mono (qA7 _) (fun b o hx e=>up b o (fun q=>hx (.inl ⟨rfl,.inr q⟩)) e) (fun _ _=>id) _ _ hr
  exact Rds.mono (qA7 _) (fun b o _=>id) (fun a _ hx=>hx.imp (fun z=>⟨z.1,.inl z.2⟩) id) _ _ r1
end
section
variable {prog:Program}{w:World}{A:Around}{O B:Addr→Prop}{q:Bool}{s s₁:Shared}
theorem src_list {ds:List D}{t:Tg}{v:Value}(hh:A.handled=none)(k:KQ q s s₁)(r:RdT O B s₁.heap s₁.toks t (.list ds) v) :
  wpAny (model prog w) A (pyIter v) (fun itv s₂=>Src prog w A O B q s ⟨ds,t.item,t.top⟩ (fun b=>v=.ref b) itv s₂) NoE s₁:=by
 obtain⟨a,vs,rfl,hl,hsz,hlen,hitems⟩:=r.items
 refine wpAny_pyIter_list hl ?_
 have hne:a≠s₁.heap.objs.size:=fun e=>by obtain⟨o,ho,_⟩:=hl;rw [e,free_size] at ho;cases ho
 have W:=Walks.list (prog:=prog) (w:=w) hh s₁.heap.objs.size a hne vs.toArray
 rw [show vs.toArray.size=ds.length by simpa using hlen] at W
 refine⟨_,_,_,_,_,s₁,_,s₁.toks,rfl,W,hsz,⟨⟨_,qB9 _ rfl,rfl,rfl⟩,hl.at fun o e=>qAp _ e⟩,?_,k,rfl,KQ.push _,?_,?_,?_,?_⟩
 ·intro b hb
  simp only [qA6,qB0,or_false] at hb
  rcases hb with rfl|rfl
  ·rw [qEk];exact qBo _
  ·rw [qEk];obtain⟨o,ho,_⟩:=hl;exact qD3 (qCg ho)
 ·intro b hb
  simp only [qA6,qB0,or_false] at hb
  subst hb;exact free_size _
 ·intro i h st b hb
  simp only [qA6,qB0,or_false] at hb
  subst hb
  obtain⟨⟨o,ho,_⟩,_⟩:=st
  unfold dom;rw [ho];rfl
 ·intro i v _ hv
  have hv':vs[i]?=some v:=by simpa using hv
  have hi:i<ds.length:=by
   rw [←hlen];exact (qAk.mp hv').1
  obtain⟨v',h1,h2⟩:=hitems i ds[i] (qAb hi)
  rw [hv'] at h1;cases h1
  exact⟨_,qAb hi,h2⟩
 ·intro b hb hw
  simp only [qA6,qB0,or_false] at hb hw
  obtain rfl:=hb.resolve_left hw
  obtain⟨o,ho,_⟩:=hl
  exact⟨by unfold dom;rw [ho];rfl,rfl⟩
theorem src_str {Lx:Addr→Prop}{l:List Nat}{t:Tg}{v:Value}(hh:A.handled=none)(k:KQ q s s₁)(r:RdT O B s₁.heap s₁.toks t (.str l) v) :
  wpAny (model prog w) A (pyIter v) (fun itv s₂=>Src prog w A O B q s ⟨l.map fun c=>.str [c],Tg.z,false⟩ Lx itv s₂) NoE s₁:=by
 unfold RdT at r
 rw [Rd] at r
 obtain⟨hsz,u,rfl⟩:=r
 have items:∀i v,SignAt (mk l) i v→∃d,(l.map fun c=>D.str [c])[i]?=some d∧RdT O B s₁.heap s₁.toks Tg.z d v:=by
  rintro i v ⟨c,u,hc,rfl⟩
  refine⟨.str [c],?_,?_⟩
  ·have:l[i]?=some c:=by simpa [mk] using hc
   rw [qC4,this];rfl
  ·unfold RdT;rw [Rd];exact⟨by unfold SZ;simp,u,rfl⟩
 have hsize:(mk l).cps.size=(l.map fun c=>D.str [c]).length:=by simp [mk]
 have fin:∀(T:String) (hw:Walks prog w A s₁.heap.objs.size [s₁.heap.objs.size] [s₁.heap.objs.size] (mk l).cps.size (SignAt (mk l)) (fun i h=>h.IsStrIter s₁.heap.objs.size T (mk l) u i)) (o:Obj),
   (s₁.heap.push o).IsStrIter s₁.heap.objs.size T (mk l) u 0→
   Src prog w A O B q s ⟨l.map fun c=>.str [c],Tg.z,false⟩ Lx (.ref s₁.heap.objs.size) { s₁ with heap:=s₁.heap.push o }:=by
  intro T hw o h0
  rw [hsize] at hw
  refine⟨_,_,_,_,_,s₁,_,s₁.toks,rfl,hw,by simpa using hsz,h0,?_,k,rfl,KQ.push _,?_,?_,fun i v _=>items i v,fun b hb hw=>absurd hb hw⟩
  ·intro b hb
   simp only [qA6,qB0,or_false] at hb
   subst hb
   rw [qEk];exact qBo _
  ·intro b hb
   simp only [qA6,qB0,or_false] at hb
   subst hb;exact free_size _
  ·intro i h st b hb
   simp only [qA6,qB0,or_false] at hb
   subst hb
   obtain⟨o,ho,_⟩:=st
   unfold dom;rw [ho];rfl
 cases ha:(mk l).cps.all (·<128)
 ·exact wpAny_pyIter_wide ha (fin _ (Walks.strWide hh _ _ _) _ ⟨_,qB9 _ rfl,rfl,rfl⟩)
 ·exact wpAny_pyIter_ascii ha (fin _ (Walks.strAscii hh _ _ _) _ ⟨_,qB9 _ rfl,rfl,rfl⟩)
theorem src_range {Lx:Addr→Prop}{a b:Int}{x:Addr}{t u v:Tok}(hh:A.handled=none)(k:KQ q s s₁)(hr:IsRange s₁.heap x a b 1 t u v)(ha:tiny a=true)(hb:tiny b=true)(hd:b-a≤SZ) :
  wpAny (model prog w) A (pyIter (.ref x)) (fun itv s₂=>Src prog w A O B q s ⟨rangeL a b,Tg.z,false⟩ Lx itv s₂) NoE s₁:=by
 unfold tiny at ha hb
 simp only [qAw,decide_eq_true_eq] at ha hb
 refine wpAny_pyIter_range hr (small_one (by lia) (by lia) (by lia) (by lia)) ?_
 have hn:Builtin.Range.rangeSize a b 1=((b-a).toNat:Int):=rangeSize_nat a b
 have hlen:(rangeL a b).length=(b-a).toNat:=by simp [rangeL]
 rw [hn]
 have W:=Walks.range (prog:=prog) (w:=w) hh s₁.heap.objs.size a 1 (b-a).toNat
 rw [←hlen] at W⊢
 refine⟨_,_,_,_,_,s₁,_,s₁.toks,rfl,W,by show (rangeL a b).length≤SZ;rw [hlen];lia,?_,?_,k,rfl,KQ.push _,?_,?_,?_,fun b hb hw=>absurd hb hw⟩
 ·show IsRangeIter _ _ (a+((0:Nat):Int)*1) _ 1
  rw [show a+((0:Nat):Int)*1=a by simp,show ((rangeL a b).length:Int)-((0:Nat):Int)=((rangeL a b).length:Int) by simp]
  exact qB9 _ rfl
 ·intro b hb
  simp only [qA6,qB0,or_false] at hb
  subst hb
  rw [qEk];exact qBo _
 ·intro b hb
  simp only [qA6,qB0,or_false] at hb
  subst hb;exact free_size _
 ·intro i h st b hb
  simp only [qA6,qB0,or_false] at hb
  subst hb
  have st:h.get? _=some _:=st
  unfold dom;rw [st];rfl
 ·rintro i v hi ⟨t,rfl⟩
  have hi':i<(b-a).toNat:=by rw [←hlen];exact hi
  refine⟨.int (a+(i:Int)),?_,?_⟩
  ·show (rangeL a b)[i]?=_
   unfold rangeL
   rw [qC4,qFn hi'];rfl
  ·unfold RdT;rw [Rd];exact⟨t,by rw [Int.mul_one]⟩
end
theorem lookup_mem {α β:Type} [BEq α] [LawfulBEq α]{x:α}{b:β}:∀{l:List (α×β)},l.lookup x=some b→(x,b)∈l
 |[],h=>by cases h
 |(a,c)::l,h=>by
  rw [qEm] at h
  cases hx:x==a with
  |true=>rw [hx] at h;cases h;rw [eq_of_beq hx];exact qA5
  |false=>rw [hx] at h;exact qA3 _ (lookup_mem h)
theorem relK_lookup {kd:Kinds}{x:Str}{b:NameKind}:∀{names:Kinds},(relK names kd).lookup x=some b→
  (names.lookup x=some b∧b≠.free)∨(b=.cell∧names.lookup x=some .free∧kd.lookup x=some .cell)∨(names.lookup x=some .free∧b=.free)
 |[],h=>by cases h
 |(a,k)::names,h=>by
  have h:List.lookup x ((if (k==qDf&&kd.lookup a==some .cell)=true then (a,qGc) else (a,k))::relK names kd)=some b:=h
  rw [qEm] at h⊢
  cases hx:x==a with
  |true=>
   have e:=eq_of_beq hx
   subst e
   cases hc:(k==qDf&&kd.lookup x==some .cell) with
   |true=>
    simp only [hc,if_true,beq_self_eq_true] at h⊢
    obtain⟨h1,h2⟩:=qAl.mp hc
    cases h
    exact .inr (.inl ⟨rfl,by rw [eq_of_beq h1],eq_of_beq h2⟩)
   |false=>
    simp only [hc,qHh,if_false,beq_self_eq_true] at h⊢
    have h:k=b:=by injection h
    by_cases hk:b=.free
    ·exact .inr (.inr ⟨by rw [h,hk],hk⟩)
    ·exact .inl ⟨by rw [h],hk⟩
  |false=>
   have:(x==(if (k==qDf&&kd.lookup a==some .cell)=true then (a,qGc) else (a,k)).1)=false:=by split<;>exact hx
   simp only [this] at h⊢
   exact relK_lookup h
theorem comp_env {env:Env}{nm:List Str}{kd:Kinds}{scope:Scope}{x:Str}{v:Nat}(ok:EnvOk env kd)(hc:compOk scope nm kd x v=true) :
  closureFor scope env=pure (clAcc env scope.names [])∧(∀y∈scope.names,y.2≠.cell)∧scope.kind=.function∧(∀y∈scope.names,y.2=.local→scope.names.lookup y.1=some .local)∧scope.names.lookup x=some .local∧
  (∀C,EnvOk (compEnvC scope (clAcc env scope.names []) C env) (relK scope.names kd))∧(relK scope.names kd).lookup x=some .local∧
  (∀i y,nm[i]?=some y→i≠v→y≠x∧(relK scope.names kd).lookup y≠some .local)∧
  (∀y,(relK scope.names kd).lookup y=some .cell→kd.lookup y=some .cell∧(clAcc env scope.names []).lookup y=env.cells.lookup y):=by
 unfold compOk at hc
 simp only [qAw,decide_eq_true_eq,qC2,bne_iff_ne,qEu,beq_iff_eq] at hc
 obtain⟨⟨⟨⟨h1,h2⟩,h3⟩,h4⟩,h5⟩:=hc
 have hfree:∀y∈scope.names,y.2=.free→kd.lookup y.1=some .cell:=fun y hy hf=>((h2 y hy).2).resolve_left (fun q=>q hf)
 have hcell:∀y∈scope.names,y.2≠.cell:=fun y hy=>(h2 y hy).1.1
 have hcl:∀y,(relK scope.names kd).lookup y=some .cell→kd.lookup y=some .cell∧(y,qDf)∈scope.names:=fun y hy=>by
  rcases relK_lookup hy with⟨q,_⟩|⟨_,q1,q2⟩|⟨_,q⟩
  ·exact absurd rfl (hcell _ (lookup_mem q))
  ·exact⟨q2,lookup_mem q1⟩
  ·cases q
 have hcl2:∀y,(relK scope.names kd).lookup y=some .cell→kd.lookup y=some .cell∧(clAcc env scope.names []).lookup y=env.cells.lookup y:=fun y hy=>by
  obtain⟨q1,q2⟩:=hcl y hy
  obtain⟨a,ha⟩:=ok.cells y q1
  exact⟨q1,(clAcc_lookup env ha _ _ (.inl q2) (fun b hb=>by cases hb)).trans ha.symm⟩
 refine⟨closureFor_eq fun y hy hf=>ok.cells _ (hfree y hy hf),hcell,h1,fun y hy hl=>((h2 y hy).1.2).resolve_left (fun q=>q hl),h3,fun C=>⟨?_,h1,ok.glob,ok.blt,?_⟩,?_,?_,hcl2⟩
 ·show (scope.names.map fun x=>_)=(scope.names.map fun x=>_)
  refine qFo fun x _=>?_
  obtain⟨n,k⟩:=x
  show (if _ then _ else _)=(if _ then _ else _)
  rw [show env.kindOf n=kd.lookup n from ok.names▸rfl,ok.kind]
  simp
 ·intro y hy
  obtain⟨q1,q2⟩:=hcl2 y hy
  obtain⟨a,ha⟩:=ok.cells y q1
  exact⟨a,q2.trans ha⟩
 ·have:∀{names:Kinds},names.lookup x=some .local→(relK names kd).lookup x=some .local:=fun {names} h=>by
   have:=@lookup_relabel_local { env with scope:={ env.scope with kind:=.function,names:=kd } } names x h
   have e:∀l:Kinds,relK l kd=(l.map fun (n,k)=>if (k==qDf&&({ env with scope:={ env.scope with kind:=.function,names:=kd } }:Env).scope.kind==.function&&({ env with scope:={ env.scope with kind:=.function,names:=kd } }:Env).kindOf n==some .cell) then (n,qGc) else (n,k)):=fun l=>by
    unfold relK
    refine qFo fun x _=>?_
    obtain⟨n,k⟩:=x
    simp [Env.kindOf]
   rw [e];exact this
  exact this h3
 ·intro i y hi hne
  have hm:y∈nm.set v "":=by
   refine qDg.mpr ⟨i,?_⟩
   rw [qB1 (qBz hne)];exact hi
  obtain⟨q1,q2⟩:=h4 y hm
  refine⟨q1,fun hl=>?_⟩
  rcases relK_lookup hl with⟨q,_⟩|⟨q,_⟩|⟨_,q⟩
  ·exact q2 q
  ·cases q
  ·cases q
theorem FrE.comp {c:Nm}{env:Env}{nm:List Str}{kd:Kinds}{O B:Addr→Prop}{ρ:Env'}{s s₁ s₃:Shared}{q:Bool}{scope:Scope}{x:Str}{v:Nat}{D₀ C:Addr}{wr:List Addr}{m:Str→Option Value}{u:Value}{d:D}{t:Tg}
  (F:FrE c env nm kd O B ρ s) (hc:compOk scope nm kd x v=true) (hv:nm[v]?=some x) (k1:KQ q s s₁) (hk:∀b o,s₁.heap.get? b=some o→s₃.heap.get? b=some o) (ht:s₁.toks≤s₃.toks)
  (hD:s.heap.get? D₀=none) (hC:s.heap.get? C=none) (hw:∀b∈wr,s.heap.get? b=none) (dD:dom s₃.heap D₀) (dC:dom s₃.heap C) (dw:∀b∈wr,dom s₃.heap b)
  (hn:s₃.heap.Ns C m) (hm:m x=some u) (hu:RdT (Own3 O D₀ C wr) B s₃.heap s₃.toks t d u) :
  FrE c (compEnvC scope (clAcc env scope.names []) C env) nm (relK scope.names kd) (Own3 O D₀ C wr) B (ρ.set v (some (d,.val (eff d t)))) s₃:=by
 obtain⟨_,_,_,_,_,hok,hxl,hnl,hcl⟩:=comp_env F.ok hc
 have up:∀b o,s.heap.get? b=some o→s₃.heap.get? b=some o:=fun b o e=>hk b o (k1.keep b o e)
 refine⟨hok C,F.st.keeps up,qA9 F.tk (qA9 k1.toks ht),?_,fun a ha=>dom.keeps up (F.hB a ha),?_⟩
 ·rintro a (ha|rfl|rfl|ha)
  ·exact dom.keeps up (F.hO a ha)
  ·exact dD
  ·exact dC
  ·exact dw a ha
 ·intro i d' vt y hi hy hkind
  by_cases hiv:i=v
  ·subst hiv
   rw [hv] at hy;cases hy
   have hlt:i<ρ.length:=by
    have:=(qAk.mp hi).1
    simpa using this
   rw [qA4 hlt] at hi
   cases hi
   exact⟨u,.inl ⟨hxl,m,hn,hm⟩,hu.eff⟩
  ·rw [qB1 (qBz hiv)] at hi
   obtain⟨q1,q2⟩:=hnl i y hy hiv
   have hcell:(relK scope.names kd).lookup y=some .cell:=hkind.resolve_left q2
   obtain⟨z1,z2⟩:=hcl y hcell
   obtain⟨u',hu1,hu2⟩:=F.vars i d' vt y hi hy (.inr z1)
   refine⟨u',.inr ⟨hcell,?_⟩,?_⟩
   ·rcases hu1 with⟨q,_⟩|⟨_,a,q3,q4⟩
    ·rw [z1] at q;cases q
    ·exact⟨a,z2.trans q3,q4.keeps up⟩
   ·refine Rd.mono (qA9 k1.toks ht) (fun b o _=>up b o) (fun b o _=>up b o) ?_ ?_ _ _ hu2
    all_goals
     rintro a ⟨o,e⟩ (⟨h1,h2|h2|h2|h2⟩|h1)
     ·exact .inl ⟨h1,h2⟩
     ·rw [h2,hD] at e;cases e
     ·rw [h2,hC] at e;cases e
     ·rw [hw a h2] at e;cases e
     ·exact .inr h1
end Mine
end

section
set_option maxRecDepth 10000
namespace Mine
set_option genSizeOf false
set_option genInjectivity false
open PySem PyProof.Rows PySem.SeqAt
theorem base_eq {o:qA2}{name:Str}{env:Env}(h:notSuper o=true):attributeBase o name env (eval o env)=eval o env:=by
 rcases o with _|_<;>first|rfl|skip
 rename_i f _ _ _
 rcases f with _|_<;>first|rfl|exact nof h
theorem star_cons {e:qA2}{r:List qA2}{env:Env}(h:notStar e=true):starEach (e::r) env=(false,eval e env)::starEach r env:=by
 rcases e with _|_<;>first|(cases h;done)|rfl
theorem star_all {env:Env}:∀{es:List qA2},(∀e∈es,notStar e=true)→starEach es env=es.map fun e=>(false,eval e env)
 |[],_=>rfl
 |e::r,h=>by
  rw [star_cons (h e (qA5 ..)),star_all fun x hx=>h x (qA3 _ hx),qAh]
theorem each_plain {es:List qA2}{env:Env}{pos:Pos}(h:starEach es env=es.map fun e=>(false,eval e env)):(backTo pos (starEach es env)).any (·.1)=false∧(backTo pos (starEach es env)).all (fun x=>!x.1)=true:=by
 rw [h]
 simp [backTo]
section
variable {prog:Program}{w:World}{A:Around}{O B:Addr→Prop}{c:Nm}{env:Env}{kd:Kinds}{s:Shared}{E:Value→Shared→Prop}
theorem kindOf_eq (ok:EnvOk env kd)(x:Str):env.kindOf x=kd.lookup x:=ok.names▸rfl
theorem ld_glob {x:Str}{p:Pos}{v:Value}{Q:Value→Shared→Prop}(ok:EnvOk env kd)(st:St c s.heap)(hk:kd.lookup x=some .globalImplicit)(hd:(x==("__debug__" : Str))=false)
  (hv:c.mg x=some v) (h:Q v s):wpAny (model prog w) A (eval (.Name x p) env) Q E s:=by
 refine wpAny_Name ?_ hd
 rw [loadName_read ok.kind ((kindOf_eq ok x).trans hk)]
 unfold loadGlobal
 refine wpAny_bind (wpAny_nsGet (ok.glob▸st.g) ?_)
 rw [hv]
 exact wpAny_pure h
theorem ld_blt {x:Str}{p:Pos}{v:Value}{Q:Value→Shared→Prop}(ok:EnvOk env kd)(st:St c s.heap)(hk:kd.lookup x=some .globalImplicit)(hd:(x==("__debug__" : Str))=false)
  (h0:c.mg x=none) (hv:c.mb x=some v) (h:Q v s):wpAny (model prog w) A (eval (.Name x p) env) Q E s:=by
 refine wpAny_Name ?_ hd
 rw [loadName_read ok.kind ((kindOf_eq ok x).trans hk)]
 unfold loadGlobal
 refine wpAny_bind (wpAny_nsGet (ok.glob▸st.g) ?_)
 rw [h0]
 refine wpAny_bind (wpAny_nsGet (ok.blt▸st.b) ?_)
 rw [hv]
 exact wpAny_pure h
theorem ld_var {x:Str}{p:Pos}{v:Value}{Q:Value→Shared→Prop}(ok:EnvOk env kd)(hd:(x==("__debug__" : Str))=false)
  (hv:VarAt env kd s.heap x v) (h:Q v s):wpAny (model prog w) A (eval (.Name x p) env) Q E s:=by
 refine wpAny_Name ?_ hd
 rcases hv with⟨h1,m,h2,h3⟩|⟨h1,a,h2,h3⟩
 ·exact wpAny_loadName_local ok.kind ((kindOf_eq ok x).trans h1) h2 h3 h
 ·exact wpAny_loadName_cell ok.kind ((kindOf_eq ok x).trans h1) h2 h3 h
noncomputable def GE (prog:Program)(w:World)(c:Nm)(Φ:Fns)(k:Nat)(nm:List Str)(kd:Kinds)(pe:PE)(e:qA2):Prop:=
 ∀⦃q:Bool⦄ ⦃ρ:Env'⦄ ⦃r:Rs⦄ ⦃env:Env⦄ ⦃A:Around⦄ ⦃s:Shared⦄ ⦃O B:Addr→Prop⦄ ⦃Q:Value→Shared→Prop⦄,
  evE Φ q ρ pe=some r→FrE c env nm kd O B ρ s→AOk k A→Res O B q s r Q→wpAny (model prog w) A (eval e env) Q NoE s
noncomputable def GO (prog:Program)(w:World)(c:Nm)(Φ:Fns)(k:Nat)(nm:List Str)(kd:Kinds)(pe:PO)(e:Option qA2):Prop:=
 ∀⦃q:Bool⦄ ⦃ρ:Env'⦄ ⦃r:Option Int⦄ ⦃env:Env⦄ ⦃A:Around⦄ ⦃s:Shared⦄ ⦃O B:Addr→Prop⦄ ⦃Q:Value→Shared→Prop⦄,
  evO Φ q ρ pe=some r→FrE c env nm kd O B ρ s→AOk k A→(∀v s',KQ q s s'→IsPart v r→Q v s')→wpAny (model prog w) A (evalPart e env) Q NoE s
structure GL (prog:Program)(w:World)(c:Nm)(Φ:Fns)(k:Nat)(nm:List Str)(kd:Kinds)(pe:PL)(es:List qA2):Prop where
 star:∀e∈es,notStar e=true
 len:∀{q:Bool} {ρ:Env'} {rs:List Rs},evL Φ q ρ pe=some rs→rs.length=es.length
 run:∀{q:Bool} {ρ:Env'} {rs:List Rs} {env:Env} {pos:Pos} {A:Around} {s:Shared} {O B:Addr→Prop} {Q:List Value→Shared→Prop},
  evL Φ q ρ pe=some rs→FrE c env nm kd O B ρ s→AOk k A→(∀vs s',KQ q s s'→Args' O B s' rs vs→Q vs s')→wpAny (model prog w) A (spliced (backTo pos (starEach es env))) Q NoE s
noncomputable def GT (prog:Program)(w:World)(c:Nm)(Φ:Fns)(k:Nat)(nm:List Str)(kd:Kinds)(pe:PT)(e:qA2):Prop:=
 ∀⦃q:Bool⦄ ⦃ρ:Env'⦄ ⦃b:Bool⦄ ⦃env:Env⦄ ⦃A:Around⦄ ⦃s:Shared⦄ ⦃O B:Addr→Prop⦄ ⦃Q:Bool→Shared→Prop⦄,
  evT Φ q ρ pe=some b→FrE c env nm kd O B ρ s→AOk k A→(∀s',KQ q s s'→Q b s')→wpAny (model prog w) A (isTrue e env (eval e env)) Q NoE s
noncomputable def GTo (prog:Program)(w:World)(c:Nm)(Φ:Fns)(k:Nat)(nm:List Str)(kd:Kinds)(pe:PTo)(ifs:List qA2):Prop:=
 ∀⦃q:Bool⦄ ⦃ρ:Env'⦄ ⦃b:Bool⦄ ⦃env:Env⦄ ⦃A:Around⦄ ⦃s:Shared⦄ ⦃O B:Addr→Prop⦄ ⦃Q:Bool→Shared→Prop⦄,
  evTo Φ q ρ pe=some b→FrE c env nm kd O B ρ s→AOk k A→(∀s',KQ q s s'→Q b s')→wpAny (model prog w) A (ifsRun ifs env) Q NoE s
noncomputable def GIt (prog:Program)(w:World)(c:Nm)(Φ:Fns)(k:Nat)(nm:List Str)(kd:Kinds)(pe:PI)(e:qA2):Prop:=
 ∀⦃q:Bool⦄ ⦃ρ:Env'⦄ ⦃its:Items⦄ ⦃env:Env⦄ ⦃A:Around⦄ ⦃s:Shared⦄ ⦃O B:Addr→Prop⦄,
  evI Φ q ρ pe=some its→FrE c env nm kd O B ρ s→AOk k A→
   wpAny (model prog w) A (eval e env) (fun xv s₁=>wpAny (model prog w) A (pyIter xv) (fun itv s₂=>Src prog w A O B q s its (fun b=>¬X O B its.top its.t.base b) itv s₂) NoE s₁) NoE s
theorem AOk.zero {k:Nat}{A:Around}(h:AOk k A):AOk 0 A:=⟨h.hd,by have:=h.depth;exact jL [_,_,_] [cL (eA (eA xa (eM 4 xb)) (eN 4)) xc] (cL (eA (eA xa (eM 4 (eN 0))) (eN 4)) xc) jT this,by have:=h.units;exact jL [_,_,_] [cL (eA (eA xa (eM 100 xb)) (eN 100)) xc] (cL (eA (eA xa (eM 100 (eN 0))) (eN 100)) xc) jT this⟩
theorem Res.flat {O B:Addr→Prop}{q:Bool}{s s':Shared}{d:D}{v:Value}{Q:Value→Shared→Prop}(h:Res O B q s (Rs.flat d) Q)(k:KQ q s s')(hf:d.flat=true)(r:Rd s'.heap s'.toks No No d v)(hv:∀a,v≠.ref a):Q v s':=
 h v s' k (Rd.flat_any hf r) fun e=>by cases e
theorem Args'.rds {O B X:Addr→Prop}{s:Shared}:∀{rs:List Rs} {vs:List Value},Args' O B s rs vs→(∀r∈rs,∀v,RdT O B s.heap s.toks r.t r.d v→Rd s.heap s.toks X X r.d v)→Rds s.heap s.toks X (rs.map (·.d)) vs
 |[],_,h,_=>by rw [Args'] at h;subst h;rw [qDe,Rds]
 |r::rs,vs,h,hx=>by
  rw [Args'] at h
  obtain⟨v,us,rfl,h1,h2⟩:=h
  rw [qAh,Rds]
  exact⟨v,us,rfl,hx r qA5 v h1,h2.rds fun r' hr=>hx r' (qA3 _ hr)⟩
theorem held_le {r:Rs}{rs:List Rs}(hr:r∈rs):let t:=rs.foldr (fun r t=>(eff r.d r.t).held.join t) Tg.z
  ((eff r.d r.t).top=true→t.deep=true)∧((eff r.d r.t).deep=true→t.deep=true)∧((eff r.d r.t).base=true→t.base=true):=by
 induction rs with
 |nil=>cases hr
 |cons a rs ih=>
  rcases qA6.mp hr with rfl|hr
  ·refine⟨fun e=>?_,fun e=>?_,fun e=>?_⟩<;>simp [Tg.join,Tg.held,e]
  ·obtain⟨h1,h2,h3⟩:=ih hr
   refine⟨fun e=>?_,fun e=>?_,fun e=>?_⟩
   ·show (_ || (List.foldr (fun r t=>(eff r.d r.t).held.join t) Tg.z rs).deep)=true
    rw [h1 e,qFv]
   ·show (_ || (List.foldr (fun r t=>(eff r.d r.t).held.join t) Tg.z rs).deep)=true
    rw [h2 e,qFv]
   ·show (_ || (List.foldr (fun r t=>(eff r.d r.t).held.join t) Tg.z rs).base)=true
    rw [h3 e,qFv]
theorem Args'.held {O B:Addr→Prop}{s:Shared}{rs:List Rs}{vs:List Value}(h:Args' O B s rs vs) :
  let t:=rs.foldr (fun r t=>(eff r.d r.t).held.join t) Tg.z
  Rds s.heap s.toks (X O B t.deep t.base) (rs.map (·.d)) vs:=
 h.rds fun r hr v hv=>by
  obtain⟨h1,h2,h3⟩:=held_le hr
  have:=RdT.weaken (t':=⟨_,_,_⟩) h1 h2 h3 hv.eff
  exact this
theorem Args'.no {O B:Addr→Prop}{s:Shared}{rs:List Rs}{vs:List Value}(h:Args' O B s rs vs):Rds s.heap s.toks No (rs.map (·.d)) vs:=
 h.rds fun r _ v hv=>Rd.mono (qA7 _) (fun _ _ _=>id) (fun _ _ _=>id) (fun _ _ x=>x.elim) (fun _ _ x=>x.elim) _ _ hv
theorem ref_free {h:Heap}{T:Nat}{d:D}{v:Value}{h₀:Heap}(r:Rd h T (dom h₀) (dom h₀) d v):∀a,v=.ref a→h₀.get? a=none:=by
 intro a e
 subst e
 cases d with
 |list ds=>
  rw [Rd] at r
  obtain⟨_,a',vs,e,_,hx,_⟩:=r
  cases e
  cases q:h₀.get? a with
  |none=>rfl
  |some o=>exact absurd (by unfold dom;rw [q];rfl) hx
 |none=>rw [Rd] at r;cases r
 |bool b=>rw [Rd] at r;cases r
 |int i=>rw [Rd] at r;obtain⟨_,e⟩:=r;cases e
 |str l=>rw [Rd] at r;obtain⟨_,_,e⟩:=r;cases e
 |cst l=>rw [Rd] at r;obtain⟨_,_,e,_⟩:=r;cases e
end
end Mine
end

section
set_option maxRecDepth 10000
namespace Mine
open PySem PyProof.Rows PySem.SeqAt
section
variable {Φ:Fns}{q:Bool}{ρ:Env'}{r:Rs}
theorem dInt {α:Type}{d:D}{k:Int→Option α}{r:α}(h:(match d with|.int i=>k i|_=>none)=some r):∃i,d=.int i∧k i=some r:=by
 rcases d with _|_<;>first|exact⟨_,rfl,h⟩|cases h
theorem dInt2 {α:Type}{d e:D}{k:Int→Int→Option α}{r:α}(h:(match d,e with|.int i,.int j=>k i j|_,_=>none)=some r):∃i j,d=.int i∧e=.int j∧k i j=some r:=by
 rcases d with _|_<;>first|(cases h;done)|skip
 rcases e with _|_<;>first|exact⟨_,_,rfl,rfl,h⟩|cases h
theorem bind_inv {α β:Type}{o:Option α}{k:α→Option β}{r:β}(h:o.bind k=some r):∃x,o=some x∧k x=some r:=qEr.mp h
theorem if_inv {α:Type}{p:Prop} [Decidable p]{a:α}{r:α}(h:(if p then some a else none)=some r):p∧r=a:=by
 obtain⟨h1,h2⟩:=qBs.mp h
 exact⟨h1,(qA8 h2).symm⟩
theorem iv_bin {op:BOp}{a b:PE}(h:evE Φ q ρ (.bin op a b)=some r):∃x y d,evE Φ q ρ a=some x∧evE Φ q ρ b=some y∧binD op x.d y.d=some d∧r=Rs.new d (x.t.join y.t).fresh:=by
 have h:((evE Φ q ρ a).bind fun x=>(evE Φ q ρ b).bind fun y=>(binD op x.d y.d).bind fun d=>some (Rs.new d (x.t.join y.t).fresh))=some r:=qAz (by kernel_rfl) h
 obtain⟨x,hx,h⟩:=bind_inv h
 obtain⟨y,hy,h⟩:=bind_inv h
 obtain⟨d,hd,h⟩:=bind_inv h
 exact⟨x,y,d,hx,hy,hd,(qA8 h).symm⟩
theorem iv_cmp {op:COp}{a b:PE}(h:evE Φ q ρ (.cmp op a b)=some r):∃x y c,evE Φ q ρ a=some x∧evE Φ q ρ b=some y∧cmpD op x.d y.d=some c∧r=Rs.flat (.bool c):=by
 have h:((evE Φ q ρ a).bind fun x=>(evE Φ q ρ b).bind fun y=>(cmpD op x.d y.d).bind fun d=>some (Rs.flat (.bool d)))=some r:=qAz (by kernel_rfl) h
 obtain⟨x,hx,h⟩:=bind_inv h
 obtain⟨y,hy,h⟩:=bind_inv h
 obtain⟨d,hd,h⟩:=bind_inv h
 exact⟨x,y,d,hx,hy,hd,(qA8 h).symm⟩
theorem it_cmp {op:COp}{a b:PE}{c:Bool}(h:evT Φ q ρ (.cmp op a b)=some c):∃x y,evE Φ q ρ a=some x∧evE Φ q ρ b=some y∧cmpD op x.d y.d=some c:=by
 have h:((evE Φ q ρ a).bind fun x=>(evE Φ q ρ b).bind fun y=>cmpD op x.d y.d)=some c:=qAz (by kernel_rfl) h
 obtain⟨x,hx,h⟩:=bind_inv h
 obtain⟨y,hy,h⟩:=bind_inv h
 exact⟨x,y,hx,hy,h⟩
theorem iv_neg {a:PE}(h:evE Φ q ρ (.neg a)=some r):∃x i,evE Φ q ρ a=some x∧x.d=.int i∧r=Rs.flat (.int (-i)):=by
 have h:((evE Φ q ρ a).bind fun x=>match x.d with|.int i=>some (Rs.flat (.int (-i)))|_=>none)=some r:=qAz (by kernel_rfl) h
 obtain⟨x,hx,h⟩:=bind_inv h
 obtain⟨i,hi,h⟩:=dInt h
 exact⟨x,i,hx,hi,(qA8 h).symm⟩
theorem oBool {α:Type}{o:Option Bool}{x y:Option α}{r:α}(h:(match o with|some true=>x|some false=>y|none=>none)=some r):∃c,o=some c∧(if c=true then x else y)=some r:=by
 cases o with
 |none=>cases h
 |some c=>exact⟨c,rfl,by rcases c with _|_<;>exact h⟩
theorem iv_ife {t:PT}{a b:PE}(h:evE Φ q ρ (.ife t a b)=some r):∃c,evT Φ q ρ t=some c∧(if c=true then evE Φ q ρ a else evE Φ q ρ b)=some r:=
 oBool (qAz (by kernel_rfl) h)
theorem iv_idx {a i:PE}(h:evE Φ q ρ (.idx a i)=some r):∃x y,evE Φ q ρ a=some x∧evE Φ q ρ i=some y∧idxR x y=some r:=by
 have h:((evE Φ q ρ a).bind fun x=>(evE Φ q ρ i).bind fun y=>idxR x y)=some r:=qAz (by kernel_rfl) h
 obtain⟨x,hx,h⟩:=bind_inv h
 obtain⟨y,hy,h⟩:=bind_inv h
 exact⟨x,y,hx,hy,h⟩
theorem iv_slice {a:PE}{lo hi:PO}(h:evE Φ q ρ (.slice a lo hi)=some r):∃x l h',evE Φ q ρ a=some x∧evO Φ q ρ lo=some l∧evO Φ q ρ hi=some h'∧sliceR x l h' none=some r:=by
 have h:((evE Φ q ρ a).bind fun x=>(evO Φ q ρ lo).bind fun l=>(evO Φ q ρ hi).bind fun h=>sliceR x l h none)=some r:=qAz (by kernel_rfl) h
 obtain⟨x,hx,h⟩:=bind_inv h
 obtain⟨l,hl,h⟩:=bind_inv h
 obtain⟨h',hh,h⟩:=bind_inv h
 exact⟨x,l,h',hx,hl,hh,h⟩
theorem iv_list {es:PL}(h:evE Φ q ρ (.list es)=some r):∃rs,evL Φ q ρ es=some rs∧r=Rs.new (.list (rs.map (·.d))) (rs.foldr (fun r t=>(eff r.d r.t).held.join t) Tg.z):=by
 have h:((evL Φ q ρ es).bind fun rs=>some (Rs.new (.list (rs.map (·.d))) (rs.foldr (fun r t=>(eff r.d r.t).held.join t) Tg.z)))=some r:=qAz (by kernel_rfl) h
 obtain⟨x,hx,h⟩:=bind_inv h
 exact⟨x,hx,(qA8 h).symm⟩
noncomputable def compFn (Φ:Fns)(ρ:Env')(v:Nat)(t:Tg)(elt:PE)(c:PTo)(d:D):Option (Option Rs):=
 match evTo Φ true (ρ.set v (some (d,.val (eff d t)))) c with
 |some true=>(match evE Φ true (ρ.set v (some (d,.val (eff d t)))) elt with
  |some r=>some (some r)
  |none=>none)
 |some false=>some none
 |none=>none
theorem compFn_inv {v:Nat}{t:Tg}{elt:PE}{c:PTo}{d:D}{r:Option Rs}(h:compFn Φ ρ v t elt c d=some r):∃b,evTo Φ true (ρ.set v (some (d,.val (eff d t)))) c=some b∧
  ((b=true∧∃x,evE Φ true (ρ.set v (some (d,.val (eff d t)))) elt=some x∧r=some x)∨(b=false∧r=none)):=by
 unfold compFn at h
 cases hb:evTo Φ true (ρ.set v (some (d,.val (eff d t)))) c with
 |none=>rw [hb] at h;cases h
 |some b=>
  rw [hb] at h
  refine⟨b,rfl,?_⟩
  cases b with
  |false=>exact .inr ⟨rfl,(qA8 h).symm⟩
  |true=>
   cases he:evE Φ true (ρ.set v (some (d,.val (eff d t)))) elt with
   |none=>simp only [he] at h;cases h
   |some x=>
    simp only [he] at h
    exact .inl ⟨rfl,x,rfl,(qA8 h).symm⟩
theorem iv_comp {elt:PE}{v:Nat}{it:PI}{c:PTo}(h:evE Φ q ρ (.comp elt v it c)=some r):∃its l,evI Φ q ρ it=some its∧compL (compFn Φ ρ v its.t elt c) its.ds=some l∧l.length≤SZ∧r=Rs.new (.list l) Tg.z:=by
 have h:((evI Φ q ρ it).bind fun its=>(compL (compFn Φ ρ v its.t elt c) its.ds).bind fun l=>if l.length≤SZ then some (Rs.new (.list l) Tg.z) else none)=some r:=qAz (by kernel_rfl) h
 obtain⟨x,hx,h⟩:=bind_inv h
 obtain⟨l,hl,h⟩:=bind_inv h
 obtain⟨h1,h2⟩:=if_inv h
 exact⟨x,l,hx,hl,h1,h2⟩
theorem iv_call {f:Nat}{as:PL}(h:evE Φ q ρ (.call f as)=some r):∃rs d,evL Φ q ρ as=some rs∧Φ q f (rs.map (·.d))=some d∧r=Rs.new d Tg.z:=by
 have h:((evL Φ q ρ as).bind fun rs=>(Φ q f (rs.map (·.d))).bind fun d=>some (Rs.new d Tg.z))=some r:=qAz (by kernel_rfl) h
 obtain⟨x,hx,h⟩:=bind_inv h
 obtain⟨d,hd,h⟩:=bind_inv h
 exact⟨x,d,hx,hd,(qA8 h).symm⟩
theorem iv_bi {b:BI}{as:PL}(h:evE Φ q ρ (.bi b as)=some r):∃rs,evL Φ q ρ as=some rs∧biR b rs=some r:=by
 have h:((evL Φ q ρ as).bind fun rs=>biR b rs)=some r:=qAz (by kernel_rfl) h
 exact bind_inv h
theorem iv_meth {m:ME}{o:PE}{as:PL}(h:evE Φ q ρ (.meth m o as)=some r):∃x rs,evE Φ q ρ o=some x∧evL Φ q ρ as=some rs∧methR m x rs=some r:=by
 have h:((evE Φ q ρ o).bind fun x=>(evL Φ q ρ as).bind fun rs=>methR m x rs)=some r:=qAz (by kernel_rfl) h
 obtain⟨x,hx,h⟩:=bind_inv h
 obtain⟨rs,hrs,h⟩:=bind_inv h
 exact⟨x,rs,hx,hrs,h⟩
theorem iv_repls {o:PE}{old l:List Nat}(h:evE Φ q ρ (.repl o old (.str l))=some r):∃x,evE Φ q ρ o=some x∧replR x old l=some r:=by
 have h:((evE Φ q ρ o).bind fun x=>replR x old l)=some r:=qAz (by kernel_rfl) h
 exact bind_inv h
theorem iv_var {i:Nat}(h:evE Φ q ρ (.var i)=some r):∃d vt,ρ[i]?=some (some (d,vt))∧r=Rs.val d vt.tg:=by
 have h:((ρ[i]?).bind fun s=>VT.get s)=some r:=qAz (by kernel_rfl) h
 obtain⟨s,hs,h⟩:=bind_inv h
 cases s with
 |none=>cases h
 |some z=>exact⟨z.1,z.2,hs,(qA8 h).symm⟩
end

section
variable {prog:Program}{w:World}{c:Nm}{Φ:Fns}{k:Nat}{nm:List Str}{kd:Kinds}
theorem int_of {h:Heap}{T:Nat}{X1 X2:Addr→Prop}{i:Int}{v:Value}(r:Rd h T X1 X2 (.int i) v):∃t,v=.int i t:=r
theorem tint_of {O B:Addr→Prop}{h:Heap}{T:Nat}{t:Tg}{d:D}{i:Int}{v:Value}(r:RdT O B h T t d v)(e:d=.int i):∃t,v=.int i t:=by subst e;exact r
theorem tstr_of {O B:Addr→Prop}{h:Heap}{T:Nat}{t:Tg}{d:D}{l:List Nat}{v:Value}(r:RdT O B h T t d v)(e:d=.str l):l.length≤SZ∧∃t,v=.str (mk l) t:=by subst e;exact r
inductive StrsE:List qA2→List (List Nat)→Prop
 |nil:StrsE [] []
 |cons {x:Str} {kk:Nat} {p:Pos} {l:List Nat} {es:List qA2} {ls:List (List Nat)} (hx:x=mk l) (hl:l.length≤SZ) (r:StrsE es ls):StrsE (.Constant (.str x) kk p::es) (l::ls)
theorem GL.each {pl:PL}{a:qA2}{as':List qA2}(h:GL prog w c Φ k nm kd pl (a::as'))(env:Env)(pos:Pos) :
  starEach (a::as') env=(false,eval a env)::starEach as' env∧(backTo pos (starEach as' env)).any (·.1)=false∧(backTo pos (starEach (a::as') env)).all (fun x=>!x.1)=true:=
 ⟨star_cons (h.star a (qA5 ..)),(each_plain (star_all fun e he=>h.star e (qA3 _ he))).1,(each_plain (star_all h.star)).2⟩
theorem mslot (m:ME):PySem.Slot "str" (mname m) (mid m)∧typeOf (.builtin (mid m))=pure (.type "method_descriptor"):=by
 cases m
 ·exact⟨qGs,F.type_str_find⟩
 ·exact⟨F.slot_str_rfind,F.type_str_rfind⟩
 ·exact⟨qGs,F.type_str_find⟩
 ·exact⟨qFb,F.type_str_split⟩
 ·exact⟨F.slot_str_startswith,F.type_str_startswith⟩
 ·exact⟨F.slot_str_endswith,F.type_str_endswith⟩
 ·exact⟨F.slot_str_count,F.type_str_count⟩
 ·exact⟨F.slot_str_join,F.type_str_join⟩
theorem methR_str {m:ME}{o r:Rs}{as:List Rs}(e:methR m o as=some r):∃x,o.d=.str x:=by
 obtain⟨d,t,f⟩:=o
 rcases d with _|_<;>first|exact⟨_,rfl⟩|cases e
theorem replR_str {o r:Rs}{a b:List Nat}(e:replR o a b=some r):∃x,o.d=.str x:=by
 obtain⟨d,t,f⟩:=o
 rcases d with _|_<;>first|exact⟨_,rfl⟩|cases e
theorem set_folds {e:qA2}{env:Env}(h:notSet e=true):∀x,foldedSetIterable e env x=pure x:=by
 intro x
 rcases e with _|_<;>first|rfl|exact nof h
noncomputable def notCond (e:qA2):Bool:=!(e.ctorIdx==0 || e.ctorIdx==3 || e.ctorIdx==5 || e.ctorIdx==15)
theorem isTrue_val {e:qA2}{env:Env}(h:notCond e=true)(whole:Sem Value) :
  isTrue e env whole=(do let v ←whole;standAt e.pos;holding [v] (truthy v)):=by
 rcases e with _|_<;>first|rfl|exact nof h
theorem ge_none {kk:Nat}{p:Pos}:GE prog w c Φ k nm kd .none (.Constant .none kk p):=fun _ _ _ _ _ _ _ _ _ he F hA h=>by
 obtain rfl:=qA8 he
 exact wpAny_Constant_none (h.flat (KQ.refl _ _) rfl rfl fun _ e=>by cases e)
theorem ge_bool {b:Bool}{kk:Nat}{p:Pos}:GE prog w c Φ k nm kd (.bool b) (.Constant (.bool b) kk p):=fun _ _ _ _ _ _ _ _ _ he F hA h=>by
 obtain rfl:=qA8 he
 exact wpAny_Constant_bool (h.flat (KQ.refl _ _) rfl rfl fun _ e=>by cases e)
theorem ge_int {i j:Int}{kk:Nat}{p:Pos}(hj:j=i):GE prog w c Φ k nm kd (.int i) (.Constant (.int j) kk p):=fun _ _ _ _ _ _ _ _ _ he F hA h=>by
 subst hj
 obtain rfl:=qA8 he
 exact wpAny_Constant_int (h.flat (KQ.tok (qAj _)) rfl ⟨_,rfl⟩ fun _ e=>by cases e)
theorem ge_str {x:Str}{l:List Nat}{kk:Nat}{p:Pos}(hx:x=mk l)(hl:l.length≤SZ):GE prog w c Φ k nm kd (.str l) (.Constant (.str x) kk p):=fun _ _ _ _ _ _ _ _ _ he F hA h=>by
 obtain rfl:=qA8 he
 subst hx
 exact wpAny_Constant_str (h.flat (KQ.tok (qAj _)) rfl ⟨hl,_,rfl⟩ fun _ e=>by cases e)
theorem ge_gstr (nok:NmOk c){x:Str}{l:List Nat}{p:Pos}(hx:x = "ELLIPSIS_MARKER")(hl:l=[46,46,46])(hk:kd.lookup ("ELLIPSIS_MARKER" : Str)=some .globalImplicit):GE prog w c Φ k nm kd (.gstr l) (.Name x p):=fun _ _ _ _ _ _ _ _ _ he F hA h=>by
 subst hx hl
 obtain rfl:=qA8 he
 obtain⟨t,ht⟩:=nok.dots
 exact ld_glob F.ok F.st hk (by decide) ht (h.flat (KQ.refl _ _) rfl ⟨by unfold SZ;decide,_,rfl⟩ fun _ e=>by cases e)
theorem jA0 {i:Nat}{x:Str}{p:Pos}(hv:isVar nm kd i x=true):GE prog w c Φ k nm kd (.var i) (.Name x p):=fun _ _ _ _ _ _ _ _ _ he F hA h=>by
 obtain⟨hn,hk,hd⟩:=isVar_of hv
 obtain⟨d,vt,hs,rfl⟩:=iv_var he
 obtain⟨v,h1,h2⟩:=F.vars i d vt x hs hn hk
 exact ld_var F.ok hd h1 (h v _ (KQ.refl _ _) h2.eff fun e=>by cases e)
theorem ge_bin {op:BOp}{op':Operator}{a b:PE}{a' b':qA2}{p:Pos}(ho:op'=opOf op)(ha:GE prog w c Φ k nm kd a a')(hb:GE prog w c Φ k nm kd b b'):GE prog w c Φ k nm kd (.bin op a b) (.BinOp a' op' b' p):=fun _ _ _ _ _ _ _ _ _ he F hA h=>by
 subst ho
 obtain⟨x,y,d,hx,hy,hd,rfl⟩:=iv_bin he
 refine wpAny_BinOp (ha hx F hA fun v s1 k1 r1 _=>hb hy (F.next k1) hA fun u s2 k2 r2 _=>?_)
 have F2:=(F.next k1).next k2
 exact bin_sound hd (r1.mono k2.toks k2.keep) r2 F2.hB F2.hO (h.made (k1.trans k2))
theorem ge_neg {a:PE}{a':qA2}{p:Pos}(ha:GE prog w c Φ k nm kd a a'):GE prog w c Φ k nm kd (.neg a) (.UnaryOp .USub a' p):=fun _ _ _ _ _ _ _ _ _ he F hA h=>by
 obtain⟨x,i,hx,hi,rfl⟩:=iv_neg he
 refine wpAny_UnaryOp (ha hx F hA fun v s1 k1 r1 _=>?_)
 obtain⟨t,rfl⟩:=tint_of r1 hi
 exact qH1 (h.flat (k1.trans (KQ.tok (qAj _))) rfl ⟨_,rfl⟩ fun _ e=>by cases e)
theorem ge_cmp {op:COp}{op':CmpOp}{a b:PE}{a' b':qA2}{p:Pos}(ho:op'=cpOf op)(hm:notSet b'=true)(ha:GE prog w c Φ k nm kd a a')(hb:GE prog w c Φ k nm kd b b'):GE prog w c Φ k nm kd (.cmp op a b) (.Compare a' [op'] [b'] p):=fun _ _ _ _ _ _ _ _ _ he F hA h=>by
 subst ho
 obtain⟨x,y,d,hx,hy,hd,rfl⟩:=iv_cmp he
 refine wpAny_Compare1 (ha hx F hA fun v s1 k1 r1 _=>hb hy (F.next k1) hA fun u s2 k2 r2 _=>?_) (notSet_marks hm)
 exact cmp_sound (by have:=hA.units;exact jL [_,_,_] [cL (eA (eA xa (eM 100 xb)) (eN 100)) xc] (cT xa xc) jT this) hd (r1.mono k2.toks k2.keep) r2 (h.flat (k1.trans k2) rfl rfl fun _ e=>by cases e)
theorem ge_ife {t:PT}{a b:PE}{t' a' b':qA2}{p:Pos}(ht:GT prog w c Φ k nm kd t t')(ha:GE prog w c Φ k nm kd a a')(hb:GE prog w c Φ k nm kd b b'):GE prog w c Φ k nm kd (.ife t a b) (.IfExp t' a' b' p):=fun _ _ _ _ _ _ _ _ _ he F hA h=>by
 obtain⟨b,hx,he⟩:=iv_ife he
 refine wpAny_IfExp (ht hx F hA fun s1 k1=>?_)
 cases b with
 |true=>exact ha he (F.next k1) hA (h.after k1)
 |false=>exact hb he (F.next k1) hA (h.after k1)
theorem ge_idx {a i:PE}{a' i':qA2}{p:Pos}(hs:notSlice i'=true)(ha:GE prog w c Φ k nm kd a a')(hi:GE prog w c Φ k nm kd i i'):GE prog w c Φ k nm kd (.idx a i) (.Subscript a' i' p):=fun _ _ _ _ _ _ _ _ _ he F hA h=>by
 obtain⟨x,y,hx,hy,he⟩:=iv_idx he
 exact Subscript_ (ha hx F hA fun v s1 k1 r1 _=>hi hy (F.next k1) hA fun u s2 k2 r2 _=>idx_sound he (r1.mono k2.toks k2.keep) r2 hs (h.made (k1.trans k2)))
theorem go_no:GO prog w c Φ k nm kd .no none:=fun _ _ _ _ _ _ _ _ _ he F hA h=>by
 obtain rfl:=qA8 he
 exact wpAny_evalPart_none (h _ _ (KQ.refl _ _) .none)
theorem go_some {e:PE}{e':qA2}(ha:GE prog w c Φ k nm kd e e'):GO prog w c Φ k nm kd (.some e) (some e'):=fun {q ρ r env A s O B Q} he F hA h=>by
 have he:((evE Φ q ρ e).bind fun r=>match r.d with|.int i=>(if small i=true then some (some i) else none)|_=>none)=some r:=qAz (by kernel_rfl) he
 obtain⟨x,hx,he⟩:=bind_inv he
 obtain⟨i,hi,he⟩:=dInt he
 obtain⟨_,rfl⟩:=if_inv he
 refine wpAny_evalPart_some (ha hx F hA fun v s1 k1 r1 _=>?_)
 obtain⟨t,rfl⟩:=tint_of r1 hi
 exact h _ _ k1 (isPart_int _ _)
theorem ge_slice {a:PE}{lo hi:PO}{a':qA2}{lo' hi':Option qA2}{p p':Pos}(ha:GE prog w c Φ k nm kd a a')(hl:GO prog w c Φ k nm kd lo lo')(hh:GO prog w c Φ k nm kd hi hi') :
  GE prog w c Φ k nm kd (.slice a lo hi) (.Subscript a' (.Slice lo' hi' none p) p'):=fun _ _ _ _ _ _ _ _ _ he F hA h=>by
 obtain⟨x,l,h',hx,hl',hh',he⟩:=iv_slice he
 refine Subscript_ (ha hx F hA fun v s1 k1 r1 _=>wpAny_Slice (hl hl' (F.next k1) hA fun vl s2 k2 pl=>hh hh' ((F.next k1).next k2) hA fun vh s3 k3 ph=>wpAny_evalPart_none ?_))
 have k4:=KQ.push (q:=true) (s:=s3) { cls:=.type "slice", data:=.fields #[vl,vh,.none] }
 have k5:=k2.trans (k3.trans k4.weak)
 have F4:=((F.next k1).next k5)
 exact slice_sound he (r1.mono k5.toks k5.keep) (Heap.IsSliceOf.new ..) pl ph .none (by simp) F4.hB F4.hO sub_slice1 (h.made (k1.trans k5))
theorem gl_nil':GL prog w c Φ k nm kd .nil [] where
 star:=fun _ h=>nomatch h
 len:=fun h=>by obtain rfl:=qA8 h;rfl
 run:=fun he F hA h=>by
  obtain rfl:=qA8 he
  exact args_nil (h [] _ (KQ.refl _ _) rfl)
theorem evL_inv {e:PE}{r:PL}{q:Bool}{ρ:Env'}{rs:List Rs}(h:evL Φ q ρ (.cons e r)=some rs):∃x xs,evE Φ q ρ e=some x∧evL Φ q ρ r=some xs∧rs=x::xs:=by
 have h:((evE Φ q ρ e).bind fun x=>(evL Φ q ρ r).bind fun xs=>some (x::xs))=some rs:=qAz (by kernel_rfl) h
 obtain⟨x,hx,h⟩:=bind_inv h
 obtain⟨xs,hxs,h⟩:=bind_inv h
 exact⟨x,xs,hx,hxs,(qA8 h).symm⟩
theorem gl_cons {e:PE}{r:PL}{e':qA2}{r':List qA2}(hs:notStar e'=true)(he:GE prog w c Φ k nm kd e e')(hr:GL prog w c Φ k nm kd r r'):GL prog w c Φ k nm kd (.cons e r) (e'::r') where
 star:=fun x h=>by
  rcases qA6.mp h with rfl|h
  ·exact hs
  ·exact hr.star x h
 len:=fun h=>by
  obtain⟨x,xs,_,hxs,rfl⟩:=evL_inv h
  rw [qAd,qAd,hr.len hxs]
 run:=fun h F hA hQ=>by
  obtain⟨x,xs,hx,hxs,rfl⟩:=evL_inv h
  exact args_cons (he hx F hA fun v s1 k1 r1 _=>hr.run hxs (F.next k1) hA fun vs s2 k2 a2=>hQ _ _ (k1.trans k2) ⟨v,vs,rfl,r1.mono k2.toks k2.keep,a2⟩) (star_cons hs)
theorem ge_list {es:PL}{es':List qA2}{p:Pos}(hlen:es'.length≤SZ)(h1:GL prog w c Φ k nm kd es es'):GE prog w c Φ k nm kd (.list es) (.List es' p):=fun _ _ _ _ _ _ _ _ _ he F hA h=>by
 obtain⟨rs,hrs,rfl⟩:=iv_list he
 refine wpAny_List (h1.run hrs F hA fun vs s1 k1 a1=>?_)
 have hr:=a1.held
 have hl:rs.length≤SZ:=by rw [h1.len hrs];exact hlen
 have hv:=hr.length
 rw [qAa] at hv
 exact⟨by rw [hv,←SZ_eq];exact hl,(h.made k1).list (by rw [qAa];exact hl) hr (F.next k1).hB (F.next k1).hO⟩
theorem comp_body {v:Nat}{t:Tg}{elt:PE}{cc:PTo}{elt':qA2}{ifs:List qA2}{envC:Env}{ρ:Env'}{O B:Addr→Prop}{A:Around}{s:Shared}{d:D}{r:Option Rs}
  (h2:GTo prog w c Φ k nm kd cc ifs) (h3:GE prog w c Φ k nm kd elt elt') (F3:FrE c envC nm kd O B (ρ.set v (some (d,.val (eff d t)))) s) (hA:AOk k A) :
  compFn Φ ρ v t elt cc d=some r→wpAny (model prog w) A (ifsRun ifs envC) (fun ok s₄=>KQ true s s₄∧(match r with
     |none=>ok=false
     |some r=>ok=true∧wpAny (model prog w) A (eval elt' envC) (fun y s₅=>KQ true s₄ s₅∧RdT O B s₅.heap s₅.toks r.t r.d y) NoE s₄)) NoE s:=by
 intro hf
 obtain⟨b,hb,⟨rfl,y,hy,rfl⟩|⟨rfl,rfl⟩⟩:=compFn_inv hf
 ·exact h2 hb F3 hA fun s₄ k4=>⟨k4,rfl,h3 hy (F3.next k4) hA fun y s₅ k5 r5 _=>⟨k5,r5⟩⟩
 ·exact h2 hb F3 hA fun s₄ k4=>⟨k4,rfl⟩
theorem ge_comp {elt:PE}{v:Nat}{it:PI}{cc:PTo}{elt' it':qA2}{x:Str}{px p:Pos}{ifs:List qA2}{scope:Scope}{z:Int}(hz:z=0)(hv:nm[v]?=some x)(hc:compOk scope nm kd x v=true)(hns:notSet it'=true)
  (h1:GIt prog w c Φ k nm kd it it') (h2:GTo prog w c Φ k nm (relK scope.names kd) cc ifs) (h3:GE prog w c Φ k nm (relK scope.names kd) elt elt') :
  GE prog w c Φ k nm kd (.comp elt v it cc) (.ListComp elt' [⟨.Name x px,it',ifs,z⟩] scope p):=fun _ _ _ _ _ _ _ _ _ he F hA h=>by
 subst hz
 obtain⟨its,l,hits,hl,hsz,rfl⟩:=iv_comp he
 obtain⟨c1,c2,c3,c4,c5,_⟩:=comp_env F.ok hc
 refine comp_rule _ c1 c2 c3 c4 c5 F.hB F.hO (set_folds hns) hl (h1 hits F hA) ?_ ?_
 ·intro D C wr u s₁ s₃ m₃ d r hD hC hw k1 dD dC dw hn hm hk ht _ hu hf
  exact comp_body h2 h3 (F.comp hc hv k1 hk ht hD hC hw dD dC dw hn hm hu) hA hf
 ·intro D vs s' k' hD hL hR
  exact h _ _ k' ⟨hsz,D,vs,rfl,hL.isList,X.free F.hB F.hO hD,hR⟩ fun _ a e=>by cases e;exact⟨hD,_,hL⟩
theorem ge_call (nok:NmOk c)(fns:FnsOk prog w c Φ k){f:Nat}{as:PL}{x:Str}{a:qA2}{as':List qA2}{p p':Pos}(hf:c.fn[f]?=some x)(hg:isGlob kd x x=true)(h1:GL prog w c Φ k nm kd as (a::as')) :
  GE prog w c Φ k nm kd (.call f as) (.Call (.Name x p) (a::as') [] p'):=fun {q ρ r env A s O B Q} he F hA h=>by
 obtain⟨rs,d,hrs,hd2,rfl⟩:=iv_call he
 obtain⟨_,hk,hd⟩:=isGlob_of hg
 obtain⟨o,fd,ho,hdat⟩:=F.st.fun_ f x hf
 refine Call_ (ld_glob F.ok F.st hk hd (nok.fns f x hf) (callWith_def (o:=o) hdat (h1.run hrs F hA fun vs s1 k1 a1=>⟨k1.keep _ _ ho,?_⟩) (h1.each env p').1))
 have F1:=F.next k1
 refine fns _ f _ d hd2 _ s1 vs hA F1.st F1.tk a1.no _ fun v s' k' r' p'=>?_
 refine h v s' (k1.trans k') ?_ fun _ a e=>⟨none_back k1.keep (ref_free r' a e),p' a e⟩
 exact Rd.mono (qA7 _) (fun _ _ _=>id) (fun _ _ _=>id) (fun a _ hx=>hx.elim (fun z=>F1.hO a z.2) fun z=>F1.hB a z.2) (fun a _ hx=>hx.elim (fun z=>F1.hO a z.2) fun z=>F1.hB a z.2) _ _ r'
theorem ge_bi (nok:NmOk c){b:BI}{as:PL}{x:Str}{a:qA2}{as':List qA2}{p p':Pos}(hg:isGlob kd x (qA0 (bname b))=true)(h1:GL prog w c Φ k nm kd as (a::as')) :
  GE prog w c Φ k nm kd (.bi b as) (.Call (.Name x p) (a::as') [] p'):=fun {q ρ r env A s O B Q} he F hA h=>by
 obtain⟨rs,hrs,he⟩:=iv_bi he
 obtain⟨rfl,hk,hd⟩:=isGlob_of hg
 obtain⟨hg,hb⟩:=nok.bi b
 exact Call_ (ld_blt F.ok F.st hk hd hg hb (callWith_builtin1 (h1.run hrs F hA fun vs s1 k1 a1=>bi_sound hA.zero he a1 (F.next k1).hB (F.next k1).hO (h.made k1)) (h1.each env p').1 (h1.each env p').2.1))
theorem ge_meth {m:ME}{o:PE}{as:PL}{o' a:qA2}{name:Str}{as':List qA2}{ap p:Pos}(hn:name=mname m)(hline:(ap.endLine==p.line)=true)(hsup:notSuper o'=true)(hlen:as'.length<20)
  (ho:GE prog w c Φ k nm kd o o') (h1:GL prog w c Φ k nm kd as (a::as')):GE prog w c Φ k nm kd (.meth m o as) (.Call (.Attribute o' name ap) (a::as') [] p):=fun {q ρ r env A s O B Q} he F hA h=>by
 subst hn
 obtain⟨x,rs,hx,hrs,he⟩:=iv_meth he
 obtain⟨l,hl⟩:=methR_str he
 have hE:=h1.each env p
 refine wpAny_Call_method_lateS (base_eq hsup) ?_ hline (ho hx F hA fun v s1 k1 r1 _=>?_)
 ·rw [hE.2.2]
  show decide (as'.length+1<30)=true
  exact decide_eq_true (qBj (Nat.succ_lt_succ hlen) (by decide))
 ·obtain⟨_,t,rfl⟩:=tstr_of r1 hl
  refine⟨"str", mid m,qEy,(mslot m).1,(mslot m).2,typeIs_str _ _ _,fun a e=>(by cases e),?_⟩
  refine callWith_method1 (h1.run hrs (F.next k1) hA fun vs s2 k2 a2=>?_) hE.1 hE.2.1
  have F2:=(F.next k1).next k2
  exact meth_sound he (r1.mono k2.toks k2.keep) a2 F2.hB F2.hO (h.made (k1.trans k2))
theorem repl_end {x r:Rs}{old new:List Nat}{O B:Addr→Prop}{q:Bool}{A:Around}{s s1:Shared}{v:Value}{Q:Value→Shared→Prop}(hnew:replR x old new=some r)(k1:KQ q s s1)(ht:1≤s1.toks)(r1:RdT O B s1.heap s1.toks x.t x.d v)
  (h:Res O B q s r Q) {tk:Nat} {t:Tok} (htk:s1.toks+1≤tk) (ht0:t≠0) (hts:t≠s1.toks):wpAny (model prog w) A (call (.builtin "str.replace") [v,.str (mk old) s1.toks,.str (mk new) t]) Q NoE { s1 with toks:=tk }:=
 repl_sound hnew (r1.mono (qF3 htk) (fun _ _=>id)) (qCf ht) ht0 (qBz hts) (h.made (k1.trans (KQ.tok (qF3 htk))))
theorem ge_repls {o:PE}{old l2:List Nat}{o':qA2}{n1 n2 name:Str}{ap p p1 p2:Pos}{kk1 kk2:Nat}(hn:name = "replace")(hline:(ap.endLine==p.line)=true)(hsup:notSuper o'=true)(h1:n1=mk old)(h2:n2=mk l2)(ho:GE prog w c Φ k nm kd o o') :
  GE prog w c Φ k nm kd (.repl o old (.str l2)) (.Call (.Attribute o' name ap) [.Constant (.str n1) kk1 p1,.Constant (.str n2) kk2 p2] [] p):=fun {q ρ r env A s O B Q} he F hA h=>by
 subst hn h1 h2
 obtain⟨x,hx,he⟩:=iv_repls he
 refine wpAny_Call_method_lateS (base_eq hsup) rfl hline (ho hx F hA fun v s1 k1 r1 _=>?_)
 obtain⟨y,hy⟩:=replR_str he
 have tk1:=(F.next k1).tk
 have fin:=@repl_end prog w x r old l2 O B q A s s1 v Q he k1 tk1 r1 h
 obtain⟨_,t,rfl⟩:=tstr_of r1 hy
 refine⟨"str", "str.replace", qEy,PySem.F.slot_str_replace,PySem.F.type_str_replace,typeIs_str _ _ _,fun a e=>(by cases e),?_⟩
 exact callWith_method1 (args_cons (wpAny_Constant_str (args_cons (wpAny_Constant_str (args_nil (fin (qAj _) (qCw _) (Nat.succ_ne_self _))))))) rfl rfl
theorem gt_val {e:PE}{e':qA2}(hv:notCond e'=true)(he:GE prog w c Φ k nm kd e e'):GT prog w c Φ k nm kd (.val e) e':=fun {q ρ b env A s O B Q} h F hA hQ=>by
 have h:((evE Φ q ρ e).bind fun r=>truth r.d)=some b:=qAz (by kernel_rfl) h
 obtain⟨r,hr,h⟩:=bind_inv h
 exact wpAny_isTrue_value (he hr F hA fun v s1 k1 r1 _=>truth_sound h r1 fun s2 k2=>hQ _ (k1.trans k2.weak)) (isTrue_val hv _)
theorem gt_cmp {op:COp}{op':CmpOp}{a b:PE}{a' b':qA2}{p:Pos}(ho:op'=cpOf op)(hm:notSet b'=true)(ha:GE prog w c Φ k nm kd a a')(hb:GE prog w c Φ k nm kd b b'):GT prog w c Φ k nm kd (.cmp op a b) (.Compare a' [op'] [b'] p):=fun _ _ _ _ _ _ _ _ _ he F hA h=>by
 subst ho
 obtain⟨x,y,hx,hy,he⟩:=it_cmp he
 refine wpAny_isTrue_Compare1 (ha hx F hA fun v s1 k1 r1 _=>hb hy (F.next k1) hA fun u s2 k2 r2 _=>?_) (notSet_marks hm)
 refine cmp_sound (by have:=hA.units;exact jL [_,_,_] [cL (eA (eA xa (eM 100 xb)) (eN 100)) xc] (cT xa xc) jT this) he (r1.mono k2.toks k2.keep) r2 ?_
 exact truth_sound (x:=.bool _) (tx:=Tg.z) (O:=No) (B:=No) rfl rfl fun s3 k3=>h _ ((k1.trans k2).trans k3.weak)
theorem gt_not {t:PT}{t':qA2}{p:Pos}(ht:GT prog w c Φ k nm kd t t'):GT prog w c Φ k nm kd (.not t) (.UnaryOp .Not t' p):=fun {q ρ b env A s O B Q} he F hA h=>by
 have he:((evT Φ q ρ t).bind fun b=>some (!b))=some b:=qAz (by kernel_rfl) he
 obtain⟨x,hx,he⟩:=bind_inv he
 obtain rfl:=qA8 he
 exact wpAny_isTrue_Not (ht hx F hA h)
theorem it_and {t u:PT}{q:Bool}{ρ:Env'}{b:Bool}(he:evT Φ q ρ (.and t u)=some b):(evT Φ q ρ t=some true∧evT Φ q ρ u=some b)∨(evT Φ q ρ t=some false∧b=false):=by
 obtain⟨x,hx,he⟩:=oBool (o:=evT Φ q ρ t) (x:=evT Φ q ρ u) (y:=some false) (qAz (by kernel_rfl) he)
 cases x with
 |true=>exact .inl ⟨hx,he⟩
 |false=>exact .inr ⟨hx,(qA8 he).symm⟩
theorem it_or {t u:PT}{q:Bool}{ρ:Env'}{b:Bool}(he:evT Φ q ρ (.or t u)=some b):(evT Φ q ρ t=some false∧evT Φ q ρ u=some b)∨(evT Φ q ρ t=some true∧b=true):=by
 obtain⟨x,hx,he⟩:=oBool (o:=evT Φ q ρ t) (x:=some true) (y:=evT Φ q ρ u) (qAz (by kernel_rfl) he)
 cases x with
 |false=>exact .inl ⟨hx,he⟩
 |true=>exact .inr ⟨hx,(qA8 he).symm⟩
theorem gt_and {t u:PT}{t' u':qA2}{p:Pos}(ht:GT prog w c Φ k nm kd t t')(hu:GT prog w c Φ k nm kd u u'):GT prog w c Φ k nm kd (.and t u) (.BoolOp .And [t',u'] p):=fun {q ρ b env A s O B Q} he F hA h=>by
 refine wpAny_isTrue_BoolOp (wpAny_allTrue_And_cons ?_)
 rcases it_and he with⟨hb,he⟩|⟨hb,rfl⟩
 ·refine ht hb F hA fun s1 k1=>wpAny_allTrue_And_cons (hu he (F.next k1) hA fun s2 k2=>?_)
  have:=h s2 (k1.trans k2)
  cases b with
  |true=>exact wpAny_allTrue_And_nil this
  |false=>exact this
 ·exact ht hb F hA fun s1 k1=>h s1 k1
theorem gt_or {t u:PT}{t' u':qA2}{p:Pos}(ht:GT prog w c Φ k nm kd t t')(hu:GT prog w c Φ k nm kd u u'):GT prog w c Φ k nm kd (.or t u) (.BoolOp .Or [t',u'] p):=fun {q ρ b env A s O B Q} he F hA h=>by
 refine wpAny_isTrue_BoolOp (wpAny_allTrue_Or_cons ?_)
 rcases it_or he with⟨hb,he⟩|⟨hb,rfl⟩
 ·refine ht hb F hA fun s1 k1=>wpAny_allTrue_Or_cons (hu he (F.next k1) hA fun s2 k2=>?_)
  have:=h s2 (k1.trans k2)
  cases b with
  |true=>exact this
  |false=>exact wpAny_allTrue_Or_nil this
 ·exact ht hb F hA fun s1 k1=>h s1 k1
theorem gto_no:GTo prog w c Φ k nm kd .no []:=fun _ _ _ _ _ _ _ _ _ he F hA h=>by
 obtain rfl:=qA8 he
 exact wpAny_pure (h _ (KQ.refl _ _))
theorem gto_some {t:PT}{t':qA2}(ht:GT prog w c Φ k nm kd t t'):GTo prog w c Φ k nm kd (.some t) [t']:=fun _ _ _ _ _ _ _ _ _ he F hA h=>by
 unfold ifsRun
 rw [qE3]
 exact wpAny_bind (wpAny_bind (ht he F hA fun s1 k1=>wpAny_pure (wpAny_pure (h _ k1))))
theorem it_val {e:PE}{q:Bool}{ρ:Env'}{its:Items}(h:evI Φ q ρ (.val e)=some its):∃r,evE Φ q ρ e=some r∧((∃ds,r.d=.list ds∧its=⟨ds,r.t.item,r.t.top⟩)∨∃l,r.d=.str l∧its=⟨l.map fun c=>.str [c],Tg.z,false⟩):=by
 have h:((evE Φ q ρ e).bind fun r=>match r.d with
   |.list ds=>some ⟨ds,r.t.item,r.t.top⟩
   |.str l=>some ⟨l.map fun c=>.str [c],Tg.z,false⟩
   |_=>none)=some its:=qAz (by kernel_rfl) h
 obtain⟨r,hr,h⟩:=bind_inv h
 refine⟨r,hr,?_⟩
 obtain⟨d,t,f⟩:=r
 cases d with
 |list ds=>exact .inl ⟨ds,rfl,(qA8 h).symm⟩
 |str l=>exact .inr ⟨l,rfl,(qA8 h).symm⟩
 |_=>cases h
theorem src_list' {A:Around}(hh:A.handled=none){O B:Addr→Prop}{q:Bool}{s s1:Shared}{ds:List D}{t:Tg}{v:Value}(k1:KQ q s s1)(r1:RdT O B s1.heap s1.toks t (.list ds) v) :
  wpAny (model prog w) A (pyIter v) (fun itv s₂=>Src prog w A O B q s ⟨ds,t.item,t.top⟩ (fun b=>¬X O B t.top t.item.base b) itv s₂) NoE s1:=by
 refine wpAny_mono (src_list hh k1 r1) (fun itv s₂ h₂=>?_) fun _ _ e=>e
 obtain⟨I,fp,wr,P,St,s₁',h₂',tk₂,a1,a2,a3,a4,a5,a6,a7,a8,a9,a10,a11,a12⟩:=h₂
 refine⟨I,fp,wr,P,St,s₁',h₂',tk₂,a1,a2,a3,a4,a5,a6,a7,a8,a9,a10,a11,fun b hb hw=>⟨(a12 b hb hw).1,?_⟩⟩
 have e:=(a12 b hb hw).2
 subst e
 obtain⟨_,a,vs,e,_,hx,_⟩:=r1
 cases e
 exact hx
theorem gi_val {e:PE}{e':qA2}(he:GE prog w c Φ k nm kd e e'):GIt prog w c Φ k nm kd (.val e) e':=fun {q ρ its env A s O B} h F hA=>by
 obtain⟨⟨d,t,f⟩,hr,⟨ds,rfl,rfl⟩|⟨l,rfl,rfl⟩⟩:=it_val h
 ·exact he hr F hA fun v s1 k1 r1 _=>src_list' hA.hd k1 r1
 ·exact he hr F hA fun v s1 k1 r1 _=>src_str hA.hd k1 r1
theorem gi_range1 (nok:NmOk c){n:PE}{n':qA2}{x:Str}{p p':Pos}(hg:isGlob kd x "range" = true)(hs:notStar n'=true)(hn:GE prog w c Φ k nm kd n n'):GIt prog w c Φ k nm kd (.range1 n) (.Call (.Name x p) [n'] [] p'):=fun {q ρ its env A s O B} h F hA=>by
 have h:((evE Φ q ρ n).bind fun r=>match r.d with|.int k=>(if (tiny k&&decide (k≤SZ))=true then some (⟨rangeL 0 k,Tg.z,false⟩:Items) else none)|_=>none)=some its:=qAz (by kernel_rfl) h
 obtain⟨r,hr,h⟩:=bind_inv h
 obtain⟨kk,hkk,h⟩:=dInt h
 obtain⟨hc,rfl⟩:=if_inv h
 obtain⟨hc1,hc2⟩:=qAl.mp hc
 have hc2:=of_decide_eq_true hc2
 obtain⟨rfl,hk,hd⟩:=isGlob_of hg
 refine Call_ (ld_blt F.ok F.st hk hd nok.range.1 nok.range.2 (callWith_type1 (args_cons (hn hr F hA fun v s1 k1 r1 _=>args_nil ?_) (star_cons hs)) (star_cons hs) rfl))
 obtain⟨t,rfl⟩:=tint_of r1 hkk
 exact call_range_1 (src_range hA.hd (k1.trans ((KQ.tok (qB4 (qAj _))).trans (KQ.push _))) (qB9 _ rfl) (by decide) hc1 (by lia))
end
end Mine
end

section
set_option maxRecDepth 10000
namespace Mine
set_option genSizeOf false
set_option genInjectivity false
open PySem PyProof.Rows PySem.SeqAt
mutual
noncomputable def D.dep:D→Nat
 |.list ds=>D.deps ds+1
 |_=>0
noncomputable def D.deps:List D→Nat
 |[]=>0
 |d::ds=>max d.dep (D.deps ds)
end
theorem isList_inj {h:Heap}{a:Addr}{vs us:List Value}(x:h.IsList a vs.toArray)(y:h.IsList a us.toArray):vs=us:=by
 obtain⟨o,h1,_,n,h2⟩:=x
 obtain⟨o',h3,_,n',h4⟩:=y
 rw [h1] at h3;cases h3
 rw [h2] at h4
 have:=congrArg (fun d=>match d with|Data.seq a _=>a.toList|_=>[]) h4
 simpa using this
mutual
theorem Rd.dep_eq {h:Heap}{T T':Nat}{X1 X2 X3 X4:Addr→Prop}:∀{d d':D} {v:Value},Rd h T X1 X2 d v→Rd h T' X3 X4 d' v→d.dep=d'.dep
 |.list ds,d',v,r,r'=>by
  rw [Rd] at r
  obtain⟨_,a,vs,rfl,hl,_,hs⟩:=r
  cases d' with
  |list ds'=>
   rw [Rd] at r'
   obtain⟨_,a',vs',e,hl',_,hs'⟩:=r'
   cases e
   have:=isList_inj hl hl';subst this
   have e2:=Rds.dep_eq hs hs'
   show D.deps ds+1=D.deps ds'+1
   exact jQ [_,_] [cQ xa xb] (eU xa) (eU xb) jT jT e2
  |none=>rw [Rd] at r';cases r'
  |bool b=>rw [Rd] at r';cases r'
  |int i=>rw [Rd] at r';obtain⟨_,e⟩:=r';cases e
  |str l=>rw [Rd] at r';obtain⟨_,_,e⟩:=r';cases e
  |cst l=>rw [Rd] at r';obtain⟨_,_,e,_⟩:=r';cases e
 |.none,d',v,r,r'=>flat_dep (by rw [Rd] at r;rintro a rfl;cases r) r'
 |.bool b,d',v,r,r'=>flat_dep (by rw [Rd] at r;rintro a rfl;cases r) r'
 |.int i,d',v,r,r'=>flat_dep (by rw [Rd] at r;rintro a rfl;obtain⟨_,e⟩:=r;cases e) r'
 |.str l,d',v,r,r'=>flat_dep (by rw [Rd] at r;rintro a rfl;obtain⟨_,_,e⟩:=r;cases e) r'
 |.cst l,d',v,r,r'=>flat_dep (by rw [Rd] at r;rintro a rfl;obtain⟨_,_,e,_⟩:=r;cases e) r'
theorem Rds.dep_eq {h:Heap}{T T':Nat}{X1 X2:Addr→Prop}:∀{ds ds':List D} {vs:List Value},Rds h T X1 ds vs→Rds h T' X2 ds' vs→D.deps ds=D.deps ds'
 |[],ds',vs,r,r'=>by
  rw [Rds] at r;subst r
  cases ds' with
  |nil=>rfl
  |cons _ _=>rw [Rds] at r';obtain⟨_,_,e,_⟩:=r';cases e
 |d::ds,ds',vs,r,r'=>by
  rw [Rds] at r
  obtain⟨v,us,rfl,h1,h2⟩:=r
  cases ds' with
  |nil=>rw [Rds] at r';cases r'
  |cons d' ds'=>
   rw [Rds] at r'
   obtain⟨v',us',e,h3,h4⟩:=r'
   cases e
   show max d.dep (D.deps ds)=max d'.dep (D.deps ds')
   rw [Rd.dep_eq h1 h3,Rds.dep_eq h2 h4]
theorem flat_dep {h:Heap}{T':Nat}{X3 X4:Addr→Prop}{v:Value}(hv:∀a,v≠.ref a):∀{d':D},Rd h T' X3 X4 d' v→0=d'.dep
 |.list ds,r'=>by rw [Rd] at r';obtain⟨_,a',vs',e,_⟩:=r';exact absurd e (hv _)
 |.none,r'=>rfl
 |.bool b,r'=>rfl
 |.int i,r'=>rfl
 |.str l,r'=>rfl
 |.cst l,r'=>rfl
end
mutual
theorem Rd.avoid {h:Heap}{T:Nat}{X1 X2:Addr→Prop}{a:Addr}{m:Nat}(ha:∀d' X3 X4,Rd h T X3 X4 d' (.ref a)→m<d'.dep):∀{d:D} {v:Value},d.dep≤m→Rd h T X1 X2 d v→Rd h T (fun b=>X1 b∨b=a) (fun b=>X2 b∨b=a) d v
 |.list ds,v,hm,r=>by
  have r0:=r
  rw [Rd] at r⊢
  obtain⟨hsz,b,vs,rfl,hl,hx,hs⟩:=r
  refine⟨hsz,b,vs,rfl,hl,?_,Rds.avoid ha (by have:D.deps ds+1≤m:=hm;exact qAq hm) hs⟩
  rintro (q|q)
  ·exact hx q
  ·subst q;have:=ha _ _ _ r0;exact jL [_,_] [cL xa xb,cT xb xa] cF jT hm this
 |.none,v,_,r=>Rd.flat_any rfl r
 |.bool b,v,_,r=>Rd.flat_any rfl r
 |.int i,v,_,r=>Rd.flat_any rfl r
 |.str l,v,_,r=>Rd.flat_any rfl r
 |.cst l,v,_,r=>Rd.flat_any rfl r
theorem Rds.avoid {h:Heap}{T:Nat}{X2:Addr→Prop}{a:Addr}{m:Nat}(ha:∀d' X3 X4,Rd h T X3 X4 d' (.ref a)→m<d'.dep):∀{ds:List D} {vs:List Value},D.deps ds≤m→Rds h T X2 ds vs→Rds h T (fun b=>X2 b∨b=a) ds vs
 |[],vs,_,r=>by rw [Rds] at r ⊢;exact r
 |d::ds,vs,hm,r=>by
  rw [Rds] at r⊢
  obtain⟨v,us,rfl,h1,h2⟩:=r
  have hm:max d.dep (D.deps ds)≤m:=hm
  exact⟨v,us,rfl,Rd.avoid ha (jL [_,_,_] [cL xa xb,cL xc xa] (cL xc xb) jT hm (Nat.le_max_left _ _)) h1,Rds.avoid ha (jL [_,_,_] [cL xa xb,cL xc xa] (cL xc xb) jT hm (Nat.le_max_right _ _)) h2⟩
end
theorem Rd.noself {h:Heap}{T:Nat}{X1 X2:Addr→Prop}{ds:List D}{a:Addr}(r:Rd h T X1 X2 (.list ds) (.ref a)):∃vs,ds.length≤SZ∧h.IsList a vs.toArray∧¬X1 a∧Rds h T (fun b=>X2 b∨b=a) ds vs:=by
 have r0:=r
 rw [Rd] at r
 obtain⟨hsz,a',vs,e,hl,hx,hs⟩:=r
 cases e
 refine⟨vs,hsz,hl,hx,Rds.avoid (m:=D.deps ds) (fun d' X3 X4 r'=>?_) (qA7 _) hs⟩
 have:=Rd.dep_eq r0 r'
 have e:(D.list ds).dep=D.deps ds+1:=rfl
 exact jL [_,_,_] [cQ xa xb,cR xa (eU xc)] (cT xc xb) jT this e
mutual
theorem Rd.mono2 {h h':Heap}{T T':Nat}{Xt Xd Xt' Xd':Addr→Prop}(hT:T≤T')
  (hk:∀b o,¬Xd b→h.get? b=some o→h'.get? b=some o) (hkt:∀b o,¬Xt b→h.get? b=some o→h'.get? b=some o)
  (ht:∀a,(∃o,h.get? a=some o)→Xt' a→Xt a) (hd:∀a,(∃o,h.get? a=some o)→Xd' a→Xd a) :
  ∀(d:D) (v:Value),Rd h T Xt Xd d v→Rd h' T' Xt' Xd' d v
 |.none,v,r=>by rw [Rd] at r ⊢;exact r
 |.bool b,v,r=>by rw [Rd] at r ⊢;exact r
 |.int i,v,r=>by rw [Rd] at r ⊢;exact r
 |.str l,v,r=>by rw [Rd] at r ⊢;exact r
 |.cst l,v,r=>by
  rw [Rd] at r⊢
  obtain⟨a,t,b,c,e⟩:=r
  exact⟨a,t,b,c,qB3 e hT⟩
 |.list ds,v,r=>by
  rw [Rd] at r⊢
  obtain⟨hl,a,vs,rfl,⟨o,ho,hc,n,hn⟩,hx,hs⟩:=r
  have nx:¬Xt' a:=fun q=>hx (ht a ⟨o,ho⟩ q)
  exact⟨hl,a,vs,rfl,⟨o,hkt a o hx ho,hc,n,hn⟩,nx,Rds.mono2 hT hk hd ds vs hs⟩
theorem Rds.mono2 {h h':Heap}{T T':Nat}{Xd Xd':Addr→Prop}(hT:T≤T')
  (hk:∀b o,¬Xd b→h.get? b=some o→h'.get? b=some o)
  (hd:∀a,(∃o,h.get? a=some o)→Xd' a→Xd a) :
  ∀(ds:List D) (vs:List Value),Rds h T Xd ds vs→Rds h' T' Xd' ds vs
 |[],vs,r=>by rw [Rds] at r ⊢;exact r
 |d::ds,vs,r=>by
  rw [Rds] at r⊢
  obtain⟨v,r',rfl,r1,r2⟩:=r
  exact⟨v,r',rfl,Rd.mono2 hT hk hk hd hd d v r1,Rds.mono2 hT hk hd ds r' r2⟩
end
noncomputable def VT.isOwn:VT→Bool
 |.val _=>false
 |_=>true
noncomputable def OwnAt (ρ:Env')(i:Nat):Prop:=∃d vt,ρ[i]?=some (some (d,vt))∧vt.isOwn=true
noncomputable def MutAt (ρ:Env')(i:Nat):Prop:=∃d b,ρ[i]?=some (some (d,.own b))
theorem MutAt.own {ρ:Env'}{i:Nat}(h:MutAt ρ i):OwnAt ρ i:=let ⟨d,b,e⟩:=h;⟨d,_,e,rfl⟩
noncomputable def FM (env:Env)(kd:Kinds)(a:Addr):Prop:=a=env.locals∨∃x,kd.lookup x=some .cell∧env.cells.lookup x=some a
noncomputable def FO (env:Env)(kd:Kinds)(ex:List Addr)(a:Addr):Prop:=FM env kd a∨a∈ex
noncomputable def OwnO (env:Env)(kd:Kinds)(ex:List Addr)(φ:Nat→Addr)(ρ:Env')(a:Addr):Prop:=FO env kd ex a∨∃i,OwnAt ρ i∧a=φ i
noncomputable def Mut (env:Env)(kd:Kinds)(φ:Nat→Addr)(ρ:Env')(a:Addr):Prop:=FM env kd a∨∃i,MutAt ρ i∧a=φ i
structure EnvS (env:Env)(nm:List Str)(kd:Kinds):Prop where
 ok:EnvOk env kd
 nodup:nm.Nodup
 apart:∀x y a,kd.lookup x=some .cell→kd.lookup y=some .cell→env.cells.lookup x=some a→env.cells.lookup y=some a→x=y
 apartL:∀x a,kd.lookup x=some .cell→env.cells.lookup x=some a→a≠env.locals
inductive FVal (env:Env)(kd:Kinds)(O B:Addr→Prop)(s:Shared)(x:Str)(t:Tg)(d:D):Prop
 |mk (e1:t.top=false) (e2:t.deep=false) (v:Value) (e3:VarAt env kd s.heap x v) (e4:RdT O B s.heap s.toks t d v)
inductive FOwn (O B:Addr→Prop)(s:Shared)(a:Addr)(b:Bool)(d:D):Prop
 |mk (ds:List D) (vs:List Value) (e1:d=.list ds) (e2:ds.length≤SZ) (e3:s.heap.PlainList a vs.toArray) (e4:Rds s.heap s.toks (X O B false b) ds vs)
structure FrS (c:Nm)(env:Env)(nm:List Str)(kd:Kinds)(q:Bool)(s₀:Shared)(ex:List Addr)(φ:Nat→Addr)(ρ:Env')(s:Shared):Prop where
 es:EnvS env nm kd
 st0:St c s₀.heap
 tk0:1≤s₀.toks
 base:KQ q s₀ s
 loc:∃m,s.heap.Ns env.locals m
 cell:∀x a,kd.lookup x=some .cell→env.cells.lookup x=some a→∃v,s.heap.IsCell a v
 exd:∀a∈ex,dom s.heap a
 exF:∀a∈ex,¬FM env kd a
 foB:∀a,FO env kd ex a→s₀.heap.get? a=none
 ownB:∀i,OwnAt ρ i→s₀.heap.get? (φ i)=none
 ownF:∀i,OwnAt ρ i→¬FO env kd ex (φ i)
 inj:∀i j,OwnAt ρ i→OwnAt ρ j→φ i=φ j→i=j
 val:∀(i:Nat) d t x,ρ[i]?=some (some (d,.val t))→nm[i]?=some x→(kd.lookup x=some .local∨kd.lookup x=some .cell)→
  FVal env kd (OwnO env kd ex φ ρ) (dom s₀.heap) s x t d
 own:∀(i:Nat) d vt,ρ[i]?=some (some (d,vt))→vt.isOwn=true→
  FOwn (OwnO env kd ex φ ρ) (dom s₀.heap) s (φ i) vt.tg.base d
 ownV:∀(i:Nat) x,OwnAt ρ i→nm[i]?=some x→VarAt env kd s.heap x (.ref (φ i))
structure Stp (env:Env)(kd:Kinds)(ex:List Addr)(φ:Nat→Addr)(ρ:Env')(s:Shared)(ex':List Addr)(φ':Nat→Addr)(ρ':Env')(s':Shared):Prop where
 keep:∀b o,s.heap.get? b=some o→¬Mut env kd φ ρ b→s'.heap.get? b=some o
 mut_:∀b,dom s.heap b→Mut env kd φ' ρ' b→Mut env kd φ ρ b
 own:∀b,dom s.heap b→OwnO env kd ex' φ' ρ' b→OwnO env kd ex φ ρ b
 dom_:∀b,dom s.heap b→dom s'.heap b
 toks:s.toks≤s'.toks
 pin:∀(i:Nat) d b,ρ[i]?=some (some (d,.pin b))→ρ'[i]?=some (some (d,.pin b))∧φ' i=φ i
section
variable {c:Nm}{env:Env}{nm:List Str}{kd:Kinds}{q:Bool}{s₀ s s':Shared}{ex ex' ex'':List Addr}{φ φ' φ'':Nat→Addr}{ρ ρ' ρ'':Env'}
theorem Stp.refl:Stp env kd ex φ ρ s ex φ ρ s:=⟨fun _ _ e _=>e,fun _ _ h=>h,fun _ _ h=>h,fun _ h=>h,qA7 _,fun _ _ _ h=>⟨h,rfl⟩⟩
theorem Stp.trans {s'':Shared}(a:Stp env kd ex φ ρ s ex' φ' ρ' s')(b:Stp env kd ex' φ' ρ' s' ex'' φ'' ρ'' s''):Stp env kd ex φ ρ s ex'' φ'' ρ'' s'':=by
 refine⟨fun x o e hm=>b.keep x o (a.keep x o e hm) fun hm'=>hm (a.mut_ x (by unfold dom;rw [e];rfl) hm'),fun x hd hm=>a.mut_ x hd (b.mut_ x (a.dom_ x hd) hm),fun x hd hm=>a.own x hd (b.own x (a.dom_ x hd) hm),fun x hd=>b.dom_ x (a.dom_ x hd),qA9 a.toks b.toks,fun i d z h=>⟨(b.pin i d z (a.pin i d z h).1).1,(b.pin i d z (a.pin i d z h).1).2.trans (a.pin i d z h).2⟩⟩
theorem Stp.kq (k:KQ q s s'):Stp env kd ex φ ρ s ex φ ρ s':=⟨fun b o e _=>k.keep b o e,fun _ _ h=>h,fun _ _ h=>h,fun _ h=>dom.keeps k.keep h,k.toks,fun _ _ _ h=>⟨h,rfl⟩⟩
theorem FO.dom (F:FrS c env nm kd q s₀ ex φ ρ s){a:Addr}(h:FO env kd ex a):dom s.heap a:=by
 rcases h with (rfl|⟨x,h1,h2⟩)|h
 ·obtain⟨m,o,_,_,ho,_⟩:=F.loc;unfold Mine.dom;rw [ho];rfl
 ·obtain⟨v,o,ho,_⟩:=F.cell x a h1 h2;unfold Mine.dom;rw [ho];rfl
 ·exact F.exd a h
theorem OwnAt.dom (F:FrS c env nm kd q s₀ ex φ ρ s){i:Nat}(h:OwnAt ρ i):dom s.heap (φ i):=by
 obtain⟨d,vt,h1,h2⟩:=h
 obtain⟨ds,vs,_,_,⟨n,ho⟩,_⟩:=F.own i d vt h1 h2
 unfold Mine.dom;rw [ho];rfl
theorem OwnO.dom (F:FrS c env nm kd q s₀ ex φ ρ s){a:Addr}(h:OwnO env kd ex φ ρ a):dom s.heap a:=by
 rcases h with h|⟨i,h,rfl⟩
 ·exact FO.dom F h
 ·exact OwnAt.dom F h
theorem FrS.toE (F:FrS c env nm kd q s₀ ex φ ρ s):FrE c env nm kd (OwnO env kd ex φ ρ) (dom s₀.heap) ρ s:=by
 refine⟨F.es.ok,F.st0.keeps F.base.keep,qA9 F.tk0 F.base.toks,fun a h=>OwnO.dom F h,fun a h=>dom.keeps F.base.keep h,fun i d vt x h1 h2 h3=>?_⟩
 cases vt with
 |val t=>obtain⟨_,_,v,h,h4⟩:=F.val i d t x h1 h2 h3;exact⟨v,h,h4⟩
 |own b=>
  obtain⟨ds,vs,rfl,hsz,hl,hs⟩:=F.own i d _ h1 rfl
  refine⟨.ref (φ i),F.ownV i x ⟨_,_,h1,rfl⟩ h2,?_⟩
  unfold RdT
  rw [Rd]
  refine⟨hsz,φ i,vs,rfl,hl.isList,?_,hs⟩
  rintro (⟨e,_⟩|⟨_,e⟩)
  ·cases e
  ·have:=F.ownB i ⟨_,_,h1,rfl⟩
   unfold Mine.dom at e;rw [this] at e;cases e
 |pin b=>
  obtain⟨ds,vs,rfl,hsz,hl,hs⟩:=F.own i d _ h1 rfl
  refine⟨.ref (φ i),F.ownV i x ⟨_,_,h1,rfl⟩ h2,?_⟩
  unfold RdT
  rw [Rd]
  refine⟨hsz,φ i,vs,rfl,hl.isList,?_,hs⟩
  rintro (⟨e,_⟩|⟨_,e⟩)
  ·cases e
  ·have:=F.ownB i ⟨_,_,h1,rfl⟩
   unfold Mine.dom at e;rw [this] at e;cases e
theorem FrS.next (F:FrS c env nm kd q s₀ ex φ ρ s)(k:KQ q s s'):FrS c env nm kd q s₀ ex φ ρ s':=by
 refine⟨F.es,F.st0,F.tk0,F.base.trans k,F.loc.imp fun m h=>h.keeps k.keep,fun x a h1 h2=>(F.cell x a h1 h2).imp fun v h=>h.keeps k.keep,fun a h=>dom.keeps k.keep (F.exd a h),F.exF,F.foB,F.ownB,F.ownF,F.inj,fun i d t x h1 h2 h3=>?_,fun i d vt h1 h2=>?_,fun i x h1 h2=>(F.ownV i x h1 h2).keeps k.keep⟩
 ·obtain⟨a,b,v,h,r⟩:=F.val i d t x h1 h2 h3
  exact⟨a,b,v,h.keeps k.keep,r.mono k.toks k.keep⟩
 ·obtain⟨ds,vs,e,hsz,hl,hs⟩:=F.own i d vt h1 h2
  exact⟨ds,vs,e,hsz,hl.at fun o e=>k.keep _ _ e,Rds.mono k.toks (fun b o _=>k.keep b o) (fun _ _=>id) _ _ hs⟩
end
end Mine
end

section
set_option maxRecDepth 10000
namespace Mine
open PySem PyProof.Rows PySem.SeqAt
section
variable {c:Nm}{env:Env}{nm:List Str}{kd:Kinds}{q:Bool}{s₀ s₁ s s':Shared}{ex:List Addr}{φ φ':Nat→Addr}{ρ ρ':Env'}
theorem lf_inv {α:Type}{d:D}{f:Bool}{x y:Option α}{r:α}(h:(match d,f with|.list _,true=>x|_,_=>y)=some r):(∃ds,d=.list ds∧f=true∧x=some r)∨y=some r:=by
 rcases d with _|_<;>rcases f with _|_<;>first|exact .inr h|exact .inl ⟨_,rfl,rfl,h⟩
theorem tg_eq {t:Tg}(h1:¬t.top=true)(h2:¬t.deep=true):t=⟨false,false,t.base⟩:=by
 obtain⟨_|_,_|_,b⟩:=t<;>first|rfl|exact absurd rfl h1|exact absurd rfl h2
theorem setV_cases {i:Nat}{r:Rs}(e:setV ρ i r=some ρ'):i<ρ.length∧(∀b d,ρ[i]?≠some (some (d,.pin b)))∧
  ((∃b,eff r.d r.t=⟨false,false,b⟩∧ρ'=ρ.set i (some (r.d,.val ⟨false,false,b⟩)))∨
   (∃ds b,r.d=.list ds∧r.f=true∧r.t=⟨false,false,b⟩∧ρ'=ρ.set i (some (r.d,.own b)))):=by
 have h:((ρ[i]?).bind fun s=>if pinned s then none else if (eff r.d r.t).deep then none else match r.d,r.f with
   |.list _,true=>if (eff r.d r.t).top then none else some (ρ.set i (some (r.d,.own (eff r.d r.t).base)))
   |_,_=>if (eff r.d r.t).top then none else some (ρ.set i (some (r.d,.val ⟨false,false,(eff r.d r.t).base⟩))))=some ρ':=qAz (by kernel_rfl) e
 clear e
 obtain⟨sl,hs,h⟩:=bind_inv h
 obtain⟨hp,h⟩:=qBd.mp h
 obtain⟨hdp,h⟩:=qBd.mp h
 refine⟨(qAk.mp hs).1,fun b d e'=>hp (by rw [qA8 (hs.symm.trans e')];rfl),?_⟩
 rcases lf_inv h with⟨ds,hl,hf,h⟩|h
 ·obtain⟨htp,h⟩:=qBd.mp h
  have he:=tg_eq htp hdp
  rw [hl] at he
  exact .inr ⟨ds,_,hl,hf,he,by rw [←qA8 h,hl]⟩
 ·obtain⟨htp,h⟩:=qBd.mp h
  exact .inl ⟨_,tg_eq htp hdp,(qA8 h).symm⟩
theorem VarAt.ext {h h':Heap}{x:Str}{v:Value}{L:Addr}(y:VarAt env kd h x v)(hL:¬FM env kd L)(hk:∀b o,b≠L→h.get? b=some o→h'.get? b=some o):VarAt env kd h' x v:=by
 rcases y with⟨a,m,b,c⟩|⟨a,m,b,c⟩
 ·exact .inl ⟨a,m,b.at' fun o e=>hk _ o (fun q=>hL (q▸.inl rfl)) e,c⟩
 ·refine .inr ⟨a,m,b,?_⟩
  obtain⟨o,ho,hd⟩:=c
  exact⟨o,hk _ o (fun q=>hL (q▸.inr ⟨x,a,b⟩)) ho,hd⟩
theorem FrS.setX (cx:List Addr)(F:FrS c env nm kd q s₀ ex φ ρ s₁)(k:KQ q s₁ s){i:Nat}{x:Str}{r:Rs}{v:Value}(hx:nm[i]?=some x)(e:setV ρ i r=some ρ')
  (hcx:∀b∈cx,s₁.heap.get? b=none) (rd:RdT (fun a=>OwnO env kd ex φ ρ a∨a∈cx) (dom s₀.heap) s.heap s.toks r.t r.d v) (hf:r.f=true→∀a,v=.ref a→s₁.heap.get? a=none∧Pl s.heap a)
  {h':Heap} {tk':Nat} (b₀:Addr) (hFM:FM env kd b₀) (hs:∀b o,b≠b₀→b∉cx→s.heap.get? b=some o→h'.get? b=some o) (ht:s.toks≤tk') (hv:VarAt env kd h' x v)
  (hother:∀y u,y≠x→VarAt env kd s.heap y u→VarAt env kd h' y u) (hloc:∃m,h'.Ns env.locals m) (hcell:∀x a,kd.lookup x=some .cell→env.cells.lookup x=some a→∃v,h'.IsCell a v) :
  ∃φ',FrS c env nm kd q s₀ ex φ' ρ' { s with heap:=h',toks:=tk' }∧Stp env kd ex φ ρ s₁ ex φ' ρ' { s with heap:=h',toks:=tk' }:=by
 have hFO:FO env kd ex b₀:=.inl hFM
 have up:∀b o,b≠b₀→s₁.heap.get? b=some o→h'.get? b=some o:=fun b o hb e=>hs b o hb (fun hm=>by rw [hcx b hm] at e;cases e) (k.keep b o e)
 have b0n:s₀.heap.get? b₀=none:=F.foB b₀ hFO
 have ht1:s₁.toks≤tk':=qA9 k.toks ht
 have hb0:dom h' b₀:=by
  rcases hFM with rfl|⟨y,h1,h2⟩
  ·obtain⟨m,o,_,_,ho,_⟩:=hloc;unfold dom;rw [ho];rfl
  ·obtain⟨v,o,ho,_⟩:=hcell y b₀ h1 h2;unfold dom;rw [ho];rfl
 have hbase:KQ q s₀ { s with heap:=h',toks:=tk' }:=by
  have:=(F.base.trans k)
  obtain⟨h1,t1,g1,rfl,k1,l1,e1,p1,q1⟩:=this
  exact⟨h',tk',g1,rfl,fun b o e=>hs b o (fun q=>by rw [q,b0n] at e;cases e) (fun hm=>by rw [none_back F.base.keep (hcx b hm)] at e;cases e) (k1 b o e),qA9 l1 ht,e1,p1,q1⟩
 have hdom:∀b,dom s₁.heap b→dom h' b:=fun b hb=>by
  by_cases hq:b=b₀
  ·subst hq;exact hb0
  ·obtain⟨o,e⟩:=qAs.mp hb
   unfold dom;rw [up b o hq e];rfl
 have keep:∀b o,s₁.heap.get? b=some o→¬Mut env kd φ ρ b→h'.get? b=some o:=fun b o e hm=>up b o (fun q=>hm (q▸.inl hFM)) e
 obtain⟨hlt,hpin,hc⟩:=setV_cases e
 have hset:∀sl:Slot,ρ'=ρ.set i sl→(∀j,j≠i→ρ'[j]?=ρ[j]?)∧ρ'[i]?=some sl:=fun sl q=>by
  subst q
  exact⟨fun j hj=>qB1 (qBz hj),qA4 hlt⟩
 have hnm:∀j y,nm[j]?=some y→j≠i→y≠x:=fun j y hy hj q=>by
  rw [q] at hy
  obtain⟨h1,h2⟩:=qAk.mp hy
  obtain⟨h3,h4⟩:=qAk.mp hx
  exact hj ((List.getElem_inj F.es.nodup).mp (h2.trans h4.symm))
 rcases hc with⟨b,he,hρ⟩|⟨ds,b,hd,hrf,hrt,hρ⟩
 ·-- a value
  obtain⟨hne,hself⟩:=hset _ hρ
  clear hρ hset e
  have hown:∀j,OwnAt ρ' j→OwnAt ρ j∧j≠i:=by
   rintro j ⟨d,vt,h1,h2⟩
   by_cases hj:j=i
   ·obtain rfl:=hj.symm;obtain⟨rfl,hvt⟩:=sinj (hself.symm.trans h1);cases hvt;cases h2
   ·rw [hne j hj] at h1;exact⟨⟨d,vt,h1,h2⟩,hj⟩
  have hO:∀a,OwnO env kd ex φ ρ' a→OwnO env kd ex φ ρ a:=fun a h=>h.imp id fun⟨j,h1,h2⟩=>⟨j,(hown j h1).1,h2⟩
  have hX:∀(o b':Bool) a,X (OwnO env kd ex φ ρ') (dom s₀.heap) o b' a→X (OwnO env kd ex φ ρ) (dom s₀.heap) o b' a:=
   fun o b' a h=>h.imp (fun z=>⟨z.1,hO a z.2⟩) id
  have hX0:∀(b':Bool),X (OwnO env kd ex φ ρ') (dom s₀.heap) false b' b₀:=fun b'=>.inl ⟨rfl,.inl hFO⟩
  refine⟨φ,⟨F.es,F.st0,F.tk0,hbase,hloc,hcell,fun a h=>hdom a (F.exd a h),F.exF,F.foB,fun j h=>F.ownB j (hown j h).1,fun j h=>F.ownF j (hown j h).1,fun j l h1 h2=>F.inj j l (hown j h1).1 (hown l h2).1,?_,?_,?_⟩,?_⟩
  ·intro j d t y h1 h2 h3
   by_cases hj:j=i
   ·obtain rfl:=hj.symm
    obtain⟨rfl,hvt⟩:=sinj (hself.symm.trans h1);cases hvt
    rw [hx] at h2;cases h2
    refine⟨rfl,rfl,v,hv,?_⟩
    have rd':=rd.eff
    rw [he] at rd'
    exact Rd.mono2 ht (fun b o hxx e=>hs b o (fun q=>hxx (q▸.inl ⟨rfl,.inl (.inl hFO)⟩)) (fun q=>hxx (.inl ⟨rfl,.inr q⟩)) e) (fun b o hxx e=>hs b o (fun q=>hxx (q▸.inl ⟨rfl,.inl (.inl hFO)⟩)) (fun q=>hxx (.inl ⟨rfl,.inr q⟩)) e)
     (fun a _ h=>(hX _ _ a h).imp (fun z=>⟨z.1,.inl z.2⟩) id) (fun a _ h=>(hX _ _ a h).imp (fun z=>⟨z.1,.inl z.2⟩) id) _ _ rd'
   ·rw [hne j hj] at h1
    obtain⟨t1,t2,u,hu,hr⟩:=F.val j d t y h1 h2 h3
    refine⟨t1,t2,u,hother y u (hnm j y h2 hj) (hu.keeps k.keep),?_⟩
    exact Rd.mono ht1 (fun b o hxx e=>up b o (fun q=>hxx (by rw [t2];exact q▸hX0 _)) e) (fun b o hxx e=>up b o (fun q=>hxx (by rw [t1];exact q▸hX0 _)) e) (fun a _=>hX _ _ a) (fun a _=>hX _ _ a) _ _ hr
  ·intro j d vt h1 h2
   have hj:=(hown j ⟨d,vt,h1,h2⟩).2
   rw [hne j hj] at h1
   obtain⟨ds,vs,e1,hsz,hl,hr⟩:=F.own j d vt h1 h2
   exact⟨ds,vs,e1,hsz,hl.at fun o e=>up _ o (fun q=>F.ownF j ⟨d,vt,h1,h2⟩ (q▸hFO)) e,Rds.mono ht1 (fun b o hxx e=>up b o (fun q=>hxx (q▸hX0 _)) e) (fun a _=>hX _ _ a) _ _ hr⟩
  ·intro j y h1 h2
   exact hother y _ (hnm j y h2 (hown j h1).2) ((F.ownV j y (hown j h1).1 h2).keeps k.keep)
  ·refine⟨keep,fun a _ h=>h.imp id fun⟨j,⟨d,b',h1⟩,h2⟩=>?_,fun a _ h=>hO a h,hdom,ht1,fun j d z h=>⟨(hne j (fun q=>hpin z d (q▸h))).trans h,rfl⟩⟩
   have hj:=(hown j ⟨d,_,h1,rfl⟩).2
   rw [hne j hj] at h1
   exact⟨j,⟨d,b',h1⟩,h2⟩
 ·-- an own list
  obtain⟨hne,hself⟩:=hset _ hρ
  clear hρ hset e
  obtain⟨a,rfl⟩:∃a,v=.ref a:=by
   rw [hd] at rd;unfold RdT at rd;rw [Rd] at rd;obtain⟨_,a,_,rfl,_⟩:=rd;exact⟨a,rfl⟩
  have ha1:s₁.heap.get? a=none:=(hf hrf a rfl).1
  have ha0:s₀.heap.get? a=none:=none_back F.base.keep ha1
  have nd:∀b,dom s₁.heap b→b≠a:=fun b hb q=>by unfold dom at hb;rw [q,ha1] at hb;cases hb
  have hab0:a≠b₀:=fun q=>nd b₀ (FO.dom F hFO) q.symm
  let φ':Nat→Addr:=fun j=>if j=i then a else φ j
  have φi:φ' i=a:=if_pos rfl
  have φj:∀j,j≠i→φ' j=φ j:=fun j hj=>if_neg hj
  have hown:∀j,OwnAt ρ' j→j≠i→OwnAt ρ j:=by
   rintro j ⟨d,vt,h1,h2⟩ hj
   rw [hne j hj] at h1;exact⟨d,vt,h1,h2⟩
  have hO:∀z,OwnO env kd ex φ' ρ' z→OwnO env kd ex φ ρ z∨z=a:=by
   rintro z (h|⟨j,h1,h2⟩)
   ·exact .inl (.inl h)
   ·by_cases hj:j=i
    ·obtain rfl:=hj.symm;exact .inr (h2.trans φi)
    ·exact .inl (.inr ⟨j,hown j h1 hj,h2.trans (φj j hj)⟩)
  have hX1:∀(o b':Bool) z,(∃ob,s₁.heap.get? z=some ob)→X (OwnO env kd ex φ' ρ') (dom s₀.heap) o b' z→X (OwnO env kd ex φ ρ) (dom s₀.heap) o b' z:=
   fun o b' z ⟨ob,e⟩ h=>h.imp (fun y=>⟨y.1,(hO z y.2).resolve_right fun q=>by rw [q,ha1] at e;cases e⟩) id
  have hX0:∀(b':Bool),X (OwnO env kd ex φ' ρ') (dom s₀.heap) false b' b₀:=fun b'=>.inl ⟨rfl,.inl hFO⟩
  refine⟨φ',⟨F.es,F.st0,F.tk0,hbase,hloc,hcell,fun a h=>hdom a (F.exd a h),F.exF,F.foB,?_,?_,?_,?_,?_,?_⟩,?_⟩
  ·intro j h
   by_cases hj:j=i
   ·obtain rfl:=hj.symm;rw [φi];exact ha0
   ·rw [φj j hj];exact F.ownB j (hown j h hj)
  ·intro j h
   by_cases hj:j=i
   ·obtain rfl:=hj.symm;rw [φi];exact fun h=>nd a (FO.dom F h) rfl
   ·rw [φj j hj];exact F.ownF j (hown j h hj)
  ·intro j l h1 h2 h3
   by_cases hj:j=i<;>by_cases hl:l=i
   ·rw [hj,hl]
   ·rw [hj,φi,φj l hl] at h3;exact absurd h3.symm (nd _ (OwnAt.dom F (hown l h2 hl)))
   ·rw [hl,φi,φj j hj] at h3;exact absurd h3 (nd _ (OwnAt.dom F (hown j h1 hj)))
   ·rw [φj j hj,φj l hl] at h3;exact F.inj j l (hown j h1 hj) (hown l h2 hl) h3
  ·intro j d t y h1 h2 h3
   by_cases hj:j=i
   ·obtain rfl:=hj.symm;obtain⟨rfl,hvt⟩:=sinj (hself.symm.trans h1);cases hvt
   ·rw [hne j hj] at h1
    obtain⟨t1,t2,u,hu,hr⟩:=F.val j d t y h1 h2 h3
    refine⟨t1,t2,u,hother y u (hnm j y h2 hj) (hu.keeps k.keep),?_⟩
    exact Rd.mono ht1 (fun b o hxx e=>up b o (fun q=>hxx (by rw [t2];exact q▸hX0 _)) e) (fun b o hxx e=>up b o (fun q=>hxx (by rw [t1];exact q▸hX0 _)) e) (fun z hz=>hX1 _ _ z hz) (fun z hz=>hX1 _ _ z hz) _ _ hr
  ·intro j d vt h1 h2
   by_cases hj:j=i
   ·obtain rfl:=hj.symm
    obtain⟨rfl,hvt⟩:=sinj (hself.symm.trans h1);cases hvt
    rw [hd] at rd
    unfold RdT at rd
    rw [hrt] at rd
    obtain⟨vs,hsz,hl0,hxa,hr⟩:=Rd.noself rd
    have hl:s.heap.PlainList a vs.toArray:=by
     obtain⟨items,hp⟩:=(hf hrf a rfl).2
     have hq:items=items.toList.toArray:=by simp
     rw [hq] at hp
     have:=isList_inj hl0 hp.isList
     rw [this];exact hp
    refine⟨ds,vs,hd,hsz,?_,?_⟩
    ·rw [φi];exact hl.at fun o e=>hs _ o hab0 (fun q=>hxa (.inl ⟨rfl,.inr q⟩)) e
    ·refine Rds.mono2 ht (fun z o hxx e=>hs z o (fun q=>hxx (q▸.inl (.inl ⟨rfl,.inl (.inl hFO)⟩))) (fun q=>hxx (.inl (.inl ⟨rfl,.inr q⟩))) e) (fun z _ h=>?_) _ _ hr
     rcases h with⟨h1,h2⟩|h
     ·rcases hO z h2 with h|h
      ·exact .inl (.inl ⟨rfl,.inl h⟩)
      ·exact .inr h
     ·exact .inl (.inr h)
   ·rw [hne j hj] at h1
    obtain⟨ds,vs,e1,hsz,hl,hr⟩:=F.own j d vt h1 h2
    refine⟨ds,vs,e1,hsz,?_,Rds.mono ht1 (fun b o hxx e=>up b o (fun q=>hxx (q▸hX0 _)) e) (fun z hz=>hX1 _ _ z hz) _ _ hr⟩
    rw [φj j hj]
    exact hl.at fun o e=>up _ o (fun q=>F.ownF j ⟨d,vt,h1,h2⟩ (q▸hFO)) e
  ·intro j y h1 h2
   by_cases hj:j=i
   ·obtain rfl:=hj.symm
    rw [hx] at h2;cases h2
    rw [φi];exact hv
   ·rw [φj j hj]
    exact hother y _ (hnm j y h2 hj) ((F.ownV j y (hown j h1 hj) h2).keeps k.keep)
  ·refine⟨keep,fun z hz h=>h.imp id fun⟨j,⟨d,b',h1⟩,h2⟩=>?_,fun z hz h=>(hO z h).resolve_right (nd z hz),hdom,ht1,fun j d z h=>⟨(hne j (fun q=>hpin z d (q▸h))).trans h,φj j fun q=>hpin z d (q▸h)⟩⟩
   by_cases hj:j=i
   ·obtain rfl:=hj.symm;exact absurd (h2.trans φi) (nd z hz)
   ·rw [hne j hj] at h1
    exact⟨j,⟨d,b',h1⟩,h2.trans (φj j hj)⟩
theorem FrS.set (F:FrS c env nm kd q s₀ ex φ ρ s₁)(k:KQ q s₁ s){i:Nat}{x:Str}{r:Rs}{v:Value}(hx:nm[i]?=some x)(e:setV ρ i r=some ρ')
  (rd:RdT (OwnO env kd ex φ ρ) (dom s₀.heap) s.heap s.toks r.t r.d v) (hf:r.f=true→∀a,v=.ref a→s₁.heap.get? a=none∧Pl s.heap a)
  {h':Heap} {tk':Nat} (b₀:Addr) (hFM:FM env kd b₀) (hs:∀b o,b≠b₀→s.heap.get? b=some o→h'.get? b=some o) (ht:s.toks≤tk') (hv:VarAt env kd h' x v)
  (hother:∀y u,y≠x→VarAt env kd s.heap y u→VarAt env kd h' y u) (hloc:∃m,h'.Ns env.locals m) (hcell:∀x a,kd.lookup x=some .cell→env.cells.lookup x=some a→∃v,h'.IsCell a v) :
  ∃φ',FrS c env nm kd q s₀ ex φ' ρ' { s with heap:=h',toks:=tk' }∧Stp env kd ex φ ρ s₁ ex φ' ρ' { s with heap:=h',toks:=tk' }:=by
 refine F.setX [] k hx e (fun b h=>by cases h) ?_ hf b₀ hFM (fun b o hb _ e=>hs b o hb e) ht hv hother hloc hcell
 exact Rd.mono (qA7 _) (fun b o _=>id) (fun b o _=>id) (fun a _ h=>h.imp (fun z=>⟨z.1,z.2.resolve_right (by simp)⟩) id) (fun a _ h=>h.imp (fun z=>⟨z.1,z.2.resolve_right (by simp)⟩) id) _ _ rd
end
section
variable {prog:Program}{w:World}{A:Around}{c:Nm}{env:Env}{nm:List Str}{kd:Kinds}{q:Bool}{s₀ s₁ s s':Shared}{ex:List Addr}{φ φ':Nat→Addr}{ρ ρ':Env'}
theorem FrS.mutl (F:FrS c env nm kd q s₀ ex φ ρ s₁)(k:KQ q s₁ s){i:Nat}{ds ds':List D}{b b':Bool}(hi:ρ[i]?=some (some (.list ds,.own b)))
  {h':Heap} {tk':Nat} (hs:∀b o,b≠φ i→s.heap.get? b=some o→h'.get? b=some o) (ht:s.toks≤tk') {vs':List Value} (hsz:ds'.length≤SZ) (hl:h'.PlainList (φ i) vs'.toArray)
  (hr:Rds h' tk' (X (OwnO env kd ex φ ρ) (dom s₀.heap) false b') ds' vs') :
  FrS c env nm kd q s₀ ex φ (ρ.set i (some (.list ds',.own b'))) { s with heap:=h',toks:=tk' }∧Stp env kd ex φ ρ s₁ ex φ (ρ.set i (some (.list ds',.own b'))) { s with heap:=h',toks:=tk' }:=by
 have oi:OwnAt ρ i:=⟨_,_,hi,rfl⟩
 have up:∀b o,b≠φ i→s₁.heap.get? b=some o→h'.get? b=some o:=fun b o hb e=>hs b o hb (k.keep b o e)
 have hlt:i<ρ.length:=(qAk.mp hi).1
 have hne:∀j (sl:Slot),j≠i→(ρ.set i sl)[j]?=ρ[j]?:=fun j sl hj=>qB1 (qBz hj)
 have hself:∀sl:Slot,(ρ.set i sl)[i]?=some sl:=fun sl=>qA4 hlt
 have ht1:s₁.toks≤tk':=qA9 k.toks ht
 have i0:s₀.heap.get? (φ i)=none:=F.ownB i oi
 have iF:¬FM env kd (φ i):=fun h=>F.ownF i oi (.inl h)
 have hdi:dom h' (φ i):=by obtain⟨n,ho⟩:=hl;unfold dom;rw [ho];rfl
 have hown:∀j,OwnAt (ρ.set i (some (.list ds',.own b'))) j→OwnAt ρ j:=by
  rintro j ⟨d,vt,h1,h2⟩
  by_cases hj:j=i
  ·obtain rfl:=hj.symm;exact oi
  ·rw [hne j _ hj] at h1;exact⟨d,vt,h1,h2⟩
 have hO:∀a,OwnO env kd ex φ (ρ.set i (some (.list ds',.own b'))) a→OwnO env kd ex φ ρ a:=fun a h=>h.imp id fun⟨j,h1,h2⟩=>⟨j,hown j h1,h2⟩
 have hX:∀(o b'':Bool) a,X (OwnO env kd ex φ (ρ.set i (some (.list ds',.own b')))) (dom s₀.heap) o b'' a→X (OwnO env kd ex φ ρ) (dom s₀.heap) o b'' a:=
  fun o b'' a h=>h.imp (fun z=>⟨z.1,hO a z.2⟩) id
 have hX0:∀(b'':Bool),X (OwnO env kd ex φ (ρ.set i (some (.list ds',.own b')))) (dom s₀.heap) false b'' (φ i):=fun b''=>.inl ⟨rfl,.inr ⟨i,⟨_,_,hself _,rfl⟩,rfl⟩⟩
 have hbase:KQ q s₀ { s with heap:=h',toks:=tk' }:=by
  have:=(F.base.trans k)
  obtain⟨h1,t1,g1,rfl,k1,l1,e1,p1,q1⟩:=this
  exact⟨h',tk',g1,rfl,fun b o e=>hs b o (fun q=>by rw [q,i0] at e;cases e) (k1 b o e),qA9 l1 ht,e1,p1,q1⟩
 have hdom:∀b,dom s₁.heap b→dom h' b:=fun b hb=>by
  by_cases hq:b=φ i
  ·subst hq;exact hdi
  ·obtain⟨o,e⟩:=qAs.mp hb
   unfold dom;rw [up b o hq e];rfl
 have hva:∀y u,VarAt env kd s₁.heap y u→VarAt env kd h' y u:=fun y u h=>h.ext iF up
 refine⟨⟨F.es,F.st0,F.tk0,hbase,?_,?_,fun a h=>hdom a (F.exd a h),F.exF,F.foB,fun j h=>F.ownB j (hown j h),fun j h=>F.ownF j (hown j h),fun j l h1 h2=>F.inj j l (hown j h1) (hown l h2),?_,?_,fun j y h1 h2=>hva _ _ (F.ownV j y (hown j h1) h2)⟩,?_⟩
 ·obtain⟨m,hm⟩:=F.loc
  exact⟨m,hm.at' fun o e=>up _ o (fun q=>iF (q▸.inl rfl)) e⟩
 ·intro x a h1 h2
  obtain⟨v,o,ho,hd⟩:=F.cell x a h1 h2
  exact⟨v,o,up _ o (fun q=>iF (q▸.inr ⟨x,h1,h2⟩)) ho,hd⟩
 ·intro j d t y h1 h2 h3
  by_cases hj:j=i
  ·obtain rfl:=hj.symm;obtain⟨rfl,hvt⟩:=sinj ((hself _).symm.trans h1);cases hvt
  ·rw [hne j _ hj] at h1
   obtain⟨t1,t2,u,hu,hr⟩:=F.val j d t y h1 h2 h3
   refine⟨t1,t2,u,hva _ _ hu,?_⟩
   exact Rd.mono ht1 (fun b o hxx e=>up b o (fun q=>hxx (by rw [t2];exact q▸hX0 _)) e) (fun b o hxx e=>up b o (fun q=>hxx (by rw [t1];exact q▸hX0 _)) e) (fun a _=>hX _ _ a) (fun a _=>hX _ _ a) _ _ hr
 ·intro j d vt h1 h2
  by_cases hj:j=i
  ·obtain rfl:=hj.symm
   obtain⟨rfl,hvt⟩:=sinj ((hself _).symm.trans h1);cases hvt
   exact⟨ds',vs',rfl,hsz,hl,Rds.mono (qA7 _) (fun b o _=>id) (fun a _=>hX _ _ a) _ _ hr⟩
  ·rw [hne j _ hj] at h1
   obtain⟨ds,vs,e1,hsz,hl,hr⟩:=F.own j d vt h1 h2
   exact⟨ds,vs,e1,hsz,hl.at fun o e=>up _ o (fun q=>hj (F.inj j i ⟨d,vt,h1,h2⟩ oi q)) e,Rds.mono ht1 (fun b o hxx e=>up b o (fun q=>hxx (q▸hX0 _)) e) (fun a _=>hX _ _ a) _ _ hr⟩
 ·refine⟨fun b o e hm=>up b o (fun q=>hm (q▸.inr ⟨i,⟨_,_,hi⟩,rfl⟩)) e,fun a _ h=>h.imp id fun⟨j,⟨d,b',h1⟩,h2⟩=>?_,fun a _ h=>hO a h,hdom,ht1,fun j d z h=>⟨(hne j _ (fun q=>by rw [q,hi] at h;cases h)).trans h,rfl⟩⟩
  by_cases hj:j=i
  ·exact⟨i,⟨_,_,hi⟩,hj▸h2⟩
  ·rw [hne j _ hj] at h1
   exact⟨j,⟨d,b',h1⟩,h2⟩
theorem hp_of (ok:EnvOk env kd):(env.scope.kind==.class || (env.scope.kind==.module&&env.locals != env.globals))=false:=by rw [ok.kind];rfl
theorem store_ok (F:FrS c env nm kd q s₀ ex φ ρ s₁)(k:KQ q s₁ s){i:Nat}{x:Str}{r:Rs}{v:Value}(hx:nm[i]?=some x)(hk:kd.lookup x=some .local∨kd.lookup x=some .cell)(e:setV ρ i r=some ρ')
  (rd:RdT (OwnO env kd ex φ ρ) (dom s₀.heap) s.heap s.toks r.t r.d v) (hf:r.f=true→∀a,v=.ref a→s₁.heap.get? a=none∧Pl s.heap a) {Q:Unit→Shared→Prop}
  (h:∀φ' s',FrS c env nm kd q s₀ ex φ' ρ' s'→Stp env kd ex φ ρ s₁ ex φ' ρ' s'→Q () s'):wpAny (model prog w) A (storeName env x v) Q NoE s:=by
 have F':=F.next k
 obtain⟨m,hm⟩:=F'.loc
 rcases hk with hk|hk
 ·refine wpAny_storeName_local ((kindOf_eq F.es.ok x).trans hk) hm (fun h' hn' hsb=>?_) (hp_of F.es.ok)
  have hs:∀b o,b≠env.locals→s.heap.get? b=some o→h'.get? b=some o:=fun b o hb e=>hsb.extBut b o hb e
  have hh:=F.set k (tk':=s.toks+1) hx e rd hf env.locals (.inl rfl) hs (qAj _) (.inl ⟨hk,_,hn',if_pos rfl⟩)
  refine (hh ?_ ⟨_,hn'⟩ ?_).elim fun φ' z=>h φ' _ z.1 z.2
  ·intro y u hy hu
   rcases hu with⟨h1,m',h2,h3⟩|⟨h1,a,h2,h3⟩
   ·refine .inl ⟨h1,_,hn',?_⟩
    show (if y=x then some v else m y)=some u
    rw [if_neg hy,←h3];exact hm.agree h2 y
   ·refine .inr ⟨h1,a,h2,?_⟩
    obtain⟨o,ho,hd⟩:=h3
    exact⟨o,hs _ o (F.es.apartL y a h1 h2) ho,hd⟩
  ·intro y a h1 h2
   obtain⟨v,o,ho,hd⟩:=F'.cell y a h1 h2
   exact⟨v,o,hs _ o (F.es.apartL y a h1 h2) ho,hd⟩
 ·obtain⟨a,ha⟩:=F.es.ok.cells x hk
  obtain⟨v₀,hv₀⟩:=F'.cell x a hk ha
  refine wpAny_storeName_cell F.es.ok.kind ((kindOf_eq F.es.ok x).trans hk) ha hv₀ fun h' hc' hsb=>?_
  have hs:∀b o,b≠a→s.heap.get? b=some o→h'.get? b=some o:=fun b o hb e=>hsb.extBut b o hb e
  have hLa:env.locals≠a:=fun q=>F.es.apartL x a hk ha q.symm
  have hh:=F.set k (tk':=s.toks) hx e rd hf a (.inr ⟨x,hk,ha⟩) hs (qA7 _) (.inr ⟨hk,a,ha,hc'⟩)
  refine (hh ?_ ⟨m,hm.at' fun o e=>hs _ o hLa e⟩ ?_).elim fun φ' z=>h φ' _ z.1 z.2
  ·intro y u hy hu
   rcases hu with⟨h1,m',h2,h3⟩|⟨h1,a',h2,h3⟩
   ·exact .inl ⟨h1,m',h2.at' fun o e=>hs _ o hLa e,h3⟩
   ·refine .inr ⟨h1,a',h2,?_⟩
    obtain⟨o,ho,hd⟩:=h3
    exact⟨o,hs _ o (fun q=>hy (F.es.apart y x a h1 hk (q▸h2) ha)) ho,hd⟩
  ·intro y a' h1 h2
   by_cases hya:a'=a
   ·subst hya;exact⟨_,hc'⟩
   ·obtain⟨v,o,ho,hd⟩:=F'.cell y a' h1 h2
    exact⟨v,o,hs _ o hya ho,hd⟩
end
end Mine
end

section
set_option maxRecDepth 100000
namespace Mine
open PySem PyProof.Rows PySem.SeqAt
open PySem.AutoSeq1 in
open PySem.AutoSeq1 in
theorem list_insW (l:Addr)(items:Array Value)(n:Nat)(dd:Option Addr)(sl:Array (Option Value))(x:Int)(u:Tok)(y:Value)(hc0:¬(!Builtin.List.listFitsIndex x)=true)(hs1:items.size≤sizeLine) :
  Meets (Builtin.«list.insert» ⟨[.ref l,.int x u,y],[]⟩) (fun _ R s=>s.heap.get? l=some { cls:=.type "list", dict:=dd,data:=.seq items n,slots:=sl }∧R (.ok (.ret qHk)) { s with heap:=s.heap.update l (qFk fun xs=>have k:=if x<0 then (x+(xs.size:Int)).toNat else min x.toNat xs.size;(xs.extract 0 k).push y++xs.extract k),toks:=s.toks }):=
 .of_wp fun prog w A R s h=>by
  obtain⟨hp,g,d,tk,os⟩:=s;obtain⟨hl,h⟩:=h;have f1:=idx_int;have f2:=qG5;have f3:=qGm;have f4:=qGd;have f5:=qGe;
  have hz':((fun xs:Array Value=>have k:=if x<0 then (x+(xs.size:Int)).toNat else min x.toNat xs.size;(xs.extract 0 k).push y++xs.extract k) items).size≤sizeLine+1:=qA9 (size_inserted items _ _) (qDk hs1 1)
  wp_walk using (wpAny_updateSeq hl rfl (hz:=hs1) (_hz':=hz')),wpAny_loadPart' hl;exact⟨_,rfl,h⟩
open PySem.AutoSeq1 in
theorem list_iaddW (l:Addr)(items:Array Value)(n:Nat)(dd:Option Addr)(sl:Array (Option Value))(b:Addr)(items2:Array Value)(n2:Nat)(dd2:Option Addr)(sl2:Array (Option Value))(hs0:¬(!items.isEmpty&&qG6 (items.size+items2.size))=true)(hs1:items.size≤sizeLine)(hs2:items.size+items2.size≤sizeLine+1) :
  Meets (Builtin.«list.__iadd__» ⟨[.ref l,.ref b],[]⟩) (fun _ R s=>s.heap.get? l=some { cls:=.type "list", dict:=dd,data:=.seq items n,slots:=sl }∧s.heap.get? b=some { cls:=.type "list", dict:=dd2,data:=.seq items2 n2,slots:=sl2 }∧R (.ok (.ret (Value.ref l))) { s with heap:=s.heap.update l (qFk fun x=>x++items2),toks:=s.toks }):=
 .of_wp fun prog w A R s h=>by
  obtain⟨hp,g,d,tk,os⟩:=s;obtain⟨hl,hb,h⟩:=h;have f1:=idx_int;have f2:=qG5;have f3:=qGm;have f4:=qGd;have f5:=qGe;
  have hz':(items++items2).size≤sizeLine+1:=by rw [Array.size_append];exact hs2
  wp_walk using (wpAny_updateSeq hl rfl (hz:=hs1) (_hz':=hz')),wpAny_loadPart' hl,wpAny_loadPart' hb;exact⟨_,rfl,h⟩
end Mine
end

section
set_option maxRecDepth 10000
namespace Mine
open PySem PyProof.Rows PySem.SeqAt
section
variable {prog:Program}{w:World}{A:Around}{s:Shared}
theorem upd_list {a:Addr}{items:Array Value}{n:Nat}(f:Array Value→Array Value)(ho:s.heap.get? a=some { cls:=.type "list", data:=.seq items n }) :
  (s.heap.update a (qFk f)).PlainList a (f items)∧∀b o,b≠a→s.heap.get? b=some o→(s.heap.update a (qFk f)).get? b=some o:=by
 obtain⟨n',hd⟩:=Obj.data_mapSeq (o:={ cls:=.type "list", data:=.seq items n }) rfl f
 refine⟨⟨n',(Heap.get?_update_self _ ho (Obj.isFreed_of_seq hd)).trans ?_⟩,fun b o hb e=>(Heap.get?_update_ne _ _ _ _ hb).trans e⟩
 have hd':(qFk f { cls:=.type "list", data:=.seq items n })={ cls:=.type "list", data:=(qFk f { cls:=.type "list", data:=.seq items n }).data }:=by simp only [qFk]
 rw [hd',hd]
theorem del_op {a:Addr}{vs:List Value}{i:Int}{u:Tok}{k:Nat}{Q:Unit→Shared→Prop}(hl:s.heap.PlainList a vs.toArray)(hfit:qEd i=true)(hk:seqIndex? i vs.length=some k)(hlt:k<vs.length)(hsz:vs.length≤SZ)
  (h:∀h',h'.PlainList a (vs.eraseIdx k).toArray→(∀b o,b≠a→s.heap.get? b=some o→h'.get? b=some o)→Q () { s with heap:=h' }):wpAny (model prog w) A (delItem (.ref a) (.int i u)) Q NoE s:=by
 refine wpAny_delItem_plain hl hfit (by simpa using hk) (fun h' hl' hs'=>h h' ?_ fun b o hb e=>hs'.extBut b o hb e) (by rw [←SZ_eq];simpa using hsz)
 have e:vs.toArray.eraseIdxIfInBounds k=(vs.eraseIdx k).toArray:=by
  unfold Array.eraseIdxIfInBounds
  rw [dif_pos (by simpa using hlt)]
  simp
 rw [←e];exact hl'
theorem ins_op {a:Addr}{vs:List Value}{i:Int}{u:Tok}{y:Value}{Q:Value→Shared→Prop}(hl:s.heap.PlainList a vs.toArray)(h0:0≤i)(h1:i≤vs.length)(hsz:vs.length+1≤SZ)
  (h:∀h',h'.PlainList a (vs.take i.toNat++y::vs.drop i.toNat).toArray→(∀b o,b≠a→s.heap.get? b=some o→h'.get? b=some o)→Q .none { s with heap:=h' }):wpAny (model prog w) A (call (.builtin "list.insert") [.ref a,.int i u,y]) Q NoE s:=by
 obtain⟨n,ho⟩:=hl
 unfold SZ at hsz
 refine call_meets F.slot_list_insert ⟨_,ho,rfl⟩ F.entry_list_insert (F.args_list_insert_3 _ _ _)
  (list_insW a vs.toArray n none #[] i u y (by simp [qEd];lia) (by rw [sizeLine_eq];simp;exact qAq hsz)) ⟨ho,?_⟩
 obtain⟨h1',h2⟩:=upd_list (fun xs=>have k:=if i<0 then (i+(xs.size:Int)).toNat else min i.toNat xs.size;(xs.extract 0 k).push y++xs.extract k) ho
 refine h _ ?_ h2
 have e:(have k:=if i<0 then (i+(vs.toArray.size:Int)).toNat else min i.toNat vs.toArray.size;(vs.toArray.extract 0 k).push y++vs.toArray.extract k)=(vs.take i.toNat++y::vs.drop i.toNat).toArray:=by
  have:¬i<0:=by lia
  have hm:min i.toNat vs.length=i.toNat:=by lia
  simp only [this,if_false,qBy,hm]
  apply Array.ext'
  simp [qBu]
 rw [←e];exact h1'
theorem seqSlot_iadd:seqSlot? (.type "list") (dunderI "add")=pure (some (.builtin "list.__iadd__")):=
 PySem.seqSlot_of (T:= "list") (name:=dunderI "add") (id:= "list.__iadd__") qGj.lookup (by decide +kernel)
theorem iadd_road {a b:Value}{Q:Value→Shared→Prop}(ha:s.TypeIs a "list")(hb:s.TypeIs b "list")(hc:wpAny (model prog w) A (call (.builtin "list.__iadd__") [a,b]) Q NoE s):wpAny (model prog w) A (inplaceOp .Add a b) Q NoE s:=by
 unfold inplaceOp
 refine wpAny_holding ?_
 have hfi:fillsInplaceSlot (.type "list") "add" (Operator.Add==.Add)=pure false:=by
  unfold fillsInplaceSlot
  show (typeLookup (.type "list") (dunderI "add") >>= _)=pure false
  rw [qGj.lookup]
  rfl
 refine wpAny_bind (wpAny_typeOf ha (wpAny_bind (wpAny_of_eq hfi ?_)))
 show wpAny _ _ (if false=true then _ else _) Q NoE s
 rw [if_neg qAr]
 refine wpAny_bind (wpAny_binaryOp1_none (nm:= "add") ha hb noFill_list_add ?_)
 refine wpAny_bind (wpAny_of_eq seqSlot_iadd ?_)
 exact wpAny_bind (wpAny_rule hc)
theorem iadd_op {a b:Addr}{vs us:List Value}{Q:Value→Shared→Prop}(hl:s.heap.PlainList a vs.toArray)(hb:s.heap.IsList b us.toArray)(hsz:vs.length+us.length≤SZ)
  (h:∀h',h'.PlainList a (vs++us).toArray→(∀b o,b≠a→s.heap.get? b=some o→h'.get? b=some o)→Q (.ref a) { s with heap:=h' }):wpAny (model prog w) A (inplaceOp .Add (.ref a) (.ref b)) Q NoE s:=by
 obtain⟨n,ho⟩:=hl
 obtain⟨⟨cls2,dd2,data2,sl2⟩,ho2,hc2,n2,hd2⟩:=hb
 simp only at hc2 hd2
 subst hc2 hd2
 unfold SZ at hsz
 refine iadd_road ⟨_,ho,rfl⟩ ⟨_,ho2,rfl⟩ (call_meets qGj ⟨_,ho,rfl⟩ F.entry_list_iadd (F.args_list_iadd_2 _ _)
  (list_iaddW a vs.toArray n none #[] b us.toArray n2 dd2 sl2 (by simp [qG6,sizeLine];exact (fun a=>hsz)) (by rw [sizeLine_eq];simp;exact jL [_,_] [cL (eA xa xb) (eN 16777216)] (cL xa (eN 16777216)) jT hsz) (by rw [sizeLine_eq];simp;exact qH8 hsz)) ⟨ho,ho2,?_⟩)
 obtain⟨h1,h2⟩:=upd_list (fun x=>x++us.toArray) ho
 refine h _ ?_ h2
 have e:vs.toArray++us.toArray=(vs++us).toArray:=by simp
 rw [←e];exact h1
theorem aug_sound {op:BOp}{x y d:D}{X1 X2 X3 X4:Addr→Prop}{vx vy:Value}(e:augD op x y=some d)(rx:Rd s.heap s.toks X1 X2 x vx)(ry:Rd s.heap s.toks X3 X4 y vy){Q:Value→Shared→Prop}
  (h:∀v s',KQ true s s'→Rd s'.heap s'.toks No No d v→Q v s'):wpAny (model prog w) A (inplaceOp (opOf op) vx vy) Q NoE s:=by
 cases op with
 |add=>cases x with
  |int i=>
   obtain⟨j,rfl,e'⟩:=as_i e;cases e'
   obtain⟨t,rfl⟩:=rx;obtain⟨u,rfl⟩:=ry
   exact PyProof.Rows.iadd_int (h _ _ (KQ.tok (qAj _)) (by rw [Rd];exact⟨_,rfl⟩))
  |str l1=>
   obtain⟨l2,rfl,e'⟩:=as_s e
   obtain⟨hc,rfl⟩:=as_if e'
   obtain⟨_,t,rfl⟩:=rx;obtain⟨_,u,rfl⟩:=ry
   refine wpAny_with_toks (qA7 _) (PyProof.Rows.iadd_str (fun t' tk ht=>?_) (by rw [mk_len,mk_len,←SZ_eq];exact hc))
   rw [mk_append]
   exact h _ _ (KQ.tok ht) (by rw [Rd];exact⟨by rw [qA1];exact hc,_,rfl⟩)
  |_=>cases e
 |sub=>
  obtain⟨i,rfl,e'⟩:=as_i e
  obtain⟨j,rfl,e''⟩:=as_i e';cases e''
  obtain⟨t,rfl⟩:=rx;obtain⟨u,rfl⟩:=ry
  exact PyProof.Rows.isub_int (h _ _ (KQ.tok (qAj _)) (by rw [Rd];exact⟨_,rfl⟩))
 |_=>cases e
end
section
variable {c:Nm}{env:Env}{nm:List Str}{kd:Kinds}{q:Bool}{s₀ s s₂:Shared}{ex wr:List Addr}{φ:Nat→Addr}{ρ:Env'}
theorem FrS.enter (F:FrS c env nm kd q s₀ ex φ ρ s)(k:KQ q s s₂)(hw:∀b∈wr,s.heap.get? b=none)(hd:∀b∈wr,dom s₂.heap b):FrS c env nm kd q s₀ (wr++ex) φ ρ s₂:=by
 have F2:=F.next k
 have nw:∀a,dom s.heap a→a∉wr:=fun a ha hm=>by unfold dom at ha;rw [hw a hm] at ha;cases ha
 have hFO:∀a,FO env kd (wr++ex) a→a∉wr→FO env kd ex a:=fun a h hn=>h.imp id fun h=>(qAc.mp h).resolve_left hn
 have hO:∀a,dom s.heap a→OwnO env kd (wr++ex) φ ρ a→OwnO env kd ex φ ρ a:=fun a ha h=>h.imp (fun h=>hFO a h (nw a ha)) id
 have hX:∀(o b:Bool) a,(∃ob,s.heap.get? a=some ob)→X (OwnO env kd (wr++ex) φ ρ) (dom s₀.heap) o b a→X (OwnO env kd ex φ ρ) (dom s₀.heap) o b a:=
  fun o b a ⟨ob,e⟩ h=>h.imp (fun z=>⟨z.1,hO a (by unfold dom;rw [e];rfl) z.2⟩) id
 refine⟨F2.es,F2.st0,F2.tk0,F2.base,F2.loc,F2.cell,?_,?_,?_,F2.ownB,?_,F2.inj,?_,?_,F2.ownV⟩
 ·intro a ha
  rcases qAc.mp ha with h|h
  ·exact hd a h
  ·exact F2.exd a h
 ·intro a ha
  rcases qAc.mp ha with h|h
  ·exact fun hm=>nw a (FO.dom F (.inl hm)) h
  ·exact F2.exF a h
 ·intro a ha
  by_cases hm:a∈wr
  ·exact none_back F.base.keep (hw a hm)
  ·exact F.foB a (hFO a ha hm)
 ·intro i hi hfo
  exact F.ownF i hi (hFO _ hfo (nw _ (OwnAt.dom F hi)))
 ·intro i d t x h1 h2 h3
  obtain⟨t1,t2,v,hv,hr⟩:=F.val i d t x h1 h2 h3
  exact⟨t1,t2,v,hv.keeps k.keep,Rd.mono k.toks (fun b o _=>k.keep b o) (fun b o _=>k.keep b o) (hX _ _) (hX _ _) _ _ hr⟩
 ·intro i d vt h1 h2
  obtain⟨ds,vs,e,hsz,hl,hs⟩:=F.own i d vt h1 h2
  exact⟨ds,vs,e,hsz,hl.at fun o e=>k.keep _ _ e,Rds.mono k.toks (fun b o _=>k.keep b o) (hX _ _) _ _ hs⟩
theorem FrS.turn (F:FrS c env nm kd q s₀ ex φ ρ s){h':Heap}{tk':Nat}{gs:Array GenState}(hsub:∀b∈wr,b∈ex)(hs:∀b o,b∉wr→s.heap.get? b=some o→h'.get? b=some o)(hd:∀b∈wr,dom h' b)(ht:s.toks≤tk')
  (hg:KQ q s₀ { s with gens:=gs }):FrS c env nm kd q s₀ ex φ ρ { s with heap:=h',toks:=tk',gens:=gs }:=by
 have nFM:∀a,FM env kd a→a∉wr:=fun a h hm=>F.exF a (hsub a hm) h
 have nOwn:∀i,OwnAt ρ i→φ i∉wr:=fun i hi hm=>F.ownF i hi (.inr (hsub _ hm))
 have nX:∀(b':Bool) a,a∈wr→X (OwnO env kd ex φ ρ) (dom s₀.heap) false b' a:=fun b' a hm=>.inl ⟨rfl,.inl (.inr (hsub a hm))⟩
 have hva:∀y u,VarAt env kd s.heap y u→VarAt env kd h' y u:=fun y u h=>by
  rcases h with⟨a,m,b,c⟩|⟨a,m,b,c⟩
  ·exact .inl ⟨a,m,b.at' fun o e=>hs _ o (nFM _ (.inl rfl)) e,c⟩
  ·refine .inr ⟨a,m,b,?_⟩
   obtain⟨o,ho,hd⟩:=c
   exact⟨o,hs _ o (nFM _ (.inr ⟨y,a,b⟩)) ho,hd⟩
 refine⟨F.es,F.st0,F.tk0,?_,?_,?_,?_,F.exF,F.foB,F.ownB,F.ownF,F.inj,?_,?_,fun i x h1 h2=>hva _ _ (F.ownV i x h1 h2)⟩
 ·obtain⟨h1,t1,g1,e,k1,l1,e1,p1,q1⟩:=hg
  have e2:=F.base.keep
  have e3:=F.base.toks
  obtain⟨hh,tt,gg,e4,_⟩:=F.base
  subst e4
  cases e
  exact⟨h',tk',gs,rfl,fun b o e=>hs b o (fun hm=>by rw [F.foB b (.inr (hsub b hm))] at e;cases e) (e2 b o e),qA9 e3 ht,e1,p1,q1⟩
 ·obtain⟨m,hm⟩:=F.loc
  exact⟨m,hm.at' fun o e=>hs _ o (nFM _ (.inl rfl)) e⟩
 ·intro x a h1 h2
  obtain⟨v,o,ho,hd⟩:=F.cell x a h1 h2
  exact⟨v,o,hs _ o (nFM _ (.inr ⟨x,h1,h2⟩)) ho,hd⟩
 ·intro a ha
  by_cases hm:a∈wr
  ·exact hd a hm
  ·obtain⟨o,e⟩:=qAs.mp (F.exd a ha)
   unfold dom;rw [hs a o hm e];rfl
 ·intro i d t x h1 h2 h3
  obtain⟨t1,t2,v,hv,hr⟩:=F.val i d t x h1 h2 h3
  exact⟨t1,t2,v,hva _ _ hv,Rd.mono ht (fun b o hx e=>hs b o (fun hm=>hx (by rw [t2];exact nX _ b hm)) e) (fun b o hx e=>hs b o (fun hm=>hx (by rw [t1];exact nX _ b hm)) e) (fun _ _=>id) (fun _ _=>id) _ _ hr⟩
 ·intro i d vt h1 h2
  obtain⟨ds,vs,e,hsz,hl,hr⟩:=F.own i d vt h1 h2
  exact⟨ds,vs,e,hsz,hl.at fun o e=>hs _ o (nOwn i ⟨d,vt,h1,h2⟩) e,Rds.mono ht (fun b o hx e=>hs b o (fun hm=>hx (nX _ b hm)) e) (fun _ _=>id) _ _ hr⟩
theorem FrS.repin (F:FrS c env nm kd q s₀ ex φ ρ s){i:Nat}{d:D}{vt vt':VT}(hi:ρ[i]?=some (some (d,vt)))(h1:vt.isOwn=true)(h2:vt'.isOwn=true)(hb:vt'.tg.base=vt.tg.base) :
  FrS c env nm kd q s₀ ex φ (ρ.set i (some (d,vt'))) s:=by
 have hlt:i<ρ.length:=(qAk.mp hi).1
 have hne:∀j (sl:Slot),j≠i→(ρ.set i sl)[j]?=ρ[j]?:=fun j sl hj=>qB1 (qBz hj)
 have hself:∀sl:Slot,(ρ.set i sl)[i]?=some sl:=fun sl=>qA4 hlt
 have hown:∀j,OwnAt (ρ.set i (some (d,vt'))) j→OwnAt ρ j:=by
  rintro j ⟨d',vt₂,e1,e2⟩
  by_cases hj:j=i
  ·obtain rfl:=hj.symm;exact⟨_,_,hi,h1⟩
  ·rw [hne j _ hj] at e1;exact⟨d',vt₂,e1,e2⟩
 have hO:∀a,OwnO env kd ex φ (ρ.set i (some (d,vt'))) a→OwnO env kd ex φ ρ a:=fun a h=>h.imp id fun⟨j,h1,h2⟩=>⟨j,hown j h1,h2⟩
 have hX:∀(o b:Bool) a,(∃ob,s.heap.get? a=some ob)→X (OwnO env kd ex φ (ρ.set i (some (d,vt')))) (dom s₀.heap) o b a→X (OwnO env kd ex φ ρ) (dom s₀.heap) o b a:=
  fun o b a _ h=>h.imp (fun z=>⟨z.1,hO a z.2⟩) id
 refine⟨F.es,F.st0,F.tk0,F.base,F.loc,F.cell,F.exd,F.exF,F.foB,fun j h=>F.ownB j (hown j h),fun j h=>F.ownF j (hown j h),fun j l e1 e2=>F.inj j l (hown j e1) (hown l e2),?_,?_,fun j y e1 e2=>F.ownV j y (hown j e1) e2⟩
 ·intro j d' t x e1 e2 e3
  by_cases hj:j=i
  ·obtain rfl:=hj.symm;obtain⟨rfl,hvt⟩:=sinj ((hself _).symm.trans e1);cases hvt;cases h2
  ·rw [hne j _ hj] at e1
   obtain⟨t1,t2,v,hv,hr⟩:=F.val j d' t x e1 e2 e3
   exact⟨t1,t2,v,hv,Rd.mono (qA7 _) (fun b o _=>id) (fun b o _=>id) (hX _ _) (hX _ _) _ _ hr⟩
 ·intro j d' vt₂ e1 e2
  by_cases hj:j=i
  ·obtain rfl:=hj.symm
   obtain⟨rfl,hvt⟩:=sinj ((hself _).symm.trans e1);cases hvt
   obtain⟨ds,vs,e,hsz,hl,hs⟩:=F.own i d vt hi h1
   exact⟨ds,vs,e,hsz,hl,by rw [hb];exact Rds.mono (qA7 _) (fun b o _=>id) (hX _ _) _ _ hs⟩
  ·rw [hne j _ hj] at e1
   obtain⟨ds,vs,e,hsz,hl,hs⟩:=F.own j d' vt₂ e1 e2
   exact⟨ds,vs,e,hsz,hl,Rds.mono (qA7 _) (fun b o _=>id) (hX _ _) _ _ hs⟩
end
noncomputable def nameV (e:qA2):Option Str:=cond (e.ctorIdx==23) (some (exP e).2.2.2.1) none
theorem nameV_inv {e:qA2}{x:Str}(h:nameV e=some x):∃p,e=.Name x p:=by
 rcases e with _|_<;>first|exact nos h|exact⟨_,congrArg (PySem.Expr.Name · _) (qA8 h)⟩
noncomputable def isVars (nm:List Str)(kd:Kinds):List Nat→List qA2→Bool
 |[],es=>es.isEmpty
 |v::vs,es=>match es with
  |[]=>false
  |e::es=>match nameV e with
   |some x=>isVar nm kd v x&&isVars nm kd vs es
   |none=>false
inductive Vars (nm:List Str)(kd:Kinds):List Nat→List qA2→Prop
 |nil:Vars nm kd [] []
 |cons {v:Nat} {vs:List Nat} {x:Str} {p:Pos} {es:List qA2} (h:isVar nm kd v x=true) (r:Vars nm kd vs es):Vars nm kd (v::vs) (.Name x p::es)
theorem Vars.of {nm:List Str}{kd:Kinds}:∀{vs:List Nat} {es:List qA2},isVars nm kd vs es=true→Vars nm kd vs es:=by
 intro vs
 induction vs with
 |nil=>
  intro es h
  rcases es with _|_
  ·exact .nil
  ·exact nomatch (show false=true from h)
 |cons v vs ih=>
  intro es h
  rcases es with _|⟨e,es⟩
  ·exact nomatch (show false=true from h)
  ·have h:(match nameV e with|some x=>isVar nm kd v x&&isVars nm kd vs es|none=>false)=true:=h
   rcases hn:nameV e with _|x
   ·rw [hn] at h;cases h
   ·rw [hn] at h
    obtain⟨p,rfl⟩:=nameV_inv hn
    exact .cons (qAl.mp h).1 (ih (qAl.mp h).2)
noncomputable def notTup (e:qA2):Bool:=!(e.ctorIdx==25)
noncomputable def notComp (e:qA2):Bool:=Nat.blt e.ctorIdx 8 || Nat.blt 10 e.ctorIdx
noncomputable def PostOk (c:Nm)(env:Env)(nm:List Str)(kd:Kinds)(q:Bool)(s₀:Shared)(ex:List Addr)(φ:Nat→Addr)(ρ:Env')(s:Shared)(fl:Fl)(ρ':Env')(Q:Flow→Shared→Prop):Prop:=
 match fl with
 |.next=>∀φ' s',FrS c env nm kd q s₀ ex φ' ρ' s'→Stp env kd ex φ ρ s ex φ' ρ' s'→Q .next s'
 |.ret r=>∀O v s',KQ q s₀ s'→RdT O (dom s₀.heap) s'.heap s'.toks r.t r.d v→(r.f=true→∀a,v=.ref a→Pl s'.heap a)→Q (.ret v) s'
noncomputable def GS (prog:Program)(w:World)(c:Nm)(Φ:Fns)(k:Nat)(nm:List Str)(kd:Kinds)(q:Bool)(st:PS)(stm:Stmt):Prop:=
 ∀⦃ρ ρ':Env'⦄ ⦃fl:Fl⦄ ⦃env:Env⦄ ⦃A:Around⦄ ⦃s s₀:Shared⦄ ⦃ex:List Addr⦄ ⦃φ:Nat→Addr⦄ ⦃Q:Flow→Shared→Prop⦄,
  exS Φ q ρ st=some (fl,ρ')→FrS c env nm kd q s₀ ex φ ρ s→AOk k A→PostOk c env nm kd q s₀ ex φ ρ s fl ρ' Q→wpAny (model prog w) A (exec stm env) Q NoE s
noncomputable def GSs (prog:Program)(w:World)(c:Nm)(Φ:Fns)(k:Nat)(nm:List Str)(kd:Kinds)(q:Bool)(st:PSs)(stm:List Stmt):Prop:=
 ∀⦃ρ ρ':Env'⦄ ⦃fl:Fl⦄ ⦃env:Env⦄ ⦃A:Around⦄ ⦃s s₀:Shared⦄ ⦃ex:List Addr⦄ ⦃φ:Nat→Addr⦄ ⦃Q:Flow→Shared→Prop⦄,
  exSs Φ q ρ st=some (fl,ρ')→FrS c env nm kd q s₀ ex φ ρ s→AOk k A→PostOk c env nm kd q s₀ ex φ ρ s fl ρ' Q→wpAny (model prog w) A (execs stm env) Q NoE s
section
variable {prog:Program}{w:World}{c:Nm}{Φ:Fns}{k:Nat}{q:Bool}
theorem PostOk.after {env:Env}{nm:List Str}{kd:Kinds}{s₀:Shared}{ex:List Addr}{φ φ':Nat→Addr}{ρ ρ' ρ'':Env'}{s s':Shared}{fl:Fl}{Q:Flow→Shared→Prop}
  (h:PostOk c env nm kd q s₀ ex φ ρ s fl ρ'' Q) (st:Stp env kd ex φ ρ s ex φ' ρ' s'):PostOk c env nm kd q s₀ ex φ' ρ' s' fl ρ'' Q:=by
 cases fl with
 |next=>exact fun φ₂ s₂ F S=>h φ₂ s₂ F (st.trans S)
 |ret r=>exact h
theorem swaps_none {val:qA2}{x:Str}{p:Pos}{line:Nat}{env:Env}(h:notComp val=true):swapsWith val (some (.Name x p)) line env=pure false:=by
 rcases val with _|_<;>first|rfl|exact nomatch (show false=true from h)
theorem xi_asg {v:Nat}{e:PE}{ρ ρ':Env'}{fl:Fl}(h:exS Φ q ρ (.asg v e)=some (fl,ρ')):∃r,evE Φ q ρ e=some r∧setV ρ v r=some ρ'∧fl=.next:=by
 have h:((evE Φ q ρ e).bind fun r=>(setV ρ v r).bind fun ρ'=>some (Fl.next,ρ'))=some (fl,ρ'):=qAz (by kernel_rfl) h
 obtain⟨r,hr,h⟩:=bind_inv h
 obtain⟨ρ₁,h1,h⟩:=bind_inv h
 cases h
 exact⟨r,hr,h1,rfl⟩
variable {nm:List Str}{kd:Kinds}
theorem asg_plain {v:Nat}{e:PE}{x:Str}{px pos:Pos}{val:qA2}{ρ ρ':Env'}{r:Rs}{env:Env}{A:Around}{s s₀:Shared}{ex:List Addr}{φ:Nat→Addr}{Q:Flow→Shared→Prop}
  (he:GE prog w c Φ k nm kd e val) (hv:isVar nm kd v x=true) (hr:evE Φ q ρ e=some r) (hρ:setV ρ v r=some ρ') (F:FrS c env nm kd q s₀ ex φ ρ s) (hA:AOk k A) (h:PostOk c env nm kd q s₀ ex φ ρ s .next ρ' Q)
  (hsw:swapsWith val (some (.Name x px)) pos.line env=pure false):wpAny (model prog w) A (exec (.Assign [.Name x px] val pos) env) Q NoE s:=by
 obtain⟨hn,hk,hd⟩:=isVar_of hv
 exact wpAny_Assign_Name (he hr F.toE hA fun u s1 k1 r1 f1=>store_ok F k1 hn hk hρ r1 f1 fun φ' s' F' S'=>h φ' s' F' S') hsw
theorem gs_asg {v:Nat}{e:PE}{x:Str}{px pos:Pos}{val:qA2}(hv:isVar nm kd v x=true)(hc:notComp val=true)(he:GE prog w c Φ k nm kd e val):GS prog w c Φ k nm kd q (.asg v e) (.Assign [.Name x px] val pos):=fun _ _ _ _ _ _ _ _ _ _ h0 F hA h=>by
 obtain⟨r,hr,hρ,rfl⟩:=xi_asg h0
 exact asg_plain he hv hr hρ F hA h (swaps_none hc)
theorem comp_store {v:Nat}{x:Str}{px:Pos}{ρ ρ':Env'}{l:List D}{env:Env}{A:Around}{s s₀ s':Shared}{ex:List Addr}{φ:Nat→Addr}{Q:Flow→Shared→Prop}{C D:Addr}{m':Str→Option Value}{vs:List Value}
  (hn:nm[v]?=some x) (hkl:env.kindOf x=some .local) (hsz:l.length≤SZ) (hρ:setV ρ v (Rs.new (.list l) Tg.z)=some ρ') (F:FrS c env nm kd q s₀ ex φ ρ s) (h:PostOk c env nm kd q s₀ ex φ ρ s .next ρ' Q)
  (k':KQ q s s') (hD:s.heap.get? D=none) (hC:s.heap.get? C=none) (hDC:D≠C) (hnC:s'.heap.Ns C m') (hL:s'.heap.PlainList D vs.toArray) (hR:Rds s'.heap s'.toks (X (fun a=>OwnO env kd ex φ ρ a∨a=C) (dom s₀.heap) false false) l vs) :
  compPost (model prog w) A NoE (some (assign (.Name x px) env)) (fun _ s'=>Q .next s') (.ref D) C (.ok .next) s':=by
 have F':=F.next k'
 obtain⟨m,hm⟩:=F'.loc
 have hLC:env.locals≠C:=fun q=>by have:=FO.dom F (.inl (.inl rfl));unfold dom at this;rw [q,hC] at this;cases this
 show wpAny _ A (assign (.Name x px) env (.ref D)) _ _ s'
 refine wpAny_assign_Name (wpAny_storeName_local hkl hm (fun h₂ hn₂ hs₂=>⟨m',hnC.sameBut hs₂ (qBz hLC),fun h₃ hs₃=>?_⟩) (hp_of F.es.ok))
 have hs:∀b o,b≠env.locals→b∉[C]→s'.heap.get? b=some o→h₃.get? b=some o:=fun b o hb1 hb2 e=>hs₃.extBut b o (by simpa using hb2) (hs₂.extBut b o hb1 e)
 have hn₃:=hn₂.sameBut hs₃ hLC
 have hcell:∀z a,kd.lookup z=some .cell→env.cells.lookup z=some a→∀o,s'.heap.get? a=some o→h₃.get? a=some o:=fun z a e1 e2 o e3=>by
  refine hs a o (F.es.apartL z a e1 e2) ?_ e3
  simp only [qAi]
  intro q
  have:=FO.dom F (.inl (.inr ⟨z,e1,e2⟩));unfold dom at this;rw [q,hC] at this;cases this
 have hkx:kd.lookup x=some .local:=(kindOf_eq F.es.ok x).symm.trans hkl
 have hh:=F.setX [C] k' (tk':=s'.toks+1) (v:=.ref D) hn hρ (fun b hb=>by rw [qAi.mp hb];exact hC) (by
   refine⟨hsz,D,vs,rfl,hL.isList,?_,?_⟩
   ·rintro (⟨_,z|z⟩|⟨_,z⟩)
    ·have:=OwnO.dom F z;unfold dom at this;rw [hD] at this;cases this
    ·exact hDC (qAi.mp z)
    ·have:=F.toE.hB _ z;unfold dom at this;rw [hD] at this;cases this
   ·exact Rds.mono (qA7 _) (fun b o _=>id) (fun a _ hx=>hx.imp (fun z=>⟨z.1,z.2.imp id fun z=>qAi.mp z⟩) id) _ _ hR) (fun _ a e=>by cases e;exact⟨hD,_,hL⟩) env.locals (.inl rfl) hs (qAj _) (.inl ⟨hkx,_,hn₃,if_pos rfl⟩)
 refine (hh ?_ ⟨_,hn₃⟩ ?_).elim fun φ' z=>h φ' _ z.1 z.2
 ·intro z u hz hu
  rcases hu with⟨e1,m'',e2,e3⟩|⟨e1,a,e2,o,e3,e4⟩
  ·refine .inl ⟨e1,_,hn₃,?_⟩
   show (if z=x then some (Value.ref D) else m z)=some u
   rw [if_neg hz,←e3];exact hm.agree e2 z
  ·exact .inr ⟨e1,a,e2,o,hcell z a e1 e2 o e3,e4⟩
 ·intro z a e1 e2
  obtain⟨v,o,ho,hd⟩:=F'.cell z a e1 e2
  exact⟨v,o,hcell z a e1 e2 o ho,hd⟩
theorem gs_asgc {v cv:Nat}{elt:PE}{it:PI}{cc:PTo}{x y:Str}{px py p pos:Pos}{elt' it':qA2}{ifs:List qA2}{scope:Scope}{z:Int}(hz:z=0)(hx:isVar nm kd v x=true)(hv:nm[cv]?=some y)(hco:compOk scope nm kd y cv=true)(hns:notSet it'=true)
  (g1:GIt prog w c Φ k nm kd it it') (g2:GTo prog w c Φ k nm (relK scope.names kd) cc ifs) (g3:GE prog w c Φ k nm (relK scope.names kd) elt elt') :
  GS prog w c Φ k nm kd q (.asg v (.comp elt cv it cc)) (.Assign [.Name x px] (.ListComp elt' [⟨.Name y py,it',ifs,z⟩] scope p) pos):=fun {ρ ρ' fl env A s s₀ ex φ Q} h0 F hA h=>by
 subst hz
 obtain⟨r,hr,hρ,rfl⟩:=xi_asg h0
 generalize hb:(env.blockKind==ScopeKind.function&&env.kindOf x==some .local&&px.line==p.line&&!(scope.names.any fun (n,k)=>n==x&&(k==.local || k==.cell)))=b
 have hsw:swapsWith (.ListComp elt' [⟨.Name y py,it',ifs,0⟩] scope p) (some (.Name x px)) pos.line env=pure b:=by rw [←hb];rfl
 cases b with
 |false=>exact asg_plain (ge_comp rfl hv hco hns g1 g2 g3) hx hr hρ F hA h hsw
 |true=>
  have hkl:env.kindOf x=some .local:=by
   have h1:=(qAl.mp (qAl.mp (qAl.mp hb).1).1).2
   exact eq_of_beq h1
  obtain⟨hn,hk,hd⟩:=isVar_of hx
  obtain⟨its,l,hits,hl,hsz,rfl⟩:=iv_comp hr
  obtain⟨c1,c2,c3,c4,c5,_⟩:=comp_env F.es.ok hco
  have FE:=F.toE
  rw [exec_Assign_Name_used _ _ _ _ hsw]
  refine wpAny_bind (wpAny_standAt (wpAny_bind ?_))
  show wpAny _ A (do let _ ←comprehension (.ListComp elt' [⟨.Name y py,it',ifs,0⟩] scope p) scope env _ (newList []) false (eval it' env) (some (assign (.Name x px) env))) _ _ s
  refine wpAny_bind (wpAny_mono (comp_core (Q:=fun _ s'=>Q .next s') _ c1 c2 c3 c4 c5 FE.hB FE.hO (set_folds hns) hl (g1 hits FE hA) ?_ (some (assign (.Name x px) env)) ?_) (fun _ s' hq=>wpAny_pure (wpAny_pure hq)) fun _ _ e=>e)
  ·intro D C wr u s₁ s₃ m₃ d r hD hC hw k1 dD dC dw hn' hm hk' ht _ hu hf
   exact comp_body g2 g3 (FE.comp hco hv k1 hk' ht hD hC hw dD dC dw hn' hm hu) hA hf
  ·intro D C m' vs s' k' hD hC hDC hnC hL hR
   exact comp_store hn hkl hsz hρ F h k' hD hC hDC hnC hL hR
end
section
variable {prog:Program}{w:World}{c:Nm}{Φ:Fns}{k:Nat}{q:Bool}
theorem FrS.touch {env:Env}{nm:List Str}{kd:Kinds}{s₀ s:Shared}{ex:List Addr}{φ:Nat→Addr}{ρ:Env'}(F:FrS c env nm kd q s₀ ex φ ρ s){h':Heap}{tk':Nat}(b₀:Addr)(hFM:FM env kd b₀)
  (hs:∀b o,b≠b₀→s.heap.get? b=some o→h'.get? b=some o) (ht:s.toks≤tk') (hva:∀y u,VarAt env kd s.heap y u→VarAt env kd h' y u) (hloc:∃m,h'.Ns env.locals m)
  (hcell:∀x a,kd.lookup x=some .cell→env.cells.lookup x=some a→∃v,h'.IsCell a v) :
  FrS c env nm kd q s₀ ex φ ρ { s with heap:=h',toks:=tk' }∧Stp env kd ex φ ρ s ex φ ρ { s with heap:=h',toks:=tk' }:=by
 have hFO:FO env kd ex b₀:=.inl hFM
 have hb0:dom h' b₀:=by
  rcases hFM with rfl|⟨y,h1,h2⟩
  ·obtain⟨m,o,_,_,ho,_⟩:=hloc;unfold dom;rw [ho];rfl
  ·obtain⟨v,o,ho,_⟩:=hcell y b₀ h1 h2;unfold dom;rw [ho];rfl
 have hdom:∀b,dom s.heap b→dom h' b:=fun b hb=>by
  by_cases hq:b=b₀
  ·subst hq;exact hb0
  ·obtain⟨o,e⟩:=qAs.mp hb
   unfold dom;rw [hs b o hq e];rfl
 have hX0:∀(b':Bool),X (OwnO env kd ex φ ρ) (dom s₀.heap) false b' b₀:=fun b'=>.inl ⟨rfl,.inl hFO⟩
 refine⟨⟨F.es,F.st0,F.tk0,?_,hloc,hcell,fun a h=>hdom a (F.exd a h),F.exF,F.foB,F.ownB,F.ownF,F.inj,?_,?_,fun i x h1 h2=>hva _ _ (F.ownV i x h1 h2)⟩,
  fun b o e hm=>hs b o (fun q=>hm (q▸.inl hFM)) e,fun _ _ h=>h,fun _ _ h=>h,hdom,ht,fun _ _ _ h=>⟨h,rfl⟩⟩
 ·obtain⟨h1,t1,g1,rfl,k1,l1,e1,p1,q1⟩:=F.base
  exact⟨h',tk',g1,rfl,fun b o e=>hs b o (fun q=>by rw [q,F.foB b₀ hFO] at e;cases e) (k1 b o e),qA9 l1 ht,e1,p1,q1⟩
 ·intro i d t x h1 h2 h3
  obtain⟨t1,t2,v,hv,hr⟩:=F.val i d t x h1 h2 h3
  exact⟨t1,t2,v,hva _ _ hv,Rd.mono ht (fun b o hx e=>hs b o (fun q=>hx (by rw [t2];exact q▸hX0 _)) e) (fun b o hx e=>hs b o (fun q=>hx (by rw [t1];exact q▸hX0 _)) e) (fun _ _=>id) (fun _ _=>id) _ _ hr⟩
 ·intro i d vt h1 h2
  obtain⟨ds,vs,e,hsz,hl,hr⟩:=F.own i d vt h1 h2
  exact⟨ds,vs,e,hsz,hl.at fun o e=>hs _ o (fun q=>F.ownF i ⟨d,vt,h1,h2⟩ (q▸hFO)) e,Rds.mono ht (fun b o hx e=>hs b o (fun q=>hx (q▸hX0 _)) e) (fun _ _=>id) _ _ hr⟩
theorem restore_ok {env:Env}{nm:List Str}{kd:Kinds}{s₀ s:Shared}{ex:List Addr}{φ:Nat→Addr}{ρ:Env'}{A:Around}(F:FrS c env nm kd q s₀ ex φ ρ s){i:Nat}{x:Str}(hi:OwnAt ρ i)(hx:nm[i]?=some x)
  (hk:kd.lookup x=some .local∨kd.lookup x=some .cell) {Q:Unit→Shared→Prop} (h:∀s',FrS c env nm kd q s₀ ex φ ρ s'→Stp env kd ex φ ρ s ex φ ρ s'→Q () s'):wpAny (model prog w) A (storeName env x (.ref (φ i))) Q NoE s:=by
 obtain⟨m,hm⟩:=F.loc
 have hv:=F.ownV i x hi hx
 rcases hk with hk|hk
 ·refine wpAny_storeName_local ((kindOf_eq F.es.ok x).trans hk) hm (fun h' hn' hsb=>?_) (hp_of F.es.ok)
  have hs:∀b o,b≠env.locals→s.heap.get? b=some o→h'.get? b=some o:=fun b o hb e=>hsb.extBut b o hb e
  have hh:=F.touch (tk':=s.toks+1) env.locals (.inl rfl) hs (qAj _) ?_ ⟨_,hn'⟩ ?_
  ·exact h _ hh.1 hh.2
  ·intro y u hu
   rcases hu with⟨h1,m',h2,h3⟩|⟨h1,a,h2,o,ho,hd⟩
   ·refine .inl ⟨h1,_,hn',?_⟩
    show (if y=x then some (Value.ref (φ i)) else m y)=some u
    split
    ·rename_i e
     subst e
     rcases hv with⟨_,m2,g2,g3⟩|⟨g1,_⟩
     ·rw [←g3,←h3];exact g2.agree h2 y
     ·rw [h1] at g1;cases g1
    ·rw [←h3];exact hm.agree h2 y
   ·exact .inr ⟨h1,a,h2,o,hs _ o (F.es.apartL y a h1 h2) ho,hd⟩
  ·intro y a h1 h2
   obtain⟨v,o,ho,hd⟩:=F.cell y a h1 h2
   exact⟨v,o,hs _ o (F.es.apartL y a h1 h2) ho,hd⟩
 ·obtain⟨a,ha⟩:=F.es.ok.cells x hk
  obtain⟨v₀,hv₀⟩:=F.cell x a hk ha
  refine wpAny_storeName_cell F.es.ok.kind ((kindOf_eq F.es.ok x).trans hk) ha hv₀ fun h' hc' hsb=>?_
  have hs:∀b o,b≠a→s.heap.get? b=some o→h'.get? b=some o:=fun b o hb e=>hsb.extBut b o hb e
  have hLa:env.locals≠a:=fun q=>F.es.apartL x a hk ha q.symm
  have hh:=F.touch (tk':=s.toks) a (.inr ⟨x,hk,ha⟩) hs (qA7 _) ?_ ⟨m,hm.at' fun o e=>hs _ o hLa e⟩ ?_
  ·exact h _ hh.1 hh.2
  ·intro y u hu
   rcases hu with⟨h1,m',h2,h3⟩|⟨h1,a',h2,o,ho,hd⟩
   ·exact .inl ⟨h1,m',h2.at' fun o e=>hs _ o hLa e,h3⟩
   ·by_cases hya:a'=a
    ·subst hya
     have hyx:=F.es.apart y x a' h1 hk h2 ha
     subst hyx
     rcases hv with⟨g1,_⟩|⟨_,a2,g2,o2,g3,g4⟩
     ·rw [h1] at g1;cases g1
     ·rw [ha] at g2;cases g2
      rw [ho] at g3;cases g3
      rw [hd] at g4;cases g4
      exact .inr ⟨h1,a',h2,hc'⟩
    ·exact .inr ⟨h1,a',h2,o,hs _ o hya ho,hd⟩
  ·intro y a' h1 h2
   by_cases hya:a'=a
   ·subst hya;exact⟨_,hc'⟩
   ·obtain⟨v,o,ho,hd⟩:=F.cell y a' h1 h2
    exact⟨v,o,hs _ o hya ho,hd⟩
theorem flats_any {h h':Heap}{T:Nat}{X1 X2:Addr→Prop}:∀{ds:List D} {vs:List Value},allFlat ds=true→Rds h T X1 ds vs→Rds h' T X2 ds vs
 |[],vs,_,r=>by rw [Rds] at r ⊢;exact r
 |d::ds,vs,hf,r=>by
  simp only [allFlat,qEv,qAw] at hf
  rw [Rds] at r⊢
  obtain⟨v,us,rfl,h1,h2⟩:=r
  exact⟨v,us,rfl,Rd.flat_any hf.1 h1,flats_any hf.2 h2⟩
variable {nm:List Str}{kd:Kinds}
theorem gs_ret {e:PE}{e':qA2}{p:Pos}(he:GE prog w c Φ k nm kd e e'):GS prog w c Φ k nm kd q (.ret e) (.Return (some e') p):=fun {ρ ρ' fl env A s s₀ ex φ Q} h0 F hA h=>by
 have h0:((evE Φ q ρ e).bind fun r=>some (Fl.ret r,ρ))=some (fl,ρ'):=qAz (by kernel_rfl) h0
 obtain⟨r,hr,h0⟩:=bind_inv h0
 cases h0
 exact wpAny_Return_some (he hr F.toE hA fun u s1 k1 r1 f1=>h _ u s1 (F.base.trans k1) r1 fun e a ev=>(f1 e a ev).2)
theorem oTrue {α:Type}{o:Option Bool}{x:α}{r:α}(h:(match o with|some true=>some x|_=>none)=some r):o=some true∧r=x:=by
 cases o with
 |none=>cases h
 |some b=>cases b with
  |false=>cases h
  |true=>exact⟨rfl,(qA8 h).symm⟩
theorem gs_assert {t:PT}{t':qA2}{p:Pos}(ht:GT prog w c Φ k nm kd t t'):GS prog w c Φ k nm kd q (.assert_ t) (.Assert t' none p):=fun {ρ ρ' fl env A s s₀ ex φ Q} h0 F hA h=>by
 have h0:(match evT Φ q ρ t with|some true=>some (Fl.next,ρ)|_=>none)=some (fl,ρ'):=qAz (by kernel_rfl) h0
 obtain⟨hb,h0⟩:=oTrue h0
 cases h0
 exact wpAny_Assert_holds (ht hb F.toE hA fun s1 k1=>⟨rfl,h φ s1 (F.next k1) (Stp.kq k1)⟩)
theorem gs_if {t:PT}{b o:PSs}{t':qA2}{b' o':List Stmt}{p:Pos}(ht:GT prog w c Φ k nm kd t t')(hb:GSs prog w c Φ k nm kd q b b')(ho:GSs prog w c Φ k nm kd q o o'):GS prog w c Φ k nm kd q (.if_ t b o) (.If t' b' o' p):=fun {ρ ρ' fl env A s s₀ ex φ Q} h0 F hA h=>by
 obtain⟨v,hv,h0⟩:=oBool (o:=evT Φ q ρ t) (x:=exSs Φ q ρ b) (y:=exSs Φ q ρ o) (qAz (by kernel_rfl) h0)
 refine wpAny_If (ht hv F.toE hA fun s1 k1=>?_)
 cases v with
 |true=>exact hb h0 (F.next k1) hA (h.after (Stp.kq k1))
 |false=>exact ho h0 (F.next k1) hA (h.after (Stp.kq k1))
theorem gss_nil:GSs prog w c Φ k nm kd q .nil []:=fun _ _ _ _ _ _ _ _ _ _ h0 F hA h=>by
 cases h0
 exact wpAny_execs_nil (h _ _ F Stp.refl)
theorem flInv {o:Option (Fl×Env')}{f:Env'→Option (Fl×Env')}{r:Fl×Env'}(h:(match o with|some (.next,ρ)=>f ρ|some (.ret x,ρ)=>some (.ret x,ρ)|none=>none)=some r) :
  (∃ρ,o=some (.next,ρ)∧f ρ=some r)∨∃x ρ,o=some (.ret x,ρ)∧r=(.ret x,ρ):=by
 cases o with
 |none=>cases h
 |some z=>
  obtain⟨fl,ρ⟩:=z
  cases fl with
  |next=>exact .inl ⟨ρ,rfl,h⟩
  |ret x=>exact .inr ⟨x,ρ,rfl,(qA8 h).symm⟩
theorem gss_cons {st:PS}{r:PSs}{st':Stmt}{r':List Stmt}(h1:GS prog w c Φ k nm kd q st st')(h2:GSs prog w c Φ k nm kd q r r'):GSs prog w c Φ k nm kd q (.cons st r) (st'::r'):=fun {ρ ρ' fl env A s s₀ ex φ Q} h0 F hA h=>by
 rcases flInv (o:=exS Φ q ρ st) (f:=fun ρ'=>exSs Φ q ρ' r) (qAz (by kernel_rfl) h0) with⟨ρ₁,e1,h0⟩|⟨x,ρ₁,e1,h0⟩
 ·exact wpAny_execs_cons (h1 e1 F hA fun φ' s' F' S'=>h2 h0 F' hA (h.after S'))
 ·cases h0
  exact wpAny_execs_cons (h1 e1 F hA fun O v s' k' r' p'=>h O v s' k' r' p')
theorem whInv {t:Env'→Option Bool}{f:Env'→Option (Fl×Env')}{n:Nat}{ρ:Env'}{r:Fl×Env'}(h:whileS t f (n+1) ρ=some r) :
  (t ρ=some true∧((∃ρ₂,f ρ=some (.next,ρ₂)∧whileS t f n ρ₂=some r)∨∃x ρ₂,f ρ=some (.ret x,ρ₂)∧r=(.ret x,ρ₂)))∨(t ρ=some false∧r=(.next,ρ)):=by
 obtain⟨b,hb,h⟩:=oBool (o:=t ρ) (x:=match f ρ with|some (.next,ρ')=>whileS t f n ρ'|some (.ret r,ρ')=>some (.ret r,ρ')|none=>none) (y:=some (Fl.next,ρ)) (qAz (by kernel_rfl) h)
 cases b with
 |true=>exact .inl ⟨hb,flInv h⟩
 |false=>exact .inr ⟨hb,(qA8 h).symm⟩
theorem gs_while {t:PT}{b:PSs}{t':qA2}{b':List Stmt}{p:Pos}(ht:GT prog w c Φ k nm kd t t')(hb:GSs prog w c Φ k nm kd q b b'):GS prog w c Φ k nm kd q (.while_ t b) (.While t' b' [] p):=fun {ρ ρ' fl env A s s₀ ex φ Q} he F hA h=>by
 have he:whileS (fun ρ=>evT Φ q ρ t) (fun ρ=>exSs Φ q ρ b) WF ρ=some (fl,ρ'):=he
 obtain⟨P,hP⟩:∃P:Nat→Shared→Prop,∀n s',P n s'↔∃φ₁ ρ₁,FrS c env nm kd q s₀ ex φ₁ ρ₁ s'∧Stp env kd ex φ ρ s ex φ₁ ρ₁ s'∧whileS (fun ρ=>evT Φ q ρ t) (fun ρ=>exSs Φ q ρ b) n ρ₁=some (fl,ρ'):=⟨_,fun _ _=>qHr⟩
 refine wpAny_While (codeAny_whileLoop P ?_ WF ((hP _ _).mpr ⟨φ,ρ,F,Stp.refl,he⟩))
 intro n s' hn
 obtain⟨φ₁,ρ₁,F₁,S₁,e₁⟩:=(hP _ _).mp hn
 cases n with
 |zero=>cases e₁
 |succ n=>
  rcases whInv e₁ with⟨htt,e₂⟩|⟨htt,e₂⟩
  ·refine wpAny_mono (ht htt F₁.toE hA fun s2 k2=>?_) (fun _ _ x=>x) fun _ _ e=>e.elim
   have F2:=F₁.next k2
   have S2:=S₁.trans (Stp.kq k2)
   rcases e₂ with⟨ρ₂,e2,e3⟩|⟨r,ρ₂,e2,e3⟩
   ·exact wpAny_mono (hb e2 F2 hA fun φ' s3 F3 S3=>⟨n,qBo _,(hP _ _).mpr ⟨φ',ρ₂,F3,S2.trans S3,e3⟩⟩) (fun _ _ x=>x) fun _ _ e=>e.elim
   ·cases e3
    refine wpAny_mono (hb e2 F2 hA ?_) (fun _ _ x=>x) fun _ _ e=>e.elim
    exact fun O v s3 k3 r3 p3=>h O v s3 k3 r3 p3
  ·cases e₂
   exact wpAny_mono (ht htt F₁.toE hA fun s2 k2=>wpAny_execs_nil (h φ₁ s2 (F₁.next k2) (S₁.trans (Stp.kq k2)))) (fun _ _ x=>x) fun _ _ e=>e.elim
theorem ld_own {env:Env}{A:Around}{s:Shared}{x:Str}{u:Value}{Q:Value→Shared→Prop}(ok:EnvOk env kd)(hu:VarAt env kd s.heap x u)(hq:Q u s):wpAny (model prog w) A (loadName env x) Q NoE s:=by
 rcases hu with⟨g1,m,g2,g3⟩|⟨g1,a,g2,g3⟩
 ·exact wpAny_loadName_local ok.kind ((kindOf_eq ok x).trans g1) g2 g3 hq
 ·exact wpAny_loadName_cell ok.kind ((kindOf_eq ok x).trans g1) g2 g3 hq
theorem dList {α:Type}{d:D}{k:List D→Option α}{r:α}(h:(match d with|.list l=>k l|_=>none)=some r):∃l,d=.list l∧k l=some r:=by
 rcases d with _|_<;>first|exact⟨_,rfl,h⟩|cases h
theorem slotInv {α:Type}{z:Option Slot}{f:List D→Bool→Option α}{g:D→Option α}{r:α}(h:(match z with|some (some (.list ds,.own b))=>f ds b|some (some (d,.val _))=>g d|_=>none)=some r) :
  (∃ds b,z=some (some (.list ds,.own b))∧f ds b=some r)∨∃d t,z=some (some (d,.val t))∧g d=some r:=by
 rcases z with _|_|⟨d,vt⟩
 ·exact nos h
 ·exact nos h
 ·rcases vt with _|_<;>rcases d with _|_<;>first|exact nos h|exact .inr ⟨_,_,rfl,h⟩|exact .inl ⟨_,_,rfl,h⟩
theorem pr_cast {α β:Type}{P:α→β→Prop}{a c:α}{b d:β}(e:some (a,b)=some (c,d))(h:P a b):P c d:=by cases e;exact h
theorem xs_aug {v:Nat}{op:BOp}{e:PE}{ρ:Env'}:exS Φ q ρ (.aug v op e)=(match ρ[v]? with
  |some (some (.list ds,.own b))=>(match op with
   |.add=>(evE Φ q ρ e).bind fun r=>(match r.d with
     |.list es=>if ds.length+es.length≤SZ then
       (if allFlat es then some (Fl.next,ρ.set v (some (.list (ds++es),.own b)))
       else if r.t.deep then none else some (Fl.next,ρ.set v (some (.list (ds++es),.own (b || r.t.base))))) else none
     |_=>none)
   |_=>none)
  |some (some (d,.val _))=>if d.flat=true then (evE Φ q ρ e).bind fun r=>(augD op d r.d).bind fun d'=>(setV ρ v (Rs.flat d')).bind fun ρ'=>some (Fl.next,ρ') else none
  |_=>none):=by kernel_rfl
inductive AugP (Φ:Fns)(q:Bool)(ρ:Env')(v:Nat):BOp→PE→Fl→Env'→Prop
 |list {ds es:List D} {b b':Bool} {r:Rs} {e:PE} (hv:ρ[v]?=some (some (.list ds,.own b))) (hr:evE Φ q ρ e=some r) (hes:r.d=.list es) (hsz:ds.length+es.length≤SZ)
   (hc:(allFlat es=true∧b'=b)∨(r.t.deep=false∧b'=(b || r.t.base))):AugP Φ q ρ v .add e .next (ρ.set v (some (.list (ds++es),.own b')))
 |flat {op:BOp} {d d':D} {t:Tg} {r:Rs} {e:PE} {ρ':Env'} (hv:ρ[v]?=some (some (d,.val t))) (hr:evE Φ q ρ e=some r) (hd:augD op d r.d=some d') (hρ:setV ρ v (Rs.flat d')=some ρ'):AugP Φ q ρ v op e .next ρ'
theorem xi_aug {v:Nat}{op:BOp}{e:PE}{ρ ρ':Env'}{fl:Fl}(h:exS Φ q ρ (.aug v op e)=some (fl,ρ')):AugP Φ q ρ v op e fl ρ':=by
 rw [xs_aug] at h
 rcases slotInv h with⟨ds,b,hv,h⟩|⟨d,t,hv,h⟩
 ·cases op with
  |add=>
   obtain⟨r,hr,h⟩:=bind_inv h
   obtain⟨es,hes,h⟩:=dList h
   obtain⟨hsz,h⟩:=qBs.mp h
   by_cases hf:allFlat es=true
   ·exact pr_cast ((if_pos hf).symm.trans h) (.list hv hr hes hsz (.inl ⟨hf,rfl⟩))
   ·obtain⟨hdp,h⟩:=qBd.mp ((if_neg hf).symm.trans h)
    exact pr_cast h (.list hv hr hes hsz (.inr ⟨by simpa using hdp,rfl⟩))
  |_=>exact nos h
 ·obtain⟨_,h⟩:=qBs.mp h
  obtain⟨r,hr,h⟩:=bind_inv h
  obtain⟨d',hd',h⟩:=bind_inv h
  obtain⟨ρ₂,hρ,h⟩:=bind_inv h
  exact pr_cast h (.flat hv hr hd' hρ)
theorem augD_flat {op:BOp}{d d2 d':D}(h:augD op d d2=some d'):d'.flat=true:=by
 cases op with
 |add=>cases d with
  |int i=>obtain⟨j,rfl,e⟩:=as_i h;cases e;rfl
  |str i=>obtain⟨j,rfl,e⟩:=as_s h;obtain⟨_,rfl⟩:=as_if e;rfl
  |_=>cases h
 |sub=>obtain⟨i,rfl,e⟩:=as_i h;obtain⟨j,rfl,e⟩:=as_i e;cases e;rfl
 |_=>cases h
theorem aug_list {v:Nat}{x:Str}{ds es:List D}{vs us:List Value}{b b':Bool}{ρ:Env'}{env:Env}{A:Around}{s s₀ s1:Shared}{h':Heap}{ex:List Addr}{φ:Nat→Addr}{Q:Flow→Shared→Prop}
  (hn:nm[v]?=some x) (hk:kd.lookup x=some .local∨kd.lookup x=some .cell) (hv:ρ[v]?=some (some (.list ds,.own b))) (F:FrS c env nm kd q s₀ ex φ ρ s) (k1:KQ q s s1) (hsz:(ds++es).length≤SZ) (hl':h'.PlainList (φ v) (vs++us).toArray)
  (hup:∀b o,b≠φ v→s1.heap.get? b=some o→h'.get? b=some o) (q1:Rds s1.heap s1.toks (X (OwnO env kd ex φ ρ) (dom s₀.heap) false b') ds vs) (q2:Rds s1.heap s1.toks (X (OwnO env kd ex φ ρ) (dom s₀.heap) false b') es us)
  (h:PostOk c env nm kd q s₀ ex φ ρ s .next (ρ.set v (some (.list (ds++es),.own b'))) Q):wpAny (model prog w) A (storeName env x (.ref (φ v))) (fun _=>Q .next) NoE { s1 with heap:=h' }:=by
 have hr':Rds h' s1.toks (X (OwnO env kd ex φ ρ) (dom s₀.heap) false b') (ds++es) (vs++us):=
  Rds.mono (qA7 _) (fun b o hx e=>hup b o (fun q=>hx (.inl ⟨rfl,.inr ⟨v,⟨_,_,hv,rfl⟩,q⟩⟩)) e) (fun _ _=>id) _ _ (Rds.append q1 q2)
 obtain⟨F2,S2⟩:=F.mutl k1 hv (tk':=s1.toks) hup (qA7 _) hsz hl' hr'
 have hlt:v<ρ.length:=(qAk.mp hv).1
 exact restore_ok F2 (i:=v) ⟨_,_,qA4 hlt,rfl⟩ hn hk fun s' F3 S3=>h φ s' F3 (S2.trans S3)
theorem gs_aug {v:Nat}{op:BOp}{op':Operator}{e:PE}{x:Str}{px pos:Pos}{val:qA2}(ho:op'=opOf op)(hx:isVar nm kd v x=true)(he:GE prog w c Φ k nm kd e val):GS prog w c Φ k nm kd q (.aug v op e) (.AugAssign (.Name x px) op' val pos):=fun {ρ ρ' fl env A s s₀ ex φ Q} h0 F hA h=>by
 subst ho
 obtain⟨hn,hk,hd⟩:=isVar_of hx
 rcases xi_aug h0 with @⟨ds,es,b,b',r,_,hv,hr,hes,hsz,hc⟩|@⟨_,d,d',t,r,_,_,hv,hr,hd',hρ⟩
 ·have hva:=F.ownV v x ⟨_,_,hv,rfl⟩ hn
  refine wpAny_AugAssign_Name (ld_own F.es.ok hva (he hr F.toE hA fun u s1 k1 r1 _=>?_))
  have F1:=F.next k1
  obtain⟨ds',vs,e1,hds,hl,hs⟩:=F1.own v _ _ hv rfl
  cases e1
  rw [hes] at r1
  obtain⟨_,a,us,rfl,hl2,_,hs2⟩:=r1
  refine iadd_op hl hl2 (by rw [hs.length,hs2.length];exact hsz) fun h' hl' hup=>?_
  have hsz':(ds++es).length≤SZ:=by rw [qA1];exact hsz
  rcases hc with⟨hfl,rfl⟩|⟨hdp,rfl⟩
  ·exact aug_list hn hk hv F k1 hsz' hl' hup hs (flats_any hfl hs2) h
  ·refine aug_list hn hk hv F k1 hsz' hl' hup (hs.weak (fun q=>q) (fun q=>?_)) ?_ h
   ·show (b || r.t.base)=true
    have q:b=true:=q
    rw [q];rfl
   ·rw [hdp] at hs2
    exact hs2.weak (fun q=>q) (fun q=>by rw [q,qFv])
 ·obtain⟨_,_,u0,hu0,hr0⟩:=F.val v _ _ x hv hn hk
  refine wpAny_AugAssign_Name (ld_own F.es.ok hu0 (he hr F.toE hA fun u s1 k1 r1 _=>aug_sound hd' (hr0.mono k1.toks k1.keep) r1 fun u2 s2 k2 r2=>?_))
  exact store_ok F (k1.trans k2.weak) hn hk hρ (Rd.flat_any (augD_flat hd') r2) (fun q=>by cases q) fun φ' s' F' S'=>h φ' s' F' S'
end
theorem Rds.take {h:Heap}{T:Nat}{X:Addr→Prop}:∀{ds:List D} {vs:List Value},Rds h T X ds vs→∀n,Rds h T X (ds.take n) (vs.take n)
 |[],vs,r,n=>by rw [Rds] at r;subst r;simp [Rds]
 |d::ds,vs,r,0=>by simp [Rds]
 |d::ds,vs,r,n+1=>by
  rw [Rds] at r
  obtain⟨v,us,rfl,h1,h2⟩:=r
  rw [qCk,qCk,Rds]
  exact⟨v,_,rfl,h1,h2.take n⟩
theorem Rds.drop {h:Heap}{T:Nat}{X:Addr→Prop}:∀{ds:List D} {vs:List Value},Rds h T X ds vs→∀n,Rds h T X (ds.drop n) (vs.drop n)
 |[],vs,r,n=>by rw [Rds] at r;subst r;simp [Rds]
 |d::ds,vs,r,0=>r
 |d::ds,vs,r,n+1=>by
  rw [Rds] at r
  obtain⟨v,us,rfl,h1,h2⟩:=r
  rw [qH9,qH9]
  exact h2.drop n
theorem Rds.erase {h:Heap}{T:Nat}{X:Addr→Prop}{ds:List D}{vs:List Value}(r:Rds h T X ds vs)(n:Nat):Rds h T X (ds.eraseIdx n) (vs.eraseIdx n):=by
 rw [qF4,qF4]
 exact Rds.append (r.take n) (r.drop (n+1))
section
variable {prog:Program}{w:World}{c:Nm}{Φ:Fns}{k:Nat}{q:Bool}
theorem not_interactive {env:Env}{kd:Kinds}(ok:EnvOk env kd):interactive env=false:=by unfold interactive;rw [ok.kind];rfl
variable {nm:List Str}{kd:Kinds}
theorem ownInv {α:Type}{z:Option Slot}{f:List D→Bool→Option α}{r:α}(h:(match z with|some (some (.list ds,.own b))=>f ds b|_=>none)=some r):∃ds b,z=some (some (.list ds,.own b))∧f ds b=some r:=by
 cases z with
 |none=>cases h
 |some z=>cases z with
  |none=>cases h
  |some z=>
   obtain⟨d,vt⟩:=z
   rcases d with _|_<;>first|(cases h;done)|skip
   rcases vt with _|_<;>first|exact⟨_,_,rfl,h⟩|cases h
theorem tgInv {α:Type}{t:Tg}{f:Bool→Option α}{r:α}(h:(match t with|⟨false,false,b⟩=>f b|_=>none)=some r):∃b,t=⟨false,false,b⟩∧f b=some r:=by
 obtain⟨x,y,b⟩:=t
 rcases x with _|_<;>first|(cases h;done)|skip
 rcases y with _|_<;>first|exact⟨b,rfl,h⟩|cases h
theorem xi_app {v:Nat}{e:PE}{ρ ρ':Env'}{fl:Fl}(h:exS Φ q ρ (.app v e)=some (fl,ρ')):∃r ds b b',evE Φ q ρ e=some r∧ρ[v]?=some (some (.list ds,.own b))∧ds.length+1≤SZ∧eff r.d r.t=⟨false,false,b'⟩∧fl=.next∧ρ'=ρ.set v (some (.list (ds++[r.d]),.own (b || b'))):=by
 have h:((evE Φ q ρ e).bind fun r=>(match ρ[v]? with
   |some (some (.list ds,.own b))=>if ds.length+1≤SZ then (match eff r.d r.t with
    |⟨false,false,b'⟩=>some (Fl.next,ρ.set v (some (.list (ds++[r.d]),.own (b || b'))))
    |_=>none) else none
   |_=>none))=some (fl,ρ'):=qAz (by kernel_rfl) h
 obtain⟨r,hr,h⟩:=bind_inv h
 obtain⟨ds,b,hv,h⟩:=ownInv h
 obtain⟨hsz,h⟩:=qBs.mp h
 obtain⟨b',hb,h⟩:=tgInv h
 cases h
 exact⟨r,ds,b,b',hr,hv,hsz,hb,rfl,rfl⟩
theorem weak_own {O B:Addr→Prop}{h:Heap}{T:Nat}{ds:List D}{vs:List Value}{b:Bool}(b':Bool)(hs:Rds h T (X O B false b) ds vs):Rds h T (X O B false (b || b')) ds vs:=
 hs.weak (fun q=>q) (fun q=>by have q:b=true:=q;rw [q];rfl)
theorem weak_new {O B:Addr→Prop}{h:Heap}{T:Nat}{d:D}{v:Value}{t:Tg}{b':Bool}(b:Bool)(r:RdT O B h T t d v)(heff:eff d t=⟨false,false,b'⟩):Rd h T (X O B false (b || b')) (X O B false (b || b')) d v:=by
 have r1:=r.eff
 rw [heff] at r1
 exact RdT.weaken (t:=⟨false,false,b'⟩) (t':=⟨false,false,b || b'⟩) (fun q=>q) (fun q=>q) (fun q=>by show (b || b')=true;have q:b'=true:=q;rw [q,qFv]) r1
theorem turn_own {v:Nat}{ds ds2:List D}{vs2:List Value}{b b2:Bool}{ρ:Env'}{env:Env}{s s₀ s1:Shared}{h':Heap}{tk:Nat}{ex:List Addr}{φ:Nat→Addr}{Q:Flow→Shared→Prop}
  (hv:ρ[v]?=some (some (.list ds,.own b))) (F:FrS c env nm kd q s₀ ex φ ρ s) (k1:KQ q s s1) (ht:s1.toks≤tk) (hsz:ds2.length≤SZ) (hl':h'.PlainList (φ v) vs2.toArray)
  (hup:∀b o,b≠φ v→s1.heap.get? b=some o→h'.get? b=some o) (q1:Rds s1.heap s1.toks (X (OwnO env kd ex φ ρ) (dom s₀.heap) false b2) ds2 vs2)
  (h:PostOk c env nm kd q s₀ ex φ ρ s .next (ρ.set v (some (.list ds2,.own b2))) Q):Q .next { s1 with heap:=h',toks:=tk }:=by
 have hr':Rds h' tk (X (OwnO env kd ex φ ρ) (dom s₀.heap) false b2) ds2 vs2:=
  Rds.mono ht (fun b o hx e=>hup b o (fun q=>hx (.inl ⟨rfl,.inr ⟨v,⟨_,_,hv,rfl⟩,q⟩⟩)) e) (fun _ _=>id) _ _ q1
 obtain⟨F2,S2⟩:=F.mutl k1 hv (tk':=tk) hup ht hsz hl' hr'
 exact h φ _ F2 S2
theorem gs_app {v:Nat}{e:PE}{x name:Str}{px ap pos p:Pos}{a:qA2}(hx:isVar nm kd v x=true)(hnm:name = "append")(hline:(ap.endLine==pos.line)=true)(hs:notStar a=true)(he:GE prog w c Φ k nm kd e a) :
  GS prog w c Φ k nm kd q (.app v e) (.Expr (.Call (.Attribute (.Name x px) name ap) [a] [] pos) p):=fun {ρ ρ' fl env A s s₀ ex φ Q} h0 F hA h=>by
 subst hnm
 obtain⟨hn,hk,hd⟩:=isVar_of hx
 obtain⟨r,ds,b,b',hr,hv,hsz,heff,rfl,rfl⟩:=xi_app h0
 have hva:=F.ownV v x ⟨_,_,hv,rfl⟩ hn
 refine wpAny_Expr (wpAny_Call_method_lateS (base_eq rfl) ?_ hline (ld_var F.es.ok hd hva ?_)) (not_interactive F.es.ok) rfl
 ·rw [star_cons hs];rfl
 ·obtain⟨ds',vs,e1,hds,hl,hls⟩:=F.own v _ _ hv rfl
  refine⟨"list", "list.append", qGf,slot_list_append,PySem.F.type_list_append,hl.isList.typeIs,fun a' e'=>?_,?_⟩
  ·cases e';obtain⟨n,ho⟩:=hl;exact⟨_,ho,rfl⟩
  refine callWith_method1 (args_cons (he hr F.toE hA fun u s1 k1 r1 _=>args_nil ?_) (star_cons hs)) (star_cons hs) rfl
  obtain⟨ds',vs,e1,hds,hl,hls⟩:=(F.next k1).own v _ _ hv rfl
  cases e1
  have hlen:=hls.length
  refine wpAny_list_append_plain hl (fun h' hl' hs'=>?_) (by rw [←SZ_eq,qBy];exact jL [_,_,_] [cL (eU xa) xb,cQ xc xa] (cL xc xb) jT hsz hlen)
  have e:vs.toArray.push u=(vs++[u]).toArray:=by simp
  rw [e] at hl'
  exact turn_own hv F k1 (qA7 _) (by rw [qA1];exact hsz) hl' (fun b o hb e=>hs'.extBut b o hb e) (Rds.snoc (weak_own b' hls) (weak_new b r1 heff)) h
theorem xi_ins {v:Nat}{e1 e2:PE}{ρ ρ':Env'}{fl:Fl}(h:exS Φ q ρ (.ins v e1 e2)=some (fl,ρ')):∃r1 r2 ds b b' kk,evE Φ q ρ e1=some r1∧evE Φ q ρ e2=some r2∧ρ[v]?=some (some (.list ds,.own b))∧r1.d=.int kk∧(0≤kk∧kk≤ds.length∧ds.length+1≤SZ)∧
  eff r2.d r2.t=⟨false,false,b'⟩∧fl=.next∧ρ'=ρ.set v (some (.list (ds.take kk.toNat++r2.d::ds.drop kk.toNat),.own (b || b'))):=by
 have h:((evE Φ q ρ e1).bind fun r1=>(evE Φ q ρ e2).bind fun r2=>(match ρ[v]? with
   |some (some (.list ds,.own b))=>(match r1.d with
    |.int k=>if 0≤k∧k≤ds.length∧ds.length+1≤SZ then (match eff r2.d r2.t with
     |⟨false,false,b'⟩=>some (Fl.next,ρ.set v (some (.list (ds.take k.toNat++r2.d::ds.drop k.toNat),.own (b || b'))))
     |_=>none) else none
    |_=>none)
   |_=>none))=some (fl,ρ'):=qAz (by kernel_rfl) h
 obtain⟨r1,hr1,h⟩:=bind_inv h
 obtain⟨r2,hr2,h⟩:=bind_inv h
 obtain⟨ds,b,hv,h⟩:=ownInv h
 obtain⟨kk,hkk,h⟩:=dInt h
 obtain⟨hsz,h⟩:=qBs.mp h
 obtain⟨b',hb,h⟩:=tgInv h
 cases h
 exact⟨r1,r2,ds,b,b',kk,hr1,hr2,hv,hkk,hsz,hb,rfl,rfl⟩
theorem gs_ins {v:Nat}{e1 e2:PE}{x name:Str}{px ap pos p:Pos}{a b0:qA2}(hx:isVar nm kd v x=true)(hnm:name = "insert")(hline:(ap.endLine==pos.line)=true)(hs1:notStar a=true)(hs2:notStar b0=true)(he1:GE prog w c Φ k nm kd e1 a)(he2:GE prog w c Φ k nm kd e2 b0) :
  GS prog w c Φ k nm kd q (.ins v e1 e2) (.Expr (.Call (.Attribute (.Name x px) name ap) [a,b0] [] pos) p):=fun {ρ ρ' fl env A s s₀ ex φ Q} h0 F hA h=>by
 subst hnm
 obtain⟨hn,hk,hd⟩:=isVar_of hx
 obtain⟨r1,r2,ds,b,b',kk,hr1,hr2,hv,hkk,hsz,heff,rfl,rfl⟩:=xi_ins h0
 have hva:=F.ownV v x ⟨_,_,hv,rfl⟩ hn
 refine wpAny_Expr (wpAny_Call_method_lateS (base_eq rfl) ?_ hline (ld_var F.es.ok hd hva ?_)) (not_interactive F.es.ok) rfl
 ·rw [star_cons hs1,star_cons hs2];rfl
 ·obtain⟨ds',vs,e1',hds,hl,hls⟩:=F.own v _ _ hv rfl
  refine⟨"list", "list.insert", qGf,PySem.F.slot_list_insert,PySem.F.type_list_insert,hl.isList.typeIs,fun a' e'=>?_,?_⟩
  ·cases e';obtain⟨n,ho⟩:=hl;exact⟨_,ho,rfl⟩
  refine callWith_method1 (args_cons (he1 hr1 F.toE hA fun u1 s1 k1 q1 _=>args_cons (he2 hr2 (F.next k1).toE hA fun u s2 k2 q2 _=>args_nil ?_) (star_cons hs2)) (star_cons hs1)) (star_cons hs1) (by rw [star_cons hs2];rfl)
  have k12:=k1.trans k2
  obtain⟨ds',vs,e1',hds,hl,hls⟩:=(F.next k12).own v _ _ hv rfl
  cases e1'
  have hlen:=hls.length
  obtain⟨t,rfl⟩:=tint_of q1 hkk
  refine ins_op hl hsz.1 (by lia) (jL [_,_,_] [cL (eU xa) xb,cQ xc xa] (cL (eU xc) xb) jT hsz.2.2 hlen) fun h' hl' hup=>?_
  have hw:=weak_own b' hls
  refine turn_own hv F k12 (qA7 _) (by simp;lia) hl' hup (Rds.append (Rds.take hw _) ?_) h
  exact⟨u,_,rfl,weak_new b q2 heff,Rds.drop hw _⟩
theorem xi_del {v:Nat}{last:Bool}{ρ ρ':Env'}{fl:Fl}(h:exS Φ q ρ (.del v last)=some (fl,ρ')):∃ds b,ρ[v]?=some (some (.list ds,.own b))∧ds.length≠0∧fl=.next∧ρ'=ρ.set v (some (.list (if last then ds.dropLast else ds.tail),.own b)):=by
 have h:(match ρ[v]? with
  |some (some (.list ds,.own b))=>if ds.length=0 then none else
    some (Fl.next,ρ.set v (some (.list (if last then ds.dropLast else ds.tail),.own b)))
  |_=>none)=some (fl,ρ'):=qAz (by kernel_rfl) h
 obtain⟨ds,b,hv,h⟩:=ownInv h
 obtain⟨hne,h⟩:=qBd.mp h
 cases h
 exact⟨ds,b,hv,hne,rfl,rfl⟩
theorem del_any {v kk:Nat}{i:Int}{x:Str}{px p pos:Pos}{idx:qA2}{ds ds2:List D}{b:Bool}{ρ:Env'}{env:Env}{A:Around}{s s₀:Shared}{ex:List Addr}{φ:Nat→Addr}{Q:Flow→Shared→Prop}
  (hx:isVar nm kd v x=true) (hv:ρ[v]?=some (some (.list ds,.own b))) (F:FrS c env nm kd q s₀ ex φ ρ s) (h:PostOk c env nm kd q s₀ ex φ ρ s .next (ρ.set v (some (.list ds2,.own b))) Q)
  (hi:∀{Q:Value→Shared→Prop},(∀t s',KQ q s s'→Q (.int i t) s')→wpAny (model prog w) A (eval idx env) Q NoE s) (hi0:qEd i=true) (hk1:seqIndex? i ds.length=some kk) (hk2:kk<ds.length) (he:ds.eraseIdx kk=ds2) :
  wpAny (model prog w) A (exec (.Delete [.Subscript (.Name x px) idx p] pos) env) Q NoE s:=by
 obtain⟨hn,hk,hd⟩:=isVar_of hx
 have hva:=F.ownV v x ⟨_,_,hv,rfl⟩ hn
 refine wpAny_Delete ?_
 show wpAny _ A (do delete (.Subscript (.Name x px) idx p) env;deleteEach [] env) _ _ s
 refine wpAny_bind (wpAny_delete_Subscript (ld_var F.es.ok hd hva (hi fun t s1 k1=>?_)))
 obtain⟨ds',vs,e1,hds,hl,hs⟩:=(F.next k1).own v _ _ hv rfl
 cases e1
 have hlen:=hs.length
 refine del_op hl hi0 (by rw [hlen];exact hk1) (by rw [hlen];exact hk2) (by rw [hlen];exact hds) fun h' hl' hup=>?_
 subst he
 exact wpAny_pure (turn_own hv F k1 (qA7 _) (qA9 (List.length_eraseIdx_le ..) hds) hl' hup (Rds.erase hs kk) h)
theorem gs_dell {v:Nat}{x:Str}{px p pos p1 p2:Pos}{kk:Nat}{j:Int}(hj:j=1)(hx:isVar nm kd v x=true):GS prog w c Φ k nm kd q (.del v true) (.Delete [.Subscript (.Name x px) (.UnaryOp .USub (.Constant (.int j) kk p1) p2) p] pos):=fun {ρ ρ' fl env A s s₀ ex φ Q} h0 F hA h=>by
 subst hj
 obtain⟨ds,b,hv,hne,rfl,rfl⟩:=xi_del h0
 refine del_any (i:=-1) (kk:=ds.length-1) hx hv F h (fun hq=>wpAny_UnaryOp (wpAny_Constant_int (qH1 (hq _ _ (KQ.tok (qB4 (qAj _))))))) (by decide) ?_ (jL [_,_] [cQ (eA xa (eN 1)) xb] (cT xa xb) jT (qAg (jL [_] [cT (eN 0) xa] (cL (eN 1) xa) jT (qE1 hne)))) (show ds.eraseIdx (ds.length-1)=ds.dropLast from by simp [List.eraseIdx_eq_dropLast])
 unfold seqIndex?
 have this:(-1:Int)<0:=by decide
 simp only [if_true,this]
 rw [if_pos (by simp;lia)]
 congr 1;lia
theorem gs_delf {v:Nat}{x:Str}{px p pos p1:Pos}{kk:Nat}{j:Int}(hj:j=0)(hx:isVar nm kd v x=true):GS prog w c Φ k nm kd q (.del v false) (.Delete [.Subscript (.Name x px) (.Constant (.int j) kk p1) p] pos):=fun {ρ ρ' fl env A s s₀ ex φ Q} h0 F hA h=>by
 subst hj
 obtain⟨ds,b,hv,hne,rfl,rfl⟩:=xi_del h0
 refine del_any (i:=0) (kk:=0) hx hv F h (fun hq=>wpAny_Constant_int (hq _ _ (KQ.tok (qAj _)))) (by decide) ?_ (jL [_] [cT (eN 0) xa] (cT (eN 0) xa) jT (qE1 hne)) (by simp [List.eraseIdx_zero])
 unfold seqIndex?
 simp only [if_false,Int.lt_irrefl]
 rw [if_pos (by simp;exact jL [_] [cT (eN 0) xa] (cT (eN 0) xa) jT (qE1 hne))]
 rfl
end
section
variable {prog:Program}{w:World}{c:Nm}{Φ:Fns}{k:Nat}{q:Bool}{env:Env}{nm:List Str}{kd:Kinds}{s₀ s s':Shared}{ex ex':List Addr}{φ φ':Nat→Addr}{ρ ρ':Env'}{A:Around}
theorem Mut.own (h:Mut env kd φ ρ a):OwnO env kd ex φ ρ a:=h.imp .inl fun⟨i,h1,h2⟩=>⟨i,h1.own,h2⟩
theorem Stp.rd (S:Stp env kd ex φ ρ s ex' φ' ρ' s'){B:Addr→Prop}{b:Bool}{d:D}{v:Value}(r:RdT (OwnO env kd ex φ ρ) B s.heap s.toks ⟨false,false,b⟩ d v) :
  RdT (OwnO env kd ex' φ' ρ') B s'.heap s'.toks ⟨false,false,b⟩ d v:=by
 have hk:∀a o,¬X (OwnO env kd ex φ ρ) B false b a→s.heap.get? a=some o→s'.heap.get? a=some o:=fun a o hx e=>S.keep a o e fun hm=>hx (.inl ⟨rfl,Mut.own hm⟩)
 have ht:∀a,(∃o,s.heap.get? a=some o)→X (OwnO env kd ex' φ' ρ') B false b a→X (OwnO env kd ex φ ρ) B false b a:=fun a ⟨o,e⟩ h=>h.imp (fun z=>⟨z.1,S.own a (by unfold dom;rw [e];rfl) z.2⟩) id
 exact Rd.mono2 S.toks hk hk ht ht _ _ r
theorem val_eff {O B:Addr→Prop}{h:Heap}{T:Nat}{t:Tg}{d:D}{v:Value}(r:RdT O B h T t d v):RdT O B h T (Rs.val d t).t (Rs.val d t).d v:=r.eff
theorem setAll_cons {v:Nat}{vs:List Nat}{ds:List D}{t:Tg}(h:setAll ρ (v::vs) ds t=some ρ'):∃d r ρ₁,ds=d::r∧setV ρ v (Rs.val d t)=some ρ₁∧setAll ρ₁ vs r t=some ρ':=by
 rcases ds with _|⟨d,r⟩
 ·exact nos h
 ·have h:((setV ρ v (Rs.val d t)).bind fun ρ₁=>setAll ρ₁ vs r t)=some ρ':=qAz (by kernel_rfl) h
  obtain⟨ρ₁,h1,h2⟩:=bind_inv h
  exact⟨d,r,ρ₁,rfl,h1,h2⟩
theorem setAll_nil {ds:List D}{t:Tg}(h:setAll ρ [] ds t=some ρ'):ds=[]∧ρ=ρ':=by
 rcases ds with _|⟨d,r⟩
 ·exact⟨rfl,qA8 h⟩
 ·exact nos h
theorem assign_all {vs:List Nat}{elts:List qA2}(hv:Vars nm kd vs elts):∀{ds:List D} {us:List Value} {ρ ρ':Env'} {φ:Nat→Addr} {s:Shared} {b:Bool} {Q:Unit→Shared→Prop},
  setAll ρ vs ds ⟨false,false,b⟩=some ρ'→FrS c env nm kd q s₀ ex φ ρ s→us.length=ds.length→
  (∀(j:Nat) d,ds[j]?=some d→∃u,us[j]?=some u∧RdT (OwnO env kd ex φ ρ) (dom s₀.heap) s.heap s.toks ⟨false,false,b⟩ d u)→
  (∀φ' s',FrS c env nm kd q s₀ ex φ' ρ' s'→Stp env kd ex φ ρ s ex φ' ρ' s'→Q () s')→wpAny (model prog w) A (assignInOrder ((assignEach elts env).map (·.2)) us) Q NoE s:=by
 induction hv with
 |nil=>
  intro ds us ρ ρ' φ s b Q he F hl hr h
  obtain⟨rfl,rfl⟩:=setAll_nil he
  exact wpAny_pure (h φ s F Stp.refl)
 |@cons v vs x px es hi _ ih=>
  intro ds us ρ ρ' φ s b Q he F hl hr h
  refine hid fun G hG=>?_
  obtain⟨d,ds,ρ₁,rfl,hρ,he⟩:=setAll_cons he
  obtain⟨u,hu,hru⟩:=hr 0 d rfl
  rcases us with _|⟨u',us⟩
  ·cases hl
  obtain rfl:=qA8 hu
  obtain⟨hn,hk,hd⟩:=isVar_of hi
  refine hG ?_
  show wpAny _ A (do holding us (assign (.Name x px) env u');assignInOrder ((assignEach es env).map (·.2)) us) Q NoE s
  refine wpAny_bind (wpAny_holding (wpAny_assign_Name (store_ok F (KQ.refl q s) hn hk hρ (val_eff hru) (fun z=>by cases z) fun φ₁ s₁ F₁ S₁=>?_)))
  refine ih he F₁ (qF8 hl) (fun j d' hj=>?_) fun φ' s' F' S'=>h φ' s' F' (S₁.trans S')
  obtain⟨u',hu',hru'⟩:=hr (j+1) d' hj
  exact⟨u',hu',S₁.rd hru'⟩
theorem vars_len {vs:List Nat}{elts:List qA2}(hv:Vars nm kd vs elts):elts.length=vs.length∧(assignEach elts env).length=elts.length∧(assignEach elts env).findIdx? (·.1)=none:=by
 induction hv with
 |nil=>exact⟨rfl,rfl,rfl⟩
 |@cons v vs x px es _ _ ih=>
  refine⟨congrArg qBb ih.1,congrArg qBb ih.2.1,?_⟩
  show ((false,assign (.Name x px) env)::assignEach es env).findIdx? (·.1)=none
  rw [List.findIdx?_cons,ih.2.2];rfl
theorem setAll_len:∀{vs:List Nat} {ds:List D} {t:Tg} {ρ ρ':Env'},setAll ρ vs ds t=some ρ'→ds.length=vs.length:=by
 intro vs
 induction vs with
 |nil=>intro ds t ρ ρ' h;rw [(setAll_nil h).1];rfl
 |cons v vs ih=>
  intro ds t ρ ρ' h
  obtain⟨d,r,ρ₁,rfl,_,h2⟩:=setAll_cons h
  exact congrArg qBb (ih h2)
theorem draw_walk {I:Addr}{fp wr:List Addr}{N:Nat}{P:Nat→Value→Prop}{St:Nat→Heap→Prop}(W:Walks prog w A I fp wr N P St):∀(m i:Nat) (s:Shared) (Q:List Value→Shared→Prop),i+m≤N→St i s.heap→
  (∀vs h' tk,vs.length=m→(∀(j:Nat) v,vs[j]?=some v→P (i+j) v)→St (i+m) h'→(∀b o,b∉wr→s.heap.get? b=some o→h'.get? b=some o)→s.toks≤tk→Q vs { s with heap:=h',toks:=tk })→
  wpAny (model prog w) A (draw (.ref I) m) Q NoE s
 |0,i,s,Q,hi,st,h=>wpAny_pure (h [] s.heap s.toks rfl (fun j v e=>by simp at e) st (fun _ _ _ e=>e) (qA7 _))
 |m+1,i,s,Q,hi,st,h=>by
  show wpAny _ _ (pyNext (.ref I) >>= _) Q NoE s
  refine wpAny_bind (wpAny_with_toks (n:=s.toks) (qA7 _) (W.item i _ _ _ (jL [_,_,_] [cL (eA xa (eU xb)) xc] (cT xa xc) jT hi) st fun v h1 t1 hv st1 k1 ht1=>?_))
  have ht1:s.toks≤t1:=ht1
  refine wpAny_bind (wpAny_holding (draw_walk W m (i+1) _ _ (jL [_,_,_] [cL (eA xa (eU xb)) xc] (cL (eA (eU xa) xb) xc) jT hi) st1 fun vs h2 t2 hl hp st2 k2 ht2=>wpAny_pure ?_))
  have ht2:t1≤t2:=ht2
  refine h (v::vs) h2 t2 (by simp [hl]) (fun j u e=>?_) (by rw [show i+(m+1)=i+1+m by exact jQ [_,_] [] (eA xa (eU xb)) (eA (eU xa) xb) jT jT];exact st2) (fun b o hb e=>k2 b o hb (k1 b o hb e)) (qA9 ht1 ht2)
  cases j with
  |zero=>simp at e;subst e;exact hv
  |succ j=>rw [show i+(j+1)=i+1+j by exact jQ [_,_] [] (eA xa (eU xb)) (eA (eU xa) xb) jT jT];exact hp j u (by simpa using e)
theorem unpack_items {n:Nat}{ds:List D}{t:Tg}{v:Value}{O B:Addr→Prop}{Q:List Value→Shared→Prop}(hh:A.handled=none)(hn:ds.length=n)(r:RdT O B s.heap s.toks t (.list ds) v)
  (h:∀us s',KQ true s s'→us.length=n→(∀(j:Nat) d,ds[j]?=some d→∃u,us[j]?=some u∧RdT O B s.heap s.toks t.item d u)→Q us s'):wpAny (model prog w) A (unpackItems v n none) Q NoE s:=by
 subst hn
 obtain⟨a,vs,rfl,hl,hsz,hlen,hitems⟩:=r.items
 refine wpAny_bind (wpAny_bind (wpAny_specialOf hl.typeIs slot_list_iter.lookup (wpAny_pure ?_)))
 refine wpAny_bind (wpAny_holding (wpAny_pyIter_list hl ?_))
 have hne:a≠s.heap.objs.size:=fun e=>by obtain⟨o,ho,_⟩:=hl;rw [e,free_size] at ho;cases ho
 have W:=Walks.list (prog:=prog) (w:=w) hh s.heap.objs.size a hne vs.toArray
 have hsize:vs.toArray.size=ds.length:=by simpa using hlen
 have nI:∀b o,s.heap.get? b=some o→b∉[s.heap.objs.size]:=fun b o e q=>by rw [qAi.mp q,free_size] at e;cases e
 refine wpAny_bind (wpAny_holding (draw_walk W ds.length 0 _ _ (jL [_,_] [cR xa xb] (cL (eA (eN 0) xb) xa) jT hsize) ⟨⟨_,qB9 _ rfl,rfl,rfl⟩,hl.at fun o e=>qAp _ e⟩ fun us h1 t1 hu hp st1 k1 ht1=>?_))
 have ht1:s.toks≤t1:=ht1
 have hus:us=vs:=by
  apply List.ext_getElem?
  intro i
  by_cases hi:i<us.length
  ·obtain⟨u,hu'⟩:∃u,us[i]?=some u:=⟨_,qAb hi⟩
   have:=hp i u hu'
   rw [hu']
   simpa using this.symm
  ·rw [qE4 (by exact jL [_,_] [cL xa xb] (cL xa xb) jT (qDx hi)),qE4 (by exact jL [_,_,_,_] [cQ xa xb,cR xc xb,cL xc xd] (cL xa xd) jT hlen hu (qDx hi))]
 rw [if_neg (by exact (fun e_=>jL [_,_] [cR xa xb,cT xa xb] cF jT hu e_))]
 rw [show 0+ds.length=vs.toArray.size by exact jQ [_,_] [cR xa xb] (eA (eN 0) xb) xa jT jT hsize] at st1
 refine wpAny_bind (wpAny_holding (wpAny_with_toks (n:=t1) (qA7 _) (W.done _ _ _ st1 fun h2 t2 k2 ht2=>?_)))
 refine wpAny_pure (h us _ (KQ.mk' (fun b o e=>k2 b o (nI b o e) (k1 b o (nI b o e) (qAp _ e))) (qA9 ht1 ht2)) hu fun j d hj=>?_)
 rw [hus];exact hitems j d hj
end
section
variable {prog:Program}{w:World}{c:Nm}{Φ:Fns}{k:Nat}{q:Bool}
variable {nm:List Str}{kd:Kinds}
theorem sole_none {elts:List qA2}{kk:Nat}{tp:Pos}{val:qA2}{l:Nat}{env:Env}(h:notComp val=true):swapsWithSole [.Tuple elts kk tp] val l env=pure false:=by
 rcases val with _|_<;>first|rfl|exact nomatch (show false=true from h)
theorem stores_none {elts:List qA2}{kk:Nat}{tp:Pos}{val:qA2}{env:Env}(h:notTup val=true):swappedStores [.Tuple elts kk tp] val env=pure none:=by
 rcases val with _|_<;>first|rfl|exact nomatch (show false=true from h)
theorem gs_unpack {vs:List Nat}{e:PE}{elts:List qA2}{kk:Nat}{tp pos:Pos}{val:qA2}(h1:isVars nm kd vs elts=true)(h2:notTup val=true)(h3:notComp val=true)(h4:GE prog w c Φ k nm kd e val) :
  GS prog w c Φ k nm kd q (.unpack vs e) (.Assign [.Tuple elts kk tp] val pos):=fun {ρ ρ' fl env A s s₀ ex φ Q} h0 F hA h=>by
 refine hid fun G hG=>?_
 have h0:((evE Φ q ρ e).bind fun r=>(match r.d with
   |.list ds=>if r.t.deep then none else (setAll ρ vs ds r.t.item).bind fun ρ'=>some (Fl.next,ρ')
   |_=>none))=some (fl,ρ'):=qAz (by kernel_rfl) h0
 obtain⟨r,hr,h0⟩:=bind_inv h0
 obtain⟨ds,hd,h0⟩:=dList h0
 obtain⟨hdp,h0⟩:=qBd.mp h0
 obtain⟨ρ₂,hρ,h0⟩:=bind_inv h0
 cases h0
 have hdp:r.t.deep=false:=by simpa using hdp
 refine hG ?_
 clear hG
 refine Assign_Tuple (h4 hr F.toE hA fun v s1 k1 r1 _=>?_) (sole_none h3) (stores_none h2)
 have F1:=F.next k1
 rw [hd] at r1
 have hv:=Vars.of h1
 obtain⟨l1,l2,l3⟩:=vars_len (env:=env) hv
 have l4:=setAll_len hρ
 rw [arm_assign_Tuple]
 refine wpAny_bind (wpAny_standAt ?_)
 unfold unpack
 rw [l3,l2]
 refine wpAny_bind (wpAny_holding (unpack_items hA.hd (jQ [_,_,_] [cR xa xb,cQ xc xb] xc xa jT jT l1 l4) r1 fun us s2 k2 hu hitems=>?_))
 have hz:r.t.item=⟨false,false,r.t.base⟩:=by unfold Tg.item;rw [hdp]
 rw [hz] at hρ
 refine assign_all hv hρ (F1.next k2.weak) (by lia) (fun j d hj=>?_) fun φ' s' F' S'=>h φ' s' F' ((Stp.kq (k1.trans k2.weak)).trans S')
 obtain⟨u,hu1,hu2⟩:=hitems j d hj
 rw [hz] at hu2
 exact⟨u,hu1,hu2.mono k2.toks k2.keep⟩
theorem any2 {α:Type}{F:α→Bool}{a b:α}(h1:F a=false)(h2:F b=false):¬([a,b].any F=true):=by
 rw [qHf,qHf,h1,h2];exact qAr
theorem swapped_two {x1 x2:Str}{p1 p2 tp p3:Pos}{a b:qA2}{env:Env}{kd:Kinds} {k1 k2}(ok:EnvOk env kd)(h1:kd.lookup x1=some .local)(h2:kd.lookup x2=some .local)(h3:(p2.line==p1.line)=true)(h4:(x2 != x1)=true)
  (h5:notStar a=true) (h6:notStar b=true) (h7:(!(foldedForSure 8 a&&foldedForSure 8 b))=true) (h8:(!(constantsAlone 8 a&&constantsAlone 8 b))=true) :
  swappedStores [.Tuple [.Name x1 p1,.Name x2 p2] k1 tp] (.Tuple [a,b] k2 p3) env=pure (some [x1,x2]):=by
 have e1:env.kindOf x1=some .local:=(kindOf_eq ok x1).trans h1
 have e2:env.kindOf x2=some .local:=(kindOf_eq ok x2).trans h2
 have hb:env.blockKind=.function:=by unfold Env.blockKind;rw [ok.kind];rfl
 have hf:[a,b].all (foldedForSure 8)=false:=by
  rw [qEv,qEv,List.all_nil,qDs];exact (qEa _).mp h7
 have hc:[a,b].all (constantsAlone 8)=false:=by
  rw [qEv,qEv,List.all_nil,qDs];exact (qEa _).mp h8
 have hx:(x2==x1)=false:=by simpa using h4
 have z1:(if (env.kindOf x1==some .local&&p1.line==p1.line)=true then some x1 else none)=some x1:=if_pos (by rw [e1];show (true&&(p1.line==p1.line))=true;rw [beq_self_eq_true];rfl)
 have z2:(if (env.kindOf x2==some .local&&p2.line==p1.line)=true then some x2 else none)=some x2:=if_pos (by rw [e2,h3];rfl)
 have z3:∀{o1 o2:Option Str},o1=some x1→o2=some x2→(match o1 with|none=>(match o2 with|none=>[]|some b=>b::[])|some b=>b::(match o2 with|none=>[]|some b=>b::[]))=[x1,x2]:=fun h1 h2=>by rw [h1,h2]
 have hd:([x1,x2].eraseDups.length != [x1,x2].length)=false:=by
  simp only [qHa,List.eraseDups_nil,qFc,List.filter_nil,h4]
  simp [qHa,hx]
 refine (if_neg ?_).trans ((if_neg (any2 ?_ ?_)).trans ?_)
 ·show ¬(env.blockKind != .function)=true
  rw [hb];decide
 ·clear h6 h7 h8 hf hc
  rcases a with _|_<;>first|rfl|exact nomatch (show false=true from h5)
 ·clear h5 h7 h8 hf hc
  rcases b with _|_<;>first|rfl|exact nomatch (show false=true from h6)
 refine (congrArg (fun names:List Str=>if (names.length != 2 || names.eraseDups.length != names.length)=true then pure none else if ([a,b].all (foldedForSure 8))=true then pure none else
  if ([a,b].all (constantsAlone 8))=true then (unsupported "assign.tuple-of-constant-expressions:order-of-the-stores" >>= fun _=>pure (some names)) else pure (some names)) (qAz ?_ (z3 z1 z2))).trans ?_
 ·kernel_rfl
 refine (if_neg ?_).trans ((if_neg (by rw [hf];exact qAr)).trans ((if_neg (by rw [hc];exact qAr)).trans rfl))
 show ¬([x1,x2].eraseDups.length != [x1,x2].length)=true
 rw [hd];exact qAr
theorem setV_flat {ρ:Env'}{v:Nat}{r:Rs}(hf:r.d.flat=true):setV ρ v r=setV ρ v (Rs.flat r.d):=by
 obtain⟨d,t,f⟩:=r
 rcases d with _|_<;>first|rfl|exact nof hf
theorem ttInv {α:Type}{a b:Bool}{x:Option α}{r:α}(h:(match a,b with|true,true=>x|_,_=>none)=some r):a=true∧b=true∧x=some r:=by
 rcases a with _|_<;>rcases b with _|_<;>first|(cases h;done)|exact⟨rfl,rfl,h⟩
theorem gs_asg2 {v1 v2:Nat}{e1 e2:PE}{x1 x2:Str}{p1 p2 tp p3 pos:Pos}{k1 k2:Nat}{a b:qA2}(h1:isVar nm kd v1 x1=true)(h2:isVar nm kd v2 x2=true)(h3:kd.lookup x1=some .local)(h4:kd.lookup x2=some .local)(h5:(p2.line==p1.line)=true)(h6:(x2 != x1)=true)
  (h7:notStar a=true) (h8:notStar b=true) (h9:(!(foldedForSure 8 a&&foldedForSure 8 b))=true) (h10:(!(constantsAlone 8 a&&constantsAlone 8 b))=true) (h11:GE prog w c Φ k nm kd e1 a) (h12:GE prog w c Φ k nm kd e2 b) :
  GS prog w c Φ k nm kd q (.asg2 v1 v2 e1 e2) (.Assign [.Tuple [.Name x1 p1,.Name x2 p2] k1 tp] (.Tuple [a,b] k2 p3) pos):=fun {ρ ρ' fl env A s s₀ ex φ Q} h0 F hA h=>by
 refine hid fun G hG=>?_
 obtain⟨n1,kk1,d1⟩:=isVar_of h1
 obtain⟨n2,kk2,d2⟩:=isVar_of h2
 have h0:((evE Φ q ρ e1).bind fun r1=>(evE Φ q ρ e2).bind fun r2=>(match r1.d.flat,r2.d.flat with
    |true,true=>(setV ρ v2 r2).bind fun ρ'=>(setV ρ' v1 r1).bind fun ρ''=>some (Fl.next,ρ'')
    |_,_=>none))=some (fl,ρ'):=qAz (by kernel_rfl) h0
 obtain⟨r1,hr1,h0⟩:=bind_inv h0
 obtain⟨r2,hr2,h0⟩:=bind_inv h0
 obtain⟨f1,f2,h0⟩:=ttInv h0
 obtain⟨ρ₁,hρ1,h0⟩:=bind_inv h0
 obtain⟨ρ₂,hρ2,h0⟩:=bind_inv h0
 cases h0
 refine hG ?_
 clear hG
 refine Assign_Tuple_swapped (names:=[x1,x2]) (wpAny_Tuple (args_cons (h11 hr1 F.toE hA fun u1 s1 k1 q1 _=>args_cons (h12 hr2 (F.next k1).toE hA fun u2 s2 k2 q2 _=>args_nil ⟨by show 2≤sizeLine;rw [←SZ_eq];decide,?_⟩) (star_cons h8)) (star_cons h7))) rfl
  (swapped_two F.es.ok h3 h4 h5 h6 h7 h8 h9 h10)
 refine wpAny_unpackItems_tuple (items:=#[u1,u2]) hA.hd ⟨_,qB9 _ rfl,rfl,_,rfl⟩ fun h' hx=>?_
 have k3:KQ true s2 { s2 with heap:=h' }:=KQ.heap fun b o e=>hx b o (fun q=>by
  have:=qAp (h:=s2.heap) { cls:=.type "tuple", data:=.seq [u1,u2].toArray } e
  rw [q,free_size] at this;cases this) (qAp _ e)
 have kk:=(k1.trans k2).trans k3.weak
 have F3:=F.next kk
 show wpAny _ A (do holding [u1] (bindName env x2 u2);assignInOrder [fun v=>bindName env x1 v] [u1]) _ NoE _
 have q2':RdT (OwnO env kd ex φ ρ) (dom s₀.heap) h' s2.toks (Rs.flat r2.d).t (Rs.flat r2.d).d u2:=Rd.flat_any f2 q2
 have e2':setV ρ v2 (Rs.flat r2.d)=some ρ₁:=by rw [←hρ1];exact (setV_flat f2).symm
 refine wpAny_bind (wpAny_holding (bindName_ (store_ok F3 (KQ.refl q _) n2 kk2 e2' q2' (fun z=>by cases z) fun φ₁ s₁ F₁ S₁=>?_)))
 show wpAny _ A (do holding [] (bindName env x1 u1);assignInOrder [] []) _ NoE _
 have q1':RdT (OwnO env kd ex φ₁ ρ₁) (dom s₀.heap) s₁.heap s₁.toks (Rs.flat r1.d).t (Rs.flat r1.d).d u1:=by
  have:RdT (OwnO env kd ex φ₁ ρ₁) (dom s₀.heap) s₁.heap s1.toks (Rs.flat r1.d).t (Rs.flat r1.d).d u1:=Rd.flat_any f1 q1
  exact this.mono (qA9 (k2.trans k3.weak).toks S₁.toks) fun _ _=>id
 have e1':setV ρ₁ v1 (Rs.flat r1.d)=some ρ':=by rw [←hρ2];exact (setV_flat f1).symm
 refine wpAny_bind (wpAny_holding (bindName_ (store_ok F₁ (KQ.refl q _) n1 kk1 e1' q1' (fun z=>by cases z) fun φ₂ s₂ F₂ S₂=>?_)))
 exact wpAny_pure (h φ₂ s₂ F₂ ((Stp.kq kk).trans (S₁.trans S₂)))
end
section
variable {prog:Program}{w:World}{c:Nm}{Φ:Fns}{k:Nat}{q:Bool}
theorem FrS.leaveX {env:Env}{nm:List Str}{kd:Kinds}{s₀ s:Shared}{ex wr:List Addr}{φ:Nat→Addr}{ρ:Env'}(F:FrS c env nm kd q s₀ (wr++ex) φ ρ s){h':Heap}{tk':Nat}
  (hex:∀b∈ex,b∉wr) (hs:∀b o,b∉wr→s.heap.get? b=some o→h'.get? b=some o) (ht:s.toks≤tk'):FrS c env nm kd q s₀ ex φ ρ { s with heap:=h',toks:=tk' }:=by
 have nFM:∀a,FM env kd a→a∉wr:=fun a h hm=>F.exF a (qAc.mpr (.inl hm)) h
 have nOwn:∀i,OwnAt ρ i→φ i∉wr:=fun i hi hm=>F.ownF i hi (.inr (qAc.mpr (.inl hm)))
 have hFO:∀a,FO env kd ex a→FO env kd (wr++ex) a:=fun a h=>h.imp id fun h=>qAc.mpr (.inr h)
 have hX:∀(o b:Bool) a,(∃ob,s.heap.get? a=some ob)→X (OwnO env kd ex φ ρ) (dom s₀.heap) o b a→X (OwnO env kd (wr++ex) φ ρ) (dom s₀.heap) o b a:=
  fun o b a _ h=>h.imp (fun z=>⟨z.1,z.2.imp (hFO a) id⟩) id
 have nX:∀(b':Bool) a,a∈wr→X (OwnO env kd (wr++ex) φ ρ) (dom s₀.heap) false b' a:=fun b' a hm=>.inl ⟨rfl,.inl (.inr (qAc.mpr (.inl hm)))⟩
 have hva:∀y u,VarAt env kd s.heap y u→VarAt env kd h' y u:=fun y u h=>by
  rcases h with⟨a,m,b,c⟩|⟨a,m,b,c⟩
  ·exact .inl ⟨a,m,b.at' fun o e=>hs _ o (nFM _ (.inl rfl)) e,c⟩
  ·refine .inr ⟨a,m,b,?_⟩
   obtain⟨o,ho,hd⟩:=c
   exact⟨o,hs _ o (nFM _ (.inr ⟨y,a,b⟩)) ho,hd⟩
 refine⟨F.es,F.st0,F.tk0,?_,?_,?_,?_,fun a h=>F.exF a (qAc.mpr (.inr h)),fun a h=>F.foB a (hFO a h),F.ownB,fun i hi h=>F.ownF i hi (hFO _ h),F.inj,?_,?_,fun i x h1 h2=>hva _ _ (F.ownV i x h1 h2)⟩
 ·obtain⟨h1,t1,g1,rfl,k1,l1,e1,p1,q1⟩:=F.base
  exact⟨h',tk',g1,rfl,fun b o e=>hs b o (fun hm=>by rw [F.foB b (.inr (qAc.mpr (.inl hm)))] at e;cases e) (k1 b o e),qA9 l1 ht,e1,p1,q1⟩
 ·obtain⟨m,hm⟩:=F.loc
  exact⟨m,hm.at' fun o e=>hs _ o (nFM _ (.inl rfl)) e⟩
 ·intro x a h1 h2
  obtain⟨v,o,ho,hd⟩:=F.cell x a h1 h2
  exact⟨v,o,hs _ o (nFM _ (.inr ⟨x,h1,h2⟩)) ho,hd⟩
 ·intro a ha
  obtain⟨o,e⟩:=qAs.mp (F.exd a (qAc.mpr (.inr ha)))
  unfold dom;rw [hs a o (hex a ha) e];rfl
 ·intro i d t x h1 h2 h3
  obtain⟨t1,t2,v,hv,hr⟩:=F.val i d t x h1 h2 h3
  exact⟨t1,t2,v,hva _ _ hv,Rd.mono2 ht (fun b o hx e=>hs b o (fun hm=>hx (by rw [t2];exact nX _ b hm)) e) (fun b o hx e=>hs b o (fun hm=>hx (by rw [t1];exact nX _ b hm)) e) (hX _ _) (hX _ _) _ _ hr⟩
 ·intro i d vt h1 h2
  obtain⟨ds,vs,e,hsz,hl,hr⟩:=F.own i d vt h1 h2
  exact⟨ds,vs,e,hsz,hl.at fun o e=>hs _ o (nOwn i ⟨d,vt,h1,h2⟩) e,Rds.mono2 ht (fun b o hx e=>hs b o (fun hm=>hx (nX _ b hm)) e) (hX _ _) _ _ hr⟩
noncomputable def forB (Φ:Fns)(q:Bool)(v:Nat)(t:Tg)(b:PSs)(ρ:Env')(d:D):Option (Fl×Env'):=match setV ρ v (Rs.val d t) with|some ρ₁=>exSs Φ q ρ₁ b|none=>none
theorem forS_cons {f:Env'→D→Option (Fl×Env')}{d:D}{ds:List D}{ρ:Env'}{r:Fl×Env'}(h:forS f (d::ds) ρ=some r):(∃ρ',f ρ d=some (.next,ρ')∧forS f ds ρ'=some r)∨∃x ρ',f ρ d=some (.ret x,ρ')∧r=(.ret x,ρ'):=
 flInv (o:=f ρ d) (f:=fun ρ'=>forS f ds ρ') (qAz (by kernel_rfl) h)
inductive FLoop (c:Nm)(env:Env)(nm:List Str)(kd:Kinds)(q:Bool)(s₀ s₁:Shared)(ex wr:List Addr)(φ:Nat→Addr)(ρ:Env')(St:Nat→Heap→Prop)(ds:List D)(f:Env'→D→Option (Fl×Env'))(r:Fl×Env')(n:Nat)(s':Shared):Prop
 |mk (i:Nat) (φ₁:Nat→Addr) (ρ₁:Env') (e1:n=ds.length+1-i) (e2:i≤ds.length) (e3:St i s'.heap) (e4:FrS c env nm kd q s₀ (wr++ex) φ₁ ρ₁ s') (e5:Stp env kd ex φ ρ s₁ (wr++ex) φ₁ ρ₁ s') (e6:forS f (ds.drop i) ρ₁=some r)
theorem loop_ok {env:Env}{nm:List Str}{kd:Kinds}{s₀ s₁:Shared}{ex wr fp:List Addr}{φ:Nat→Addr}{ρ ρ'':Env'}{A:Around}{I:Addr}{P:Nat→Value→Prop}{St:Nat→Heap→Prop}{ds:List D}{b₀:Bool}{b:PSs}{b':List Stmt}{v:Nat}{x:Str}{px:Pos}
  {h₂:Heap} {tk₂:Nat} {fl:Fl} {R:Result→Shared→Prop} (hb:GSs prog w c Φ k nm kd q b b') (hn:nm[v]?=some x) (hk:kd.lookup x=some .local∨kd.lookup x=some .cell)
  (hA:AOk k A) (W:Walks prog w A I fp wr ds.length P St) (hst:St 0 h₂) (k2:KQ true s₁ { s₁ with heap:=h₂,toks:=tk₂ }) (hwr:∀b∈wr,s₁.heap.get? b=none) (hWd:∀i h,St i h→∀b∈wr,dom h b)
  (hP:∀i u,i<ds.length→P i u→∃d,ds[i]?=some d∧RdT (OwnO env kd ex φ ρ) (dom s₀.heap) s₁.heap s₁.toks ⟨false,false,b₀⟩ d u)
  (F₁:FrS c env nm kd q s₀ ex φ ρ s₁) (hfix:∀b∈fp,b∉wr→∀φ' ρ' s',Stp env kd ex φ ρ s₁ (wr++ex) φ' ρ' s'→FrS c env nm kd q s₀ (wr++ex) φ' ρ' s'→¬Mut env kd φ' ρ' b)
  (he:forS (forB Φ q v ⟨false,false,b₀⟩ b) ds ρ=some (fl,ρ''))
  (hR:PostOk c env nm kd q s₀ ex φ ρ s₁ fl ρ'' (fun f s'=>R (.ok f) s')) :
  codeAny (model prog w) A (.forLoop (.Name x px) (.ref I) b' [] env) R { s₁ with heap:=h₂,toks:=tk₂ }:=by
 have hex:∀a∈ex,a∉wr:=fun a ha hm=>by have:=F₁.exd a ha;unfold dom at this;rw [hwr a hm] at this;cases this
 have nw:∀a,dom s₁.heap a→a∉wr:=fun a ha hm=>by unfold dom at ha;rw [hwr a hm] at ha;cases ha
 obtain⟨J,hJ⟩:∃J:Nat→Shared→Prop,∀n s',J n s'↔FLoop c env nm kd q s₀ s₁ ex wr φ ρ St ds (forB Φ q v ⟨false,false,b₀⟩ b) (fl,ρ'') n s':=⟨_,fun _ _=>qHr⟩
 refine codeAny_forLoop_any J ?_ (ds.length+1) ((hJ _ _).mpr ⟨0,φ,ρ,rfl,qBr _,hst,F₁.enter k2.weak hwr (hWd _ _ hst),?_,by simpa using he⟩)
 ·intro n s' hn0
  replace hn0:=(hJ _ _).mp hn0
  clear he
  refine hid fun G hG=>?_
  obtain⟨i,φ₁,ρ₁,hni,hi1,hst',F,S,e⟩:=hn0
  by_cases hlt:i<ds.length
  ·refine hG (wpAny_with_toks (n:=s'.toks) (qA7 _) (W.item i _ _ _ hlt hst' fun u h' tk hPu hst3 hkp htk=>?_))
   clear hG
   have htk:s'.toks≤tk:=htk
   have F3:FrS c env nm kd q s₀ (wr++ex) φ₁ ρ₁ { s' with heap:=h',toks:=tk }:=FrS.turn (wr:=wr) (gs:=s'.gens) F (fun b hb=>qAc.mpr (.inl hb)) hkp (hWd _ _ hst3) htk F.base
   have S3:Stp env kd ex φ ρ s₁ (wr++ex) φ₁ ρ₁ { s' with heap:=h',toks:=tk }:=
    ⟨fun b o e hm=>hkp b o (nw b (by unfold dom;rw [e];rfl)) (S.keep b o e hm),S.mut_,S.own,fun b hb=>by
     obtain⟨o,e⟩:=qAs.mp (S.dom_ b hb)
     unfold dom;rw [hkp b o (nw b hb) e];rfl,qA9 S.toks htk,S.pin⟩
   refine wpAny_of_eq (a:=()) rfl ?_
   refine hid fun G hG=>?_
   obtain⟨d,hd,hrd⟩:=hP i u hlt hPu
   have hdrop:ds.drop i=d::ds.drop (i+1):=by
    rw [qFz hlt]
    congr 1
    rw [qAb hlt] at hd
    exact qA8 hd
   rw [hdrop] at e
   obtain⟨ρ₂,hρ,hb'⟩:∃ρ₂,setV ρ₁ v (Rs.val d ⟨false,false,b₀⟩)=some ρ₂∧((∃ρ₃,exSs Φ q ρ₂ b=some (.next,ρ₃)∧forS (forB Φ q v ⟨false,false,b₀⟩ b) (ds.drop (i+1)) ρ₃=some (fl,ρ''))∨∃r ρ₃,exSs Φ q ρ₂ b=some (.ret r,ρ₃)∧(fl,ρ'')=(.ret r,ρ₃)):=by
    rcases forS_cons e with⟨ρ₃,e1,e2⟩|⟨r,ρ₃,e1,e2⟩
    ·obtain⟨ρ₂,hρ,e1⟩:=bind_inv (o:=setV ρ₁ v (Rs.val d ⟨false,false,b₀⟩)) (k:=fun ρ₂=>exSs Φ q ρ₂ b) (qAz (by kernel_rfl) e1)
     exact⟨ρ₂,hρ,.inl ⟨ρ₃,e1,e2⟩⟩
    ·obtain⟨ρ₂,hρ,e1⟩:=bind_inv (o:=setV ρ₁ v (Rs.val d ⟨false,false,b₀⟩)) (k:=fun ρ₂=>exSs Φ q ρ₂ b) (qAz (by kernel_rfl) e1)
     exact⟨ρ₂,hρ,.inr ⟨r,ρ₃,e1,e2⟩⟩
   refine hG (wpAny_assign_Name (wpAny_mono (store_ok F3 (KQ.refl q _) hn hk hρ (val_eff (S3.rd hrd)) (fun z=>by cases z) fun φ4 s4 F4 S4=>?_) (fun _ _ z=>z) fun _ _ z=>z.elim))
   rcases hb' with⟨ρ₃,e2,e⟩|⟨r,ρ₃,e2,e⟩
   ·refine wpAny_mono (hb e2 F4 hA ?_) (fun _ _ z=>z) fun _ _ z=>z.elim
    intro φ5 s5 F5 S5
    have S45:=S4.trans S5
    refine⟨ds.length+1-(i+1),by rw [hni];exact dec_lt hlt,(hJ _ _).mpr ⟨i+1,φ5,ρ₃,rfl,hlt,?_,F5,S3.trans S45,e⟩⟩
    refine W.frame _ _ _ hst3 fun b hbm o eo=>S45.keep b o eo ?_
    by_cases hbw:b∈wr
    ·rintro (hm|⟨j,hm,rfl⟩)
     ·exact F3.exF b (qAc.mpr (.inl hbw)) hm
     ·exact F3.ownF j hm.own (.inr (qAc.mpr (.inl hbw)))
    ·exact hfix b hbm hbw _ _ _ S3 F3
   ·clear hJ hG
    obtain⟨rfl,rfl⟩:=qDr e
    refine wpAny_mono (hb e2 F4 hA ?_) (fun _ _ z=>z) fun _ _ z=>z.elim
    exact fun O v s5 k5 r5 p5=>hR O v s5 k5 r5 p5
  ·have hin:i=ds.length:=qE2 hi1 (qCj.mp hlt)
   rw [hin,List.drop_length] at e
   rw [hin] at hst'
   refine hG (wpAny_with_toks (n:=s'.toks) (qA7 _) (W.done _ _ _ hst' fun h' tk hkp htk=>?_))
   clear hG hJ
   obtain⟨rfl,rfl⟩:=qDr (qA8 e)
   have htk:s'.toks≤tk:=htk
   refine wpAny_execs_nil ?_
   refine hR φ₁ { s' with heap:=h',toks:=tk } (F.leaveX hex hkp htk) ⟨fun b o e hm=>hkp b o (nw b (by unfold dom;rw [e];rfl)) (S.keep b o e hm),S.mut_,fun b hb h=>S.own b hb (h.imp (fun z=>z.imp id fun z=>qAc.mpr (.inr z)) id),fun b hb=>by
     obtain⟨o,e⟩:=qAs.mp (S.dom_ b hb)
     unfold dom;rw [hkp b o (nw b hb) e];rfl,qA9 S.toks htk,S.pin⟩
 ·exact⟨fun b o e _=>k2.keep b o e,fun _ _ h=>h,fun b hb h=>h.imp (fun z=>z.imp id fun z=>(qAc.mp z).resolve_left (nw b hb)) id,fun b hb=>dom.keeps k2.keep hb,k2.toks,fun _ _ _ h=>⟨h,rfl⟩⟩
end
section
variable {prog:Program}{w:World}{c:Nm}{Φ:Fns}{k:Nat}{q:Bool}{s:Shared}
theorem evI_top {ρ:Env'}{it:PI}{its:Items}(h:evI Φ q ρ it=some its):its.t=⟨its.t.deep,its.t.deep,its.t.base⟩:=by
 cases it with
 |val e=>obtain⟨r,_,⟨ds,_,rfl⟩|⟨l,_,rfl⟩⟩:=it_val h<;>rfl
 |range1 n=>
  have h:((evE Φ q ρ n).bind fun r=>match r.d with|.int k=>(if (tiny k&&decide (k≤SZ))=true then some (⟨rangeL 0 k,Tg.z,false⟩:Items) else none)|_=>none)=some its:=qAz (by kernel_rfl) h
  obtain⟨r,_,h⟩:=bind_inv h
  obtain⟨k,_,h⟩:=dInt h
  obtain⟨_,rfl⟩:=if_inv h
  rfl
 |range2 a b=>
  have h:((evE Φ q ρ a).bind fun x=>(evE Φ q ρ b).bind fun y=>match x.d,y.d with
   |.int i,.int j=>(if (tiny i&&tiny j&&decide (j-i≤SZ))=true then some (⟨rangeL i j,Tg.z,false⟩:Items) else none)
   |_,_=>none)=some its:=qAz (by kernel_rfl) h
  obtain⟨x,_,h⟩:=bind_inv h
  obtain⟨y,_,h⟩:=bind_inv h
  obtain⟨i,j,_,_,h⟩:=dInt2 h
  obtain⟨_,rfl⟩:=if_inv h
  rfl
noncomputable def endV (ρ:Env')(sv:Option (Nat×Slot)):Env':=match sv with|some (i,s)=>ρ.set i s|none=>ρ
theorem pairInv {α:Type}{o:Option (Env'×Option (Nat×Slot))}{f:Env'→Option (Nat×Slot)→Option α}{r:α}(h:(match o with|some (ρ',sv)=>f ρ' sv|none=>none)=some r):∃ρ' sv,o=some (ρ',sv)∧f ρ' sv=some r:=by
 cases o with
 |none=>cases h
 |some z=>exact⟨z.1,z.2,rfl,h⟩
theorem endInv {o:Option (Fl×Env')}{sv:Option (Nat×Slot)}{r:Fl×Env'}(h:(match o with|some (fl,ρ'')=>(match sv with|some (i,s)=>some (fl,ρ''.set i s)|none=>some (fl,ρ''))|none=>none)=some r):∃z,o=some z∧r=(z.1,endV z.2 sv):=by
 cases o with
 |none=>cases h
 |some z=>
  refine⟨z,rfl,?_⟩
  rcases sv with _|_<;>exact (qA8 h).symm
theorem xs_for {v:Nat}{it:PI}{b:PSs}{ρ:Env'}:exS Φ q ρ (.for_ v it b)=((evI Φ q ρ it).bind fun its=>match pinIt ρ it with
  |some (ρ',sv)=>if (its.t.deep || (its.top&&sv.isNone))=true then none else (match forS (forB Φ q v its.t b) its.ds ρ' with|some (fl,ρ'')=>(match sv with|some (i,s)=>some (fl,ρ''.set i s)|none=>some (fl,ρ''))|none=>none)
  |none=>none):=by kernel_rfl
theorem xi_for {v:Nat}{it:PI}{b:PSs}{ρ ρ':Env'}{fl:Fl}(h:exS Φ q ρ (.for_ v it b)=some (fl,ρ')):∃its ρp sv ρ₂,evI Φ q ρ it=some its∧pinIt ρ it=some (ρp,sv)∧its.t=⟨false,false,its.t.base⟩∧(its.top&&sv.isNone)=false∧
  forS (forB Φ q v its.t b) its.ds ρp=some (fl,ρ₂)∧ρ'=endV ρ₂ sv:=by
 rw [xs_for] at h
 obtain⟨its,hits,h⟩:=bind_inv h
 obtain⟨ρp,sv,hp,h⟩:=pairInv h
 obtain⟨hd,h⟩:=qBd.mp h
 obtain⟨z,hz,h⟩:=endInv h
 cases h
 rw [qFd,qEf] at hd
 exact⟨its,ρp,sv,z.2,hits,hp,by rw [evI_top hits,hd.1],hd.2,hz,rfl⟩
variable {nm:List Str}{kd:Kinds}
theorem for_plain {v:Nat}{it:PI}{b:PSs}{x:Str}{px pos:Pos}{it':qA2}{b':List Stmt}{ρ ρ':Env'}{fl:Fl}{its:Items}{env:Env}{A:Around}{s s₀:Shared}{ex:List Addr}{φ:Nat→Addr}{Q:Flow→Shared→Prop}
  (hx:isVar nm kd v x=true) (h2:notSet it'=true) (hi:GIt prog w c Φ k nm kd it it') (hb:GSs prog w c Φ k nm kd q b b') (hits:evI Φ q ρ it=some its) (ht:its.t=⟨false,false,its.t.base⟩) (htop:its.top=false)
  (hfor:forS (forB Φ q v its.t b) its.ds ρ=some (fl,ρ')) (F:FrS c env nm kd q s₀ ex φ ρ s) (hA:AOk k A) (h:PostOk c env nm kd q s₀ ex φ ρ s fl ρ' Q):wpAny (model prog w) A (exec (.For (.Name x px) it' b' [] pos) env) Q NoE s:=by
 obtain⟨hn,hk,hd⟩:=isVar_of hx
 refine wpAny_For (wpAny_mono (hi hits F.toE hA) (fun xv sx hx=>wpAny_mono hx (fun itv s₂ hsrc=>?_) fun _ _ z=>z) fun _ _ z=>z) (set_folds h2)
 obtain⟨I,fp,wr,P,St,s₁,h₂,tk₂,rfl,W,_,hst,hfp,k1,rfl,k2,hwr,hWd,hP,hLx⟩:=hsrc
 rw [ht] at hP hfor
 have F₁:=F.next k1
 refine loop_ok (b₀:=its.t.base) hb hn hk hA W hst k2 hwr hWd hP F₁ (fun b hbm hbw φ' ρ' s' S' F' hm=>?_) hfor ?_
 ·obtain⟨hd1,hd2⟩:=hLx b hbm hbw
  exact hd2 (.inl ⟨htop,Mut.own (S'.mut_ b hd1 hm)⟩)
 ·exact (h.after (Stp.kq k1):PostOk c env nm kd q s₀ ex φ ρ s₁ fl ρ' Q)
noncomputable def notV:PI→Bool
 |.val (.var _)=>false
 |_=>true
theorem gs_for {v:Nat}{it:PI}{b:PSs}{x:Str}{px pos:Pos}{it':qA2}{b':List Stmt}(hnv:notV it=true)(hx:isVar nm kd v x=true)(h2:notSet it'=true)(hi:GIt prog w c Φ k nm kd it it')(hb:GSs prog w c Φ k nm kd q b b') :
  GS prog w c Φ k nm kd q (.for_ v it b) (.For (.Name x px) it' b' [] pos):=fun {ρ ρ' fl env A s s₀ ex φ Q} h0 F hA h=>by
 obtain⟨its,ρp,sv,ρ₂,hits,hp,ht,htop,hfor,rfl⟩:=xi_for h0
 have hpin:pinIt ρ it=some (ρ,none):=by
  cases it with
  |val e=>rcases e with _|_<;>first|rfl|cases hnv
  |_=>rfl
 rw [hpin] at hp
 cases hp
 exact for_plain hx h2 hi hb hits ht (by simpa using htop) hfor F hA h
theorem pin_cases (ρ:Env')(i:Nat):pinIt ρ (.val (.var i))=some (ρ,none)∨∃ds b,ρ[i]?=some (some (.list ds,.own b))∧pinIt ρ (.val (.var i))=some (ρ.set i (some (.list ds,.pin b)),some (i,some (.list ds,.own b))):=by
 have e:pinIt ρ (.val (.var i))=(match ρ[i]? with|some (some (.list ds,.own b))=>some (ρ.set i (some (.list ds,.pin b)),some (i,some (.list ds,.own b)))|_=>some (ρ,none)):=rfl
 rw [e]
 cases ρ[i]? with
 |none=>exact .inl rfl
 |some z=>cases z with
  |none=>exact .inl rfl
  |some z=>
   obtain⟨d,vt⟩:=z
   rcases d with _|_<;>first|exact .inl rfl|skip
   rcases vt with _|_<;>first|exact .inl rfl|exact .inr ⟨_,_,rfl,rfl⟩
theorem for_pin {v i:Nat}{b:PSs}{x y:Str}{px py pos:Pos}{b':List Stmt}{ρ ρ₂:Env'}{fl:Fl}{ds:List D}{b₁:Bool}{its:Items}{env:Env}{A:Around}{s s₀:Shared}{ex:List Addr}{φ:Nat→Addr}{Q:Flow→Shared→Prop}
  (hx:isVar nm kd v x=true) (hy:isVar nm kd i y=true) (hb:GSs prog w c Φ k nm kd q b b') (hits:evI Φ q ρ (.val (.var i))=some its) (hv:ρ[i]?=some (some (.list ds,.own b₁)))
  (hfor:forS (forB Φ q v its.t b) its.ds (ρ.set i (some (.list ds,.pin b₁)))=some (fl,ρ₂)) (F:FrS c env nm kd q s₀ ex φ ρ s) (hA:AOk k A) (h:PostOk c env nm kd q s₀ ex φ ρ s fl (ρ₂.set i (some (.list ds,.own b₁))) Q) :
  wpAny (model prog w) A (exec (.For (.Name x px) (.Name y py) b' [] pos) env) Q NoE s:=by
 have h2:notSet (.Name y py)=true:=rfl
 obtain⟨hn,hk,hd⟩:=isVar_of hx
 obtain⟨hny,hky,hdy⟩:=isVar_of hy
 have hva:=F.ownV i y ⟨_,_,hv,rfl⟩ hny
 have hits':its=⟨ds,⟨false,false,b₁⟩,true⟩:=by
  have hE:evE Φ q ρ (.var i)=some (Rs.val (.list ds) ⟨true,false,b₁⟩):=by
   have e:evE Φ q ρ (.var i)=((ρ[i]?).bind fun s=>VT.get s):=by kernel_rfl
   rw [e,hv];rfl
  obtain⟨r,hr,⟨l,hl1,rfl⟩|⟨l,hl1,rfl⟩⟩:=it_val hits
  ·rw [hE] at hr;cases hr;cases hl1;rfl
  ·rw [hE] at hr;cases hr;cases hl1
 subst hits'
 have oi:OwnAt ρ i:=⟨_,_,hv,rfl⟩
 have hlt:i<ρ.length:=(qAk.mp hv).1
 have hne:∀{σ:Env'} j (sl:Slot),j≠i→(σ.set i sl)[j]?=σ[j]?:=fun j sl hj=>qB1 (qBz hj)
 have hself:(ρ.set i (some (.list ds,.pin b₁)))[i]?=some (some (.list ds,.pin b₁)):=qA4 hlt
 have Fp:FrS c env nm kd q s₀ ex φ (ρ.set i (some (.list ds,.pin b₁))) s:=F.repin hv rfl rfl rfl
 have mutp:∀b,Mut env kd φ (ρ.set i (some (.list ds,.pin b₁))) b→Mut env kd φ ρ b:=fun b hm=>hm.imp id fun⟨j,⟨d,b',e1⟩,e2⟩=>by
  by_cases hj:j=i
  ·exact⟨i,⟨_,_,hv⟩,hj▸e2⟩
  ·rw [hne j _ hj] at e1;exact⟨j,⟨d,b',e1⟩,e2⟩
 have ownp:∀b,OwnO env kd ex φ (ρ.set i (some (.list ds,.pin b₁))) b→OwnO env kd ex φ ρ b:=fun b hm=>hm.imp id fun⟨j,⟨d,vt,e1,e2⟩,e3⟩=>by
  by_cases hj:j=i
  ·exact⟨i,oi,hj▸e3⟩
  ·rw [hne j _ hj] at e1;exact⟨j,⟨d,vt,e1,e2⟩,e3⟩
 obtain⟨ds',vs,e1,hds,hl,hs⟩:=Fp.own i _ _ hself rfl
 cases e1
 have hrd:RdT (OwnO env kd ex φ (ρ.set i (some (.list ds,.pin b₁)))) (dom s₀.heap) s.heap s.toks ⟨true,false,b₁⟩ (.list ds) (.ref (φ i)):=by
  refine⟨hds,φ i,vs,rfl,hl.isList,?_,hs⟩
  rintro (⟨e,_⟩|⟨_,e⟩)
  ·cases e
  ·have:=F.ownB i oi
   unfold dom at e;rw [this] at e;cases e
 refine wpAny_For (ld_var F.es.ok hdy hva (wpAny_mono (src_list (q:=q) hA.hd (KQ.refl q s) hrd) (fun itv s₂ hsrc=>?_) fun _ _ z=>z)) (set_folds h2)
 obtain⟨I,fp,wr,P,St,s₁,h₂,tk₂,rfl,W,_,hst,hfp,k1,rfl,k2,hwr,hWd,hP,hLx⟩:=hsrc
 have F₁:=Fp.next k1
 refine loop_ok (b₀:=b₁) hb hn hk hA W hst k2 hwr hWd hP F₁ (fun b hbm hbw φ' ρ' s' S' F' hm=>?_) hfor ?_
 ·obtain⟨hd1,hd2⟩:=hLx b hbm hbw
  cases hd2
  obtain⟨p1,p2⟩:=S'.pin i _ _ hself
  have op:OwnAt ρ' i:=⟨_,_,p1,rfl⟩
  rcases hm with hm|⟨j,hj1,hj2⟩
  ·exact F₁.ownF i ⟨_,_,hself,rfl⟩ (.inl hm)
  ·have:i=j:=F'.inj i j op hj1.own (p2.trans hj2)
   obtain⟨d,b',e⟩:=hj1
   rw [←this,p1] at e;cases e
 ·cases fl with
  |ret r=>exact h
  |next=>
   intro φ'' s'' F'' S''
   have S2:Stp env kd ex φ (ρ.set i (some (.list ds,.pin b₁))) s ex φ'' ρ₂ s'':=(Stp.kq k1).trans S''
   obtain⟨p1,p2⟩:=S2.pin i _ _ hself
   have hlt2:i<ρ₂.length:=(qAk.mp p1).1
   have F3:FrS c env nm kd q s₀ ex φ'' (ρ₂.set i (some (.list ds,.own b₁))) s'':=F''.repin p1 rfl rfl rfl
   refine h φ'' s'' F3 ⟨fun b o e hm=>S2.keep b o e fun hm'=>hm (mutp b hm'),fun b hb hm=>?_,fun b hb hm=>ownp b (S2.own b hb ?_),S2.dom_,S2.toks,fun j d b' e=>?_⟩
   ·rcases hm with hm|⟨j,⟨d,b',e1⟩,e2⟩
    ·exact .inl hm
    ·by_cases hj:j=i
     ·obtain rfl:=hj.symm;exact .inr ⟨i,⟨_,_,hv⟩,e2.trans p2⟩
     ·rw [hne j _ hj] at e1;exact mutp b (S2.mut_ b hb (.inr ⟨j,⟨d,b',e1⟩,e2⟩))
   ·refine hm.imp id fun⟨j,⟨d,vt,e1,e2⟩,e3⟩=>?_
    by_cases hj:j=i
    ·obtain rfl:=hj.symm;exact⟨i,⟨_,_,p1,rfl⟩,e3⟩
    ·rw [hne j _ hj] at e1;exact⟨j,⟨d,vt,e1,e2⟩,e3⟩
   ·have hj:j≠i:=fun z=>by rw [z,hv] at e;cases e
    have e':(ρ.set i (some (.list ds,.pin b₁)))[j]?=some (some (d,.pin b')):=(hne j _ hj).trans e
    obtain⟨g1,g2⟩:=S2.pin j d b' e'
    exact⟨(hne j _ hj).trans g1,g2⟩
theorem gs_forv {v i:Nat}{b:PSs}{x y:Str}{px py pos:Pos}{b':List Stmt}(hx:isVar nm kd v x=true)(hy:isVar nm kd i y=true)(hb:GSs prog w c Φ k nm kd q b b') :
  GS prog w c Φ k nm kd q (.for_ v (.val (.var i)) b) (.For (.Name x px) (.Name y py) b' [] pos):=fun {ρ ρ' fl env A s s₀ ex φ Q} h0 F hA h=>by
 obtain⟨its,ρp,sv,ρ₂,hits,hp,ht,htop,hfor,rfl⟩:=xi_for h0
 rcases pin_cases ρ i with e|⟨ds,b₁,hv,e⟩
 ·rw [e] at hp
  cases hp
  exact for_plain hx rfl (gi_val (jA0 hy)) hb hits ht (by simpa using htop) hfor F hA h
 ·rw [e] at hp
  cases hp
  exact for_pin hx hy hb hits hv hfor F hA h
end
end Mine
end

section
set_option maxRecDepth 10000
namespace Mine
set_option genSizeOf false
set_option genInjectivity false
open PySem PyProof.Rows PySem.SeqAt
structure DefS where
 name:Str
 params:Arguments
 body:List Stmt
 scope:Scope
inductive DefAt (h:Heap)(a:Addr)(d:DefS):Prop
 |mk (o:Obj) (pm cd doc:Value) (e1:h.get? a=some o) (e2:o.data=.func (qD0 d.name d.params d.body d.scope pm cd doc)) (e3:h.CodeRec cd d.name)
theorem DefAt.keeps {h h':Heap}{a:Addr}{d:DefS}(x:DefAt h a d)(hk:∀b o,h.get? b=some o→h'.get? b=some o):DefAt h' a d:=
 let ⟨o,pm,cd,doc,h1,h2,h3⟩:=x;⟨o,pm,cd,doc,hk _ _ h1,h2,h3.keeps hk⟩
theorem cellsFrom_some:∀{names:List (Str×NameKind)} {n:Nat} {acc:List (Str×Addr)} {x:Str},(x,qGc)∈names∨(acc.lookup x).isSome=true→((cellsFrom n names acc).lookup x).isSome=true
 |[],n,acc,x,h=>by simpa [cellsFrom] using h
 |(y,kk)::r,n,acc,x,h=>by
  unfold cellsFrom
  split
  ·rename_i hk
   refine cellsFrom_some ?_
   by_cases hx:x=y
   ·right;subst hx;simp
   ·rcases h with h|h
    ·rcases qA6.mp h with h|h
     ·cases h;exact absurd rfl hx
     ·exact .inl h
    ·right;rw [qEm,show (x==y)=false by simpa using hx];exact h
  ·rename_i hk
   refine cellsFrom_some (h.imp (fun h=>?_) id)
   rcases qA6.mp h with h|h
   ·cases h;exact absurd rfl hk
   ·exact h
theorem bindLC {kindOf:Str→Option NameKind}:∀{ps:List Str} {vs:List Value} {m cm:Str→Option Value},ps.Nodup→ps.length=vs.length→
  (∀x,x∉ps→bindL kindOf (ps.zip vs) m x=m x∧bindC kindOf (ps.zip vs) cm x=cm x)∧
  ∀(i:Nat) x v,ps[i]?=some x→vs[i]?=some v→(kindOf x=some .local→bindL kindOf (ps.zip vs) m x=some v)∧(kindOf x≠some .local→bindC kindOf (ps.zip vs) cm x=some v)
 |[],vs,m,cm,_,_=>⟨fun x _=>by simp [bindL,bindC],fun i x v e=>by simp at e⟩
 |p::ps,[],m,cm,_,h=>by cases h
 |p::ps,v::vs,m,cm,hn,hl=>by
  obtain⟨hp,hn⟩:=qCp.mp hn
  have hl:ps.length=vs.length:=by simpa using hl
  simp only [qFw,bindL,bindC]
  obtain⟨m₁,hm⟩:=gx (if kindOf p=some .local then fun y=>if y=p then some v else m y else m)
  obtain⟨cm₁,hcm⟩:=gx (if kindOf p=some .local then cm else fun y=>if y=p then some v else cm y)
  rw [hm,hcm]
  obtain⟨h1,h2⟩:=bindLC (kindOf:=kindOf) (m:=m₁) (cm:=cm₁) hn hl
  refine⟨fun x hx=>?_,fun i x u e1 e2=>?_⟩
  ·rw [qA6,not_or] at hx
   obtain⟨g1,g2⟩:=h1 x hx.2
   refine⟨g1.trans ?_,g2.trans ?_⟩
   ·rw [←hm];split
    ·exact if_neg hx.1
    ·rfl
   ·rw [←hcm];split
    ·rfl
    ·exact if_neg hx.1
  ·cases i with
   |zero=>
    simp only [qEs,qD1] at e1 e2
    subst e1 e2
    obtain⟨g1,g2⟩:=h1 p hp
    refine⟨fun hk=>g1.trans ?_,fun hk=>g2.trans ?_⟩
    ·rw [←hm,if_pos hk];exact if_pos rfl
    ·rw [←hcm,if_neg hk];exact if_pos rfl
   |succ i=>
    simp only [qCz] at e1 e2
    exact h2 i x u e1 e2
section
variable {prog:Program}{w:World}{c:Nm}{Φ:Fns}{k:Nat}{q:Bool}
theorem AOk.deeper {A:Around}{env:Env}(h:AOk (k+1) A):AOk k (A.deeper env):=
 ⟨h.hd,by show A.depth+1+4*k+4≤_;have:=h.depth;exact jL [_,_,_] [cL (eA (eA xa (eM 4 (eU xb))) (eN 4)) xc] (cL (eA (eA (eU xa) (eM 4 xb)) (eN 4)) xc) jT this,by show A.units+3+100*k+100≤_;have:=h.units;exact jL [_,_,_] [cL (eA (eA xa (eM 100 (eU xb))) (eN 100)) xc] (cL (eA (eA (eA xa (eN 3)) (eM 100 xb)) (eN 100)) xc) jT this⟩
theorem arg_env {args:List D}{n i:Nat}{d:D}{vt:VT}{t:Tg}(e:(args.map (fun d=>some (d,VT.val (eff d t)))++qBh n none)[i]?=some (some (d,vt))):args[i]?=some d∧vt=.val (eff d t):=by
 by_cases hi:i<args.length
 ·rw [qCm (by rw [qAa];exact hi),qC4,qAb hi] at e
  rw [qAb hi]
  obtain⟨rfl,rfl⟩:=qDr (qA8 (qA8 e))
  exact⟨rfl,rfl⟩
 ·rw [qBq (by rw [qAa];exact qCj.mp hi),qGg] at e
  split at e<;>cases e
theorem flat_ref {O B:Addr→Prop}{h:Heap}{T:Nat}{t:Tg}{d:D}{a:Addr}(hf:d.flat=true)(r:RdT O B h T t d (.ref a)):False:=by
 unfold RdT at r
 cases d with
 |list ds=>cases hf
 |none=>rw [Rd] at r;cases r
 |bool b=>rw [Rd] at r;cases r
 |int i=>rw [Rd] at r;obtain⟨_,e⟩:=r;cases e
 |str l=>rw [Rd] at r;obtain⟨_,_,e⟩:=r;cases e
 |cst l=>rw [Rd] at r;obtain⟨_,_,e,_⟩:=r;cases e
theorem call_walk {f:Nat}{d:DefS}{ps nm:List Str}(hat:∀h,c.ex h→DefAt h (c.fa f) d)
  (hpar:∀pm cd doc vals,vals.length=ps.length→bindArgs (qD0 d.name d.params d.body d.scope pm cd doc) ⟨vals,[]⟩=pure (ps.zip vals))
  (hk:d.scope.kind=.function) (hco:d.scope.isCoroutine=false) (hgen:d.scope.isGenerator=false)
  (hps:∀(i:Nat) x,ps[i]?=some x→nm[i]?=some x) (hpk:∀x∈ps,d.scope.names.lookup x=some .local∨d.scope.names.lookup x=some .cell) (hnd:nm.Nodup) (hpd:ps.Nodup)
  {args:List D} {rr:Rs} (hlen:args.length=ps.length) (hbase:(eff rr.d rr.t).base=false) (hfresh:(rr.d.flat || rr.f)=true)
  {A:Around} {s:Shared} {vs:List Value} (hA:AOk (k+1) A) (st:St c s.heap) (tk:1≤s.toks) (ra:Rds s.heap s.toks No args vs) {Q:Value→Shared→Prop}
  (hw:∀(env:Env) (A':Around) (s':Shared) (Q':Flow→Shared→Prop),FrS c env nm d.scope.names q s [] (fun _=>0) (args.map (fun d=>some (d,VT.val (eff d ⟨false,false,true⟩)))++qBh (nm.length-args.length) none) s'→AOk k A'→
   (∀O v s'',KQ q s s''→RdT O (dom s.heap) s''.heap s''.toks rr.t rr.d v→(rr.f=true→∀a,v=.ref a→Pl s''.heap a)→Q' (.ret v) s'')→wpAny (model prog w) A' (execs d.body env) Q' NoE s')
  (h:∀v s',KQ q s s'→Rd s'.heap s'.toks (dom s.heap) (dom s.heap) rr.d v→(∀a,v=.ref a→Pl s'.heap a)→Q v s'):wpAny (model prog w) A (call (.ref (c.fa f)) vs) Q NoE s:=by
 obtain⟨ρ0,hρ0⟩:=gx (args.map (fun d=>some (d,VT.val (eff d ⟨false,false,true⟩)))++qBh (nm.length-args.length) none)
 rw [hρ0] at hw
 have hget:∀{i:Nat} {d:D} {vt:VT},ρ0[i]?=some (some (d,vt))→args[i]?=some d∧vt=.val (eff d ⟨false,false,true⟩):=fun e=>arg_env (hρ0▸e)
 clear hρ0
 refine hid fun G hG=>?_
 obtain⟨o,pm,cd,doc,ho,hdata,hcd⟩:=hat _ st.ex
 have hvl:vs.length=ps.length:=by rw [ra.length,hlen]
 refine hG (wpAny_call (codeAny_call_function (by have:=hA.depth;exact jL [_,_,_] [cL (eA (eA xa (eM 4 (eU xb))) (eN 4)) xc] (cT xa xc) jT this) ho hdata hco hgen rfl hcd ?_))
 clear hG
 rw [hpar pm cd doc vs hvl]
 refine wpAny_pure (wpAny_with_toks (n:=s.toks) (qA7 _) (wpAny_newFunctionEnv_cells hk ?_ fun env he s' x htk=>?_))
 ·intro y hy
  obtain⟨y1,y2⟩:=y
  have:=(List.of_mem_zip hy).1
  rcases hpk _ this with h1|h1
  ·exact .inl h1
  ·exact .inr ⟨h1,cellsFrom_some (.inl (lookup_mem h1))⟩
 ·have hL:env.locals=s.heap.objs.size:=by rw [he];rfl
  have hcells:env.cells=cellsFrom (s.heap.objs.size+1) d.scope.names []:=by rw [he];rfl
  have hsc:env.scope=d.scope:=by rw [he];rfl
  have hkd:env.kindOf=fun y=>d.scope.names.lookup y:=by funext y;show env.scope.names.lookup y=_;rw [hsc]
  have ok:EnvOk env d.scope.names:=⟨by rw [hsc],by rw [hsc];exact hk,by rw [he];rfl,by rw [he];rfl,fun y hy=>by
   have:=cellsFrom_some (n:=s.heap.objs.size+1) (acc:=[]) (.inl (lookup_mem hy))
   rw [←hcells] at this
   exact qAs.mp this⟩
  obtain⟨h',tk',e',hkeep⟩:=x.toInCall.done
  have kq:KQ q s s':=by rw [e'];rw [e'] at htk;exact KQ.mk' hkeep htk
  have hfree:∀a,s.heap.objs.size≤a→s.heap.get? a=none:=fun a ha=>by
   cases e:s.heap.get? a with
   |none=>rfl
   |some o=>exact absurd (qCg e) (qCj.mpr ha)
  have hnot:∀i,¬OwnAt ρ0 i:=by
   rintro i ⟨d',vt,e1,e2⟩
   rw [(hget e1).2] at e2;cases e2
  obtain⟨_,hbl⟩:=bindLC (kindOf:=env.kindOf) (m:=fun _=>none) (cm:=fun _=>none) hpd hvl.symm
  have F:FrS c env nm d.scope.names q s [] (fun _=>0) ρ0 s':=by
   refine⟨⟨ok,hnd,fun y z a e1 e2 e3 e4=>name_of_addr x.apart (mem_of_lookup e3) (mem_of_lookup e4),fun y a e1 e2=>?_⟩,st,tk,kq,⟨_,x.toInCall.ns⟩,fun y a e1 e2=>⟨_,x.cell y a e2⟩,fun a ha=>(nomatch ha),fun a ha=>(nomatch ha),?_,
    fun i hi=>absurd hi (hnot i),fun i hi=>absurd hi (hnot i),fun i j hi=>absurd hi (hnot i),?_,fun i d' vt e1 e2=>absurd ⟨d',vt,e1,e2⟩ (hnot i),fun i y hi=>absurd hi (hnot i)⟩
   ·have:=x.above y a (mem_of_lookup e2)
    exact qCf this
   ·rintro a ((rfl|⟨y,e1,e2⟩)|ha)
    ·exact hfree _ (by rw [hL];exact qA7 _)
    ·have:=x.above y a (mem_of_lookup e2)
     rw [hL] at this
     exact hfree _ (qAq this)
    ·cases ha
   ·intro i d' t y e1 e2 e3
    obtain⟨hd,ht⟩:=hget e1
    obtain rfl:=VT.val.inj ht
    obtain⟨u,hu1,hu2⟩:=ra.get hd
    have hi:i<ps.length:=hlen▸(qAk.mp hd).1
    have hpi:ps[i]?=some y:=(qAb hi).trans ((hps i _ (qAb hi)).symm.trans e2)
    obtain⟨g1,g2⟩:=hbl i _ u hpi hu1
    have hrd:RdT (OwnO env d.scope.names [] (fun _=>0) ρ0) (dom s.heap) s'.heap s'.toks ⟨false,false,true⟩ d' u:=by
     have hX:∀a,(∃o,s.heap.get? a=some o)→X (OwnO env d.scope.names [] (fun _=>0) ρ0) (dom s.heap) false true a→No a:=by
      rintro a ⟨o,e⟩ (⟨_,hq⟩|⟨hq,_⟩)
      ·rcases hq with ((rfl|⟨y,e1,e2⟩)|ha)|⟨j,hj,_⟩
       ·rw [hfree _ (by rw [hL];exact qA7 _)] at e;cases e
       ·have:=x.above y a (mem_of_lookup e2)
        rw [hL] at this
        rw [hfree _ (qAq this)] at e;cases e
       ·cases ha
       ·exact absurd hj (hnot j)
      ·cases hq
     exact Rd.mono kq.toks (fun b o _=>kq.keep b o) (fun b o _=>kq.keep b o) hX hX _ _ hu2
    have htt:(eff d' ⟨false,false,true⟩).top=false∧(eff d' ⟨false,false,true⟩).deep=false:=by
     rcases d' with _|_<;>exact⟨rfl,rfl⟩
    refine⟨htt.1,htt.2,u,?_,hrd.eff⟩
    rcases e3 with e3|e3
    ·exact .inl ⟨e3,_,x.toInCall.ns,g1 (by rw [hkd];exact e3)⟩
    ·obtain⟨a,ha⟩:=ok.cells _ e3
     refine .inr ⟨e3,a,ha,?_⟩
     have:=x.cell _ a ha
     rw [g2 (by rw [hkd];show d.scope.names.lookup y≠_;rw [e3];decide)] at this
     exact this
  refine⟨st.lim.keeps kq.keep,codeAny_func (wpAny_mono (hw env _ s' _ F hA.deeper ?_) (fun _ _ z=>z) fun _ _ z=>z.elim)⟩
  intro O v s'' k' r' p'
  refine h v s'' k' ?_ fun a ea=>?_
  ·have r2:=r'.eff
   refine Rd.mono (qA7 _) (fun b o _=>id) (fun b o _=>id) (fun a _ hx=>.inr ⟨hbase,hx⟩) (fun a _ hx=>.inr ⟨hbase,hx⟩) _ _ r2
  ·subst ea
   cases hf:rr.d.flat with
   |true=>exact (flat_ref hf r').elim
   |false=>exact p' (by rw [hf] at hfresh;cases hz:rr.f with|true=>rfl|false=>rw [hz] at hfresh;cases hfresh) a rfl
theorem call_def {f:Nat}{d:DefS}{ps nm:List Str}{prg:PSs}(hat:∀h,c.ex h→DefAt h (c.fa f) d)
  (hpar:∀pm cd doc vals,vals.length=ps.length→bindArgs (qD0 d.name d.params d.body d.scope pm cd doc) ⟨vals,[]⟩=pure (ps.zip vals))
  (hk:d.scope.kind=.function) (hco:d.scope.isCoroutine=false) (hgen:d.scope.isGenerator=false)
  (hps:∀(i:Nat) x,ps[i]?=some x→nm[i]?=some x) (hpk:∀x∈ps,d.scope.names.lookup x=some .local∨d.scope.names.lookup x=some .cell) (hnd:nm.Nodup) (hpd:ps.Nodup)
  (hbody:GSs prog w c Φ k nm d.scope.names q prg d.body) {args:List D} {r:D} (hr:runF Φ q ps.length nm.length prg args=some r)
  {A:Around} {s:Shared} {vs:List Value} (hA:AOk (k+1) A) (st:St c s.heap) (tk:1≤s.toks) (ra:Rds s.heap s.toks No args vs) {Q:Value→Shared→Prop}
  (h:∀v s',KQ q s s'→Rd s'.heap s'.toks (dom s.heap) (dom s.heap) r v→(∀a,v=.ref a→Pl s'.heap a)→Q v s'):wpAny (model prog w) A (call (.ref (c.fa f)) vs) Q NoE s:=by
 unfold runF at hr
 split at hr
 ·cases hr
 ·rename_i hlen
  split at hr
  ·rename_i rr ρ' hex
   split at hr
   ·cases hr
   ·rename_i hchk
    cases hr
    rw [qFd,qEf] at hchk
    refine call_walk (q:=q) hat hpar hk hco hgen hps hpk hnd hpd (rr:=rr) (by lia) hchk.1 (by have:=hchk.2;cases hz:(rr.d.flat || rr.f) with|true=>rfl|false=>rw [hz] at this;cases this) hA st tk ra (fun env A' s' Q' F hA' hQ=>?_) h
    exact hbody hex F hA' hQ
  ·cases hr
end
end Mine
end

section
set_option maxRecDepth 10000
namespace Mine
open PySem PyProof.Rows PySem.SeqAt
section
variable {M:Model}{A:Around}{R:GenEnd}{Y:Protocol}{n:Nat}{s₀:Shared}{c:Code}{fs:List Frame}{s:Shared}{env:Env}
 {K:Flow→Sem Fin} {H:Value→Sem Fin} {gd:Bool→Bool} {lv:List Value→List Value}
theorem seg_stmt {st:Stmt}(h:wpAny M (A.over c fs) (exec st env) (fun f s'=>Seg M A R Y n s₀ c (K f) fs s') (fun x s'=>Seg M A R Y n s₀ c (H x) fs s') s) :
  Seg M A R Y n s₀ c ((exec st env).wrap K H gd lv) fs s:=seg_wrap h
theorem seg_If {test:qA2}{body orelse:List Stmt}{pos:Pos}
  (h:wpAny M (A.over c fs) (isTrue test env (eval test env)) (fun b s'=>if b=true then Seg M A R Y n s₀ c ((execs body env).wrap K H gd lv) fs s' else Seg M A R Y n s₀ c ((execs orelse env).wrap K H gd lv) fs s')
   (fun x s'=>Seg M A R Y n s₀ c (H x) fs s') s) :
  Seg M A R Y n s₀ c ((exec (.If test body orelse pos) env).wrap K H gd lv) fs s:=by
 rw [exec_If]
 refine seg_at ?_
 show Seg M A R Y n s₀ c ((isTrue test env (eval test env) >>= fun b=>if b=true then execs body env else execs orelse env).wrap K H gd lv) fs s
 rw [qCl,qDt]
 refine seg_wrap (wpAny_mono h (fun b s' hb=>?_) fun _ _ x=>x)
 cases b with
 |true=>exact hb
 |false=>exact hb
theorem seg_For {target iter:qA2}{body orelse:List Stmt}{pos:Pos}
  (h:wpAny M (A.over c fs) (eval iter env) (fun x s₁=>wpAny M (A.over c fs) (pyIter x) (fun it s₂=>∀p,Seg M A R Y n s₀ (.forLoop target it body orelse env) (M.den (.forLoop target it body orelse env))
   (.ret (fun r=>((match r with|.ok f=>(.pure f:Sem Flow)|.error e=>.raise e).onRaise fun (x:Value)=>do
    if (←field x 1)==qHk then unsupported "frame.own-activation:exception-without-traceback"
    setFlight x env.frame).wrap K H gd lv) none (gd false) (lv []) c p []::fs) s₂) (fun x s'=>Seg M A R Y n s₀ c (H x) fs s') s₁) (fun x s'=>Seg M A R Y n s₀ c (H x) fs s') s)
  (hs:∀x,foldedSetIterable iter env x=pure x) :
  Seg M A R Y n s₀ c ((exec (.For target iter body orelse pos) env).wrap K H gd lv) fs s:=by
 refine seg_at ?_
 show Seg M A R Y n s₀ c ((eval iter env >>= fun x=>foldedSetIterable iter env x >>= fun x=>standAt iter.pos >>= fun _=>holding [x] (pyIter x) >>= fun it=>runOwn (.forLoop target it body orelse env) env).wrap K H gd lv) fs s
 rw [qCl,qDt]
 refine seg_wrap (wpAny_mono h (fun x s₁ h₁=>?_) fun _ _ x=>x)
 rw [hs]
 refine seg_at ?_
 show Seg M A R Y n s₀ c ((holding [x] (pyIter x) >>= fun it=>runOwn (.forLoop target it body orelse env) env).wrap K H gd lv) fs s₁
 rw [qCl,qDt]
 refine seg_wrap (wpAny_holding (wpAny_mono h₁ (fun it s₂ h₂=>?_) fun _ _ x=>x))
 exact seg_call h₂
end

section
variable {prog:Program}{w:World}{A:Around}{R:GenEnd}{Y:Protocol}{n:Nat}{s₀:Shared}{fs:List Frame}{s:Shared}{env:Env}
noncomputable def noteK (env:Env)(e:Value):Sem PySem.Fin:=(do noteFrame e env;theTreesLotGoes e:Sem Unit).wrap (fun _=>.raise e) .raise id id
theorem seg_forLoop {target:qA2}{it:Value}{body:List Stmt}
  (h:wpAny (model prog w) (A.over (.forLoop target it body [] env) fs) (pyNext it) (fun r s₁=>match r with
    |none=>Seg (model prog w) A R Y n s₀ (.block [] env) ((model prog w).den (.block [] env)) fs s₁
    |some v=>wpAny (model prog w) (A.over (.forLoop target it body [] env) fs) (letOwnedTupleGo target it v) (fun _ s₂=>wpAny (model prog w) (A.over (.forLoop target it body [] env) fs) (assign target env v) (fun _ s₃=>
      Seg (model prog w) A R Y n s₀ (.forLoop target it body [] env) ((execs body env).wrap (fun f=>match f with
       |.next|.cont=>.pure (.again (.forLoop target it body [] env))
       |.brk=>.pure (.done .next)
       |.ret v=>.pure (.done (.ret v))) (noteK env) id id) fs s₃) (fun _ _=>False) s₂) (fun _ _=>False) s₁) (fun _ _=>False) s) :
  Seg (model prog w) A R Y n s₀ (.forLoop target it body [] env) ((model prog w).den (.forLoop target it body [] env)) fs s:=by
 show Seg _ A R Y n s₀ _ ((forTurn target it body [] env).onRaise (fun x=>do noteFrame x env;theTreesLotGoes x)) fs s
 unfold forTurn
 rw [Sem.onRaise_eq_wrap,qCl,qDt]
 refine seg_wrap (wpAny_standAt ?_)
 rw [qCl,qDt]
 refine seg_wrap (wpAny_onRaise (wpAny_mono h (fun r s₁ h₁=>?_) fun _ _ z=>z.elim))
 cases r with
 |none=>exact seg_again rfl h₁
 |some v=>
  show Seg _ A R Y n s₀ _ ((letOwnedTupleGo target it v >>= fun _=>assign target env v >>= fun _=>execs body env >>= fun f=>match f with
   |.next|.cont=>again (.forLoop target it body [] env)
   |.brk=>pure (.done .next)
   |.ret v=>pure (.done (.ret v))).wrap .pure (fun e=>((do noteFrame e env;theTreesLotGoes e:Sem Unit).bind fun _=>.raise e)) id id) fs s₁
  rw [qCl,qDt]
  refine seg_wrap (wpAny_mono h₁ (fun _ s₂ h₂=>?_) fun _ _ z=>z.elim)
  rw [qCl,qDt]
  refine seg_wrap (wpAny_mono h₂ (fun _ s₃ h₃=>?_) fun _ _ z=>z.elim)
  rw [qCl,qDt]
  rw [Sem.wrap_congr (execs body env) _ _ (K':=fun f=>match f with
      |.next|.cont=>.pure (.again (.forLoop target it body [] env))
      |.brk=>.pure (.done .next)
      |.ret v=>.pure (.done (.ret v))) (H':=noteK env)
    (fun f=>by rcases f with _|_<;>rfl)
    (fun e=>by unfold noteK;first|exact Sem.bind_eq_wrap _ _|(show (do noteFrame e env;theTreesLotGoes e:Sem Unit).bind (fun _=>.raise e)=_;rw [Sem.bind_eq_wrap]))]
  exact h₃
end
end Mine
end

section
set_option maxRecDepth 10000
namespace Mine
open PySem PyProof.Rows PySem.SeqAt
section
variable {prog:Program}{w:World}{A:Around}{E:Value→Shared→Prop}{s:Shared}
theorem pyNext_genQ {a:Addr}{g n:Nat}{gs:GenState}{P:Nat→Shared→Shared→Prop}{Y:Protocol}{Q:Option Value→Shared→Prop}(hh:A.handled=none)
  (hl:s.heap.NoLimit) (hroom:A.depth<recursionLimit) (hg:s.heap.IsGen a g) (hgs:s.gens[g]?=some gs)
  (hgo:gs.Goes (model prog w) A.in1 (fun n s₀ r s₁=>r=.ok (.ret .none)∧P n s₀ s₁) Y n (.send .none) (s.setGen g .running))
  (hY:∀v s₁ gs',gs'.bare=true→Y (n-1) (s.setGen g .running) v s₁ (fun r' s''=>match n with
    |0=>False
    |m+1=>gs'.Goes (model prog w) A.in1 (fun n s₀ r s₁=>r=.ok (.ret .none)∧P n s₀ s₁) Y m r' s'')→Q (some v) (s₁.setGen g gs'))
  (hP:∀s₁,P n (s.setGen g .running) s₁→∀h',(∀b o,s₁.heap.get? b=some o→h'.get? b=some o)→Q none { s₁.setGen g .finished with heap:=h' }) :
  wpAny (model prog w) A (pyNext (.ref a)) Q E s:=by
 refine wpAny_bind (wpAny_attempt (wpAny_callSpecial?_slot (name:=qA0 "__next__") hg.typeIs slot_gen_next
  (wpAny_call_entry slot_gen_next hg.typeIs entry_gen_next ?_ (args_gen_next _))))
 show wpAny _ A.in1 (Builtin.Generator.genWake (.ref a) (.send .none)) _ _ s
 refine wpAny_bind (wpAny_holding (wpAny_genNumber hg (wpAny_bind (wpAny_genState hgs ?_))))
 cases gs with
 |running=>exact hgo.elim
 |finished=>exact hgo.elim
 |_=>
  refine wpAny_bind (wpAny_roomToWake hl hroom ?_)
  show wpAny _ A.in1 (.resume g (.send .none) [] _) _ _ s
  refine wpAny_resumeQ hgs hgo (fun x s₁ hx=>?_) (fun v s₁ gs' hb hv=>?_)
  ·obtain⟨rfl,hp⟩:=hx
   show wpAny _ A.in1 (newExc (.type "StopIteration") [] >>= _) _ _ _
   refine wpAny_bind ?_
   refine wpAny_bind (wpAny_newObj_type ?_ (by size_fits))
   refine wpAny_bind (m:=firstArgMember _ _) (wpAny_of_eq (a:=qHk) (by first|rfl|(simp only [firstArgMember];rfl)) ?_)
   refine wpAny_newObj_type ?_ (by size_fits)
   refine wpAny_bind (wpAny_bind (wpAny_handled ?_))
   first|rw [show A.in1.handled=none from hh]|rw [hh]
   refine wpAny_throw ?_
   refine wpAny_bind (wpAny_isInstance (T:= "StopIteration") (b:=true) ⟨_,qB9 _ rfl,rfl⟩ isSubtype_stop ?_)
   exact wpAny_pure (hP s₁ hp _ fun b o hb=>qAp _ (qAp _ hb))
  ·exact wpAny_pure ⟨v,rfl,wpAny_pure (hY v s₁ gs' hb hv)⟩
end
end Mine
end

section
set_option maxRecDepth 10000
namespace Mine
set_option genSizeOf false
set_option genInjectivity false
open PySem PyProof.Rows PySem.SeqAt
theorem Rd.flatT {h h':Heap}{T T':Nat}{X1 X2 X3 X4:Addr→Prop}{d:D}{v:Value}(hf:d.flat=true)(ht:T≤T')(r:Rd h T X1 X2 d v):Rd h' T' X3 X4 d v:=by
 cases d with
 |list ds=>cases hf
 |cst l=>rw [Rd] at r ⊢;obtain⟨a,t,b,c,e⟩:=r;exact⟨a,t,b,c,qB3 e ht⟩
 |_=>simp only [Rd] at r ⊢;exact r
structure GI (c:Nm)(env:Env)(nm:List Str)(kd:Kinds)(h₀:Heap)(ρ:Env')(s:Shared):Prop where
 ok:EnvOk env kd
 nodup:nm.Nodup
 loc:∀x∈nm,kd.lookup x=some .local
 st0:St c h₀
 keep:∀b o,h₀.get? b=some o→s.heap.get? b=some o
 new:h₀.get? env.locals=none
 tk:1≤s.toks
 ns:∃m,s.heap.Ns env.locals m
 vars:∀(i:Nat) d vt x,ρ[i]?=some (some (d,vt))→nm[i]?=some x→d.flat=true∧∃m v,s.heap.Ns env.locals m∧m x=some v∧Rd s.heap s.toks No No d v
section
variable {prog:Program}{w:World}{A:Around}{c:Nm}{env:Env}{nm:List Str}{kd:Kinds}{h₀:Heap}{ρ:Env'}{s s':Shared}{E:Value→Shared→Prop}
theorem GI.toE (G:GI c env nm kd h₀ ρ s):FrE c env nm kd No No ρ s:=
 ⟨G.ok,G.st0.keeps G.keep,G.tk,fun _ h=>h.elim,fun _ h=>h.elim,fun i d vt x h1 h2 h3=>by
  obtain⟨hf,m,v,hm,hv,hr⟩:=G.vars i d vt x h1 h2
  exact⟨v,.inl ⟨G.loc x (qDg.mpr ⟨i,h2⟩),m,hm,hv⟩,Rd.flat_any hf hr⟩⟩
theorem GI.next (G:GI c env nm kd h₀ ρ s)(hL:∀o,s.heap.get? env.locals=some o→s'.heap.get? env.locals=some o)(hk:∀b o,h₀.get? b=some o→s'.heap.get? b=some o)(ht:s.toks≤s'.toks):GI c env nm kd h₀ ρ s':=
 ⟨G.ok,G.nodup,G.loc,G.st0,hk,G.new,qA9 G.tk ht,G.ns.imp fun m h=>h.at' hL,fun i d vt x h1 h2=>by
  obtain⟨hf,m,v,hm,hv,hr⟩:=G.vars i d vt x h1 h2
  exact⟨hf,m,v,hm.at' hL,hv,Rd.flatT hf ht hr⟩⟩
theorem GI.kq {q:Bool}(G:GI c env nm kd h₀ ρ s)(k:KQ q s s'):GI c env nm kd h₀ ρ s':=G.next (fun o e=>k.keep _ o e) (fun b o e=>k.keep b o (G.keep b o e)) k.toks
theorem GI.store (G:GI c env nm kd h₀ ρ s){i:Nat}{x:Str}{d:D}{v:Value}{Q:Unit→Shared→Prop}(hx:nm[i]?=some x)(hi:i<ρ.length)(hf:d.flat=true)(hr:Rd s.heap s.toks No No d v)
  (h:∀s',GI c env nm kd h₀ (ρ.set i (some (d,.val Tg.z))) s'→(∀b o,b≠env.locals→s.heap.get? b=some o→s'.heap.get? b=some o)→s.toks≤s'.toks→s'.gens=s.gens→(∃h' tk,s'={ s with heap:=h',toks:=tk }∧h'.objs.size=s.heap.objs.size)→Q () s') :
  wpAny (model prog w) A (storeName env x v) Q E s:=by
 obtain⟨m,hm⟩:=G.ns
 refine wpAny_storeName_local ((kindOf_eq G.ok x).trans (G.loc x (qDg.mpr ⟨i,hx⟩))) hm (fun h' hn' hsb=>?_) (hp_of G.ok)
 have hs:∀b o,b≠env.locals→s.heap.get? b=some o→h'.get? b=some o:=fun b o hb e=>hsb.extBut b o hb e
 refine h _ ⟨G.ok,G.nodup,G.loc,G.st0,fun b o e=>hs b o (fun q=>by rw [q,G.new] at e;cases e) (G.keep b o e),G.new,qB4 G.tk,⟨_,hn'⟩,fun j d' vt y h1 h2=>?_⟩ hs (qAj _) rfl ⟨_,_,rfl,hsb.1⟩
 by_cases hj:j=i
 ·obtain rfl:=hj.symm
  rw [hx] at h2;cases h2
  rw [qA4 hi] at h1;cases h1
  exact⟨hf,_,v,hn',if_pos rfl,Rd.flatT hf (qAj _) hr⟩
 ·rw [qB1 (qBz hj)] at h1
  obtain⟨hf',m',u,hm',hu,hr'⟩:=G.vars j d' vt y h1 h2
  refine⟨hf',_,u,hn',?_,Rd.flatT hf' (qAj _) hr'⟩
  have hyx:y≠x:=fun q=>by
   rw [q] at h2
   obtain⟨g1,g2⟩:=qAk.mp h2
   obtain⟨g3,g4⟩:=qAk.mp hx
   exact hj ((List.getElem_inj G.nodup).mp (g2.trans g4.symm))
  show (if y=x then some v else m y)=some u
  rw [if_neg hyx,←hu];exact hm.agree hm' y
end
end Mine
end

section
set_option maxRecDepth 10000
namespace Mine
open PySem PyProof.Rows PySem.SeqAt
section
variable {c:Nm}{env:Env}{nm:List Str}{kd:Kinds}{q:Bool}{s₀ s s₂:Shared}{ex wr new:List Addr}{φ:Nat→Addr}{ρ:Env'}
theorem FrS.quiet (F:FrS c env nm kd q s₀ ex φ ρ s):FrS c env nm kd true { s₀ with gens:=s.gens } ex φ ρ s:=by
 refine⟨F.es,F.st0,F.tk0,?_,F.loc,F.cell,F.exd,F.exF,F.foB,F.ownB,F.ownF,F.inj,F.val,F.own,F.ownV⟩
 obtain⟨h1,t1,g1,rfl,k1,l1,e1,p1,q1⟩:=F.base
 exact⟨h1,t1,g1,rfl,k1,l1,fun _=>rfl,fun _ _ e=>e,id⟩
theorem FrS.unquiet {gs:Array GenState}(F:FrS c env nm kd true { s₀ with gens:=gs } ex φ ρ s)(hg:KQ q s₀ { s₀ with gens:=gs }):FrS c env nm kd q s₀ ex φ ρ s:=by
 refine⟨F.es,F.st0,F.tk0,?_,F.loc,F.cell,F.exd,F.exF,F.foB,F.ownB,F.ownF,F.inj,F.val,F.own,F.ownV⟩
 obtain⟨h1,t1,g1,rfl,k1,l1,e1,p1,q1⟩:=F.base
 obtain⟨h2,t2,g2,e,k2,l2,e2,p2,q2⟩:=hg
 cases e
 refine⟨h1,t1,g1,rfl,k1,l1,fun h=>(e1 rfl).trans (e2 h),fun i x e=>p1 i x (p2 i x e),fun h=>q1 (q2 h)⟩
end
end Mine
end

section
set_option maxRecDepth 10000
namespace Mine
set_option genSizeOf false
set_option genInjectivity false
open PySem PyProof.Rows PySem.SeqAt
theorem Draws.strAny {prog:Program}{w:World}{A:Around}(hh:A.handled=none)(it:Addr)(x:Str)(t:Tok) :
  Draws prog w A it [it] x.cps.size (fun i v=>∃c u,x.cps[i]?=some c∧v=.str ⟨#[c]⟩ u) (fun i h=>h.IsStrIter it (strIterType x) x t i):=by
 unfold strIterType
 cases hc:x.cps.all (·<128) with
 |true=>rw [if_pos rfl];exact Draws.strAscii hh it x t
 |false=>rw [if_neg qAr];exact Draws.strWide hh it x t
noncomputable def gρ (l:List Nat)(p:Int)(b:Bool)(ch:Slot):Env':=[some (.str l,.val Tg.z),some (.int p,.val Tg.z),some (.bool b,.val Tg.z),ch]
noncomputable def Φ0:Fns:=fun _ _ _=>none
noncomputable def Later (own:List Addr)(h₀:Heap)(s s':Shared):Prop:=(∀b∈own,∀o,s.heap.get? b=some o→s'.heap.get? b=some o)∧(∀b o,h₀.get? b=some o→s'.heap.get? b=some o)∧s.toks≤s'.toks
inductive Kept (own:List Addr)(s₀ s:Shared):Prop
 |mk (h':Heap) (tk:Nat) (e1:s={ s₀ with heap:=h',toks:=tk }) (e2:∀b o,b∉own→s₀.heap.get? b=some o→h'.get? b=some o) (e3:s₀.toks≤tk)
noncomputable def om (own own0:List Addr):Nat→List Addr
 |0=>own0
 |_+1=>own
inductive GY (L:List (Int×List Nat))(own own0:List Addr)(h₀:Heap)(m:Nat)(s₀:Shared)(v:Value)(s':Shared)(kap:Resume→Shared→Prop):Prop
 |mk (x:Int×List Nat) (T:Addr) (t u:Tok) (e1:m<L.length) (e2:L[L.length-1-m]?=some x) (e3:v=.ref T) (e4:s'.heap.IsTuple T #[.int x.1 t,.str (mk x.2) u]) (e5:x.2.length≤SZ) (e6:Kept own s₀ s') (e7:∀b∈om own own0 m,dom s'.heap b)
  (e8:∀s'',Later (om own own0 m) h₀ s' s''→kap (.send .none) s'')
noncomputable def gY (L:List (Int×List Nat))(own own0:List Addr)(h₀:Heap):Protocol:=fun m s₀ v s' kap=>GY L own own0 h₀ m s₀ v s' kap
noncomputable def gR (own0:List Addr):GenEnd:=fun n s₀ r s₁=>r=.ok (.ret .none)∧(n=0∧Kept own0 s₀ s₁)
theorem Kept.refl (own:List Addr)(s:Shared):Kept own s s:=⟨s.heap,s.toks,rfl,fun _ _ _ e=>e,qA7 _⟩
theorem Kept.step {own:List Addr}{s₀ s:Shared}(k:Kept own s₀ s){h':Heap}{tk:Nat}(hs:∀b o,b∉own→s.heap.get? b=some o→h'.get? b=some o)(ht:s.toks≤tk):Kept own s₀ { s with heap:=h',toks:=tk }:=by
 obtain⟨h1,t1,rfl,k1,l1⟩:=k
 exact⟨h',tk,rfl,fun b o hb e=>hs b o hb (k1 b o hb e),qA9 l1 ht⟩
theorem Kept.kq {own:List Addr}{s₀ s s':Shared}(k:Kept own s₀ s)(q:KQ true s s'):Kept own s₀ s':=by
 obtain⟨h1,t1,g1,rfl,k1,l1,e1,_,_⟩:=q
 rw [e1 rfl]
 exact k.step (fun b o _ e=>k1 b o e) l1
structure GB where
 (x1 x2 x3 x4 g x5 x6 x7:Str)
 (e1 e2 t1 e3 t2 e4 t3:qA2)
 (ys1 ys2 ys3:List qA2)
 (k1 k2 k3 k4:Nat)
 (p1 p2 p3 p4 p5 p6 p7 p8 p9 p10 p11 p12 p13 p14 p15 p16 p17 p18 p19 p20 p21 p22 p23 p24 p25 p26 p27:Pos)
namespace GB
noncomputable def tgt (b:GB):qA2:=.Tuple [.Name b.x3 b.p5,.Name b.x4 b.p6] b.k1 b.p7
noncomputable def yes (b:GB):List Stmt:=[.Expr (.Yield (some (.Tuple b.ys1 b.k2 b.p8)) b.p9) b.p10,.Assign [.Name b.x6 b.p11] b.e3 b.p12]
noncomputable def eli (b:GB):List Stmt:=[.Assign [.Name b.x7 b.p13] b.e4 b.p14]
noncomputable def els (b:GB):List Stmt:=[.Expr (.Yield (some (.Tuple b.ys2 b.k3 b.p15)) b.p16) b.p17]
noncomputable def loop (b:GB):List Stmt:=[.If b.t1 b.yes [.If b.t2 b.eli b.els b.p18] b.p19]
noncomputable def end_ (b:GB):List Stmt:=[.Expr (.Yield (some (.Tuple b.ys3 b.k4 b.p20)) b.p21) b.p22]
noncomputable def last (b:GB):List Stmt:=[.If b.t3 b.end_ [] b.p23]
noncomputable def iter (b:GB):qA2:=.Call (.Name b.g b.p24) [.Name b.x5 b.p25] [] b.p26
noncomputable def body (b:GB):List Stmt:=.Assign [.Name b.x1 b.p1] b.e1 b.p2::.Assign [.Name b.x2 b.p3] b.e2 b.p4::.For b.tgt b.iter b.loop [] b.p27::b.last
end GB
section
noncomputable def eName (e:qA2):Str×Pos:=((exP e).2.2.2.1,(exP e).1)
noncomputable def eTup (e:qA2):List qA2×Nat×Pos:=((exP e).2.2.1,(exP e).2.2.2.2.2.2.1,(exP e).1)
noncomputable def eCall (e:qA2):qA2×List qA2×Pos:=((exP e).2.1,(exP e).2.2.1,(exP e).1)
noncomputable def eYld (e:qA2):Option qA2×Pos:=((exP e).2.2.2.2.1,(exP e).1)
noncomputable def sAsg (s:Stmt):List qA2×qA2×Pos:=((stP s).2.2.1,(stP s).2.1,(stP s).1)
noncomputable def sFor (s:Stmt):qA2×qA2×List Stmt×Pos:=((stP s).2.1,(stP s).2.2.2.1,(stP s).2.2.2.2.1,(stP s).1)
noncomputable def sIf (s:Stmt):qA2×List Stmt×List Stmt×Pos:=((stP s).2.1,(stP s).2.2.2.2.1,(stP s).2.2.2.2.2.1,(stP s).1)
noncomputable def sExp (s:Stmt):qA2×Pos:=((stP s).2.1,(stP s).1)
noncomputable def gNm (l:List qA2)(i:Nat):Str×Pos:=eName (l.getD i gxE)
noncomputable def sYld (s:Stmt):(List qA2×Nat×Pos)×Pos×Pos:=(eTup ((eYld (sExp s).1).1.getD gxE),(eYld (sExp s).1).2,(sExp s).2)
noncomputable def genOf (l:List Stmt):GB:=
 let a1:=sAsg (l.getD 0 gs)
 let a2:=sAsg (l.getD 1 gs)
 let f:=sFor (l.getD 2 gs)
 let tg:=eTup f.1
 let c:=eCall f.2.1
 let i1:=sIf (f.2.2.1.getD 0 gs)
 let y1:=sYld (i1.2.1.getD 0 gs)
 let a3:=sAsg (i1.2.1.getD 1 gs)
 let i2:=sIf (i1.2.2.1.getD 0 gs)
 let a4:=sAsg (i2.2.1.getD 0 gs)
 let y2:=sYld (i2.2.2.1.getD 0 gs)
 let i3:=sIf (l.getD 3 gs)
 let y3:=sYld (i3.2.1.getD 0 gs)
 ⟨(gNm a1.1 0).1,(gNm a2.1 0).1,(gNm tg.1 0).1,(gNm tg.1 1).1,(eName c.1).1,(gNm c.2.1 0).1,(gNm a3.1 0).1,(gNm a4.1 0).1,
  a1.2.1,a2.2.1,i1.1,a3.2.1,i2.1,a4.2.1,i3.1,y1.1.1,y2.1.1,y3.1.1,tg.2.1,y1.1.2.1,y2.1.2.1,y3.1.2.1,
  (gNm a1.1 0).2,a1.2.2,(gNm a2.1 0).2,a2.2.2,(gNm tg.1 0).2,(gNm tg.1 1).2,tg.2.2,
  y1.1.2.2,y1.2.1,y1.2.2,(gNm a3.1 0).2,a3.2.2,(gNm a4.1 0).2,a4.2.2,y2.1.2.2,y2.2.1,y2.2.2,i2.2.2.2,i1.2.2.2,
  y3.1.2.2,y3.2.1,y3.2.2,i3.2.2.2,(eName c.1).2,(gNm c.2.1 0).2,c.2.2,f.2.2.2⟩
end

section
variable {prog:Program}{w:World}{A:Around}{c:Nm}{env:Env}{nm:List Str}{kd:Kinds}{h₀:Heap}{ρ:Env'}{s₀ s:Shared}{R:GenEnd}{n:Nat}{cd:Code}{fs:List Frame}
 {K:Flow→Sem PySem.Fin} {H:Value→Sem PySem.Fin} {gd:Bool→Bool} {lv:List Value→List Value} {own own0:List Addr} {L:List (Int×List Nat)}
theorem fns0:FnsOk prog w c Φ0 0:=fun q f args d h=>by cases h
structure GB.Ok (prog:Program)(w:World)(c:Nm)(nm:List Str)(kd:Kinds)(b:GB):Prop where
 o1:isVar nm kd 1 b.x1=true
 o2:∃k p,b.e1=.Constant (.int 0) k p
 o3:isVar nm kd 2 b.x2=true
 o4:∃k p,b.e2=.Constant (.bool false) k p
 o5:isVar nm kd 1 b.x3=true
 o6:isVar nm kd 3 b.x4=true
 o7:isGlob kd b.g "enumerate" = true
 o8:isVar nm kd 0 b.x5=true
 o9:GT prog w c Φ0 0 nm kd (.val (.var 2)) b.t1
 o10:GL prog w c Φ0 0 nm kd (.cons (.var 1) (.cons (.bin .add (.str [92]) (.var 3)) .nil)) b.ys1
 o11:isVar nm kd 2 b.x6=true
 o12:∃k p,b.e3=.Constant (.bool false) k p
 o13:GT prog w c Φ0 0 nm kd (.cmp .eq (.var 3) (.str [92])) b.t2
 o14:isVar nm kd 2 b.x7=true
 o15:∃k p,b.e4=.Constant (.bool true) k p
 o16:GL prog w c Φ0 0 nm kd (.cons (.var 1) (.cons (.var 3) .nil)) b.ys2
 o17:GT prog w c Φ0 0 nm kd (.val (.var 2)) b.t3
 o18:GL prog w c Φ0 0 nm kd (.cons (.var 1) (.cons (.str [92]) .nil)) b.ys3
theorem seg_set {Y:Protocol}(G:GI c env nm kd h₀ ρ s){i:Nat}{x:Str}{px pos:Pos}{pe:PE}{e:qA2}{d:D}(hx:nm[i]?=some x)(he:GE prog w c Φ0 0 nm kd pe e)(hev:evE Φ0 true ρ pe=some (Rs.flat d))(hf:d.flat=true)(hi:i<ρ.length)(hnc:notComp e=true)
  (hA:AOk 0 (A.over cd fs)) (h:∀s',GI c env nm kd h₀ (ρ.set i (some (d,.val Tg.z))) s'→(∀b o,b≠env.locals→s.heap.get? b=some o→s'.heap.get? b=some o)→(∃h' tk,s'={ s with heap:=h',toks:=tk })→s.toks≤s'.toks→Seg (model prog w) A R Y n s₀ cd (K .next) fs s') :
  Seg (model prog w) A R Y n s₀ cd ((exec (.Assign [.Name x px] e pos) env).wrap K H gd lv) fs s:=by
 refine seg_stmt (wpAny_Assign_Name (wpAny_mono (he hev G.toE hA fun v s1 k1 r1 _=>?_) (fun _ _ z=>z) fun _ _ z=>z.elim) (swaps_none hnc))
 have r1':Rd s1.heap s1.toks No No d v:=Rd.flat_any hf r1
 refine (G.kq k1).store hx hi hf r1' fun s2 G2 f2 t2 g2 ⟨h',tk,e2,_⟩=>?_
 obtain⟨ha,ta,ga,rfl,ka,la,ea,_,_⟩:=k1
 have:=ea rfl
 subst this
 exact h s2 G2 (fun b o hb e=>f2 b o hb (ka b o e)) ⟨h',tk,e2⟩ (qA9 la t2)
theorem seg_give (G:GI c env nm kd h₀ ρ s)(kp:Kept own s₀ s){ys:List qA2}{pl:PL}{r1 r2:Rs}{x:Int×List Nat}{k:Nat}{p p' p'':Pos}(hyl:GL prog w c Φ0 0 nm kd pl ys)(hev:evL Φ0 true ρ pl=some [r1,r2])(hr1:r1.d=.int x.1)(hr2:r2.d=.str x.2)
  (hL:L[L.length-1-n]?=some x) (hn:n<L.length) (hown:env.locals∈om own own0 n) (hdom:∀b∈om own own0 n,dom s.heap b) (hfs:splitAtGen fs=none) (hgd:gd false=false) (hfg:fs.any Frame.guarded=false) (hco:env.scope.isCoroutine=false) (hi:interactive env=false) (hA:AOk 0 (A.over cd fs))
  (h:∀s'',GI c env nm kd h₀ ρ s''→(∀b∈om own own0 n,∀o,s.heap.get? b=some o→s''.heap.get? b=some o)→Seg (model prog w) A (gR own0) (gY L own own0 h₀) n s'' cd (K .next) fs s'') :
  Seg (model prog w) A (gR own0) (gY L own own0 h₀) (n+1) s₀ cd ((exec (.Expr (.Yield (some (.Tuple ys k p)) p') p'') env).wrap K H gd lv) fs s:=by
 refine seg_Expr_Yield hfs hgd hfg ?_ hco hi
 refine wpAny_mono (wpAny_Tuple (wpAny_mono (hyl.run hev G.toE hA fun vs s1 k1 ra=>(?_:vs.length≤sizeLine∧_)) (fun _ _ z=>z) fun _ _ z=>z.elim)) (fun _ _ z=>z) fun _ _ z=>z
 obtain⟨v1,us1,rfl,ra1,ra⟩:=ra
 obtain⟨v2,us2,rfl,ra2,rfl⟩:=ra
 unfold RdT at ra1 ra2
 rw [hr1] at ra1
 rw [hr2,Rd] at ra2
 obtain⟨t,rfl⟩:=int_of ra1
 obtain⟨hsz,u,rfl⟩:=ra2
 refine⟨by simp [sizeLine],fun kap hk=>?_⟩
 refine⟨x,_,t,u,hn,hL,rfl,⟨_,qB9 _ rfl,rfl,_,rfl⟩,hsz,(kp.kq k1).step (fun b o _ e=>qAp _ e) (qA7 _),fun b hb=>?_,fun s'' hl=>hk .none s'' ?_⟩
 ·obtain⟨o,e⟩:=qAs.mp (hdom b hb)
  have:=qAp { cls:=.type "tuple", data:=.seq [qEj x.1 t,Value.str (mk x.2) u].toArray } (k1.keep b o e)
  unfold dom
  show ((s1.heap.push _).get? b).isSome=true
  rw [this];rfl
 ·obtain⟨l1,l2,l3⟩:=hl
  refine h s'' ((G.kq k1).next (fun o e=>l1 _ hown _ (qAp _ e)) l2 l3) fun b hb o e=>l1 b hb o (qAp _ (k1.keep b o e))
end
end Mine
end

section
set_option maxRecDepth 10000
namespace Mine
open PySem PyProof.Rows PySem.SeqAt
section
variable {prog:Program}{w:World}{A:Around}{c:Nm}{env:Env}{nm:List Str}{kd:Kinds}{h₀:Heap}{fs:List Frame}{own:List Addr}
noncomputable def EnSt (e it:Addr)(l:List Nat)(u:Tok)(i:Nat)(h:Heap):Prop:=(∃old,IsEnum h e it i old)∧h.IsStrIter it (strIterType (mk l)) (mk l) u i
theorem EnSt.keep {e it:Addr}{l:List Nat}{u:Tok}{i:Nat}{h h':Heap}(x:EnSt e it l u i h)(hk:∀b o,(b=e∨b=it)→h.get? b=some o→h'.get? b=some o):EnSt e it l u i h':=by
 obtain⟨⟨old,h1⟩,h2⟩:=x
 refine⟨⟨old,hk _ _ (.inl rfl) h1⟩,?_⟩
 obtain⟨o,ho,hr⟩:=h2
 exact⟨o,hk _ _ (.inr rfl) ho,hr⟩
theorem EnSt.dom {e it:Addr}{l:List Nat}{u:Tok}{i:Nat}{h:Heap}(x:EnSt e it l u i h):Mine.dom h e∧Mine.dom h it:=by
 obtain⟨⟨old,h1⟩,o,ho,hr⟩:=x
 exact⟨by unfold Mine.dom;rw [h1];rfl,by unfold Mine.dom;rw [ho];rfl⟩
theorem evL_yes (l:List Nat)(p:Int)(b:Bool)(x:Nat):evL Φ0 true (gρ l p b (some (.str [x],.val Tg.z))) (.cons (.var 1) (.cons (.bin .add (.str [92]) (.var 3)) .nil))=some [Rs.flat (.int p),Rs.new (.str [92,x]) Tg.z]:=by
 have e:evL Φ0 true (gρ l p b (some (.str [x],.val Tg.z))) (.cons (.var 1) (.cons (.bin .add (.str [92]) (.var 3)) .nil))=((if 1+1≤SZ then some (D.str [92,x]) else none).bind fun d=>some [Rs.flat (.int p),Rs.new d Tg.z]):=by kernel_rfl
 rw [e,if_pos (by decide)];rfl
theorem evL_els (l:List Nat)(p:Int)(b:Bool)(x:Nat):evL Φ0 true (gρ l p b (some (.str [x],.val Tg.z))) (.cons (.var 1) (.cons (.var 3) .nil))=some [Rs.flat (.int p),Rs.flat (.str [x])]:=by
 rfl
theorem evL_end (l:List Nat)(p:Int)(b:Bool)(ch:Slot):evL Φ0 true (gρ l p b ch) (.cons (.var 1) (.cons (.str [92]) .nil))=some [Rs.flat (.int p),Rs.flat (.str [92])]:=by
 rfl
theorem evT_esc (l:List Nat)(p:Int)(b:Bool)(ch:Slot):evT Φ0 true (gρ l p b ch) (.val (.var 2))=some b:=by
 rfl
theorem evT_bs (l:List Nat)(p:Int)(b:Bool)(x:Nat):evT Φ0 true (gρ l p b (some (.str [x],.val Tg.z))) (.cmp .eq (.var 3) (.str [92]))=some (decide (x=92)):=by
 have e:evT Φ0 true (gρ l p b (some (.str [x],.val Tg.z))) (.cmp .eq (.var 3) (.str [92]))=some (decide ([x]=[92])):=by kernel_rfl
 rw [e]
 exact congrArg some (decide_eq_decide.mpr ⟨fun h=>qCb h,fun h=>by rw [h]⟩)
noncomputable def escEnd:Bool→List Nat→Bool
 |b,[]=>b
 |true,_::r=>escEnd false r
 |false,c::r=>escEnd (decide (c=92)) r
theorem escEnd_false:∀(i:Nat) (b:Bool) (r:List Nat),escG i b r=[]→escEnd b r=false
 |i,b,[],h=>by
  cases b with
  |true=>cases h
  |false=>rfl
 |i,true,c::r,h=>by cases h
 |i,false,c::r,h=>by
  unfold escEnd
  unfold escG at h
  split at h
  ·rename_i hc
   rw [decide_eq_true hc]
   exact escEnd_false (i+1) true r h
  ·cases h
theorem Kept.to {s₀ s s':Shared}(k:Kept own s₀ s)(e:∃h tk,s'={ s with heap:=h,toks:=tk })(hs:∀b o,b∉own→s.heap.get? b=some o→s'.heap.get? b=some o)(ht:s.toks≤s'.toks):Kept own s₀ s':=by
 obtain⟨h,t,rfl⟩:=e;exact k.step hs ht
theorem gen_loop {b:GB}(hok:b.Ok prog w c nm kd){e it:Addr}{l:List Nat}{u:Tok}{own0:List Addr}(hown:own=[env.locals,e,it])(hown0:own0=if escEnd false l then [env.locals] else own)
  (hLe:env.locals≠e) (hLi:env.locals≠it) (hei:e≠it) (hne:h₀.get? e=none) (hni:h₀.get? it=none)
  (hfs:splitAtGen fs=none) (hfg:fs.any Frame.guarded=false) (hco:env.scope.isCoroutine=false) (hin:interactive env=false)
  (hA:AOk 0 (A.over (.forLoop b.tgt (.ref e) b.loop [] env) fs))
  (hend:∀(s₀ s:Shared) (p:Int) (bb:Bool) (ch:Slot),(bb=true→p=(l.length:Int)-1)→bb=escEnd false l→(∃pre,escL l=pre++escG l.length bb [])→GI c env nm kd h₀ (gρ l p bb ch) s→Kept own s₀ s→
   Seg (model prog w) A (gR own0) (gY (escL l) own own0 h₀) (escG l.length bb []).length s₀ (.block [] env) ((model prog w).den (.block [] env)) fs s) :
  ∀(r:List Nat) (i:Nat) (bb:Bool) (p:Int) (ch:Slot) (s₀ s:Shared),l.drop i=r→i≤l.length→(bb=true→p=(i:Int)-1)→escEnd bb r=escEnd false l→(∃pre,escL l=pre++escG i bb r)→GI c env nm kd h₀ (gρ l p bb ch) s→
   EnSt e it l u i s.heap→Kept own s₀ s→
   Seg (model prog w) A (gR own0) (gY (escL l) own own0 h₀) (escG i bb r).length s₀ (.forLoop b.tgt (.ref e) b.loop [] env) ((model prog w).den (.forLoop b.tgt (.ref e) b.loop [] env)) fs s:=by
 have hsize:(mk l).cps.size=l.length:=by simp [mk]
 have W:WalksT prog w (A.over (.forLoop b.tgt (.ref e) b.loop [] env) fs) e [e,it] [e,it] (mk l).cps.size (fun i vals=>∃t x,(∃c u,(mk l).cps[i]?=some c∧x=.str ⟨#[c]⟩ u)∧vals=#[.int i t,x])
   (fun i h=>EnSt e it l u i h) (fun i T h=>(∃x,IsEnumOut h e it ((i:Int)+1) x T)∧h.IsStrIter it (strIterType (mk l)) (mk l) u (i+1)∧T≠e∧T≠it):=
  WalksT.enumerateD (Draws.strAny (A:=(A.over (.forLoop b.tgt (.ref e) b.loop [] env) fs).in1) hA.hd it (mk l) u) e hei (by simpa using hei) (by simp)
 have hL:env.locals∉[e,it]:=by simp [hLe,hLi]
 have h0k:∀b o,h₀.get? b=some o→b∉[e,it]:=fun b o x hm=>by
  rcases qA6.mp hm with hm|hm
  ·rw [hm,hne] at x;cases x
  ·rw [qAi.mp hm,hni] at x;cases x
 have hwo:∀b,b∉own→b∉[e,it]:=fun b hb hm=>hb (by rw [hown];exact qA3 _ hm)
 have hLo:∀b,b∉own→b≠env.locals:=fun b hb hm=>hb (by rw [hown,hm];exact qA5 ..)
 obtain⟨_,_,_,_,o5,o6,_,_,o9,o10,o11,⟨k3,q3,he3⟩,o13,o14,⟨k4,q4,he4⟩,o16,_,_⟩:=hok
 have hEI:∀b,(b=e∨b=it)→b≠env.locals:=fun b hb h=>hb.elim (fun q=>hLe (h.symm.trans q)) fun q=>hLi (h.symm.trans q)
 have domOwn:∀{ρ:Env'} {s:Shared} {i:Nat},GI c env nm kd h₀ ρ s→EnSt e it l u i s.heap→∀b∈own,Mine.dom s.heap b:=fun G st b hb=>by
  rw [hown] at hb
  simp only [qA6,qB0,or_false] at hb
  rcases hb with hb|hb|hb<;>rw [hb]
  ·obtain⟨m,o,es,n,ho,_⟩:=G.ns
   unfold Mine.dom;rw [ho];rfl
  ·exact st.dom.1
  ·exact st.dom.2
 have memL:env.locals∈own:=by rw [hown];exact qA5 ..
 have memE:∀b,(b=e∨b=it)→b∈own:=fun b hb=>by rw [hown];rcases hb with h|h<;>rw [h]<;>simp
 clear hown hne hni hLe hLi hei
 intro r
 induction r with
 |nil=>
  intro i bb p ch s₀ s hd hi hp hend' hpre G st kp
  have hil:i=l.length:=by
   have:=congrArg qB8 hd
   rw [qAn] at this
   simp at this;lia
  subst hil
  refine seg_forLoop (wpAny_with_toks (n:=s.toks) (qA7 _) (W.done s _ _ (by rw [hsize];exact st) fun h' tk hkp htk=>?_))
  have htk:s.toks≤tk:=htk
  exact hend _ _ p bb ch hp (by simpa [escEnd] using hend') hpre (G.next (fun o x=>hkp _ _ hL x) (fun b o x=>hkp b o (h0k b o x) (G.keep b o x)) htk) (kp.step (fun b o hb x=>hkp b o (hwo b hb) x) htk)
 |cons c' r ih=>
  intro i bb p ch s₀ s hd hi hp hend' hpre G st kp
  have hlt:i<l.length:=by
   have:=congrArg qB8 hd
   rw [qAn] at this
   simp at this;exact jL [_,_,_,_] [cR xa (eU xb),cQ (eA xa xc) xd] (cT xc xd) jT this (qAg hi)
  have hci:l[i]?=some c':=by
   have:(l.drop i)[0]?=some c':=by rw [hd];rfl
   simpa using this
  have hdr:l.drop (i+1)=r:=by
   rw [←qG0,hd];rfl
  refine seg_forLoop (wpAny_with_toks (n:=s.toks) (qA7 _) (W.item i s _ _ (by rw [hsize];exact hlt) st fun T vals h1 tk1 hPt hTs hTup hMid hkp1 htk1=>?_))
  have htk1:s.toks≤tk1:=htk1
  refine hid fun H hH=>?_
  obtain⟨t,x,⟨c1,u1,hc1,rfl⟩,rfl⟩:=hPt
  obtain rfl:c'=c1:=by
   have h2:l[i]?=some c1:=by simpa [mk] using hc1
   rw [hci] at h2;exact qA8 h2
  clear hc1 hci hd
  refine hH ?_
  have hTw:=W.apart i T _ hMid
  show wpAny _ _ (letOwnedTupleGo b.tgt (.ref e) (.ref T)) _ _ _
  refine W.go _ _ _ i T _ _ _ hMid fun h2 hst2 hkp2=>?_
  have hTup2:h2.IsTuple T #[.int i t,.str ⟨#[c']⟩ u1]:=by
   obtain⟨o,ho,hr⟩:=hTup
   exact⟨o,hkp2 _ _ hTw ho,hr⟩
  show wpAny _ _ (assign (.Tuple [.Name b.x3 b.p5,.Name b.x4 b.p6] b.k1 b.p7) env (.ref T)) _ _ _
  refine wpAny_assign_Tuple hA.hd hTup2 rfl rfl fun h3 hx3=>?_
  have hkp3:∀b o,b∉[e,it]→s.heap.get? b=some o→h3.get? b=some o:=fun b o hb x=>by
   have x2:=hkp2 b o hb (hkp1 b o hb x)
   exact hx3 b o (qBg (qCg x2)) x2
  have G3:GI c env nm kd h₀ (gρ l p bb ch) { s with heap:=h3,toks:=tk1 }:=G.next (fun o x=>hkp3 _ _ hL x) (fun b o x=>hkp3 b o (h0k b o x) (G.keep b o x)) htk1
  have st3:EnSt e it l u (i+1) h3:=EnSt.keep hst2 fun b o _ x=>hx3 b o (qBg (qCg x)) x
  have kp3:Kept own s₀ { s with heap:=h3,toks:=tk1 }:=kp.step (fun b o hb x=>hkp3 b o (hwo b hb) x) htk1
  show wpAny _ _ (holding [.str ⟨#[c']⟩ u1] (assign (.Name b.x3 b.p5) env (.int i t)) >>= fun _=>assignInOrder [assign (.Name b.x4 b.p6) env] [.str ⟨#[c']⟩ u1]) _ _ _
  refine wpAny_bind (wpAny_holding (wpAny_assign_Name (G3.store (d:=.int i) (isVar_of o5).1 (by simp [gρ]) rfl (by rw [Rd];exact⟨_,rfl⟩) fun s4 G4 f4 t4 g4 ⟨h4,tk4,e4,_⟩=>?_)))
  show wpAny _ _ (holding [] (assign (.Name b.x4 b.p6) env (.str ⟨#[c']⟩ u1)) >>= fun _=>assignInOrder [] []) _ _ _
  refine wpAny_bind (wpAny_holding (wpAny_assign_Name (G4.store (d:=.str [c']) (isVar_of o6).1 (by simp [gρ]) rfl (by rw [Rd];exact⟨by unfold SZ;simp,_,rfl⟩) fun s5 G5 f5 t5 g5 ⟨h5,tk5,e5,_⟩=>?_)))
  refine wpAny_pure ?_
  have G5:GI c env nm kd h₀ (gρ l i bb (some (.str [c'],.val Tg.z))) s5:=G5
  have st4:EnSt e it l u (i+1) s4.heap:=EnSt.keep st3 fun b o hb x=>f4 b o (hEI b hb) x
  have st5:EnSt e it l u (i+1) s5.heap:=EnSt.keep st4 fun b o hb x=>f5 b o (hEI b hb) x
  have kp5:Kept own s₀ s5:=(kp3.to ⟨_,_,e4⟩ (fun b o hb x=>f4 b o (hLo b hb) x) t4).to ⟨_,_,e5⟩ (fun b o hb x=>f5 b o (hLo b hb) x) t5
  clear hp G kp kp3 f4 f5 t4 t5 e4 e5 g4 g5 G4 G3 st3 st4
  have again:∀(bb':Bool) (s₀ s':Shared),(bb'=true→(i:Int)=((i+1:Nat):Int)-1)→escEnd bb' r=escEnd false l→(∃pre,escL l=pre++escG (i+1) bb' r)→GI c env nm kd h₀ (gρ l i bb' (some (.str [c'],.val Tg.z))) s'→EnSt e it l u (i+1) s'.heap→Kept own s₀ s'→
    Seg (model prog w) A (gR own0) (gY (escL l) own own0 h₀) (escG (i+1) bb' r).length s₀ (.forLoop b.tgt (.ref e) b.loop [] env) (.pure (.again (.forLoop b.tgt (.ref e) b.loop [] env))) fs s':=
   fun bb' s₀ s' h1 h2 h3 h4 h5 h6=>seg_again rfl (ih (i+1) bb' i _ s₀ s' hdr (by exact hlt) h1 h2 h3 h4 h5 h6)
  have omOwn:escEnd false r=escEnd false l→om own own0 (escG (i+1) false r).length=own:=fun h=>by
   cases hn:(escG (i+1) false r).length with
   |succ n=>rfl
   |zero=>
    show own0=own
    rw [hown0,←h,escEnd_false (i+1) false r (qCy.mp hn)]
    rfl
  refine seg_execs_cons (st:=.If b.t1 b.yes [.If b.t2 b.eli b.els b.p18] b.p19) (seg_If (wpAny_mono (o9 (evT_esc l i bb _) (q:=true) G5.toE hA (Q:=fun b' s'=>if b'=true then _ else _) fun s6 k6=>?_) (fun _ _ z=>z) fun _ _ z=>z.elim))
  have G6:=G5.kq k6
  have st6:EnSt e it l u (i+1) s6.heap:=st5.keep fun b o _ x=>k6.keep b o x
  have kp6:=kp5.kq k6
  clear G5 st5 kp5
  rcases bb with _|_
  rotate_left
  ·rw [if_pos rfl]
   have he2:escEnd false r=escEnd false l:=hend'
   obtain⟨pre,hpre⟩:=hpre
   have hpre:escL l=pre++((i:Int),[92,c'])::escG (i+1) false r:=hpre
   have hom:=omOwn he2
   refine seg_execs_cons (seg_give (n:=(escG (i+1) false r).length) G6 kp6 o10 (evL_yes l i true c') rfl rfl (x:=((i:Int),[92,c'])) ?_ ?_ (by rw [hom];exact memL) (by rw [hom];exact domOwn G6 st6) hfs rfl hfg hco hin hA fun s7 G7 f7=>?_)
   ·rw [hpre];simp
   ·rw [hpre];simp;exact qDn (qBv (qBb (qB8 (escG (i+1) false r))) (qB8 pre))
   ·rw [hom] at f7
    have st7:EnSt e it l u (i+1) s7.heap:=st6.keep fun b o hb x=>f7 b (memE b hb) o x
    refine seg_execs_cons (seg_set (pe:=.bool false) G7 (isVar_of o11).1 (by rw [he3];exact ge_bool) (d:=.bool false) rfl rfl (by simp [gρ]) (by rw [he3];rfl) hA fun s8 G8 f8 e8 t8=>?_)
    have st8:EnSt e it l u (i+1) s8.heap:=st7.keep fun b o hb x=>f8 b o (hEI b hb) x
    refine again false s7 s8 (fun z=>by cases z) he2 ⟨pre++[((i:Int),[92,c'])],by rw [hpre];simp⟩ G8 st8 ?_
    exact (Kept.refl own s7).to e8 (fun b o hb x=>f8 b o (hLo b hb) x) t8
  ·rw [if_neg qAr]
   refine seg_execs_cons (seg_If (wpAny_mono (o13 (evT_bs l i false c') (q:=true) G6.toE hA (Q:=fun b' s'=>if b'=true then _ else _) fun s7 k7=>?_) (fun _ _ z=>z) fun _ _ z=>z.elim))
   have G7:=G6.kq k7
   have st7:EnSt e it l u (i+1) s7.heap:=st6.keep fun b o _ x=>k7.keep b o x
   have kp7:=kp6.kq k7
   by_cases h92:c'=92
   ·rw [if_pos (by simpa using h92)]
    have he2:escEnd true r=escEnd false l:=by simpa [escEnd,h92] using hend'
    have hg:escG i false (c'::r)=escG (i+1) true r:=by simp [escG,h92]
    rw [hg] at hpre⊢
    refine seg_execs_cons (seg_set (pe:=.bool true) G7 (isVar_of o14).1 (by rw [he4];exact ge_bool) (d:=.bool true) rfl rfl (by simp [gρ]) (by rw [he4];rfl) hA fun s8 G8 f8 e8 t8=>?_)
    have st8:EnSt e it l u (i+1) s8.heap:=st7.keep fun b o hb x=>f8 b o (hEI b hb) x
    refine again true s₀ s8 (fun _=>by lia) he2 hpre G8 st8 ?_
    exact kp7.to e8 (fun b o hb x=>f8 b o (hLo b hb) x) t8
   ·rw [if_neg (by simpa using h92)]
    have he2:escEnd false r=escEnd false l:=by simpa [escEnd,h92] using hend'
    have hg:escG i false (c'::r)=((i:Int),[c'])::escG (i+1) false r:=by simp [escG,h92]
    obtain⟨pre,hpre⟩:=hpre
    rw [hg] at hpre⊢
    have hom:=omOwn he2
    refine seg_execs_cons (seg_give (n:=(escG (i+1) false r).length) G7 kp7 o16 (evL_els l i false c') rfl rfl (x:=((i:Int),[c'])) ?_ ?_ (by rw [hom];exact memL) (by rw [hom];exact domOwn G7 st7) hfs rfl hfg hco hin hA fun s8 G8 f8=>?_)
    ·rw [hpre];simp
    ·rw [hpre];simp;exact qDn (qBv (qBb (qB8 (escG (i+1) false r))) (qB8 pre))
    ·rw [hom] at f8
     have st8:EnSt e it l u (i+1) s8.heap:=st7.keep fun b o hb x=>f8 b (memE b hb) o x
     exact again false s8 s8 (fun z=>by cases z) he2 ⟨pre++[((i:Int),[c'])],by rw [hpre];simp⟩ G8 st8 (Kept.refl own s8)
end
section
variable {prog:Program}{w:World}{A:Around}{c:Nm}{env:Env}{nm:List Str}{kd:Kinds}{h₀:Heap}
theorem aok_over {cd:Code}{fs:List Frame}(h:AOk 1 A)(h1:(marksOver fs (A.handled,A.handled)).1=A.handled)(h2:frameCount (fs.map qDp)+cd.weight≤4)(h3:unitsOf (fs.map qDp)+cd.cUnits≤100):AOk 0 (A.over cd fs):=
 ⟨h1.trans h.hd,by show A.depth+frameCount (fs.map qDp)+cd.weight+4*0+4≤_;have:=h.depth;exact jL [_,_,_,_] [cL (eA xa xb) (eN 4),cL (eA (eA xc (eM 4 (eN 1))) (eN 4)) xd] (cL (eA (eA (eA (eA xc xa) xb) (eM 4 (eN 0))) (eN 4)) xd) jT h2 this,
  by show A.units+unitsOf (fs.map qDp)+cd.cUnits+100*0+100≤_;have:=h.units;exact jL [_,_,_,_] [cL (eA xa xb) (eN 100),cL (eA (eA xc (eM 100 (eN 1))) (eN 100)) xd] (cL (eA (eA (eA (eA xc xa) xb) (eM 100 (eN 0))) (eN 100)) xd) jT h3 this⟩
theorem gen_run (hen:c.mg "enumerate" = none∧c.mb "enumerate" = some (.type "enumerate")){b:GB}(hok:b.Ok prog w c nm kd){l:List Nat}{s:Shared}{own own0:List Addr}
  (G:GI c env nm kd h₀ [some (.str l,.val Tg.z),none,none,none] s) (hown:own=[env.locals,s.heap.objs.size+1,s.heap.objs.size]) (hown0:own0=if escEnd false l then [env.locals] else own)
  (hco:env.scope.isCoroutine=false) (hin:interactive env=false) (hA:AOk 1 A) :
  Seg (model prog w) A (gR own0) (gY (escL l) own own0 h₀) (escL l).length s (.func b.body env) ((model prog w).den (.func b.body env)) [] s:=by
 refine hid fun H hH=>?_
 obtain⟨o1,⟨k1,q1,he1⟩,o3,⟨k2,q2,he2⟩,o5,o6,o7,o8,o9,o10,o11,o12,o13,o14,o15,o16,o17,o18⟩:=id hok
 have hA0:AOk 0 (A.over (.func b.body env) []):=aok_over hA rfl (by show 0+1≤4;decide) (by show 0+3≤100;decide)
 have free:∀n,s.heap.objs.size≤n→h₀.get? n=none:=fun n hn=>by
  cases e:h₀.get? n with
  |none=>rfl
  |some o=>exact absurd (qCg (G.keep n o e)) (qCj.mpr hn)
 have hlt:env.locals<s.heap.objs.size:=by obtain⟨m,o,es,n,ho,_⟩:=G.ns;exact qCg ho
 have kp0:Kept own s s:=Kept.refl own s
 have hLo:∀b,b∉own→b≠env.locals:=fun b hb hm=>hb (by rw [hown,hm];exact qA5 ..)
 refine hH (seg_func ?_)
 clear hH
 refine seg_execs_cons (st:=.Assign [.Name b.x1 b.p1] b.e1 b.p2) (seg_stmt (wpAny_Assign_Name ?_ (swaps_none (by rw [he1];rfl))))
 rw [he1]
 refine wpAny_Constant_int ((G.kq (q:=true) (KQ.tok (qAj _))).store (d:=.int 0) (isVar_of o1).1 (by simp) rfl (by rw [Rd];exact⟨_,rfl⟩) fun s1 G1 f1 t1 g1 ⟨h1,tk1,e1,z1⟩=>?_)
 refine seg_execs_cons (st:=.Assign [.Name b.x2 b.p3] b.e2 b.p4) (seg_stmt (wpAny_Assign_Name ?_ (swaps_none (by rw [he2];rfl))))
 rw [he2]
 refine wpAny_Constant_bool (G1.store (d:=.bool false) (isVar_of o3).1 (by simp) rfl (by rw [Rd]) fun s2 G2 f2 t2 g2 ⟨h2,tk2,e2,z2⟩=>?_)
 have G2:GI c env nm kd h₀ (gρ l 0 false none) s2:=G2
 have kp2:Kept own s s2:=(kp0.to ⟨h1,tk1,e1⟩ (fun b o hb x=>f1 b o (hLo b hb) x) (qA9 (qAj _) t1)).to ⟨h2,tk2,e2⟩ (fun b o hb x=>f2 b o (hLo b hb) x) t2
 have sz2:s2.heap.objs.size=s.heap.objs.size:=by rw [e2];exact z2.trans (by rw [e1];exact z1)
 clear e1 e2
 refine seg_execs_cons (st:=.For b.tgt b.iter b.loop [] b.p27) (seg_For ?_ (fun x=>by rfl))
 clear G1 f1 t1 g1 z1 f2 t2 g2 z2 kp0
 show wpAny _ _ (eval (.Call (.Name b.g b.p24) [.Name b.x5 b.p25] [] b.p26) env) _ _ _
 refine hid fun H hH=>?_
 obtain⟨g1',g2',g3'⟩:=isGlob_of o7
 obtain⟨v1,v2,v3⟩:=isVar_of o8
 obtain⟨_,m,v,hm,hv,hr⟩:=G2.vars 0 _ _ _ rfl v1
 rw [Rd] at hr
 obtain⟨hsz,u,rfl⟩:=hr
 refine hH (Call_ (ld_blt G2.ok (G2.st0.keeps G2.keep) g2' g3' (by rw [g1'];exact hen.1) (by rw [g1'];exact hen.2) ?_))
 refine callWith_type1 (args_cons (ld_var G2.ok v3 (.inl ⟨G2.loc _ (qDg.mpr ⟨0,v1⟩),m,hm,hv⟩) ?_))
 refine args_nil ?_
 refine call_enumerate_str fun h3 hEn hIt hs3 hk3=>?_
 refine wpAny_pyIter_enum hEn fun p=>?_
 have hne:h₀.get? (s2.heap.objs.size+1)=none:=free _ (by rw [sz2];exact qAj _)
 have hni:h₀.get? s2.heap.objs.size=none:=free _ (by rw [sz2];exact qA7 _)
 have G3:GI c env nm kd h₀ (gρ l 0 false none) { s2 with heap:=h3 }:=G2.next (fun o e=>hk3 _ _ e) (fun b o e=>hk3 b o (G2.keep b o e)) (qA7 _)
 have kp3:Kept own s { s2 with heap:=h3 }:=by
  have:=kp2.step (h':=h3) (tk:=s2.toks) (fun b o _ e=>hk3 b o e) (qA7 _)
  exact this
 refine gen_loop (own:=own) (own0:=own0) (e:=s2.heap.objs.size+1) (it:=s2.heap.objs.size) (l:=l) (u:=u) hok (by rw [sz2];exact hown) hown0 (qBg (by rw [sz2];exact qD3 hlt)) (qBg (by rw [sz2];exact hlt)) (Nat.succ_ne_self _) hne hni rfl rfl hco hin (aok_over hA rfl ?_ ?_) ?_ l 0 false 0 none s _ rfl (qBr _) (fun z=>by cases z) rfl ⟨[],rfl⟩ G3 ⟨⟨_,hEn⟩,hIt⟩ kp3
 ·show 1+0+0≤4
  decide
 ·show 3+0+0≤100
  decide
 ·intro s₀ s' p' bb ch hp hbb hpre G' kp'
  show Seg _ _ _ _ _ _ _ (leafOf (.ok .next)) _ _
  refine seg_leaf (.ok .next) ?_
  show Seg _ _ _ _ _ _ _ ((execs b.last env).wrap _ _ id id) [] s'
  refine seg_execs_cons (st:=.If b.t3 b.end_ [] b.p23) (seg_If (wpAny_mono (o17 (evT_esc l p' bb _) (q:=true) G'.toE hA0 (Q:=fun b' s'=>if b'=true then _ else _) fun s6 k6=>?_) (fun _ _ z=>z) fun _ _ z=>z.elim))
  have G6:=G'.kq k6
  have kp6:=kp'.kq k6
  clear G' kp'
  rcases bb with _|_
  rotate_left
  ·rw [if_pos rfl]
   have ho0:own0=[env.locals]:=by rw [hown0,←hbb];rfl
   obtain⟨pre,hpre⟩:=hpre
   have hp:=hp rfl
   subst hp
   refine seg_execs_cons (seg_give (n:=0) G6 kp6 o18 (evL_end l _ true ch) rfl rfl (x:=((l.length:Int)-1,[92])) ?_ ?_ (by show _∈own0;rw [ho0];exact qA5 ..) ?_ rfl rfl rfl hco hin hA0 fun s7 G7 f7=>?_)
   ·rw [hpre];simp [escG]
   ·rw [hpre];simp [escG]
   ·intro b hb
    have hb:b∈own0:=hb
    rw [ho0,qAi] at hb
    obtain⟨m,o,es,n,ho,_⟩:=G6.ns
    unfold Mine.dom;rw [hb,ho];rfl
   ·exact seg_end (.ok (.ret .none)) ⟨rfl,rfl,Kept.refl own0 s7⟩
  ·rw [if_neg qAr]
   have ho0:own0=own:=by rw [hown0,←hbb];rfl
   exact seg_end (.ok (.ret .none)) ⟨rfl,rfl,by rw [ho0];exact kp6⟩
end
end Mine
end

section
set_option maxRecDepth 10000
namespace Mine
set_option genSizeOf false
set_option genInjectivity false
open PySem PyProof.Rows PySem.SeqAt
section
variable {c:Nm}{env:Env}{nm:List Str}{kd:Kinds}{q:Bool}{s₀ s s₂:Shared}{ex ex' wr:List Addr}{φ:Nat→Addr}{ρ:Env'}
theorem FrS.morph (F:FrS c env nm kd q s₀ ex φ ρ s){h':Heap}{tk':Nat}{gs:Array GenState}(hsub:∀b∈wr,b∈ex∨s.heap.get? b=none)(hex:∀b∈ex',(b∈ex∨s.heap.get? b=none)∧dom h' b)
  (hs:∀b o,b∉wr→s.heap.get? b=some o→h'.get? b=some o) (ht:s.toks≤tk') (hg:KQ q s₀ { s with gens:=gs }):FrS c env nm kd q s₀ ex' φ ρ { s with heap:=h',toks:=tk',gens:=gs }:=by
 have hdm:∀a,dom s.heap a→∀{p:Prop},(p∨s.heap.get? a=none)→p:=fun a ha p h=>h.resolve_right fun e=>by unfold dom at ha;rw [e] at ha;cases ha
 have hFO:∀a,dom s.heap a→FO env kd ex' a→FO env kd ex a:=fun a ha h=>h.imp id fun h=>hdm a ha (hex a h).1
 have hO:∀a,dom s.heap a→OwnO env kd ex' φ ρ a→OwnO env kd ex φ ρ a:=fun a ha h=>h.imp (fun h=>hFO a ha h) id
 have hX:∀(o b:Bool) a,(∃ob,s.heap.get? a=some ob)→X (OwnO env kd ex' φ ρ) (dom s₀.heap) o b a→X (OwnO env kd ex φ ρ) (dom s₀.heap) o b a:=
  fun o b a ⟨ob,e⟩ h=>h.imp (fun z=>⟨z.1,hO a (by unfold dom;rw [e];rfl) z.2⟩) id
 have nwr:∀a,dom s.heap a→a∈wr→a∈ex:=fun a ha h=>hdm a ha (hsub a h)
 have nX:∀(b':Bool) a,dom s.heap a→a∈wr→X (OwnO env kd ex φ ρ) (dom s₀.heap) false b' a:=fun b' a ha hm=>.inl ⟨rfl,.inl (.inr (nwr a ha hm))⟩
 have nFM:∀a,FM env kd a→a∉wr:=fun a h hm=>F.exF a (nwr a (FO.dom F (.inl h)) hm) h
 have nOwn:∀i,OwnAt ρ i→φ i∉wr:=fun i hi hm=>F.ownF i hi (.inr (nwr _ (OwnAt.dom F hi) hm))
 have dm:∀{b o},s.heap.get? b=some o→dom s.heap b:=fun e=>by unfold dom;rw [e];rfl
 have hva:∀y u,VarAt env kd s.heap y u→VarAt env kd h' y u:=fun y u h=>by
  rcases h with⟨a,m,b,c⟩|⟨a,m,b,c⟩
  ·exact .inl ⟨a,m,b.at' fun o e=>hs _ o (nFM _ (.inl rfl)) e,c⟩
  ·refine .inr ⟨a,m,b,?_⟩
   obtain⟨o,ho,hd⟩:=c
   exact⟨o,hs _ o (nFM _ (.inr ⟨y,a,b⟩)) ho,hd⟩
 refine⟨F.es,F.st0,F.tk0,?_,?_,?_,fun a ha=>(hex a ha).2,?_,?_,F.ownB,?_,F.inj,?_,?_,fun i x h1 h2=>hva _ _ (F.ownV i x h1 h2)⟩
 ·obtain⟨h1,t1,g1,e,k1,l1,e1,p1,q1⟩:=hg
  have e2:=F.base.keep
  have e3:=F.base.toks
  have hfo:∀b o,s₀.heap.get? b=some o→b∉wr:=fun b o e hm=>by
   have:=F.foB b (.inr (nwr b (dm (e2 b o e)) hm))
   rw [this] at e;cases e
  obtain⟨hh,tt,gg,e4,_⟩:=F.base
  subst e4
  cases e
  exact⟨h',tk',gs,rfl,fun b o e=>hs b o (hfo b o e) (e2 b o e),qA9 e3 ht,e1,p1,q1⟩
 ·obtain⟨m,hm⟩:=F.loc
  exact⟨m,hm.at' fun o e=>hs _ o (nFM _ (.inl rfl)) e⟩
 ·intro x a h1 h2
  obtain⟨v,o,ho,hd⟩:=F.cell x a h1 h2
  exact⟨v,o,hs _ o (nFM _ (.inr ⟨x,h1,h2⟩)) ho,hd⟩
 ·intro a ha hm
  exact F.exF a (hdm a (FO.dom F (.inl hm)) (hex a ha).1) hm
 ·rintro a (hm|ha)
  ·exact F.foB a (.inl hm)
  ·rcases (hex a ha).1 with h|h
   ·exact F.foB a (.inr h)
   ·exact none_back F.base.keep h
 ·intro i hi hfo
  exact F.ownF i hi (hFO _ (OwnAt.dom F hi) hfo)
 ·intro i d t x h1 h2 h3
  obtain⟨t1,t2,v,hv,hr⟩:=F.val i d t x h1 h2 h3
  exact⟨t1,t2,v,hva _ _ hv,Rd.mono2 ht (fun b o hx e=>hs b o (fun hm=>hx (by rw [t2];exact nX _ b (dm e) hm)) e) (fun b o hx e=>hs b o (fun hm=>hx (by rw [t1];exact nX _ b (dm e) hm)) e) (hX _ _) (hX _ _) _ _ hr⟩
 ·intro i d vt h1 h2
  obtain⟨ds,vs,e,hsz,hl,hr⟩:=F.own i d vt h1 h2
  exact⟨ds,vs,e,hsz,hl.at fun o e=>hs _ o (nOwn i ⟨d,vt,h1,h2⟩) e,Rds.mono2 ht (fun b o hx e=>hs b o (fun hm=>hx (nX _ b (dm e) hm)) e) (hX _ _) _ _ hr⟩
end
theorem letGo_gen {prog:Program}{w:World}{A:Around}{E:Value→Shared→Prop}{s:Shared}{elts:List qA2}{k:Nat}{pos:Pos}{I T:Addr}{g:Nat}{Q:Unit→Shared→Prop}(hit:s.heap.IsGen I g)(hQ:Q () s) :
  wpAny (model prog w) A (letOwnedTupleGo (.Tuple elts k pos) (.ref I) (.ref T)) Q E s:=by
 obtain⟨o,nm,qn,ho,hc,hd,hsl⟩:=hit
 unfold letOwnedTupleGo
 refine wpAny_bind (wpAny_load ho ?_)
 rw [hc,hd]
 show wpAny _ A (if (["enumerate", "zip", "dict_itemiterator", "dict_reverseitemiterator", "odict_iterator", "itertools.zip_longest", "itertools.pairwise"].contains "generator" && _)=true then _ else _) Q E s
 rw [show (["enumerate", "zip", "dict_itemiterator", "dict_reverseitemiterator", "odict_iterator", "itertools.zip_longest", "itertools.pairwise"].contains "generator")=false from by decide,qDh,if_neg qAr]
 exact wpAny_pure hQ
structure GenOk (prog:Program)(w:World)(c:Nm) where
 aG:Addr
 dG:DefS
 gb:GB
 mgv:c.mg "_iter_escaped_chars" = some (.ref aG)
 hat:∀h,c.ex h→DefAt h aG dG
 hpar:∀pm cd doc v,bindArgs (qD0 dG.name dG.params dG.body dG.scope pm cd doc) ⟨[v],[]⟩=pure [(("addr" : Str),v)]
 kind:dG.scope.kind=.function
 co:dG.scope.isCoroutine=false
 gen:dG.scope.isGenerator=true
 body:dG.body=gb.body
 ok:gb.Ok prog w c ["addr", "pos", "escape", "ch"] dG.scope.names
 loc:∀x∈(["addr", "pos", "escape", "ch"]:List Str),dG.scope.names.lookup x=some .local
 nocell:∀x,dG.scope.names.lookup x≠some .cell
 hen:c.mg "enumerate" = none∧c.mb "enumerate" = some (.type "enumerate")
theorem Kept.out {own:List Addr}{s₀ s:Shared}(k:Kept own s₀ s):s={ s₀ with heap:=s.heap,toks:=s.toks }∧(∀b o,b∉own→s₀.heap.get? b=some o→s.heap.get? b=some o)∧s₀.toks≤s.toks:=by
 obtain⟨h,t,rfl,k,l⟩:=k;exact⟨rfl,k,l⟩
inductive GP (L:List (Int×List Nat))(own own0:List Addr)(h₀:Heap)(m:Nat)(s₀:Shared)(v:Value)(s':Shared)(G:Nat→Shared→Prop):Prop
 |mk (k:Nat) (x:Int×List Nat) (T:Addr) (t u:Tok) (e1:m=k+1) (e2:L[L.length-1-k]?=some x) (e3:v=.ref T) (e4:s'.heap.IsTuple T #[.int x.1 t,.str (Mine.mk x.2) u]) (e5:x.2.length≤SZ) (e6:Kept own s₀ s') (e7:∀b∈om own own0 k,dom s'.heap b)
  (e8:∀s'',Later (om own own0 k) h₀ s' s''→G k s'')
theorem GY.pos {L:List (Int×List Nat)}{own own0:List Addr}{h₀:Heap}{m:Nat}{s₀ s':Shared}{v:Value}{G:Nat→Resume→Shared→Prop}(h0:∀b o,h₀.get? b=some o→b∉own∧s₀.heap.get? b=some o)
  (h:GY L own own0 h₀ (m-1) s₀ v s' fun r s''=>match m with|0=>False|k+1=>G k r s''):GP L own own0 h₀ m s₀ v s' fun k s''=>G k (.send .none) s'':=by
 obtain⟨x,T,t,u,e1,e2,e3,e4,e5,e6,e7,e8⟩:=h
 rcases m with _|k
 ·exact (e8 s' ⟨fun _ _ _ e=>e,fun b o e=>e6.out.2.1 b o (h0 b o e).1 (h0 b o e).2,qA7 _⟩).elim
 ·exact⟨k,x,T,t,u,rfl,e2,e3,e4,e5,e6,e7,e8⟩
theorem one_str {O B:Addr→Prop}{h:Heap}{T:Nat}{r:Rs}{l:List Nat}{vs:List Value}(a:∃v us,vs=v::us∧RdT O B h T r.t r.d v∧us=[])(e:r.d=.str l):l.length≤SZ∧∃u,vs=[.str (mk l) u]:=by
 obtain⟨v,us,rfl,rv,rfl⟩:=a
 obtain⟨hsz,u,rfl⟩:=tstr_of rv e
 exact⟨hsz,u,rfl⟩
theorem push_set (a:Array GenState)(x y:GenState):(a.push x).setIfInBounds a.size y=a.push y:=by
 apply qHe
 intro i
 simp only [Array.getElem?_setIfInBounds,qFp,Array.size_push]
 by_cases h:a.size=i
 ·subst h;simp
 ·have h':i≠a.size:=fun e=>h e.symm
  simp [h,h']
section
variable {prog:Program}{w:World}{c:Nm}{Φ:Fns}{k:Nat}
variable {nm:List Str}{kd:Kinds}
noncomputable def forGB (Φ:Fns)(v1 v2:Nat)(b:PSs)(ρ:Env')(d:D):Option (Fl×Env'):=match d with
 |.list [.int p,.str c]=>(match setV ρ v1 (Rs.flat (.int p)) with
  |some ρ₁=>(match setV ρ₁ v2 (Rs.flat (.str c)) with
   |some ρ₂=>exSs Φ true ρ₂ b
   |none=>none)
  |none=>none)
 |_=>none
theorem forGB_inv {v1 v2:Nat}{b:PSs}{ρ:Env'}{p:Int}{c:List Nat}{r:Fl×Env'}(h:forGB Φ v1 v2 b ρ (.list [.int p,.str c])=some r):∃ρ₁ ρ₂,setV ρ v1 (Rs.flat (.int p))=some ρ₁∧setV ρ₁ v2 (Rs.flat (.str c))=some ρ₂∧exSs Φ true ρ₂ b=some r:=by
 have h:((setV ρ v1 (Rs.flat (.int p))).bind fun ρ₁=>(setV ρ₁ v2 (Rs.flat (.str c))).bind fun ρ₂=>exSs Φ true ρ₂ b)=some r:=qAz (by kernel_rfl) h
 obtain⟨ρ₁,h1,h⟩:=bind_inv h
 obtain⟨ρ₂,h2,h⟩:=bind_inv h
 exact⟨ρ₁,ρ₂,h1,h2,h⟩
theorem xi_forG {v1 v2:Nat}{e:PE}{b:PSs}{ρ ρ':Env'}{fl:Fl}(h:exS Φ false ρ (.forG v1 v2 e b)=some (fl,ρ')):∃r l,evE Φ false ρ e=some r∧r.d=.str l∧forS (forGB Φ v1 v2 b) ((escL l).map fun x=>D.list [.int x.1,.str x.2]) ρ=some (fl,ρ'):=by
 have h:((evE Φ false ρ e).bind fun r=>(match r.d with
   |.str l=>forS (forGB Φ v1 v2 b) ((escL l).map fun x=>D.list [.int x.1,.str x.2]) ρ
   |_=>none))=some (fl,ρ'):=qAz (by kernel_rfl) h
 obtain⟨⟨d,t,f⟩,hr,h⟩:=bind_inv h
 rcases d with _|_<;>first|exact⟨_,_,hr,rfl,h⟩|cases h
inductive GLoop (prog:Program)(w:World)(c:Nm)(Φ:Fns)(nm:List Str)(kd:Kinds)(env:Env)(A:Around)(s₀:Shared)(ex:List Addr)(φ:Nat→Addr)(ρ:Env')(s1:Shared)(fl:Fl)(ρ':Env')(L:List (Int×List Nat))(g2:Array GenState)(a3:Addr)(own own0:List Addr)
  (v1 v2:Nat) (b:PSs) (n:Nat) (s':Shared):Prop
 |mk (i:Nat) (E:List Addr) (φ₁:Nat→Addr) (ρ₁:Env') (gs:GenState) (e1:n=L.length+1-i) (e2:i≤L.length) (e3:s'.gens=g2.push gs) (e4:gs.bare=true) (e5:s'.heap.IsGen a3 g2.size) (e6:FrS c env nm kd false s₀ (E++a3::ex) φ₁ ρ₁ s')
  (e7:Stp env kd ex φ ρ s1 (E++a3::ex) φ₁ ρ₁ s') (e8:∀b∈E,s1.heap.get? b=none) (e9:∀b∈om own own0 (L.length-i),b∈E∨s'.heap.get? b=none)
  (e10:gs.Goes (model prog w) A.in1 (gR own0) (gY L own own0 s₀.heap) (L.length-i) (.send .none) (s'.setGen g2.size .running)) (e11:forS (forGB Φ v1 v2 b) ((L.map fun x=>D.list [.int x.1,.str x.2]).drop i) ρ₁=some (fl,ρ'))
theorem forG_ok (gok:GenOk prog w c)(hk2:2≤k){v1 v2:Nat}{e:PE}{b:PSs}{x1 x2 g:Str}{px1 px2 pt pg pc pos:Pos}{kt:Nat}{a:qA2}{b':List Stmt}(h1:isVar nm kd v1 x1=true)(h2:isVar nm kd v2 x2=true)(h3:isGlob kd g "_iter_escaped_chars" = true)(h4:notStar a=true)
  (h5:GE prog w c Φ k nm kd e a) (hb:GSs prog w c Φ k nm kd true b b'):GS prog w c Φ k nm kd false (.forG v1 v2 e b) (.For (.Tuple [.Name x1 px1,.Name x2 px2] kt pt) (.Call (.Name g pg) [a] [] pc) b' [] pos):=by
 intro ρ ρ' fl env A s s₀ ex φ Q h0 F hA h
 obtain rfl:=(isGlob_of h3).1
 refine hid fun G hG=>?_
 obtain⟨hn1,hk1,_⟩:=isVar_of h1
 obtain⟨hn2,hk2',_⟩:=isVar_of h2
 obtain⟨_,hkg,hdg⟩:=isGlob_of h3
 obtain⟨r,l,hr,hl,he⟩:=xi_forG h0
 have hGL:GL prog w c Φ k nm kd (.cons e .nil) [a]:=gl_cons h4 h5 gl_nil'
 have hLe:evL Φ false ρ (.cons e .nil)=some [r]:=by
  have e1:evL Φ false ρ (.cons e .nil)=((evE Φ false ρ e).bind fun x=>some [x]):=by kernel_rfl
  rw [e1,hr];rfl
 obtain⟨o,pm,cd,doc,ho,hdat,hcd⟩:=gok.hat _ F.st0.ex
 refine hG (wpAny_For (Call_ (ld_glob F.es.ok (F.st0.keeps F.base.keep) hkg hdg gok.mgv (callWith_def (o:=o) hdat (wpAny_mono (hGL.run hLe F.toE hA fun vs s1 k1 a1=>?_) (fun _ _ z=>z) fun _ _ z=>z) (hGL.each env pc).1))))
 obtain⟨hsz,u,rfl⟩:=one_str a1 hl
 have F1:=F.next k1
 have hdep:=hA.depth
 have hun:=hA.units
 refine⟨k1.keep _ _ (F.base.keep _ _ ho),?_⟩
 refine wpAny_call (codeAny_call_generator (body:=gok.gb.body) (jL [_,_,_] [cL (eA (eA xa (eM 4 xb)) (eN 4)) xc] (cT xa xc) jT hdep) (k1.keep _ _ (F.base.keep _ _ ho)) hdat gok.co gok.gen (congrArg FuncBody.stmts gok.body) (hcd.keeps F1.base.keep) ?_)
 rw [gok.hpar]
 refine wpAny_pure (wpAny_with_toks (n:=s1.toks) (qA7 _) (wpAny_newFunctionEnv_cells gok.kind ?_ fun env2 he2 s2 x htk=>?_))
 ·intro y hy
  obtain rfl:=qAi.mp hy
  exact .inl (gok.loc _ (by simp))
 have hL2:env2.locals=s1.heap.objs.size:=by rw [he2];rfl
 have hsc:env2.scope=gok.dG.scope:=by rw [he2];rfl
 have hkd:env2.kindOf=fun y=>gok.dG.scope.names.lookup y:=by funext y;show env2.scope.names.lookup y=_;rw [hsc]
 refine hid fun G hG=>?_
 obtain⟨h',tk',e',hkeep⟩:=x.toInCall.done
 have kq:KQ true s1 s2:=by rw [e'];rw [e'] at htk;exact KQ.mk' hkeep htk
 have hg2:s2.gens=s1.gens:=by rw [e']
 have F2:=F1.next kq.weak
 have lim2:s2.heap.NoLimit:=F2.st0.lim.keeps F2.base.keep
 refine hG ⟨lim2,?_⟩
 have hfree:∀a,s1.heap.objs.size≤a→s1.heap.get? a=none:=fun a ha=>by
  cases e:s1.heap.get? a with
  |none=>rfl
  |some o=>exact absurd (qCg e) (qCj.mpr ha)
 obtain⟨s3,hs3⟩:=gx ({ s2 with gens:=s2.gens.push (.fresh (.func gok.gb.body env2)),toks:=s2.toks+1+1,heap:=s2.heap.push { cls:=.type "generator", data:=.fields #[.int s2.gens.size 0,.str (qD0 gok.dG.name gok.dG.params gok.dG.body gok.dG.scope pm cd doc).name s2.toks,.str (qD0 gok.dG.name gok.dG.params gok.dG.body gok.dG.scope pm cd doc).qualname (s2.toks+1)] } }:Shared)
 rw [hs3]
 have hh3:s3.heap=s2.heap.push { cls:=.type "generator", data:=.fields #[.int s2.gens.size 0,.str (qD0 gok.dG.name gok.dG.params gok.dG.body gok.dG.scope pm cd doc).name s2.toks,.str (qD0 gok.dG.name gok.dG.params gok.dG.body gok.dG.scope pm cd doc).qualname (s2.toks+1)] }:=by rw [←hs3]
 have hg3:s3.gens=s2.gens.push (.fresh (.func gok.gb.body env2)):=by rw [←hs3]
 have ht3:s3.toks=s2.toks+1+1:=by rw [←hs3]
 have keep3:∀b o,s2.heap.get? b=some o→s3.heap.get? b=some o:=fun b o e=>by rw [hh3];exact qAp _ e
 have gen3:s3.heap.IsGen s2.heap.objs.size s2.gens.size:=by
  rw [hh3]
  exact⟨_,_,_,qB9 _ rfl,rfl,rfl,rfl⟩
 have kG:∀gs:GenState,gs.bare=true→∀s':Shared,KQ false s₀ s'→KQ false s₀ { s' with gens:=s2.gens.push gs }:=fun gs hbr s' k=>by
  obtain⟨ha,ta,ga,rfl,ka,la,ea,pa,qa⟩:=k
  obtain⟨hb',tb,gb',eb,kb,lb,ebb,pb,qb⟩:=F2.base
  refine⟨ha,ta,s2.gens.push gs,rfl,ka,la,fun z=>(nomatch z),fun i x hx=>?_,fun hx=>?_⟩
  ·have h1:s2.gens[i]?=some x:=by rw [eb];exact pb i x hx
   have hlt:i<s2.gens.size:=(qFs.mp h1).1
   rw [qFp,if_neg (qBg hlt)];exact h1
  ·have h1:AllBare s2.gens:=by rw [eb];exact qb hx
   exact h1.push hbr
 have bfresh:(qHv (.func gok.gb.body env2)).bare=true:=rfl
 have k3:KQ false s2 s3:=by
  rw [←hs3]
  refine⟨_,_,_,rfl,fun b o e=>qAp _ e,qA9 (qAj _) (qAj _),fun z=>(nomatch z),fun i x hx=>?_,fun hx=>hx.push bfresh⟩
  have hlt:i<s2.gens.size:=(qFs.mp hx).1
  rw [qFp,if_neg (qBg hlt)];exact hx
 have hlt2:s1.heap.objs.size<s2.heap.objs.size:=by
  obtain⟨o,es,n,ho,_⟩:=x.toInCall.ns
  rw [hL2] at ho
  exact qCg ho
 have new1:∀b,b=env2.locals∨b=s2.heap.objs.size→s1.heap.get? b=none:=fun b hb=>by
  rcases hb with rfl|rfl
  ·exact hfree _ (by rw [hL2];exact qA7 _)
  ·exact hfree _ (qAq hlt2)
 have new0:s₀.heap.get? env2.locals=none:=none_back F1.base.keep (new1 _ (.inl rfl))
 have G3:GI c env2 ["addr", "pos", "escape", "ch"] gok.dG.scope.names s₀.heap [some (.str l,.val Tg.z),none,none,none] s3:=by
  refine⟨⟨by rw [hsc],by rw [hsc];exact gok.kind,by rw [he2];rfl,by rw [he2];rfl,fun y hy=>absurd hy (gok.nocell y)⟩,by decide,gok.loc,F.st0,fun b o e=>keep3 b o (F2.base.keep b o e),new0,?_,⟨_,x.toInCall.ns.keeps keep3⟩,?_⟩
  ·rw [ht3];exact qAq (qBv (qBb 1) s2.toks)
  ·intro i d vt y h1 h2
   match i,h1,h2 with
   |0,h1,h2=>
    simp only [qEs,qD1,Prod.mk.injEq] at h1 h2
    obtain⟨rfl,rfl⟩:=h1
    subst h2
    refine⟨rfl,_,.str (mk l) u,x.toInCall.ns.keeps keep3,?_,by rw [Rd];exact⟨hsz,u,rfl⟩⟩
    have:env2.kindOf ("addr" : Str)=some .local:=by rw [hkd];exact gok.loc _ (by simp)
    simp [bindL,this]
   |1,h1,_=>simp at h1
   |2,h1,_=>simp at h1
   |3,h1,_=>simp at h1
   |n+4,h1,_=>simp at h1
 show wpAny _ _ (pyIter (.ref s2.heap.objs.size)) _ _ _
 refine wpAny_pyIter_gen gen3 ?_
 have sz3:s3.heap.objs.size=s2.heap.objs.size+1:=by rw [hh3];exact qEk ..
 have es3:s3={ s1 with heap:=s3.heap,toks:=s3.toks,gens:=s2.gens.push (.fresh (.func gok.gb.body env2)) }:=by rw [←hs3,e']
 have tok3:s1.toks≤s3.toks:=by have:=kq.toks;rw [ht3];exact jL [_,_] [cL xa xb] (cL xa (eU (eU xb))) jT htk
 have keep13:∀b o,s1.heap.get? b=some o→s3.heap.get? b=some o:=fun b o e=>keep3 b o (kq.keep b o e)
 have dom3:∀b,b=env2.locals∨b=s2.heap.objs.size→dom s3.heap b:=fun b hb=>by
  rcases hb with rfl|rfl
  ·obtain⟨o,es,n,ho,_⟩:=x.toInCall.ns
   unfold dom;rw [keep3 _ _ ho];rfl
  ·obtain⟨o,_,_,ho,_⟩:=gen3
   unfold dom;rw [ho];rfl
 have hin2:interactive env2=false:=by
  unfold interactive
  rw [hsc,gok.kind]
  rfl
 have hco2:env2.scope.isCoroutine=false:=by rw [hsc];exact gok.co
 clear hs3 hh3 ht3 kq e' x htk he2 hkd hsc hkeep
 obtain⟨a3,ha3⟩:=gx s2.heap.objs.size
 rw [ha3] at gen3 hlt2 new1 sz3 dom3⊢
 obtain⟨own,hown⟩:=gx [env2.locals,s3.heap.objs.size+1,s3.heap.objs.size]
 obtain⟨own0,hown0⟩:=gx (if escEnd false l then [env2.locals] else own)
 have sub0:∀b∈own0,b∈own:=fun b hb=>by
  rw [←hown0] at hb
  split at hb
  ·rw [←hown];rw [qAi.mp hb];exact qA5 ..
  ·exact hb
 have subm:∀m,∀b∈om own own0 m,b∈own:=fun m b hb=>by
  cases m with
  |zero=>exact sub0 b hb
  |succ m=>exact hb
 have own1:∀b∈own,s1.heap.get? b=none:=fun b hb=>by
  rw [←hown] at hb
  simp only [qA6,qB0,or_false] at hb
  rcases hb with rfl|rfl|rfl
  ·exact new1 _ (.inl rfl)
  ·exact hfree _ (by rw [sz3];exact qB4 (qB4 (qAq hlt2)))
  ·exact hfree _ (by rw [sz3];exact qB4 (qAq hlt2))
 have owna:a3∉own:=fun hm=>by
  rw [←hown] at hm
  simp only [qA6,qB0,or_false] at hm
  rcases hm with hm|hm|hm
  ·exact qCf hlt2 (hm.trans hL2)
  ·exact qBg (by rw [sz3];exact qD3 (qBo _)) hm
  ·exact qBg (by rw [sz3];exact qBo _) hm
 have own3:∀b∈own,b∈[env2.locals]∨s3.heap.get? b=none:=fun b hb=>by
  rw [←hown] at hb
  simp only [qA6,qB0,or_false] at hb
  rcases hb with rfl|rfl|rfl
  ·exact .inl (qA5 ..)
  ·exact .inr (qH2 (qAj _))
  ·exact .inr (qH2 (qA7 _))
 have ex1:∀b∈ex,dom s1.heap b:=F1.exd
 have exo:∀b,dom s1.heap b→b∉own:=fun b hb hm=>by unfold dom at hb;rw [own1 b hm] at hb;cases hb
 have F3:FrS c env nm kd false s₀ ([env2.locals]++a3::ex) φ ρ s3:=by
  rw [es3]
  refine F1.morph (wr:=[]) (fun b hb=>(nomatch hb)) (fun b hb=>?_) (fun b o _ e=>keep13 b o e) tok3 (kG _ bfresh s1 F1.base)
  simp only [qB7,qCs,qA6] at hb
  rcases hb with hb|hb|hb
  ·exact⟨.inr (new1 _ (.inl hb)),dom3 _ (.inl hb)⟩
  ·exact⟨.inr (new1 _ (.inr hb)),dom3 _ (.inr hb)⟩
  ·exact⟨.inl hb,dom.keeps keep13 (ex1 b hb)⟩
 have ownX:∀{E:List Addr} {φ₁:Nat→Addr} {ρ₁:Env'},(∀b∈E,s1.heap.get? b=none)→∀b,dom s1.heap b→OwnO env kd (E++a3::ex) φ₁ ρ₁ b→OwnO env kd ex φ₁ ρ₁ b:=fun hE b hb h=>by
  refine h.imp (fun h=>h.imp id fun h=>?_) id
  rcases qAc.mp h with h|h
  ·unfold dom at hb;rw [hE b h] at hb;cases hb
  ·rcases qA6.mp h with h|h
   ·unfold dom at hb;rw [new1 _ (.inr h)] at hb;cases hb
   ·exact h
 have S3:Stp env kd ex φ ρ s1 ([env2.locals]++a3::ex) φ ρ s3:=
  ⟨fun b o e _=>keep13 b o e,fun _ _ h=>h,fun b hb h=>ownX (fun b hb=>by rw [qAi.mp hb];exact new1 _ (.inl rfl)) b hb h,fun b hb=>dom.keeps keep13 hb,tok3,fun _ _ _ h=>⟨h,rfl⟩⟩
 have go3:(qHv (.func gok.gb.body env2)).Goes (model prog w) A.in1 (gR own0) (gY (escL l) own own0 s₀.heap) (escL l).length (.send .none) (s3.setGen s2.gens.size .running):=
  ⟨rfl,gen_run gok.hen gok.ok (G3.next (fun o e=>e) G3.keep (qA7 _)) (by rw [←hown];rfl) hown0.symm hco2 hin2 ⟨hA.hd,by show A.depth+4*1+4≤_;exact jk [_,_,_] [cL (eN 2) xa,cL (eA (eA xb (eM 4 xa)) (eN 4)) xc] (cL (eA (eA xb (eM 4 (eN 1))) (eN 4)) xc) [1,4,1] jT hk2 hdep,by show A.units+1+100*1+100≤_;lia⟩⟩
 obtain⟨P,hP⟩:∃P:Nat→Shared→Prop,∀n s',P n s'↔GLoop prog w c Φ nm kd env A s₀ ex φ ρ s1 fl ρ' (escL l) s2.gens a3 own own0 v1 v2 b n s':=⟨_,fun _ _=>qHr⟩
 refine codeAny_forLoop_any P ?_ ((escL l).length+1) ((hP _ _).mpr ⟨0,[env2.locals],φ,ρ,_,rfl,qBr _,hg3,bfresh,gen3,F3,S3,fun b hb=>by rw [qAi.mp hb];exact new1 _ (.inl rfl),fun b hb=>own3 b (subm _ b hb),go3,by simpa using he⟩)
 intro n s' hn
 replace hn:=(hP _ _).mp hn
 clear h0 he
 refine hid fun G hG=>?_
 obtain⟨i,E,φ₁,ρ₁,gs,hni,hiN,hgs,hbare,hgen,Fi,Si,hE,hom,hgo,hfs⟩:=hn
 have lim':s'.heap.NoLimit:=Fi.st0.lim.keeps Fi.base.keep
 have hgsi:s'.gens[s2.gens.size]?=some gs:=by rw [hgs];simp
 have dom1':∀b,dom s1.heap b→dom s'.heap b:=Si.dom_
 have none1:∀b,s'.heap.get? b=none→s1.heap.get? b=none:=fun b hn=>by
  cases e:s1.heap.get? b with
  |none=>rfl
  |some o=>have:=dom1' b (by unfold dom;rw [e];rfl);unfold dom at this;rw [hn] at this;cases this
 have h0own:∀b o,s₀.heap.get? b=some o→b∉own:=fun b o e=>exo b (dom.keeps F1.base.keep (by unfold dom;rw [e];rfl))
 have set':∀(s'':Shared) (x:GenState),s''.gens=s2.gens.push gs∨s''.gens=s2.gens.push .running→(s''.setGen s2.gens.size x)={ s'' with gens:=s2.gens.push x }:=fun s'' x hx=>by
  unfold Shared.setGen
  rcases hx with hx|hx<;>rw [hx,push_set]
 obtain⟨m,hm⟩:=gx ((escL l).length-i)
 rw [hm] at hom hgo
 refine hG (pyNext_genQ (n:=m) (gs:=gs) (P:=fun n s₀ s₁=>n=0∧Kept own0 s₀ s₁) (Y:=gY (escL l) own own0 s₀.heap) hA.hd lim' (by lia) hgen hgsi hgo (fun v sY gs' hb' hY=>?_) (fun sZ hPz h'' hk''=>?_))
 ·replace hY:=GY.pos (s₀:=s'.setGen s2.gens.size .running) (fun b o e=>⟨h0own b o e,Fi.base.keep b o e⟩) hY
  clear hgo
  refine hid fun G hG=>?_
  obtain⟨m,xi,T,t,u',hmm,hL1,rfl,hT,hsz',hK,hdom,hlat⟩:=hY
  rw [set' s' _ (.inl hgs)] at hK
  obtain⟨eY,kY,lY⟩:=hK.out
  clear hK
  have hom:∀b∈own,b∈E∨s'.heap.get? b=none:=fun b hb=>hom b (by rw [hmm];exact hb)
  have hc3:=cnt3 (hm.trans hmm)
  have hL1:(escL l)[i]?=some xi:=by rw [←hc3.2.1];exact hL1
  have hlt:=hc3.1
  have eX:sY.setGen s2.gens.size gs'={ s' with heap:=sY.heap,toks:=sY.toks,gens:=s2.gens.push gs' }:=
   (set' _ _ (.inr (by rw [eY]))).trans (congrArg (fun z:Shared=>{ z with gens:=s2.gens.push gs' }) eY)
  have FX:FrS c env nm kd false s₀ (om own own0 m++a3::ex) φ₁ ρ₁ { s' with heap:=sY.heap,toks:=sY.toks,gens:=s2.gens.push gs' }:=by
   refine Fi.morph (wr:=own) (fun b hb=>?_) (fun b hb=>?_) kY lY (kG _ hb' s' Fi.base)
   ·exact (hom b hb).imp (fun h=>qAc.mpr (.inl h)) id
   ·rcases qAc.mp hb with hb|hb
    ·exact⟨(hom b (subm m b hb)).imp (fun h=>qAc.mpr (.inl h)) id,hdom b hb⟩
    ·refine⟨.inl (qAc.mpr (.inr hb)),?_⟩
     have hnb:b∉own:=by
      rcases qA6.mp hb with hb|hb
      ·rw [hb];exact owna
      ·exact exo b (ex1 b hb)
     obtain⟨o,e⟩:=qAs.mp (Fi.exd b (qAc.mpr (.inr hb)))
     unfold dom;rw [kY b o hnb e];rfl
  have SX:Stp env kd ex φ ρ s1 (om own own0 m++a3::ex) φ₁ ρ₁ { s' with heap:=sY.heap,toks:=sY.toks,gens:=s2.gens.push gs' }:=by
   refine⟨fun b o e hm=>kY b o (exo b (by unfold dom;rw [e];rfl)) (Si.keep b o e hm),Si.mut_,fun b hb h=>?_,fun b hb=>?_,qA9 Si.toks lY,Si.pin⟩
   ·refine Si.own b hb ((ownX (fun b hb=>own1 b (subm m b hb)) b hb h).imp (fun z=>z.imp id fun z=>qAc.mpr (.inr (qA3 _ z))) id)
   ·obtain⟨o,e⟩:=qAs.mp (dom1' b hb)
    unfold dom;rw [kY b o (exo b hb) e];rfl
  have genX:sY.heap.IsGen a3 s2.gens.size:=by
   obtain⟨o,nm',qn,ho',hr'⟩:=hgen
   exact⟨o,nm',qn,kY _ _ owna ho',hr'⟩
  refine hG ?_
  show wpAny _ _ (letOwnedTupleGo (.Tuple [.Name x1 px1,.Name x2 px2] kt pt) (.ref a3) (.ref T)) _ _ _
  rw [eX]
  refine letGo_gen (s:={ s' with heap:=sY.heap,toks:=sY.toks,gens:=s2.gens.push gs' }) genX ?_
  refine wpAny_assign_Tuple (s:={ s' with heap:=sY.heap,toks:=sY.toks,gens:=s2.gens.push gs' }) hA.hd hT rfl rfl fun h4 hx4=>?_
  have k4:KQ true ({ s' with heap:=sY.heap,toks:=sY.toks,gens:=s2.gens.push gs' }:Shared) { s' with heap:=h4,toks:=sY.toks,gens:=s2.gens.push gs' }:=
   ⟨h4,sY.toks,_,rfl,fun b o e=>hx4 b o (qBg (qCg e)) e,qA7 _,fun _=>rfl,fun _ _ e=>e,id⟩
  have F4:=FX.quiet.next k4
  have S4:=SX.trans (Stp.kq k4)
  have hdrop:((escL l).map fun x=>D.list [.int x.1,.str x.2]).drop i=.list [.int xi.1,.str xi.2]::((escL l).map fun x=>D.list [.int x.1,.str x.2]).drop (i+1):=by
   rw [qFz (by simpa using hlt)]
   congr 1
   rw [List.getElem_map]
   rw [qAb hlt] at hL1
   rw [qA8 hL1]
  rw [hdrop] at hfs
  refine hid fun G hG=>?_
  obtain⟨rF,hrF,hfs⟩:∃rF,forGB Φ v1 v2 b ρ₁ (.list [.int xi.1,.str xi.2])=some rF∧(match rF with
    |(.next,ρ'')=>forS (forGB Φ v1 v2 b) (((escL l).map fun x=>D.list [.int x.1,.str x.2]).drop (i+1)) ρ''
    |(.ret r,ρ'')=>some (.ret r,ρ''))=some (fl,ρ'):=by
   rcases forS_cons hfs with⟨_,e1,h⟩|⟨_,_,e1,h⟩
   ·exact⟨_,e1,h⟩
   ·exact⟨_,e1,congrArg some h.symm⟩
  obtain⟨ρ₂,ρ₃,hρ2,hρ3,hbody⟩:=forGB_inv hrF
  refine hG ?_
  show wpAny _ _ (holding [.str (mk xi.2) u'] (assign (.Name x1 px1) env (.int xi.1 t)) >>= fun _=>assignInOrder [assign (.Name x2 px2) env] [.str (mk xi.2) u']) _ _ _
  refine wpAny_bind (wpAny_holding (wpAny_assign_Name (wpAny_mono (store_ok F4 (KQ.refl true _) hn1 hk1 hρ2 (by unfold RdT;show Rd _ _ _ _ (.int xi.1) _;rw [Rd];exact⟨_,rfl⟩) (fun z=>nomatch z) fun φ5 s5 F5 S5=>?_) (fun _ _ z=>z) fun _ _ z=>z.elim)))
  show wpAny _ _ (holding [] (assign (.Name x2 px2) env (.str (mk xi.2) u')) >>= fun _=>assignInOrder [] []) _ _ _
  refine wpAny_bind (wpAny_holding (wpAny_assign_Name (wpAny_mono (store_ok F5 (KQ.refl true _) hn2 hk2' hρ3 (by unfold RdT;show Rd _ _ _ _ (.str xi.2) _;rw [Rd];exact⟨hsz',_,rfl⟩) (fun z=>nomatch z) fun φ6 s6 F6 S6=>?_) (fun _ _ z=>z) fun _ _ z=>z.elim)))
  refine wpAny_pure ?_
  have S46:=(S4.trans S5).trans S6
  have SXl:Stp env kd (om own own0 m++a3::ex) φ₁ ρ₁ { s' with heap:=sY.heap,toks:=sY.toks,gens:=s2.gens.push gs' } (om own own0 m++a3::ex) φ6 ρ₃ s6:=((Stp.kq k4).trans S5).trans S6
  have kb0:KQ false s₀ { s₀ with gens:=s2.gens.push gs' }:=kG gs' hb' s₀ (KQ.refl _ _)
  obtain⟨flb,ρ₄⟩:=rF
  refine wpAny_mono (hb hbody F6 hA ?_) (fun _ _ z=>z) fun _ _ z=>z.elim
  clear hrF hbody
  rcases flb with _|r
  ·
   intro φ7 s7 F7 S7
   have g7:s7.gens=s2.gens.push gs':=by
    obtain⟨_,_,_,e7,_,_,eg,_⟩:=F7.base
    rw [e7];exact eg rfl
   have Sl:=SXl.trans S7
   have keepX:∀b∈om own own0 m++a3::ex,∀o,sY.heap.get? b=some o→s7.heap.get? b=some o:=fun b hb o e=>Sl.keep b o e fun hm=>by
    rcases hm with hm|⟨j,hm,rfl⟩
    ·exact FX.exF b hb hm
    ·exact FX.ownF j hm.own (.inr hb)
   refine⟨(escL l).length+1-(i+1),by rw [hni];exact dec_lt hlt,(hP _ _).mpr ⟨i+1,om own own0 m,φ7,ρ₄,gs',rfl,hlt,g7,hb',?_,F7.unquiet kb0,S46.trans S7,fun b hb=>own1 b (subm m b hb),fun b hb=>.inl (by rw [hc3.2.2] at hb;exact hb),?_,hfs⟩⟩
   ·obtain⟨o,nm',qn,ho',hr'⟩:=genX
    exact⟨o,nm',qn,keepX a3 (by simp) o ho',hr'⟩
   ·rw [hc3.2.2]
    exact hlat (s7.setGen s2.gens.size .running) ⟨fun b hb o e=>keepX b (qAc.mpr (.inl hb)) o e,fun b o e=>F7.base.keep b o e,Sl.toks⟩
  ·clear hP
   simp only [qD1,Prod.mk.injEq] at hfs
   obtain⟨rfl,rfl⟩:=hfs
   intro O v s7 k7 r7 p7
   refine h O v s7 ?_ r7 p7
   obtain⟨ha,ta,ga,rfl,ka,la,ea,pa,qa⟩:=k7
   obtain⟨hb2,tb,gb',eb,kb,lb,ebb,pb,qb⟩:=kb0
   cases eb
   exact⟨ha,ta,ga,rfl,ka,la,fun z=>(nomatch z),fun i x hx=>pa i x (pb i x hx),fun hx=>qa (qb hx)⟩
 ·refine hid fun G hG=>?_
  obtain⟨hz0,hK⟩:=hPz
  clear hgo hP
  rw [hz0] at hom
  have hiN':i=(escL l).length:=qE2 hiN (qEz.mp (hm.trans hz0))
  rw [hiN',qF0 (by simp)] at hfs
  obtain⟨rfl,rfl⟩:=qDr (qA8 (show some (Fl.next,_)=some (fl,ρ') from hfs))
  rw [set' s' _ (.inl hgs)] at hK
  obtain⟨eS,kz,lz⟩:=hK.out
  clear hK
  have eZ:({ sZ.setGen s2.gens.size .finished with heap:=h'' }:Shared)={ s' with heap:=h'',toks:=sZ.toks,gens:=s2.gens.push .finished }:=by
   rw [set' _ _ (.inr (by rw [eS]))]
   exact congrArg (fun z:Shared=>{ z with heap:=h'',gens:=s2.gens.push .finished }) eS
  have hk:∀b o,b∉own0→s'.heap.get? b=some o→h''.get? b=some o:=fun b o hb e=>hk'' b o (kz b o hb e)
  refine hG ?_
  show wpAny _ _ (execs [] env) _ _ _
  refine wpAny_execs_nil ?_
  rw [eZ]
  have FZ:FrS c env nm kd false s₀ ex φ₁ ρ₁ { s' with heap:=h'',toks:=sZ.toks,gens:=s2.gens.push .finished }:=by
   refine Fi.morph (wr:=own0) (fun b hb=>?_) (fun b hb=>?_) hk lz (kG _ rfl s' Fi.base)
   ·exact (hom b hb).imp (fun h=>qAc.mpr (.inl h)) id
   ·refine⟨.inl (qAc.mpr (.inr (qA3 _ hb))),?_⟩
    obtain⟨o,e⟩:=qAs.mp (dom1' b (ex1 b hb))
    unfold dom;rw [hk b o (fun hm=>exo b (ex1 b hb) (sub0 b hm)) e];rfl
  have SZ':Stp env kd ex φ ρ s1 ex φ₁ ρ₁ { s' with heap:=h'',toks:=sZ.toks,gens:=s2.gens.push .finished }:=by
   refine⟨fun b o e hm=>hk b o (fun hm=>exo b (by unfold dom;rw [e];rfl) (sub0 b hm)) (Si.keep b o e hm),Si.mut_,fun b hb h=>Si.own b hb (h.imp (fun z=>z.imp id fun z=>qAc.mpr (.inr (qA3 _ z))) id),fun b hb=>?_,qA9 Si.toks lz,Si.pin⟩
   obtain⟨o,e⟩:=qAs.mp (dom1' b hb)
   unfold dom;rw [hk b o (fun hm=>exo b hb (sub0 b hm)) e];rfl
  exact h φ₁ _ FZ ((Stp.kq k1).trans SZ')
end
end Mine
end

section
set_option maxRecDepth 10000
namespace Mine
open PySem PyProof.Rows PySem.SeqAt
section
variable {prog:Program}{w:World}{c:Nm}{Φ:Fns}{k:Nat}
theorem gs_forG (gok:GenOk prog w c)(hk2:2≤k){q:Bool}{nm:List Str}{kd:Kinds}{v1 v2:Nat}{e:PE}{b:PSs}{x1 x2 g:Str}{px1 px2 pt pg pc pos:Pos}{kt:Nat}{a:qA2}{b':List Stmt}(h1:isVar nm kd v1 x1=true)(h2:isVar nm kd v2 x2=true)(h3:isGlob kd g "_iter_escaped_chars" = true)(h4:notStar a=true)
  (h5:GE prog w c Φ k nm kd e a) (hb:GSs prog w c Φ k nm kd true b b'):GS prog w c Φ k nm kd q (.forG v1 v2 e b) (.For (.Tuple [.Name x1 px1,.Name x2 px2] kt pt) (.Call (.Name g pg) [a] [] pc) b' [] pos):=by
 cases q with
 |true=>
  intro ρ ρ' fl env A s s₀ ex φ Q h0
  have e:exS Φ true ρ (.forG v1 v2 e b)=none:=by kernel_rfl
  rw [e] at h0
  cases h0
 |false=>exact forG_ok gok hk2 h1 h2 h3 h4 h5 hb
theorem AOk.le {k k':Nat}{A:Around}(h:AOk k A)(hk:k'≤k):AOk k' A:=
 ⟨h.hd,by have:=h.depth;exact jk [_,_,_,_] [cL xa xb,cL (eA (eA xc (eM 4 xb)) (eN 4)) xd] (cL (eA (eA xc (eM 4 xa)) (eN 4)) xd) [1,4,1] jT hk this,by have:=h.units;exact jk [_,_,_,_] [cL xa xb,cL (eA (eA xc (eM 100 xb)) (eN 100)) xd] (cL (eA (eA xc (eM 100 xa)) (eN 100)) xd) [1,100,1] jT hk this⟩
theorem FnsOk.up {k k':Nat}(h:FnsOk prog w c Φ k)(hk:k≤k'):FnsOk prog w c Φ k':=fun q f args d e A s vs hA=>h q f args d e A s vs (hA.le hk)
noncomputable def FnOk (prog:Program)(w:World)(c:Nm)(k:Nat)(f:Nat)(φ:Bool→List D→Option D):Prop:=
 ∀q args d,φ q args=some d→∀A s vs,AOk k A→St c s.heap→1≤s.toks→Rds s.heap s.toks No args vs→
  ∀Q:Value→Shared→Prop,(∀v s',KQ q s s'→Rd s'.heap s'.toks (dom s.heap) (dom s.heap) d v→(∀a,v=.ref a→Pl s'.heap a)→Q v s')→wpAny (model prog w) A (call (.ref (c.fa f)) vs) Q NoE s
noncomputable def Fns.add (Φ:Fns)(f:Nat)(φ:Bool→List D→Option D):Fns:=fun q g args=>if g=f then φ q args else Φ q g args
theorem FnsOk.add {f:Nat}{φ:Bool→List D→Option D}(h:FnsOk prog w c Φ k)(hf:FnOk prog w c k f φ):FnsOk prog w c (Φ.add f φ) k:=by
 intro q g args d e A s vs hA st tk ra Q hQ
 unfold Fns.add at e
 split at e
 ·rename_i hg;subst hg;exact hf q args d e A s vs hA st tk ra Q hQ
 ·exact h q g args d e A s vs hA st tk ra Q hQ
theorem fn_def {f:Nat}{d:DefS}{ps nm:List Str}{prg:PSs}(hat:∀h,c.ex h→DefAt h (c.fa f) d)
  (hpar:∀pm cd doc vals,vals.length=ps.length→bindArgs (qD0 d.name d.params d.body d.scope pm cd doc) ⟨vals,[]⟩=pure (ps.zip vals))
  (hk:d.scope.kind=.function) (hco:d.scope.isCoroutine=false) (hgen:d.scope.isGenerator=false)
  (hps:∀(i:Nat) x,ps[i]?=some x→nm[i]?=some x) (hpk:∀x∈ps,d.scope.names.lookup x=some .local∨d.scope.names.lookup x=some .cell) (hnd:nm.Nodup) (hpd:ps.Nodup)
  (hbody:∀q,GSs prog w c Φ k nm d.scope.names q prg d.body):FnOk prog w c (k+1) f (fun q args=>runF Φ q ps.length nm.length prg args):=
 fun q _ _ hr _ _ _ hA st tk ra _ h=>call_def hat hpar hk hco hgen hps hpk hnd hpd (hbody q) hr hA st tk ra h
end
end Mine
end

section
set_option maxRecDepth 10000
namespace Mine
set_option genSizeOf false
set_option genInjectivity false
open PySem PyProof.Rows PySem.SeqAt
section
variable {prog:Program}{w:World}{c:Nm}{k:Nat}
structure B1 where
 (o x y:Str)
 (p1 p2 p3 p4 p5 p6:Pos)
noncomputable def B1.body (b:B1):List Stmt:=[.Return (some (.Compare (.Call (.Name b.o b.p1) [.Name b.x b.p2] [] b.p3) [.In] [.Name b.y b.p4] b.p5)) b.p6]
noncomputable def B1.ok (kd:Kinds)(b:B1):Bool:=isGlob kd b.o "ord" && isVar ["code"] kd 0 b.x&&isGlob kd b.y "b1_set"
noncomputable def sRet (s:Stmt):Option qA2×Pos:=((stP s).2.2.2.2.2.2.1,(stP s).1)
noncomputable def b1Of (l:List Stmt):B1:=
 let r:=sRet (l.getD 0 gs)
 let m:=eCall (r.1.getD gxE)
 let c:=eCall m.1
 ⟨(eName c.1).1,(gNm c.2.1 0).1,(gNm m.2.1 0).1,(eName c.1).2,(gNm c.2.1 0).2,c.2.2,(gNm m.2.1 0).2,m.2.2,r.2⟩
theorem one_inv {F:Nat→Option D}{r:D}:∀{args:List D},(match args with|[.str [x]]=>F x|_=>none)=some r→∃x,args=[.str [x]]∧F x=some r:=by
 intro args h
 rcases args with _|⟨a,_|⟨_,_⟩⟩
 ·exact nos h
 ·rcases a with _|_|_|l|_|_<;>try exact nos h
  rcases l with _|⟨x,_|⟨_,_⟩⟩
  ·exact nos h
  ·exact⟨x,rfl,h⟩
  ·exact nos h
 ·rcases a with _|_|_|l|_|_<;>try exact nos h
  rcases l with _|⟨x,_|⟨_,_⟩⟩<;>exact nos h
theorem fn_b1 {f:Nat}{d:DefS}{aS:Addr}{S:Int→Bool}{n:Nat}(hat:∀h,c.ex h→DefAt h (c.fa f) d)
  (hpar:∀pm cd doc vals,vals.length=1→bindArgs (qD0 d.name d.params d.body d.scope pm cd doc) ⟨vals,[]⟩=pure ([("code" : Str)].zip vals))
  (hk:d.scope.kind=.function) (hco:d.scope.isCoroutine=false) (hgen:d.scope.isGenerator=false) (hpk:d.scope.names.lookup ("code" : Str)=some .local)
  (heq:d.body=(b1Of d.body).body) (hbody:(b1Of d.body).ok d.scope.names=true) (hord:c.mg "ord" = none∧c.mb "ord" = some (.builtin "ord")) (hset:c.mg "b1_set" = some (.ref aS)) (hS:∀h,c.ex h→h.SetOf (intKind prog w) aS S n) :
  FnOk prog w c (k+1) f (fun _ args=>match args with|[.str [x]]=>some (.bool (S x))|_=>none):=by
 intro q args dd hr A s vs hA st tk ra Q h
 obtain⟨x,rfl,hr⟩:=one_inv (F:=fun x=>some (.bool (S x))) hr
 obtain rfl:=qA8 hr
 ·refine call_walk (q:=q) (k:=k) (f:=f) (d:=d) (ps:=["code"]) (nm:=["code"]) (rr:=Rs.flat (.bool (S x))) hat hpar hk hco hgen (fun _ _ h=>h) (fun y hy=>by rw [qAi.mp hy];exact .inl hpk) (by decide) (by decide) rfl rfl rfl hA st tk ra (fun env A' s' Q' F hA' hQ=>?_) h
  clear h hpar
  rw [heq]
  clear heq
  obtain⟨bb,hbb⟩:=gx (b1Of d.body)
  rw [hbb] at hbody⊢
  clear hbb
  obtain⟨bo,bx,by_,q1,q2,q3,q4,q5,q6⟩:=bb
  simp only [B1.ok,qAw] at hbody
  obtain⟨⟨h1,h2⟩,h3⟩:=hbody
  obtain⟨rfl,g2,g3⟩:=isGlob_of h1
  obtain⟨v1,v2,v3⟩:=isVar_of h2
  obtain⟨rfl,y2,y3⟩:=isGlob_of h3
  have FE:=F.toE
  obtain⟨v,hv,hr⟩:=FE.vars 0 _ _ _ rfl v1 v2
  unfold RdT at hr
  rw [Rd] at hr
  obtain⟨_,u,rfl⟩:=hr
  refine wpAny_execs_cons (wpAny_Return_some (wpAny_Compare1 (Call_ (ld_blt FE.ok FE.st g2 g3 hord.1 hord.2 (callWith_builtin1 (args_cons (ld_var FE.ok v3 hv (args_nil ?_)))))) (by rfl)))
  show wpAny _ _ (call (.builtin "ord") [.str ⟨#[x]⟩ u]) _ _ _
  refine P.ord_of_char ?_
  have kt:KQ q s' { s' with toks:=s'.toks+1 }:=KQ.tok (qAj _)
  refine ld_glob (s:={ s' with toks:=s'.toks+1 }) FE.ok FE.st y2 y3 hset ?_
  refine wpAny_inSet_of (knd:=intKind prog w) (k:=(x:Int)) (by simp [intKind,qDi]) rfl (hS _ FE.st.ex) ?_
  refine hQ No _ _ (F.base.trans (KQ.tok (qA9 (qAj _) (qAj _)))) ?_ (fun z=>nomatch z)
  unfold RdT
  show Rd _ _ _ _ (.bool (S x)) _
  rw [Rd]
end
noncomputable def lowA (c:Nat):Nat:=if 65≤c∧c≤90 then c+32 else c
theorem lower_ascii:∀c:Nat,c<128→Txt.lower (mk [c])=mk [lowA c]:=by
 intro c hc
 have h:∀c:Fin 128,Txt.lower (mk [c.val])=mk [lowA c.val]:=by decide +kernel
 exact h ⟨c,hc⟩
noncomputable def foldT (tb:Nat→Option (List Nat))(c:Nat):Option (List Nat):=match tb c with
 |some y=>some y
 |none=>if c<128 then some [lowA c] else none
structure B3 where
 (r g o x y n1 n2:Str)
 (t e1:qA2)
 (p1 p2 ap p3 p4 p5 p6 p7 p8 p9 p10 ap2 p11 p12:Pos)
noncomputable def B3.body (b:B3):List Stmt:=[.Assign [.Name b.r b.p1] (.Call (.Attribute (.Name b.g b.p2) b.n1 b.ap) [.Call (.Name b.o b.p3) [.Name b.x b.p4] [] b.p5] [] b.p6) b.p7,.If b.t [.Return (some b.e1) b.p8] [] b.p9,.Return (some (.Call (.Attribute (.Name b.y b.p10) b.n2 b.ap2) [] [] b.p11)) b.p12]
noncomputable def B3.ok (kd:Kinds)(b:B3):Bool:=
 isVar ["code", "r"] kd 1 b.r&&isGlob kd b.g "b3_exceptions" && b.n1==("get" : Str)&&b.ap.endLine==b.p6.line&&isGlob kd b.o "ord" && isVar ["code", "r"] kd 0 b.x&&isVar ["code", "r"] kd 0 b.y&&b.n2==("lower" : Str)&&b.ap2.endLine==b.p11.line
noncomputable def eAtt (e:qA2):qA2×Str×Pos:=((exP e).2.1,(exP e).2.2.2.1,(exP e).1)
noncomputable def b3Of (l:List Stmt):B3:=
 let a:=sAsg (l.getD 0 gs)
 let c:=eCall a.2.1
 let m:=eAtt c.1
 let c2:=eCall (c.2.1.getD 0 gxE)
 let i:=sIf (l.getD 1 gs)
 let r1:=sRet (i.2.1.getD 0 gs)
 let r2:=sRet (l.getD 2 gs)
 let c3:=eCall (r2.1.getD gxE)
 let m3:=eAtt c3.1
 ⟨(gNm a.1 0).1,(eName m.1).1,(eName c2.1).1,(gNm c2.2.1 0).1,(eName m3.1).1,m.2.1,m3.2.1,i.1,r1.1.getD gxE,
  (gNm a.1 0).2,(eName m.1).2,m.2.2,(eName c2.1).2,(gNm c2.2.1 0).2,c2.2.2,c.2.2,a.2.2,r1.2,i.2.2.2,(eName m3.1).2,m3.2.2,c3.2.2,r2.2⟩
section
variable {prog:Program}{w:World}{c:Nm}{k:Nat}
theorem fn_b3 {f:Nat}{d:DefS}{aD:Addr}{F3:Int→Option Value}{tb:Nat→Option (List Nat)}(hat:∀h,c.ex h→DefAt h (c.fa f) d)
  (hpar:∀pm cd doc vals,vals.length=1→bindArgs (qD0 d.name d.params d.body d.scope pm cd doc) ⟨vals,[]⟩=pure ([("code" : Str)].zip vals))
  (hk:d.scope.kind=.function) (hco:d.scope.isCoroutine=false) (hgen:d.scope.isGenerator=false) (hpk:d.scope.names.lookup ("code" : Str)=some .local)
  (heq:d.body=(b3Of d.body).body) (hbody:(b3Of d.body).ok d.scope.names=true) (h7:GT prog w c Φ0 0 ["code", "r"] d.scope.names (.cmp .isnot (.var 1) .none) (b3Of d.body).t) (h11:GE prog w c Φ0 0 ["code", "r"] d.scope.names (.var 1) (b3Of d.body).e1) (hord:c.mg "ord" = none∧c.mb "ord" = some (.builtin "ord")) (hset:c.mg "b3_exceptions" = some (.ref aD)) (hds:(aD==sysModules)=false) (hM:∀h,c.ex h→h.MapOf (intKind prog w) aD F3)
  (htb:∀x,(tb x=none∧F3 (x:Int)=none)∨∃y t,tb x=some y∧y.length≤SZ∧F3 (x:Int)=some (.str (mk y) t)) :
  FnOk prog w c (k+1) f (fun _ args=>match args with|[.str [x]]=>(foldT tb x).map D.str|_=>none):=by
 intro q args dd hr A s vs hA st tk ra Q h
 obtain⟨x,rfl,hr⟩:=one_inv (F:=fun x=>(foldT tb x).map D.str) hr
 ·obtain⟨y,hy,rfl⟩:=qBm.mp hr
  refine call_walk (q:=q) (k:=k) (f:=f) (d:=d) (ps:=["code"]) (nm:=["code", "r"]) (rr:=Rs.flat (.str y)) hat hpar hk hco hgen (fun i z h=>by cases i with|zero=>exact h|succ i=>simp at h) (fun y hy=>by rw [qAi.mp hy];exact .inl hpk) (by decide) (by decide) rfl rfl rfl hA st tk ra (fun env A' s' Q' F hA' hQ=>?_) h
  clear h hpar
  rw [heq]
  clear heq
  obtain⟨bb,hbb⟩:=gx (b3Of d.body)
  rw [hbb] at hbody h7 h11⊢
  clear hbb
  obtain⟨br,bg,bo,bx,by_,bn1,bn2,bt,be,q1,q2,q3,q4,q5,q6,q7,q8,q9,q10,q11,q12,q13,q14⟩:=bb
  replace h7:GT prog w c Φ0 0 ["code", "r"] d.scope.names (.cmp .isnot (.var 1) .none) bt:=h7
  replace h11:GE prog w c Φ0 0 ["code", "r"] d.scope.names (.var 1) be:=h11
  simp only [B3.ok,qAw,beq_iff_eq] at hbody
  obtain rfl:=hbody.1.1.1.1.1.1.2
  obtain rfl:=hbody.1.2
  obtain rfl:=(isGlob_of hbody.1.1.1.1.1.1.1.2).1
  obtain rfl:=(isGlob_of hbody.1.1.1.1.2).1
  refine hid fun G hG=>?_
  obtain⟨⟨⟨⟨⟨⟨⟨⟨h1,h2⟩,_⟩,h4⟩,h5⟩,h6⟩,h8⟩,_⟩,h10⟩:=hbody
  obtain⟨r1,r2,r3⟩:=isVar_of h1
  obtain⟨_,g2,g3⟩:=isGlob_of h2
  obtain⟨_,o2,o3⟩:=isGlob_of h5
  obtain⟨v1,v2,v3⟩:=isVar_of h6
  obtain⟨y1,y2,y3⟩:=isVar_of h8
  have FE:=F.toE
  obtain⟨v,hv,hr⟩:=FE.vars 0 _ _ _ rfl v1 v2
  unfold RdT at hr
  rw [Rd] at hr
  obtain⟨_,u,rfl⟩:=hr
  refine hG ?_
  refine wpAny_execs_cons (wpAny_Assign_Name ?_ (swaps_none rfl))
  refine wpAny_Call_method_lateS (base_eq rfl) (by rfl) (by simpa using h4) (ld_glob FE.ok FE.st g2 g3 hset ?_)
  have hm:=hM _ FE.st.ex
  refine⟨"dict", "dict.get", PySem.F.plainAttrs_dict,PySem.F.slot_dict_get,PySem.F.type_dict_get,hm.typeIs,hm.noDict,?_⟩
  refine wpAny_dict_get1 (knd:=intKind prog w) hds ?_
  refine Call_ (ld_blt FE.ok FE.st o2 o3 hord.1 hord.2 (callWith_builtin1 (args_cons (ld_var FE.ok v3 hv (args_nil ?_)))))
  show wpAny _ _ (call (.builtin "ord") [.str ⟨#[x]⟩ u]) _ _ _
  refine P.ord_of_char ⟨(x:Int),F3,by simp [intKind,qDi],hm,?_⟩
  have kt:KQ q s' { s' with toks:=s'.toks+1+1 }:=KQ.tok (qA9 (qAj _) (qAj _))
  have hA0:AOk 0 A':=hA'.le (qBr _)
  rcases htb x with⟨t1,t2⟩|⟨y',t,t1,hsz,t2⟩
  ·have hy':x<128∧y=[lowA x]:=by
    simp only [foldT,t1] at hy
    split at hy
    ·rename_i hlt;cases hy;exact⟨hlt,rfl⟩
    ·cases hy
   obtain⟨hlt,rfl⟩:=hy'
   rw [t2]
   refine wpAny_mono (store_ok F kt r1 r2 (r:=Rs.flat .none) (ρ':=[some (.str [x],.val Tg.z),some (.none,.val Tg.z)]) rfl (by unfold RdT;show Rd _ _ _ _ .none _;rw [Rd];rfl) (fun z=>nomatch z) fun φ' s7 F7 S7=>?_) (fun _ _ z=>z) fun _ _ z=>z.elim
   refine wpAny_execs_cons (wpAny_If (wpAny_mono (h7 (b:=false) (by rfl) (q:=q) F7.toE hA0 fun s8 k8=>?_) (fun _ _ z=>z) fun _ _ z=>z))
   rw [if_neg qAr]
   refine wpAny_execs_nil ?_
   have F8:=F7.next k8
   refine hid fun G hG=>?_
   obtain⟨v,hv,hr⟩:=F8.toE.vars 0 _ _ _ rfl y1 y2
   unfold RdT at hr
   rw [Rd] at hr
   obtain⟨_,u,rfl⟩:=hr
   refine hG ?_
   refine wpAny_execs_cons (wpAny_Return_some (wpAny_Call_method_lateS (base_eq rfl) (by rfl) (by simpa using h10) (ld_var F8.es.ok y3 hv ?_)))
   refine⟨"str", "str.lower", qEy,PySem.F.slot_str_lower,PySem.F.type_str_lower,typeIs_str _ _ _,fun a e=>(nomatch e),?_⟩
   refine callWith_method0 (SC.lower ?_ ?_)
   ·rw [lower_ascii x hlt];rfl
   ·rw [lower_ascii x hlt]
    refine hQ No _ _ (F8.base.trans (KQ.tok (qAj _))) ?_ (fun z=>nomatch z)
    unfold RdT
    show Rd _ _ _ _ (.str [lowA x]) _
    rw [Rd]
    exact⟨by unfold SZ;simp,_,rfl⟩
  ·have hy':y'=y:=by
    simp only [foldT,t1,qD1] at hy
    exact hy
   subst hy'
   rw [t2]
   refine wpAny_mono (store_ok F kt r1 r2 (r:=Rs.flat (.str y')) (ρ':=[some (.str [x],.val Tg.z),some (.str y',.val Tg.z)]) rfl (by unfold RdT;show Rd _ _ _ _ (.str y') _;rw [Rd];exact⟨hsz,_,rfl⟩) (fun z=>nomatch z) fun φ' s7 F7 S7=>?_) (fun _ _ z=>z) fun _ _ z=>z.elim
   refine wpAny_execs_cons (wpAny_If (wpAny_mono (h7 (b:=true) (by rfl) (q:=q) F7.toE hA0 fun s8 k8=>?_) (fun _ _ z=>z) fun _ _ z=>z))
   rw [if_pos rfl]
   have F8:=F7.next k8
   refine wpAny_execs_cons (wpAny_Return_some (h11 (r:=Rs.flat (.str y')) (by rfl) (q:=q) F8.toE hA0 fun u s9 k9 rd9 f9=>?_))
   exact hQ _ _ _ (F8.base.trans k9) rd9 (fun z=>nomatch z)
end
end Mine
end

section
set_option maxRecDepth 10000
namespace Mine
open PySem PyProof.Rows PySem.SeqAt PySem.W
theorem int_of_has {R:WRecords}{d:WData}(h:qHn R d .int=true):∃i,d=.int i:=by
 cases d with
 |int i=>exact⟨i,rfl⟩
 |_=>exact qFe (qAz (by kernel_rfl:false=_) h)
theorem ints_of_has {R:WRecords}:∀{xs:List WData},qGu R xs .int=true→∃ns:List Int,xs=ns.map .int
 |[],_=>⟨[],rfl⟩
 |d::xs,h=>by
  obtain⟨h1,h2⟩:=qAl.mp (show (qHn R d .int&&qGu R xs .int)=true from qAz (by kernel_rfl) h)
  obtain⟨i,rfl⟩:=int_of_has h1
  obtain⟨ns,rfl⟩:=ints_of_has h2
  exact⟨i::ns,rfl⟩
theorem list_of_has {R:WRecords}{d:WData}(h:qHn R d (.list .int)=true):∃ns:List Int,d=.list (ns.map .int):=by
 cases d with
 |list xs=>
  obtain⟨ns,rfl⟩:=ints_of_has (qAz (qFh _).symm (show (qGu R xs .int || false)=true from qAz (by kernel_rfl) h))
  exact⟨ns,rfl⟩
 |_=>exact qFe (qAz (by kernel_rfl:false=_) h)
theorem args_ints {R:WRecords}{args:List WData}(h:WShape.hasAll R args [.list .int]=true):∃ns:List Int,args=[.list (ns.map .int)]:=by
 cases args with
 |nil=>exact qFe (qAz (by kernel_rfl:false=_) h)
 |cons d r=>
  obtain⟨h1,h2⟩:=qAl.mp (show (qHn R d (.list .int)&&WShape.hasAll R r [])=true from qAz (by kernel_rfl) h)
  obtain⟨ns,rfl⟩:=list_of_has h1
  cases r with
  |nil=>exact⟨ns,rfl⟩
  |cons e r=>exact qFe (qAz (by kernel_rfl:false=_) h2)
theorem rds_of_ints {R:WRecords}{cl:Str→Option Addr}{h:Heap}{T:Nat}{X:Addr→Prop}:∀{ns:List Int} {vs:List Value} {as:List Addr},ReadsAllW R cl h vs (ns.map .int) as→Rds h T X (ns.map .int) vs
 |[],_,_,r=>by
  cases r
  simp only [qDe]
  rw [Rds]
 |n::ns,_,_,r=>by
  simp only [qAh] at r⊢
  cases r with
  |cons r1 r2=>
   cases r1
   rw [Rds]
   exact⟨_,_,rfl,by rw [Rd];exact⟨_,rfl⟩,rds_of_ints r2⟩
end Mine
end

section
open PySem PyProof.Rows PySem.SeqAt PySem.W
namespace Mine
set_option maxRecDepth 100000
noncomputable def p1_strip_quoted_realnames:PSs:=
 (.cons (.if_ (.cmp .notin (.str [34]) (.var 0)) (.cons (.ret (.var 0))
   .nil) .nil)
 (.cons (.asg 1 (.int 0))
 (.cons (.asg 2 .none)
 (.cons (.asg 3 (.list .nil))
 (.cons (.forG 4 5 (.var 0) (.cons (.if_ (.cmp .eq (.var 5) (.str [34])) (.cons (.if_ (.cmp .is (.var 2) .none) (.cons (.asg 2 (.var 4))
       .nil) (.cons (.if_ (.cmp .ne (.var 1) (.var 2)) (.cons (.app 3 (.slice (.var 0) (.some (.var 1)) (.some (.var 2))))
         .nil) .nil)
       (.cons (.asg 1 (.bin .add (.var 4) (.int 1)))
       (.cons (.asg 2 .none)
       .nil))))
     .nil) .nil)
   .nil))
 (.cons (.if_ (.cmp .lt (.var 1) (.bi .len (.cons (.var 0) .nil))) (.cons (.app 3 (.slice (.var 0) (.some (.var 1)) .no))
   .nil) .nil)
 (.cons (.ret (.meth .join (.str []) (.cons (.var 3) .nil)))
 .nil)))))))
noncomputable def p1_strip_quoted_realnames_nm:List Str:=["addr", "start", "open_pos", "result", "pos", "ch"]
noncomputable def p1_check_parenthesis:PSs:=
 (.cons (.asg 0 (.call 2 (.cons (.var 0) .nil)))
 (.cons (.asg 1 (.int 0))
 (.cons (.forG 2 3 (.var 0) (.cons (.if_ (.cmp .eq (.var 3) (.str [40])) (.cons (.aug 1 .add (.int 1))
     .nil) (.cons (.if_ (.cmp .eq (.var 3) (.str [41])) (.cons (.aug 1 .sub (.int 1))
       (.cons (.if_ (.cmp .lt (.var 1) (.int 0)) (.cons (.ret (.bool false))
         .nil) .nil)
       .nil)) .nil)
     .nil))
   .nil))
 (.cons (.ret (.cmp .eq (.var 1) (.int 0)))
 .nil))))
noncomputable def p1_check_parenthesis_nm:List Str:=["addr", "opens", "pos", "ch"]
noncomputable def p1_ellipsis_match:PSs:=
 (.cons (.if_ (.cmp .notin (.gstr [46,46,46]) (.var 0)) (.cons (.ret (.cmp .eq (.var 0) (.var 1)))
   .nil) .nil)
 (.cons (.asg 2 (.meth .split (.var 0) (.cons (.gstr [46,46,46]) .nil)))
 (.cons (.assert_ (.cmp .ge (.bi .len (.cons (.var 2) .nil)) (.int 2)))
 (.cons (.asg2 3 4 (.int 0) (.bi .len (.cons (.var 1) .nil)))
 (.cons (.asg 5 (.idx (.var 2) (.int 0)))
 (.cons (.if_ (.val (.var 5)) (.cons (.if_ (.val (.meth .startswith (.var 1) (.cons (.var 5) .nil))) (.cons (.asg 3 (.bi .len (.cons (.var 5) .nil)))
     (.cons (.del 2 false)
     .nil)) (.cons (.ret (.bool false))
     .nil))
   .nil) .nil)
 (.cons (.asg 5 (.idx (.var 2) (.neg (.int 1))))
 (.cons (.if_ (.val (.var 5)) (.cons (.if_ (.val (.meth .endswith (.var 1) (.cons (.var 5) .nil))) (.cons (.aug 4 .sub (.bi .len (.cons (.var 5) .nil)))
     (.cons (.del 2 true)
     .nil)) (.cons (.ret (.bool false))
     .nil))
   .nil) .nil)
 (.cons (.if_ (.cmp .gt (.var 3) (.var 4)) (.cons (.ret (.bool false))
   .nil) .nil)
 (.cons (.for_ 5 (.val (.var 2)) (.cons (.asg 3 (.meth .find3 (.var 1) (.cons (.var 5) (.cons (.var 3) (.cons (.var 4) .nil)))))
   (.cons (.if_ (.cmp .lt (.var 3) (.int 0)) (.cons (.ret (.bool false))
     .nil) .nil)
   (.cons (.aug 3 .add (.bi .len (.cons (.var 5) .nil)))
   .nil))))
 (.cons (.ret (.bool true))
 .nil)))))))))))
noncomputable def p1_ellipsis_match_nm:List Str:=["want", "got", "ws", "startpos", "endpos", "w"]
noncomputable def p1_law_spelled:PSs:=
 (.cons (.asg 2 (.list (.cons (.int 173) (.cons (.int 847) (.cons (.int 6150) (.cons (.int 6155) (.cons (.int 6156) (.cons (.int 6157) (.cons (.int 8203) (.cons (.int 8204) (.cons (.int 8205) (.cons (.int 8288) (.cons (.int 65279) .nil)))))))))))))
 (.cons (.asg 3 (.str []))
 (.cons (.if_ (.cmp .eq (.bin .mod (.bin .fdiv (.var 1) (.int 14)) (.int 2)) (.int 1)) (.cons (.asg 4 (.bin .mod (.bin .fdiv (.var 1) (.int 28)) (.int 27)))
   (.cons (.asg 3 (.bi .chr (.cons (.ife (.cmp .lt (.var 4) (.int 16)) (.bin .add (.int 65024) (.var 4)) (.idx (.var 2) (.bin .sub (.var 4) (.int 16)))) .nil)))
   .nil)) .nil)
 (.cons (.if_ (.cmp .eq (.bin .mod (.var 1) (.int 2)) (.int 0)) (.cons (.ret (.bin .add (.var 3) (.bi .chr (.cons (.bin .add (.int 97) (.var 0)) .nil))))
   .nil) .nil)
 (.cons (.if_ (.cmp .eq (.bin .mod (.bin .fdiv (.var 1) (.int 2)) (.int 7)) (.int 0)) (.cons (.ret (.bin .add (.var 3) (.bi .chr (.cons (.bin .add (.int 65) (.var 0)) .nil))))
   .nil) .nil)
 (.cons (.ret (.bin .add (.var 3) (.bi .chr (.cons (.bin .add (.bin .add (.int 120120) (.bin .mul (.int 52) (.bin .mod (.bin .fdiv (.var 1) (.int 2)) (.int 7)))) (.var 0)) .nil))))
 .nil))))))
noncomputable def p1_law_spelled_nm:List Str:=["name", "form", "unseen", "text", "sort"]
noncomputable def p1_law_read:PSs:=
 (.cons (.asg 1 (.str []))
 (.cons (.asg 2 (.list .nil))
 (.cons (.for_ 3 (.val (.var 0)) (.cons (.asg 4 (.call 0 (.cons (.var 3) .nil)))
   (.cons (.if_ (.cmp .is (.var 4) (.bool false)) (.cons (.asg 5 (.call 1 (.cons (.var 3) .nil)))
     (.cons (.aug 1 .add (.var 5))
     (.cons (.app 2 (.cmp .ne (.var 5) (.var 3)))
     .nil))) (.cons (.if_ (.cmp .isnot (.var 4) (.bool true)) (.cons (.aug 1 .add (.str [63]))
       .nil) .nil)
     .nil))
   .nil)))
 (.cons (.ret (.list (.cons (.var 1) (.cons (.var 2) .nil))))
 .nil))))
noncomputable def p1_law_read_nm:List Str:=["text", "letters", "great", "sign", "held", "told"]
noncomputable def p1_law_by_mail:PSs:=
 (.cons (.asg 4 (.list .nil))
 (.cons (.for_ 5 (.range1 (.bi .len (.cons (.var 0) .nil))) (.cons (.if_ (.cmp .eq (.idx (.var 0) (.var 5)) (.var 2)) (.cons (.app 4 (.str [34]))
     .nil) (.cons (.if_ (.cmp .eq (.idx (.var 0) (.var 5)) (.var 3)) (.cons (.app 4 (.ife (.cmp .in_ (.var 3) (.slice (.var 0) .no (.some (.var 5)))) (.str [41]) (.str [40])))
       .nil) (.cons (.app 4 (.bin .add (.str [92]) (.idx (.str [34,40,41,92]) (.bin .mod (.var 5) (.int 4)))))
       .nil))
     .nil))
   .nil))
 (.cons (.asg 6 (.meth .join (.str []) (.cons (.var 4) .nil)))
 (.cons (.asg 7 (.repl (.repl (.repl (.var 6) [40] (.str [60])) [41] (.str [40])) [60] (.str [41])))
 (.cons (.asg 8 (.meth .join (.str []) (.cons (.slice (.var 4) (.some (.bin .add (.meth .find (.var 0) (.cons (.var 2) .nil)) (.int 1))) (.some (.meth .rfind (.var 0) (.cons (.var 2) .nil)))) .nil)))
 (.cons (.ret (.list (.cons (.call 3 (.cons (.bin .add (.var 6) (.var 1)) .nil)) (.cons (.call 3 (.cons (.bin .add (.str [40,34,41,34,93,62,41]) (.var 7)) .nil)) (.cons (.call 3 (.cons (.bin .add (.var 8) (.str [92])) .nil)) .nil)))))
 .nil))))))
noncomputable def p1_law_by_mail_nm:List Str:=["letters", "nest", "x", "y", "parts", "place", "text", "turned", "between"]
noncomputable def p1_law_by_dots:PSs:=
 (.cons (.asg 3 (.meth .find (.var 0) (.cons (.var 1) .nil)))
 (.cons (.asg 4 (.bin .add (.slice (.var 0) (.some (.var 3)) .no) (.slice (.var 0) .no (.some (.bin .add (.var 3) (.int 1))))))
 (.cons (.asg 5 (.slice (.var 0) (.some (.var 3)) (.some (.bin .add (.meth .rfind (.var 0) (.cons (.var 1) .nil)) (.int 1)))))
 (.cons (.ret (.list (.cons (.call 4 (.cons (.meth .join (.str [46,46,46]) (.cons (.list (.cons (.var 1) (.cons (.var 2) (.cons (.var 1) (.cons (.var 2) (.cons (.var 1) .nil)))))) .nil)) (.cons (.var 4) .nil))) (.cons (.call 4 (.cons (.meth .join (.str [46,46,46]) (.cons (.list (.cons (.var 1) (.cons (.var 2) (.cons (.var 2) (.cons (.var 1) .nil))))) .nil)) (.cons (.var 5) .nil))) .nil))))
 .nil))))
noncomputable def p1_law_by_dots_nm:List Str:=["letters", "x", "y", "first", "ring", "stretch"]
noncomputable def p1_law_ways:PSs:=
 (.cons (.asg 2 (.bin .mul (.int 2) (.bi .len (.cons (.var 0) .nil))))
 (.cons (.asg 3 (.list .nil))
 (.cons (.for_ 4 (.range1 (.bi .len (.cons (.var 0) .nil))) (.cons (.asg 5 (.bin .sub (.bin .add (.meth .find (.var 0) (.cons (.idx (.var 0) (.var 4)) .nil)) (.meth .rfind (.var 0) (.cons (.idx (.var 0) (.var 4)) .nil))) (.var 4)))
   (.cons (.if_ (.cmp .ne (.idx (.var 1) (.var 4)) (.idx (.var 1) (.var 5))) (.cons (.aug 3 .add (.list (.cons (.bin .mul (.int 2) (.var 5)) (.cons (.bin .add (.bin .mul (.int 2) (.var 5)) (.int 1)) .nil))))
     .nil) (.cons (.if_ (.val (.idx (.var 1) (.var 4))) (.cons (.aug 3 .add (.list (.cons (.bin .add (.bin .mul (.int 2) (.var 5)) (.int 1)) (.cons (.bin .mul (.int 2) (.var 5)) .nil))))
       .nil) (.cons (.aug 3 .add (.list (.cons (.bin .add (.bin .mul (.int 2) (.var 4)) (.int 1)) (.cons (.bin .mul (.int 2) (.var 4)) .nil))))
       .nil))
     .nil))
   .nil)))
 (.cons (.asg 6 (.int 0))
 (.cons (.asg 7 (.list .nil))
 (.cons (.for_ 8 (.range1 (.var 2)) (.cons (.if_ (.cmp .notin (.var 8) (.var 7)) (.cons (.aug 6 .add (.int 1))
     (.cons (.asg 9 (.var 8))
     (.cons (.while_ (.cmp .notin (.var 9) (.var 7)) (.cons (.aug 7 .add (.list (.cons (.var 9) (.cons (.idx (.var 3) (.var 9)) .nil))))
       (.cons (.asg 9 (.bin .mod (.bin .add (.idx (.var 3) (.var 9)) (.ife (.val (.bin .mod (.idx (.var 3) (.var 9)) (.int 2))) (.int 1) (.neg (.int 1)))) (.var 2)))
       .nil)))
     .nil))) .nil)
   .nil))
 (.cons (.ret (.var 6))
 .nil)))))))
noncomputable def p1_law_ways_nm:List Str:=["letters", "great", "size", "turn", "place", "other", "ways", "seen", "start", "side"]
noncomputable def p1_law_lack:PSs:=
 (.cons (.asg 3 (.list .nil))
 (.cons (.for_ 4 (.val (.var 0)) (.cons (.asg 5 (.int 0))
   (.cons (.for_ 6 (.val (.var 0)) (.cons (.asg 5 (.bin .add (.bin .mul (.int 2) (.var 5)) (.ife (.cmp .eq (.var 4) (.var 6)) (.cmp .in_ (.var 4) (.var 1)) (.cmp .in_ (.bin .add (.var 4) (.var 6)) (.var 2)))))
     .nil))
   (.cons (.for_ 7 (.val (.var 3)) (.cons (.asg 5 (.bi .min (.cons (.var 5) (.cons (.bin .xor (.var 5) (.var 7)) .nil))))
     .nil))
   (.cons (.if_ (.val (.var 5)) (.cons (.app 3 (.var 5))
     .nil) .nil)
   .nil)))))
 (.cons (.ret (.bin .sub (.bi .len (.cons (.var 0) .nil)) (.bi .len (.cons (.var 3) .nil))))
 .nil)))
noncomputable def p1_law_lack_nm:List Str:=["taken", "unlike", "crossing", "basis", "x", "bits", "y", "one"]
noncomputable def p1law:PSs:=
 (.cons (.asg 1 (.comp (.bin .mod (.var 2) (.int 65536)) 2 (.val (.slice (.var 0) .no (.some (.int 10)))) .no))
 (.cons (.aug 1 .add (.slice (.list (.cons (.int 579) (.cons (.int 29) (.cons (.int 1) (.cons (.int 399) (.cons (.int 66) (.cons (.int 8) .nil))))))) (.some (.bi .len (.cons (.var 1) .nil))) .no))
 (.cons (.asg 3 (.list .nil))
 (.cons (.for_ 4 (.range1 (.bin .mul (.bin .fdiv (.bi .len (.cons (.var 1) .nil)) (.int 2)) (.int 2))) (.cons (.ins 3 (.bin .mod (.idx (.var 1) (.var 4)) (.bin .add (.var 4) (.int 1))) (.list (.cons (.bin .fdiv (.var 4) (.int 2)) (.cons (.bin .fdiv (.idx (.var 1) (.var 4)) (.bin .add (.var 4) (.int 1))) .nil))))
   .nil))
 (.cons (.unpack [5,6] (.call 6 (.cons (.meth .join (.str []) (.cons (.comp (.call 5 (.cons (.idx (.var 7) (.int 0)) (.cons (.idx (.var 7) (.int 1)) .nil))) 7 (.val (.var 3)) .no) .nil)) .nil)))
 (.cons (.if_ (.cmp .ne (.var 5) (.meth .join (.str []) (.cons (.comp (.bi .chr (.cons (.bin .add (.int 97) (.idx (.var 7) (.int 0))) .nil)) 7 (.val (.var 3)) .no) .nil))) (.cons (.ret (.bool false))
   .nil) .nil)
 (.cons (.asg 8 (.slice (.str [97,98,99,100,101]) .no (.some (.bin .fdiv (.bi .len (.cons (.var 3) .nil)) (.int 2)))))
 (.cons (.asg 9 (.meth .join (.str []) (.cons (.comp (.ife (.cmp .in_ (.idx (.var 5) (.var 10)) (.slice (.var 5) .no (.some (.var 10)))) (.str [41]) (.str [40])) 10 (.range1 (.bi .len (.cons (.var 5) .nil))) .no) .nil)))
 (.cons (.asg 9 (.bin .add (.bin .add (.slice (.var 9) .no (.some (.bi .len (.cons (.var 8) .nil)))) (.str [34,44,91,60])) (.slice (.var 9) (.some (.bi .len (.cons (.var 8) .nil))) .no)))
 (.cons (.asg 11 (.list .nil))
 (.cons (.asg 12 (.list .nil))
 (.cons (.asg 13 (.list .nil))
 (.cons (.asg 14 (.list .nil))
 (.cons (.for_ 15 (.val (.var 8)) (.cons (.asg 16 (.slice (.var 5) (.some (.meth .find (.var 5) (.cons (.var 15) .nil))) (.some (.bin .add (.meth .rfind (.var 5) (.cons (.var 15) .nil)) (.int 1)))))
   (.cons (.for_ 17 (.val (.list (.cons (.slice (.var 16) (.some (.int 1)) .no) (.cons (.slice (.var 16) .no (.some (.neg (.int 1)))) .nil)))) (.cons (.aug 11 .add (.list (.cons (.call 4 (.cons (.var 15) (.cons (.var 17) .nil))) (.cons (.call 4 (.cons (.bin .add (.bin .add (.var 15) (.str [46,46,46])) (.var 15)) (.cons (.var 17) .nil))) .nil))))
     (.cons (.aug 12 .add (.list (.cons (.cmp .eq (.var 17) (.var 15)) (.cons (.bool false) .nil))))
     .nil)))
   (.cons (.for_ 2 (.val (.slice (.var 8) .no (.some (.meth .find (.var 8) (.cons (.var 15) .nil))))) (.cons (.unpack [18,19,20] (.call 7 (.cons (.var 5) (.cons (.var 9) (.cons (.var 2) (.cons (.var 15) .nil))))))
     (.cons (.unpack [21,22] (.call 8 (.cons (.var 5) (.cons (.var 2) (.cons (.var 15) .nil)))))
     (.cons (.aug 11 .add (.list (.cons (.var 19) (.cons (.var 20) (.cons (.var 21) .nil)))))
     (.cons (.aug 12 .add (.list (.cons (.var 22) (.cons (.var 18) (.cons (.var 21) .nil)))))
     (.cons (.if_ (.not (.val (.var 18))) (.cons (.aug 13 .add (.list (.cons (.bin .add (.var 2) (.var 15)) (.cons (.bin .add (.var 15) (.var 2)) .nil))))
       .nil) .nil)
     (.cons (.if_ (.val (.var 21)) (.cons (.aug 14 .add (.list (.cons (.bin .add (.var 2) (.var 15)) (.cons (.bin .add (.var 15) (.var 2)) .nil))))
       .nil) .nil)
     .nil)))))))
   .nil))))
 (.cons (.if_ (.or (.cmp .ne (.var 11) (.var 12)) (.val (.comp (.var 23) 23 (.val (.bin .add (.var 11) (.var 12))) (.some (.and (.cmp .isnot (.var 23) (.bool true)) (.cmp .isnot (.var 23) (.bool false))))))) (.cons (.ret (.bool false))
   .nil) .nil)
 (.cons (.asg 24 (.comp (.var 2) 2 (.val (.var 8)) (.some (.or (.val (.idx (.var 6) (.meth .find (.var 5) (.cons (.var 2) .nil)))) (.val (.idx (.var 6) (.meth .rfind (.var 5) (.cons (.var 2) .nil))))))))
 (.cons (.asg 25 (.comp (.var 2) 2 (.val (.var 24)) (.some (.cmp .ne (.idx (.var 6) (.meth .find (.var 5) (.cons (.var 2) .nil))) (.idx (.var 6) (.meth .rfind (.var 5) (.cons (.var 2) .nil)))))))
 (.cons (.asg 26 (.call 9 (.cons (.var 5) (.cons (.var 6) .nil))))
 (.cons (.ret (.cmp .eq (.comp (.bin .add (.call 10 (.cons (.var 24) (.cons (.var 25) (.cons (.var 27) .nil)))) (.int 1)) 27 (.val (.list (.cons (.var 13) (.cons (.var 14) .nil)))) .no) (.list (.cons (.var 26) (.cons (.var 26) .nil)))))
 .nil)))))))))))))))))))
noncomputable def p1law_nm:List Str:=["script", "given", "x", "row", "turn", "letters", "great", "end", "names", "nest", "k", "told", "due", "by_mail", "by_dots", "y", "stretch", "part", "closes", "hidden", "between", "met", "within", "one", "taken", "unlike", "ways", "crossing"]
noncomputable section
noncomputable def fnNames:List Str:=["in_table_b1", "map_table_b3", "_strip_quoted_realnames", "_check_parenthesis", "_ellipsis_match", "_law_spelled", "_law_read", "_law_by_mail", "_law_by_dots", "_law_ways", "_law_lack", "law"]
noncomputable def fnIdx:List Nat:=[9,11,2,3,6,13,14,15,16,17,18,19]
noncomputable def dS (i:Nat):DefS:=⟨(defAt i).name,(defAt i).params,(defAt i).body,(defAt i).scope⟩
noncomputable def faOf (mg:Str→Option Value)(f:Nat):Addr:=match fnNames[f]? with
 |some x=>(match mg x with|some (.ref a)=>a|_=>0)
 |none=>0
noncomputable def exC (w:World)(mg:Str→Option Value)(h:Heap):Prop:=(∀i∈1::fnIdx,∃a,mg (dS i).name=some (.ref a)∧DefAt h a (dS i))∧h.get? 50=some (o50_2 w.params)∧h.get? 61=some dMain
noncomputable def cN (w:World)(mg mb:Str→Option Value):Nm:=
 ⟨fnNames,faOf mg,mg,mb,exC w mg,fun _ _ x hk=>⟨fun i hi=>let ⟨a,h1,h2⟩:=x.1 i hi;⟨a,h1,h2.keeps hk⟩,hk _ _ x.2.1,hk _ _ x.2.2⟩⟩
theorem hat {w:World}{mg mb:Str→Option Value}{f i:Nat}(hf:fnNames[f]?=some (dS i).name)(hi:i∈1::fnIdx):∀h,(cN w mg mb).ex h→DefAt h ((cN w mg mb).fa f) (dS i):=fun h x=>by
 obtain⟨a,h1,h2⟩:=x.1 i hi
 show DefAt h (faOf mg f) (dS i)
 unfold faOf
 rw [hf]
 simp only [h1]
 exact h2
end
end Mine
end

section
open PySem PyProof.Rows PySem.SeqAt PySem.W
namespace Mine
set_option maxRecDepth 100000
set_option Elab.async false
noncomputable section
structure MgOk (w:World)(mg mb:Str→Option Value):Prop where
 dots:∃t,mg "ELLIPSIS_MARKER" = some (.str (mk [46,46,46]) t)
 bi:∀b,mg (qA0 (bname b))=none∧mb (qA0 (bname b))=some (.builtin (bname b))
 range:mg "range" = none∧mb "range" = some (.type "range")
 ord:mg "ord" = none∧mb "ord" = some (.builtin "ord")
 enum:mg "enumerate" = none∧mb "enumerate" = some (.type "enumerate")
 b1:mg "b1_set" = some (.ref 50)
 b3:mg "b3_exceptions" = some (.ref 61)
 fns:∃h,exC w mg h
noncomputable def gB:GB:=genOf (dS 1).body
theorem gB_body:(dS 1).body=gB.body:=by kernel_rfl
section
variable {w:World}{mg mb:Str→Option Value}
theorem faOf_eq (M:MgOk w mg mb)(f:Nat)(x:Str)(h:fnNames[f]?=some x)(i:Nat)(hi:i∈1::fnIdx)(hx:x=(dS i).name):mg x=some (.ref (faOf mg f)):=by
 obtain⟨hh,z,_⟩:=M.fns
 obtain⟨a,h1,_⟩:=z i hi
 unfold faOf
 rw [h]
 subst hx
 simp only [h1]
theorem nmOk (M:MgOk w mg mb):NmOk (cN w mg mb):=by
 refine⟨fun f x h=>?_,M.dots,M.bi,M.range⟩
 have h:fnNames[f]?=some x:=h
 have hlt:f<12:=(qAk.mp h).1
 match f,hlt,h with
 |0,_,h=>exact faOf_eq M 0 x h 9 (by decide) (by cases h;kernel_rfl)
 |1,_,h=>exact faOf_eq M 1 x h 11 (by decide) (by cases h;kernel_rfl)
 |2,_,h=>exact faOf_eq M 2 x h 2 (by decide) (by cases h;kernel_rfl)
 |3,_,h=>exact faOf_eq M 3 x h 3 (by decide) (by cases h;kernel_rfl)
 |4,_,h=>exact faOf_eq M 4 x h 6 (by decide) (by cases h;kernel_rfl)
 |5,_,h=>exact faOf_eq M 5 x h 13 (by decide) (by cases h;kernel_rfl)
 |6,_,h=>exact faOf_eq M 6 x h 14 (by decide) (by cases h;kernel_rfl)
 |7,_,h=>exact faOf_eq M 7 x h 15 (by decide) (by cases h;kernel_rfl)
 |8,_,h=>exact faOf_eq M 8 x h 16 (by decide) (by cases h;kernel_rfl)
 |9,_,h=>exact faOf_eq M 9 x h 17 (by decide) (by cases h;kernel_rfl)
 |10,_,h=>exact faOf_eq M 10 x h 18 (by decide) (by cases h;kernel_rfl)
 |11,_,h=>exact faOf_eq M 11 x h 19 (by decide) (by cases h;kernel_rfl)
noncomputable def gOk (M:MgOk w mg mb):GenOk prg w (cN w mg mb) where
 aG:=match mg (dS 1).name with|some (.ref a)=>a|_=>0
 dG:=dS 1
 gb:=gB
 mgv:=by
  obtain⟨hh,z,_⟩:=M.fns
  obtain⟨a,h1,_⟩:=z 1 (by decide)
  show mg "_iter_escaped_chars" = _
  rw [show ("_iter_escaped_chars" : Str)=(dS 1).name by kernel_rfl,h1]
 hat:=fun h x=>by
  obtain⟨a,h1,h2⟩:=x.1 1 (by decide)
  simp only [h1]
  exact h2
 hpar:=fun pm cd doc v=>by kernel_rfl
 kind:=by kernel_rfl
 co:=by kernel_rfl
 gen:=by kernel_rfl
 body:=gB_body
 ok:=by
  have nok:=nmOk M
  refine⟨?_,?_,?_,?_,?_,?_,?_,?_,?_,?_,?_,?_,?_,?_,?_,?_,?_,?_⟩<;>first
   |exact⟨_,_,rfl⟩
   |(repeat' first
    |kernel_rfl
    |(first
     |exact gss_nil|exact ge_none|exact ge_bool|apply ge_int|exact go_no|exact gl_nil'|exact gto_no|exact StrsE.nil
     |apply gss_cons|apply gs_asgc|apply gs_asg|apply gs_asg2|apply gs_unpack|apply gs_aug
     |apply gs_app|apply gs_ins|apply gs_dell|apply gs_delf|apply gs_if|apply gs_forv|apply gs_for
     |apply gs_forG gok (by lia)|apply gs_while|apply gs_ret|apply gs_assert
     |apply jA0|apply ge_str|apply ge_gstr nok|apply ge_bin|apply ge_neg|apply ge_cmp|apply ge_and|apply ge_ife|apply ge_idx|apply ge_slice
     |apply ge_rev|apply ge_two|apply ge_list|apply ge_comp|apply ge_call nok fns|apply ge_bi nok|apply ge_meth|apply ge_pick
     |apply ge_repls|apply ge_replv|apply ge_lmul|apply go_some|apply gl_cons|apply gt_cmp|apply gt_not|apply gt_and|apply gt_or|apply gt_val
     |apply gto_some|apply gi_range1 nok|apply gi_range2 nok|apply gi_val|apply StrsE.cons)
    |kernel_rfl|apply gss_cons|exact of_decide_eq_true (by kernel_rfl))
 loc:=fun x hx=>by
  simp only [qA6,qB0,or_false] at hx
  rcases hx with rfl|rfl|rfl|rfl<;>kernel_rfl
 nocell:=fun x h=>by
  have hm:=mem_of_lookup h
  have hall:(dS 1).scope.names.all (fun y=>y.2 != .cell)=true:=by kernel_rfl
  have:=qC2.mp hall _ hm
  cases this
 hen:=M.enum
noncomputable def b1P:List (Int×Nat):=[(65024,255),(65025,256),(65026,257),(65027,258),(65028,259),(65029,260),(6150,241),(65030,261),(65031,262),(65032,263),(65033,264),(6155,242),(6156,243),(6157,244),(8203,245),(8204,246),(8205,247),(65034,265),(65035,266),(65036,267),(65037,268),(65038,269),(65039,270),(173,239),(847,240),(8288,248),(65279,249)]
noncomputable def b1S (k:Int):Bool:=b1P.any fun x=>x.1==k
theorem b1_setOf {h:Heap}(x:(cN w mg mb).ex h):h.SetOf (intKind prg w) 50 b1S 27:=by
 refine⟨o50_2 w.params,(b1P.map fun x=>(x.1,qEj x.1 x.2)).toArray,29,⟨127,[0,1,2,3,4,5,6,7,8,9,10,11,12,13,14,15,16,17,18,19,20,21,22,45,79,96,127].toArray,[].toArray,0,!w.params.followText "set-order", 2,true⟩,x.2.1,?_,by kernel_rfl,?_,?_,by decide,by kernel_rfl,by kernel_rfl⟩
 ·exact⟨by kernel_rfl,by kernel_rfl,by kernel_rfl⟩
 ·intro e he
  have he:e∈b1P.map fun x=>(x.1,qEj x.1 x.2):=by simpa using he
  obtain⟨y,hy,rfl⟩:=qBf.mp he
  refine⟨⟨y.1,by simp [intKind,qDi],?_⟩,rfl⟩
  have hall:b1P.all (fun x=>decide (x.1=hashInt x.1))=true:=by decide +kernel
  exact of_decide_eq_true (qC2.mp hall y hy)
 ·intro k
  unfold b1S
  rw [List.any_eq_true]
  constructor
  ·rintro⟨y,hy,e⟩
   have hm:(y.1,qEj y.1 y.2)∈b1P.map fun x=>(x.1,qEj x.1 x.2):=qBk (f:=fun x:Int×Nat=>(x.1,qEj x.1 x.2)) hy
   exact⟨(y.1,.int y.1 y.2),by simpa using hm,by simpa [intKind,qDi] using beq_iff_eq.mp e⟩
  ·rintro⟨e,he,e2⟩
   have he:e∈b1P.map fun x=>(x.1,qEj x.1 x.2):=by simpa using he
   obtain⟨y,hy,rfl⟩:=qBf.mp he
   exact⟨y,hy,by simpa [intKind,qDi] using e2⟩
end
end
end Mine
end

section
set_option maxRecDepth 10000
namespace Mine
open PySem PyProof.Rows PySem.SeqAt PySem.W
noncomputable def look:List (Int×Str)→Int→Option Str
 |[],_=>none
 |(i,x)::r,k=>if i=k then some x else look r k
theorem look_append:∀(a b:List (Int×Str)) (k:Int),look (a++b) k=(look a k).or (look b k)
 |[],b,k=>rfl
 |(i,x)::a,b,k=>by
  simp only [qB7,look]
  split
  ·rfl
  ·exact look_append a b k
theorem look_mem:∀{l:List (Int×Str)} {k:Int} {x:Str},look l k=some x→(k,x)∈l
 |[],_,_,h=>by cases h
 |(i,y)::l,k,x,h=>by
  unfold look at h
  split at h
  ·rename_i e;cases h;subst e;exact qA5 ..
  ·exact qA3 _ (look_mem h)
noncomputable def findE (es:List DictEntry)(k:Int):Option Value:=(es.find? fun e=>e.key.isInt k).map (·.val)
theorem find_entsL (R:List DictEntry)(k:Int):∀(t:Nat) (l:List (Int×Str)),(look l k=none∧findE (entsL t l++R) k=findE R k)∨∃x u,look l k=some x∧findE (entsL t l++R) k=some (.str x u)
 |t,[]=>.inl ⟨rfl,rfl⟩
 |t,(i,x)::l=>by
  unfold look entsL findE
  rw [qB7,qEw]
  by_cases h:i=k
  ·subst h
   rw [if_pos rfl]
   exact .inr ⟨x,t+1,rfl,by simp [qDi]⟩
  ·rw [if_neg h]
   have:(qEj i t).isInt k=false:=by simp [qDi,h]
   simp only [this]
   exact find_entsL R k (t+3) l
theorem find_entsS (R:List DictEntry)(k:Int):∀(t:Nat) (l:List (Int×Str)),(look l k=none∧findE (entsS t l++R) k=findE R k)∨∃x u,look l k=some x∧findE (entsS t l++R) k=some (.str x u)
 |t,[]=>.inl ⟨rfl,rfl⟩
 |t,(i,x)::l=>by
  unfold look entsS findE
  rw [qB7,qEw]
  by_cases h:i=k
  ·subst h
   rw [if_pos rfl]
   exact .inr ⟨x,t+1,rfl,by simp [qDi]⟩
  ·rw [if_neg h]
   have:(qEj i t).isInt k=false:=by simp [qDi,h]
   simp only [this]
   exact find_entsS R k (t+2) l
theorem find_both (t t':Nat)(a b:List (Int×Str))(k:Int):(look (a++b) k=none∧findE (entsL t a++entsS t' b) k=none)∨∃x u,look (a++b) k=some x∧findE (entsL t a++entsS t' b) k=some (.str x u):=by
 rw [look_append]
 rcases find_entsL (entsS t' b) k t a with⟨h1,h2⟩|⟨x,u,h1,h2⟩
 ·rw [h1,h2]
  have:=find_entsS [] k t' b
  rw [qAu] at this
  rcases this with⟨h3,h4⟩|⟨x,u,h3,h4⟩
  ·exact .inl ⟨by rw [h3];rfl,by rw [h4];rfl⟩
  ·exact .inr ⟨x,u,by rw [h3];rfl,h4⟩
 ·exact .inr ⟨x,u,by rw [h1];rfl,h2⟩
theorem entsL_hash:∀(t:Nat) (l:List (Int×Str)) (e:DictEntry),e∈entsL t l→∃k,e.key.isInt k=true∧e.hash=hashInt k
 |t,[],e,h=>by cases h
 |t,(i,x)::l,e,h=>by
  rcases qA6.mp h with rfl|h
  ·exact⟨i,by simp [qDi],rfl⟩
  ·exact entsL_hash _ l e h
theorem entsS_hash:∀(t:Nat) (l:List (Int×Str)) (e:DictEntry),e∈entsS t l→∃k,e.key.isInt k=true∧e.hash=hashInt k
 |t,[],e,h=>by cases h
 |t,(i,x)::l,e,h=>by
  rcases qA6.mp h with rfl|h
  ·exact⟨i,by simp [qDi],rfl⟩
  ·exact entsS_hash _ l e h
theorem mapOf_ents {prog:Program}{w:World}{h:Heap}{a:Addr}{t t':Nat}{p q:List (Int×Str)}(hg:h.get? a=some (dObj (entsL t p++entsS t' q))) :
  h.MapOf (intKind prog w) a fun k=>findE (entsL t p++entsS t' q) k:=by
 refine⟨_,_,_,hg,⟨rfl,rfl,rfl⟩,rfl,fun e he=>?_,fun k=>?_⟩
 ·have he:e∈entsL t p++entsS t' q:=by simpa using he
  rcases qAc.mp he with he|he
  ·exact entsL_hash _ _ _ he
  ·exact entsS_hash _ _ _ he
 ·unfold findBy findE
  rw [List.find?_toArray]
  rfl
end Mine
end

section
open PySem PyProof.Rows PySem.SeqAt PySem.W
namespace Mine
set_option maxRecDepth 100000
set_option Elab.async false
noncomputable section
theorem arS {n:Nat}{P:List Value→Prop}(k:∀a l,l.length=n→P (a::l)):∀l:List Value,l.length=n+1→P l:=fun l=>by
 rcases l with _|⟨a,l⟩
 ·exact fun h=>absurd h (qCw n).symm
 ·exact fun h=>k a l (qF8 h)
theorem ar1 {P:List Value→Prop}(k:∀a,P [a]):∀l:List Value,l.length=1→P l:=arS fun a l h=>by
 rw [qCy.mp h];exact k a
theorem ar2 {P:List Value→Prop}(k:∀a b,P [a,b]):∀l:List Value,l.length=2→P l:=arS fun a l h=>ar1 (P:=fun l=>P (a::l)) (k a) l h
theorem ar3 {P:List Value→Prop}(k:∀a b c,P [a,b,c]):∀l:List Value,l.length=3→P l:=arS fun a l h=>ar2 (P:=fun l=>P (a::l)) (k a) l h
theorem ar4 {P:List Value→Prop}(k:∀a b c d,P [a,b,c,d]):∀l:List Value,l.length=4→P l:=arS fun a l h=>ar3 (P:=fun l=>P (a::l)) (k a) l h
noncomputable def tbT (x:Nat):Option (List Nat):=(look ents x).map fun s=>s.cps.toList
noncomputable def F3 (k:Int):Option Value:=findE (entsL 306 (ents.take (17*(37+1)))++entsS (306+51*(37+1)) (ents.drop (17*(37+1)))) k
theorem ents_small:ents.all (fun e=>decide (e.2.cps.size≤10))=true:=by kernel_rfl
theorem b3_tb (x:Nat):(tbT x=none∧F3 (x:Int)=none)∨∃y t,tbT x=some y∧y.length≤SZ∧F3 (x:Int)=some (.str (mk y) t):=by
 have h:=find_both 306 (306+51*(37+1)) (ents.take (17*(37+1))) (ents.drop (17*(37+1))) (x:Int)
 rw [qAy] at h
 rcases h with⟨h1,h2⟩|⟨s,u,h1,h2⟩
 ·exact .inl ⟨by unfold tbT;rw [h1];rfl,h2⟩
 ·refine .inr ⟨s.cps.toList,u,by unfold tbT;rw [h1];rfl,?_,h2⟩
  have:=of_decide_eq_true (qC2.mp ents_small _ (look_mem h1))
  rw [Array.length_toList]
  have:s.cps.size≤10:=this
  unfold SZ;lia
theorem take_get {ps nm:List Str}(h:nm.take ps.length=ps):∀(i:Nat) x,ps[i]?=some x→nm[i]?=some x:=fun i x hx=>by
 rw [←h] at hx
 have hlt:=(qAk.mp hx).1
 rw [qG7 (by rw [qB6] at hlt;exact jL [_,_,_] [cT xa xb,cL xb xc] (cT xa xc) jT hlt (qCr _ _))] at hx
 exact hx
theorem kinds_all {ps:List Str}{kd:Kinds}(h:ps.all (fun x=>kd.lookup x==some .local || kd.lookup x==some .cell)=true):∀x∈ps,kd.lookup x=some .local∨kd.lookup x=some .cell:=fun x hx=>by
 have:=qC2.mp h x hx
 simpa using this
noncomputable def b1φ:Bool→List D→Option D:=fun _ args=>match args with|[.str [x]]=>some (.bool (b1S x))|_=>none
noncomputable def b3φ:Bool→List D→Option D:=fun _ args=>match args with|[.str [x]]=>(foldT tbT x).map D.str|_=>none
noncomputable def Ph1:Fns:=(Fns.add (Fns.add Φ0 0 b1φ) 1 b3φ)
noncomputable def Ph2:Fns:=Ph1.add 2 (fun q args=>runF Ph1 q 1 p1_strip_quoted_realnames_nm.length p1_strip_quoted_realnames args)
noncomputable def Ph3:Fns:=Ph2.add 3 (fun q args=>runF Ph2 q 1 p1_check_parenthesis_nm.length p1_check_parenthesis args)
noncomputable def Ph4:Fns:=Ph3.add 4 (fun q args=>runF Ph3 q 2 p1_ellipsis_match_nm.length p1_ellipsis_match args)
noncomputable def Ph5:Fns:=Ph4.add 5 (fun q args=>runF Ph4 q 2 p1_law_spelled_nm.length p1_law_spelled args)
noncomputable def Ph6:Fns:=Ph5.add 6 (fun q args=>runF Ph5 q 1 p1_law_read_nm.length p1_law_read args)
noncomputable def Ph7:Fns:=Ph6.add 7 (fun q args=>runF Ph6 q 4 p1_law_by_mail_nm.length p1_law_by_mail args)
noncomputable def Ph8:Fns:=Ph7.add 8 (fun q args=>runF Ph7 q 3 p1_law_by_dots_nm.length p1_law_by_dots args)
noncomputable def Ph9:Fns:=Ph8.add 9 (fun q args=>runF Ph8 q 2 p1_law_ways_nm.length p1_law_ways args)
noncomputable def Ph10:Fns:=Ph9.add 10 (fun q args=>runF Ph9 q 3 p1_law_lack_nm.length p1_law_lack args)
section
variable {w:World}{mg mb:Str→Option Value}
theorem ok_1 (M:MgOk w mg mb):FnsOk prg w (cN w mg mb) Ph1 3:=
 ((fns0.up (qBr _)).add (fn_b1 (k:=2) (f:=0) (d:=dS 9) (hat (by kernel_rfl) (by decide)) (fun pm cd doc=>ar1 fun a=>by kernel_rfl) (by kernel_rfl) (by kernel_rfl) (by kernel_rfl) (by kernel_rfl) (by kernel_rfl) (by kernel_rfl) M.ord M.b1 (fun h x=>b1_setOf x))).add
  (fn_b3 (k:=2) (f:=1) (d:=dS 11) (hat (by kernel_rfl) (by decide)) (fun pm cd doc=>ar1 fun a=>by kernel_rfl) (by kernel_rfl) (by kernel_rfl) (by kernel_rfl) (by kernel_rfl) (by kernel_rfl) (by kernel_rfl) (by
   have nok:=nmOk M
   (repeat' first
    |kernel_rfl
    |(first
     |exact gss_nil|exact ge_none|exact ge_bool|apply ge_int|exact go_no|exact gl_nil'|exact gto_no|exact StrsE.nil
     |apply gss_cons|apply gs_asgc|apply gs_asg|apply gs_asg2|apply gs_unpack|apply gs_aug
     |apply gs_app|apply gs_ins|apply gs_dell|apply gs_delf|apply gs_if|apply gs_forv|apply gs_for
     |apply gs_forG gok (of_decide_eq_true (by kernel_rfl))|apply gs_while|apply gs_ret|apply gs_assert
     |apply jA0|apply ge_str|apply ge_gstr nok|apply ge_bin|apply ge_neg|apply ge_cmp|apply ge_and|apply ge_ife|apply ge_idx|apply ge_slice
     |apply ge_rev|apply ge_two|apply ge_list|apply ge_comp|apply ge_call nok fns|apply ge_bi nok|apply ge_meth|apply ge_pick
     |apply ge_repls|apply ge_replv|apply ge_lmul|apply go_some|apply gl_cons|apply gt_cmp|apply gt_not|apply gt_and|apply gt_or|apply gt_val
     |apply gto_some|apply gi_range1 nok|apply gi_range2 nok|apply gi_val|apply StrsE.cons)
    |kernel_rfl|apply gss_cons|exact of_decide_eq_true rfl)) (by
   have nok:=nmOk M
   (repeat' first
    |kernel_rfl
    |(first
     |exact gss_nil|exact ge_none|exact ge_bool|apply ge_int|exact go_no|exact gl_nil'|exact gto_no|exact StrsE.nil
     |apply gss_cons|apply gs_asgc|apply gs_asg|apply gs_asg2|apply gs_unpack|apply gs_aug
     |apply gs_app|apply gs_ins|apply gs_dell|apply gs_delf|apply gs_if|apply gs_forv|apply gs_for
     |apply gs_forG gok (of_decide_eq_true (by kernel_rfl))|apply gs_while|apply gs_ret|apply gs_assert
     |apply jA0|apply ge_str|apply ge_gstr nok|apply ge_bin|apply ge_neg|apply ge_cmp|apply ge_and|apply ge_ife|apply ge_idx|apply ge_slice
     |apply ge_rev|apply ge_two|apply ge_list|apply ge_comp|apply ge_call nok fns|apply ge_bi nok|apply ge_meth|apply ge_pick
     |apply ge_repls|apply ge_replv|apply ge_lmul|apply go_some|apply gl_cons|apply gt_cmp|apply gt_not|apply gt_and|apply gt_or|apply gt_val
     |apply gto_some|apply gi_range1 nok|apply gi_range2 nok|apply gi_val|apply StrsE.cons)
    |kernel_rfl|apply gss_cons|exact of_decide_eq_true rfl)) M.ord M.b3 (by rfl) (fun h x=>mapOf_ents x.2.2) b3_tb)
theorem ok_2 (M:MgOk w mg mb):FnsOk prg w (cN w mg mb) Ph2 4:=
 ((ok_1 M).up (qAj _)).add (fn_def (k:=3) (f:=2) (d:=dS 2) (ps:=["addr"]) (nm:=p1_strip_quoted_realnames_nm) (prg:=p1_strip_quoted_realnames) (hat (by kernel_rfl) (by decide))
  (fun pm cd doc=>ar1 fun a=>by kernel_rfl) (by kernel_rfl) (by kernel_rfl) (by kernel_rfl) (take_get (by rfl)) (kinds_all (by kernel_rfl)) (by decide +kernel) (by decide +kernel) (fun q=>by
   have nok:=nmOk M
   have fns:=ok_1 M
   have gok:=gOk M
   exact (gss_cons
    (gs_if (gt_cmp rfl rfl (ge_str rfl (of_decide_eq_true rfl)) (jA0 rfl)) (gss_cons (gs_ret (jA0 rfl)) gss_nil) gss_nil) (gss_cons
    (gs_asg rfl rfl (ge_int rfl)) (gss_cons
    (gs_asg rfl rfl ge_none) (gss_cons
    (gs_asg rfl rfl (ge_list (of_decide_eq_true rfl) gl_nil')) (gss_cons
    (gs_forG gok (by decide) rfl rfl rfl rfl (jA0 rfl) (gss_cons (gs_if (gt_cmp rfl rfl (jA0 rfl) (ge_str rfl (of_decide_eq_true rfl))) (gss_cons (gs_if (gt_cmp rfl rfl (jA0 rfl) ge_none) (gss_cons (gs_asg rfl rfl (jA0 rfl)) gss_nil) (gss_cons (gs_if (gt_cmp rfl rfl (jA0 rfl) (jA0 rfl)) (gss_cons (gs_app rfl rfl rfl rfl (ge_slice (jA0 rfl) (go_some (jA0 rfl)) (go_some (jA0 rfl)))) gss_nil) gss_nil) (gss_cons (gs_asg rfl rfl (ge_bin rfl (jA0 rfl) (ge_int rfl))) (gss_cons (gs_asg rfl rfl ge_none) gss_nil)))) gss_nil) gss_nil) gss_nil)) (gss_cons
    (gs_if (gt_cmp rfl rfl (jA0 rfl) (ge_bi nok rfl (gl_cons rfl (jA0 rfl) gl_nil'))) (gss_cons (gs_app rfl rfl rfl rfl (ge_slice (jA0 rfl) (go_some (jA0 rfl)) go_no)) gss_nil) gss_nil) (gss_cons
    (gs_ret (ge_meth rfl rfl rfl (of_decide_eq_true rfl) (ge_str rfl (of_decide_eq_true rfl)) (gl_cons rfl (jA0 rfl) gl_nil'))) gss_nil)))))))))
theorem ok_3 (M:MgOk w mg mb):FnsOk prg w (cN w mg mb) Ph3 5:=
 ((ok_2 M).up (qAj _)).add (fn_def (k:=4) (f:=3) (d:=dS 3) (ps:=["addr"]) (nm:=p1_check_parenthesis_nm) (prg:=p1_check_parenthesis) (hat (by kernel_rfl) (by decide))
  (fun pm cd doc=>ar1 fun a=>by kernel_rfl) (by kernel_rfl) (by kernel_rfl) (by kernel_rfl) (take_get (by rfl)) (kinds_all (by kernel_rfl)) (by decide +kernel) (by decide +kernel) (fun q=>by
   have nok:=nmOk M
   have fns:=ok_2 M
   have gok:=gOk M
   exact (gss_cons
    (gs_asg rfl rfl (ge_call nok fns rfl rfl (gl_cons rfl (jA0 rfl) gl_nil'))) (gss_cons
    (gs_asg rfl rfl (ge_int rfl)) (gss_cons
    (gs_forG gok (by decide) rfl rfl rfl rfl (jA0 rfl) (gss_cons (gs_if (gt_cmp rfl rfl (jA0 rfl) (ge_str rfl (of_decide_eq_true rfl))) (gss_cons (gs_aug rfl rfl (ge_int rfl)) gss_nil) (gss_cons (gs_if (gt_cmp rfl rfl (jA0 rfl) (ge_str rfl (of_decide_eq_true rfl))) (gss_cons (gs_aug rfl rfl (ge_int rfl)) (gss_cons (gs_if (gt_cmp rfl rfl (jA0 rfl) (ge_int rfl)) (gss_cons (gs_ret ge_bool) gss_nil) gss_nil) gss_nil)) gss_nil) gss_nil)) gss_nil)) (gss_cons
    (gs_ret (ge_cmp rfl rfl (jA0 rfl) (ge_int rfl))) gss_nil))))))
theorem ok_4 (M:MgOk w mg mb):FnsOk prg w (cN w mg mb) Ph4 6:=
 ((ok_3 M).up (qAj _)).add (fn_def (k:=5) (f:=4) (d:=dS 6) (ps:=["want", "got"]) (nm:=p1_ellipsis_match_nm) (prg:=p1_ellipsis_match) (hat (by kernel_rfl) (by decide))
  (fun pm cd doc=>ar2 fun a b=>by kernel_rfl) (by kernel_rfl) (by kernel_rfl) (by kernel_rfl) (take_get (by rfl)) (kinds_all (by kernel_rfl)) (by decide +kernel) (by decide +kernel) (fun q=>by
   have nok:=nmOk M
   have fns:=ok_3 M
   have gok:=gOk M
   exact (gss_cons
    (gs_if (gt_cmp rfl rfl (ge_gstr nok rfl rfl rfl) (jA0 rfl)) (gss_cons (gs_ret (ge_cmp rfl rfl (jA0 rfl) (jA0 rfl))) gss_nil) gss_nil) (gss_cons
    (gs_asg rfl rfl (ge_meth rfl rfl rfl (of_decide_eq_true rfl) (jA0 rfl) (gl_cons rfl (ge_gstr nok rfl rfl rfl) gl_nil'))) (gss_cons
    (gs_assert (gt_cmp rfl rfl (ge_bi nok rfl (gl_cons rfl (jA0 rfl) gl_nil')) (ge_int rfl))) (gss_cons
    (gs_asg2 rfl rfl rfl rfl rfl rfl rfl rfl rfl rfl (ge_int rfl) (ge_bi nok rfl (gl_cons rfl (jA0 rfl) gl_nil'))) (gss_cons
    (gs_asg rfl rfl (ge_idx rfl (jA0 rfl) (ge_int rfl))) (gss_cons
    (gs_if (gt_val rfl (jA0 rfl)) (gss_cons (gs_if (gt_val rfl (ge_meth rfl rfl rfl (of_decide_eq_true rfl) (jA0 rfl) (gl_cons rfl (jA0 rfl) gl_nil'))) (gss_cons (gs_asg rfl rfl (ge_bi nok rfl (gl_cons rfl (jA0 rfl) gl_nil'))) (gss_cons (gs_delf rfl rfl) gss_nil)) (gss_cons (gs_ret ge_bool) gss_nil)) gss_nil) gss_nil) (gss_cons
    (gs_asg rfl rfl (ge_idx rfl (jA0 rfl) (ge_neg (ge_int rfl)))) (gss_cons
    (gs_if (gt_val rfl (jA0 rfl)) (gss_cons (gs_if (gt_val rfl (ge_meth rfl rfl rfl (of_decide_eq_true rfl) (jA0 rfl) (gl_cons rfl (jA0 rfl) gl_nil'))) (gss_cons (gs_aug rfl rfl (ge_bi nok rfl (gl_cons rfl (jA0 rfl) gl_nil'))) (gss_cons (gs_dell rfl rfl) gss_nil)) (gss_cons (gs_ret ge_bool) gss_nil)) gss_nil) gss_nil) (gss_cons
    (gs_if (gt_cmp rfl rfl (jA0 rfl) (jA0 rfl)) (gss_cons (gs_ret ge_bool) gss_nil) gss_nil) (gss_cons
    (gs_forv rfl rfl (gss_cons (gs_asg rfl rfl (ge_meth rfl rfl rfl (of_decide_eq_true rfl) (jA0 rfl) (gl_cons rfl (jA0 rfl) (gl_cons rfl (jA0 rfl) (gl_cons rfl (jA0 rfl) gl_nil'))))) (gss_cons (gs_if (gt_cmp rfl rfl (jA0 rfl) (ge_int rfl)) (gss_cons (gs_ret ge_bool) gss_nil) gss_nil) (gss_cons (gs_aug rfl rfl (ge_bi nok rfl (gl_cons rfl (jA0 rfl) gl_nil'))) gss_nil)))) (gss_cons
    (gs_ret ge_bool) gss_nil)))))))))))))
theorem ok_5 (M:MgOk w mg mb):FnsOk prg w (cN w mg mb) Ph5 7:=
 ((ok_4 M).up (qAj _)).add (fn_def (k:=6) (f:=5) (d:=dS 13) (ps:=["name", "form"]) (nm:=p1_law_spelled_nm) (prg:=p1_law_spelled) (hat (by kernel_rfl) (by decide))
  (fun pm cd doc=>ar2 fun a b=>by kernel_rfl) (by kernel_rfl) (by kernel_rfl) (by kernel_rfl) (take_get (by rfl)) (kinds_all (by kernel_rfl)) (by decide +kernel) (by decide +kernel) (fun q=>by
   have nok:=nmOk M
   have fns:=ok_4 M
   have gok:=gOk M
   exact (gss_cons
    (gs_asg rfl rfl (ge_list (of_decide_eq_true rfl) (gl_cons rfl (ge_int rfl) (gl_cons rfl (ge_int rfl) (gl_cons rfl (ge_int rfl) (gl_cons rfl (ge_int rfl) (gl_cons rfl (ge_int rfl) (gl_cons rfl (ge_int rfl) (gl_cons rfl (ge_int rfl) (gl_cons rfl (ge_int rfl) (gl_cons rfl (ge_int rfl) (gl_cons rfl (ge_int rfl) (gl_cons rfl (ge_int rfl) gl_nil'))))))))))))) (gss_cons
    (gs_asg rfl rfl (ge_str rfl (of_decide_eq_true rfl))) (gss_cons
    (gs_if (gt_cmp rfl rfl (ge_bin rfl (ge_bin rfl (jA0 rfl) (ge_int rfl)) (ge_int rfl)) (ge_int rfl)) (gss_cons (gs_asg rfl rfl (ge_bin rfl (ge_bin rfl (jA0 rfl) (ge_int rfl)) (ge_int rfl))) (gss_cons (gs_asg rfl rfl (ge_bi nok rfl (gl_cons rfl (ge_ife (gt_cmp rfl rfl (jA0 rfl) (ge_int rfl)) (ge_bin rfl (ge_int rfl) (jA0 rfl)) (ge_idx rfl (jA0 rfl) (ge_bin rfl (jA0 rfl) (ge_int rfl)))) gl_nil'))) gss_nil)) gss_nil) (gss_cons
    (gs_if (gt_cmp rfl rfl (ge_bin rfl (jA0 rfl) (ge_int rfl)) (ge_int rfl)) (gss_cons (gs_ret (ge_bin rfl (jA0 rfl) (ge_bi nok rfl (gl_cons rfl (ge_bin rfl (ge_int rfl) (jA0 rfl)) gl_nil')))) gss_nil) gss_nil) (gss_cons
    (gs_if (gt_cmp rfl rfl (ge_bin rfl (ge_bin rfl (jA0 rfl) (ge_int rfl)) (ge_int rfl)) (ge_int rfl)) (gss_cons (gs_ret (ge_bin rfl (jA0 rfl) (ge_bi nok rfl (gl_cons rfl (ge_bin rfl (ge_int rfl) (jA0 rfl)) gl_nil')))) gss_nil) gss_nil) (gss_cons
    (gs_ret (ge_bin rfl (jA0 rfl) (ge_bi nok rfl (gl_cons rfl (ge_bin rfl (ge_bin rfl (ge_int rfl) (ge_bin rfl (ge_int rfl) (ge_bin rfl (ge_bin rfl (jA0 rfl) (ge_int rfl)) (ge_int rfl)))) (jA0 rfl)) gl_nil')))) gss_nil))))))))
theorem ok_6 (M:MgOk w mg mb):FnsOk prg w (cN w mg mb) Ph6 8:=
 ((ok_5 M).up (qAj _)).add (fn_def (k:=7) (f:=6) (d:=dS 14) (ps:=["text"]) (nm:=p1_law_read_nm) (prg:=p1_law_read) (hat (by kernel_rfl) (by decide))
  (fun pm cd doc=>ar1 fun a=>by kernel_rfl) (by kernel_rfl) (by kernel_rfl) (by kernel_rfl) (take_get (by rfl)) (kinds_all (by kernel_rfl)) (by decide +kernel) (by decide +kernel) (fun q=>by
   have nok:=nmOk M
   have fns:=ok_5 M
   have gok:=gOk M
   exact (gss_cons
    (gs_asg rfl rfl (ge_str rfl (of_decide_eq_true rfl))) (gss_cons
    (gs_asg rfl rfl (ge_list (of_decide_eq_true rfl) gl_nil')) (gss_cons
    (gs_forv rfl rfl (gss_cons (gs_asg rfl rfl (ge_call nok fns rfl rfl (gl_cons rfl (jA0 rfl) gl_nil'))) (gss_cons (gs_if (gt_cmp rfl rfl (jA0 rfl) ge_bool) (gss_cons (gs_asg rfl rfl (ge_call nok fns rfl rfl (gl_cons rfl (jA0 rfl) gl_nil'))) (gss_cons (gs_aug rfl rfl (jA0 rfl)) (gss_cons (gs_app rfl rfl rfl rfl (ge_cmp rfl rfl (jA0 rfl) (jA0 rfl))) gss_nil))) (gss_cons (gs_if (gt_cmp rfl rfl (jA0 rfl) ge_bool) (gss_cons (gs_aug rfl rfl (ge_str rfl (of_decide_eq_true rfl))) gss_nil) gss_nil) gss_nil)) gss_nil))) (gss_cons
    (gs_ret (ge_list (of_decide_eq_true rfl) (gl_cons rfl (jA0 rfl) (gl_cons rfl (jA0 rfl) gl_nil')))) gss_nil))))))
theorem ok_7 (M:MgOk w mg mb):FnsOk prg w (cN w mg mb) Ph7 9:=
 ((ok_6 M).up (qAj _)).add (fn_def (k:=8) (f:=7) (d:=dS 15) (ps:=["letters", "nest", "x", "y"]) (nm:=p1_law_by_mail_nm) (prg:=p1_law_by_mail) (hat (by kernel_rfl) (by decide))
  (fun pm cd doc=>ar4 fun a b c d=>by kernel_rfl) (by kernel_rfl) (by kernel_rfl) (by kernel_rfl) (take_get (by rfl)) (kinds_all (by kernel_rfl)) (by decide +kernel) (by decide +kernel) (fun q=>by
   have nok:=nmOk M
   have fns:=ok_6 M
   have gok:=gOk M
   exact (gss_cons
    (gs_asg rfl rfl (ge_list (of_decide_eq_true rfl) gl_nil')) (gss_cons
    (gs_for rfl rfl rfl (gi_range1 nok rfl rfl (ge_bi nok rfl (gl_cons rfl (jA0 rfl) gl_nil'))) (gss_cons (gs_if (gt_cmp rfl rfl (ge_idx rfl (jA0 rfl) (jA0 rfl)) (jA0 rfl)) (gss_cons (gs_app rfl rfl rfl rfl (ge_str rfl (of_decide_eq_true rfl))) gss_nil) (gss_cons (gs_if (gt_cmp rfl rfl (ge_idx rfl (jA0 rfl) (jA0 rfl)) (jA0 rfl)) (gss_cons (gs_app rfl rfl rfl rfl (ge_ife (gt_cmp rfl rfl (jA0 rfl) (ge_slice (jA0 rfl) go_no (go_some (jA0 rfl)))) (ge_str rfl (of_decide_eq_true rfl)) (ge_str rfl (of_decide_eq_true rfl)))) gss_nil) (gss_cons (gs_app rfl rfl rfl rfl (ge_bin rfl (ge_str rfl (of_decide_eq_true rfl)) (ge_idx rfl (ge_str rfl (of_decide_eq_true rfl)) (ge_bin rfl (jA0 rfl) (ge_int rfl))))) gss_nil)) gss_nil)) gss_nil)) (gss_cons
    (gs_asg rfl rfl (ge_meth rfl rfl rfl (of_decide_eq_true rfl) (ge_str rfl (of_decide_eq_true rfl)) (gl_cons rfl (jA0 rfl) gl_nil'))) (gss_cons
    (gs_asg rfl rfl (ge_repls rfl rfl rfl rfl rfl (ge_repls rfl rfl rfl rfl rfl (ge_repls rfl rfl rfl rfl rfl (jA0 rfl))))) (gss_cons
    (gs_asg rfl rfl (ge_meth rfl rfl rfl (of_decide_eq_true rfl) (ge_str rfl (of_decide_eq_true rfl)) (gl_cons rfl (ge_slice (jA0 rfl) (go_some (ge_bin rfl (ge_meth rfl rfl rfl (of_decide_eq_true rfl) (jA0 rfl) (gl_cons rfl (jA0 rfl) gl_nil')) (ge_int rfl))) (go_some (ge_meth rfl rfl rfl (of_decide_eq_true rfl) (jA0 rfl) (gl_cons rfl (jA0 rfl) gl_nil')))) gl_nil'))) (gss_cons
    (gs_ret (ge_list (of_decide_eq_true rfl) (gl_cons rfl (ge_call nok fns rfl rfl (gl_cons rfl (ge_bin rfl (jA0 rfl) (jA0 rfl)) gl_nil')) (gl_cons rfl (ge_call nok fns rfl rfl (gl_cons rfl (ge_bin rfl (ge_str rfl (of_decide_eq_true rfl)) (jA0 rfl)) gl_nil')) (gl_cons rfl (ge_call nok fns rfl rfl (gl_cons rfl (ge_bin rfl (jA0 rfl) (ge_str rfl (of_decide_eq_true rfl))) gl_nil')) gl_nil'))))) gss_nil))))))))
theorem ok_8 (M:MgOk w mg mb):FnsOk prg w (cN w mg mb) Ph8 10:=
 ((ok_7 M).up (qAj _)).add (fn_def (k:=9) (f:=8) (d:=dS 16) (ps:=["letters", "x", "y"]) (nm:=p1_law_by_dots_nm) (prg:=p1_law_by_dots) (hat (by kernel_rfl) (by decide))
  (fun pm cd doc=>ar3 fun a b c=>by kernel_rfl) (by kernel_rfl) (by kernel_rfl) (by kernel_rfl) (take_get (by rfl)) (kinds_all (by kernel_rfl)) (by decide +kernel) (by decide +kernel) (fun q=>by
   have nok:=nmOk M
   have fns:=ok_7 M
   have gok:=gOk M
   exact (gss_cons
    (gs_asg rfl rfl (ge_meth rfl rfl rfl (of_decide_eq_true rfl) (jA0 rfl) (gl_cons rfl (jA0 rfl) gl_nil'))) (gss_cons
    (gs_asg rfl rfl (ge_bin rfl (ge_slice (jA0 rfl) (go_some (jA0 rfl)) go_no) (ge_slice (jA0 rfl) go_no (go_some (ge_bin rfl (jA0 rfl) (ge_int rfl)))))) (gss_cons
    (gs_asg rfl rfl (ge_slice (jA0 rfl) (go_some (jA0 rfl)) (go_some (ge_bin rfl (ge_meth rfl rfl rfl (of_decide_eq_true rfl) (jA0 rfl) (gl_cons rfl (jA0 rfl) gl_nil')) (ge_int rfl))))) (gss_cons
    (gs_ret (ge_list (of_decide_eq_true rfl) (gl_cons rfl (ge_call nok fns rfl rfl (gl_cons rfl (ge_meth rfl rfl rfl (of_decide_eq_true rfl) (ge_str rfl (of_decide_eq_true rfl)) (gl_cons rfl (ge_list (of_decide_eq_true rfl) (gl_cons rfl (jA0 rfl) (gl_cons rfl (jA0 rfl) (gl_cons rfl (jA0 rfl) (gl_cons rfl (jA0 rfl) (gl_cons rfl (jA0 rfl) gl_nil')))))) gl_nil')) (gl_cons rfl (jA0 rfl) gl_nil'))) (gl_cons rfl (ge_call nok fns rfl rfl (gl_cons rfl (ge_meth rfl rfl rfl (of_decide_eq_true rfl) (ge_str rfl (of_decide_eq_true rfl)) (gl_cons rfl (ge_list (of_decide_eq_true rfl) (gl_cons rfl (jA0 rfl) (gl_cons rfl (jA0 rfl) (gl_cons rfl (jA0 rfl) (gl_cons rfl (jA0 rfl) gl_nil'))))) gl_nil')) (gl_cons rfl (jA0 rfl) gl_nil'))) gl_nil')))) gss_nil))))))
theorem ok_9 (M:MgOk w mg mb):FnsOk prg w (cN w mg mb) Ph9 11:=
 ((ok_8 M).up (qAj _)).add (fn_def (k:=10) (f:=9) (d:=dS 17) (ps:=["letters", "great"]) (nm:=p1_law_ways_nm) (prg:=p1_law_ways) (hat (by kernel_rfl) (by decide))
  (fun pm cd doc=>ar2 fun a b=>by kernel_rfl) (by kernel_rfl) (by kernel_rfl) (by kernel_rfl) (take_get (by rfl)) (kinds_all (by kernel_rfl)) (by decide +kernel) (by decide +kernel) (fun q=>by
   have nok:=nmOk M
   have fns:=ok_8 M
   have gok:=gOk M
   exact (gss_cons
    (gs_asg rfl rfl (ge_bin rfl (ge_int rfl) (ge_bi nok rfl (gl_cons rfl (jA0 rfl) gl_nil')))) (gss_cons
    (gs_asg rfl rfl (ge_list (of_decide_eq_true rfl) gl_nil')) (gss_cons
    (gs_for rfl rfl rfl (gi_range1 nok rfl rfl (ge_bi nok rfl (gl_cons rfl (jA0 rfl) gl_nil'))) (gss_cons (gs_asg rfl rfl (ge_bin rfl (ge_bin rfl (ge_meth rfl rfl rfl (of_decide_eq_true rfl) (jA0 rfl) (gl_cons rfl (ge_idx rfl (jA0 rfl) (jA0 rfl)) gl_nil')) (ge_meth rfl rfl rfl (of_decide_eq_true rfl) (jA0 rfl) (gl_cons rfl (ge_idx rfl (jA0 rfl) (jA0 rfl)) gl_nil'))) (jA0 rfl))) (gss_cons (gs_if (gt_cmp rfl rfl (ge_idx rfl (jA0 rfl) (jA0 rfl)) (ge_idx rfl (jA0 rfl) (jA0 rfl))) (gss_cons (gs_aug rfl rfl (ge_list (of_decide_eq_true rfl) (gl_cons rfl (ge_bin rfl (ge_int rfl) (jA0 rfl)) (gl_cons rfl (ge_bin rfl (ge_bin rfl (ge_int rfl) (jA0 rfl)) (ge_int rfl)) gl_nil')))) gss_nil) (gss_cons (gs_if (gt_val rfl (ge_idx rfl (jA0 rfl) (jA0 rfl))) (gss_cons (gs_aug rfl rfl (ge_list (of_decide_eq_true rfl) (gl_cons rfl (ge_bin rfl (ge_bin rfl (ge_int rfl) (jA0 rfl)) (ge_int rfl)) (gl_cons rfl (ge_bin rfl (ge_int rfl) (jA0 rfl)) gl_nil')))) gss_nil) (gss_cons (gs_aug rfl rfl (ge_list (of_decide_eq_true rfl) (gl_cons rfl (ge_bin rfl (ge_bin rfl (ge_int rfl) (jA0 rfl)) (ge_int rfl)) (gl_cons rfl (ge_bin rfl (ge_int rfl) (jA0 rfl)) gl_nil')))) gss_nil)) gss_nil)) gss_nil))) (gss_cons
    (gs_asg rfl rfl (ge_int rfl)) (gss_cons
    (gs_asg rfl rfl (ge_list (of_decide_eq_true rfl) gl_nil')) (gss_cons
    (gs_for rfl rfl rfl (gi_range1 nok rfl rfl (jA0 rfl)) (gss_cons (gs_if (gt_cmp rfl rfl (jA0 rfl) (jA0 rfl)) (gss_cons (gs_aug rfl rfl (ge_int rfl)) (gss_cons (gs_asg rfl rfl (jA0 rfl)) (gss_cons (gs_while (gt_cmp rfl rfl (jA0 rfl) (jA0 rfl)) (gss_cons (gs_aug rfl rfl (ge_list (of_decide_eq_true rfl) (gl_cons rfl (jA0 rfl) (gl_cons rfl (ge_idx rfl (jA0 rfl) (jA0 rfl)) gl_nil')))) (gss_cons (gs_asg rfl rfl (ge_bin rfl (ge_bin rfl (ge_idx rfl (jA0 rfl) (jA0 rfl)) (ge_ife (gt_val rfl (ge_bin rfl (ge_idx rfl (jA0 rfl) (jA0 rfl)) (ge_int rfl))) (ge_int rfl) (ge_neg (ge_int rfl)))) (jA0 rfl))) gss_nil))) gss_nil))) gss_nil) gss_nil)) (gss_cons
    (gs_ret (jA0 rfl)) gss_nil)))))))))
theorem ok_10 (M:MgOk w mg mb):FnsOk prg w (cN w mg mb) Ph10 12:=
 ((ok_9 M).up (qAj _)).add (fn_def (k:=11) (f:=10) (d:=dS 18) (ps:=["taken", "unlike", "crossing"]) (nm:=p1_law_lack_nm) (prg:=p1_law_lack) (hat (by kernel_rfl) (by decide))
  (fun pm cd doc=>ar3 fun a b c=>by kernel_rfl) (by kernel_rfl) (by kernel_rfl) (by kernel_rfl) (take_get (by rfl)) (kinds_all (by kernel_rfl)) (by decide +kernel) (by decide +kernel) (fun q=>by
   have nok:=nmOk M
   have fns:=ok_9 M
   have gok:=gOk M
   exact (gss_cons
    (gs_asg rfl rfl (ge_list (of_decide_eq_true rfl) gl_nil')) (gss_cons
    (gs_forv rfl rfl (gss_cons (gs_asg rfl rfl (ge_int rfl)) (gss_cons (gs_forv rfl rfl (gss_cons (gs_asg rfl rfl (ge_bin rfl (ge_bin rfl (ge_int rfl) (jA0 rfl)) (ge_ife (gt_cmp rfl rfl (jA0 rfl) (jA0 rfl)) (ge_cmp rfl rfl (jA0 rfl) (jA0 rfl)) (ge_cmp rfl rfl (ge_bin rfl (jA0 rfl) (jA0 rfl)) (jA0 rfl))))) gss_nil)) (gss_cons (gs_forv rfl rfl (gss_cons (gs_asg rfl rfl (ge_bi nok rfl (gl_cons rfl (jA0 rfl) (gl_cons rfl (ge_bin rfl (jA0 rfl) (jA0 rfl)) gl_nil')))) gss_nil)) (gss_cons (gs_if (gt_val rfl (jA0 rfl)) (gss_cons (gs_app rfl rfl rfl rfl (jA0 rfl)) gss_nil) gss_nil) gss_nil))))) (gss_cons
    (gs_ret (ge_bin rfl (ge_bi nok rfl (gl_cons rfl (jA0 rfl) gl_nil')) (ge_bi nok rfl (gl_cons rfl (jA0 rfl) gl_nil')))) gss_nil)))))
theorem ok_law (M:MgOk w mg mb):FnOk prg w (cN w mg mb) 13 11 (fun q args=>runF Ph10 q 1 p1law_nm.length p1law args):=
 fn_def (k:=12) (f:=11) (d:=dS 19) (ps:=["script"]) (nm:=p1law_nm) (prg:=p1law) (hat (by kernel_rfl) (by decide))
  (fun pm cd doc=>ar1 fun a=>by kernel_rfl) (by kernel_rfl) (by kernel_rfl) (by kernel_rfl) (take_get (by rfl)) (kinds_all (by kernel_rfl)) (by decide +kernel) (by decide +kernel) (fun q=>by
   have nok:=nmOk M
   have fns:=ok_10 M
   have gok:=gOk M
   exact (gss_cons
    (gs_asgc rfl rfl rfl rfl rfl (gi_val (ge_slice (jA0 rfl) go_no (go_some (ge_int rfl)))) gto_no (ge_bin rfl (jA0 rfl) (ge_int rfl))) (gss_cons
    (gs_aug rfl rfl (ge_slice (ge_list (of_decide_eq_true rfl) (gl_cons rfl (ge_int rfl) (gl_cons rfl (ge_int rfl) (gl_cons rfl (ge_int rfl) (gl_cons rfl (ge_int rfl) (gl_cons rfl (ge_int rfl) (gl_cons rfl (ge_int rfl) gl_nil'))))))) (go_some (ge_bi nok rfl (gl_cons rfl (jA0 rfl) gl_nil'))) go_no)) (gss_cons
    (gs_asg rfl rfl (ge_list (of_decide_eq_true rfl) gl_nil')) (gss_cons
    (gs_for rfl rfl rfl (gi_range1 nok rfl rfl (ge_bin rfl (ge_bin rfl (ge_bi nok rfl (gl_cons rfl (jA0 rfl) gl_nil')) (ge_int rfl)) (ge_int rfl))) (gss_cons (gs_ins rfl rfl rfl rfl rfl (ge_bin rfl (ge_idx rfl (jA0 rfl) (jA0 rfl)) (ge_bin rfl (jA0 rfl) (ge_int rfl))) (ge_list (of_decide_eq_true rfl) (gl_cons rfl (ge_bin rfl (jA0 rfl) (ge_int rfl)) (gl_cons rfl (ge_bin rfl (ge_idx rfl (jA0 rfl) (jA0 rfl)) (ge_bin rfl (jA0 rfl) (ge_int rfl))) gl_nil')))) gss_nil)) (gss_cons
    (gs_unpack rfl rfl rfl (ge_call nok fns rfl rfl (gl_cons rfl (ge_meth rfl rfl rfl (of_decide_eq_true rfl) (ge_str rfl (of_decide_eq_true rfl)) (gl_cons rfl (ge_comp rfl rfl rfl rfl (gi_val (jA0 rfl)) gto_no (ge_call nok fns rfl rfl (gl_cons rfl (ge_idx rfl (jA0 rfl) (ge_int rfl)) (gl_cons rfl (ge_idx rfl (jA0 rfl) (ge_int rfl)) gl_nil')))) gl_nil')) gl_nil'))) (gss_cons
    (gs_if (gt_cmp rfl rfl (jA0 rfl) (ge_meth rfl rfl rfl (of_decide_eq_true rfl) (ge_str rfl (of_decide_eq_true rfl)) (gl_cons rfl (ge_comp rfl rfl rfl rfl (gi_val (jA0 rfl)) gto_no (ge_bi nok rfl (gl_cons rfl (ge_bin rfl (ge_int rfl) (ge_idx rfl (jA0 rfl) (ge_int rfl))) gl_nil'))) gl_nil'))) (gss_cons (gs_ret ge_bool) gss_nil) gss_nil) (gss_cons
    (gs_asg rfl rfl (ge_slice (ge_str rfl (of_decide_eq_true rfl)) go_no (go_some (ge_bin rfl (ge_bi nok rfl (gl_cons rfl (jA0 rfl) gl_nil')) (ge_int rfl))))) (gss_cons
    (gs_asg rfl rfl (ge_meth rfl rfl rfl (of_decide_eq_true rfl) (ge_str rfl (of_decide_eq_true rfl)) (gl_cons rfl (ge_comp rfl rfl rfl rfl (gi_range1 nok rfl rfl (ge_bi nok rfl (gl_cons rfl (jA0 rfl) gl_nil'))) gto_no (ge_ife (gt_cmp rfl rfl (ge_idx rfl (jA0 rfl) (jA0 rfl)) (ge_slice (jA0 rfl) go_no (go_some (jA0 rfl)))) (ge_str rfl (of_decide_eq_true rfl)) (ge_str rfl (of_decide_eq_true rfl)))) gl_nil'))) (gss_cons
    (gs_asg rfl rfl (ge_bin rfl (ge_bin rfl (ge_slice (jA0 rfl) go_no (go_some (ge_bi nok rfl (gl_cons rfl (jA0 rfl) gl_nil')))) (ge_str rfl (of_decide_eq_true rfl))) (ge_slice (jA0 rfl) (go_some (ge_bi nok rfl (gl_cons rfl (jA0 rfl) gl_nil'))) go_no))) (gss_cons
    (gs_asg rfl rfl (ge_list (of_decide_eq_true rfl) gl_nil')) (gss_cons
    (gs_asg rfl rfl (ge_list (of_decide_eq_true rfl) gl_nil')) (gss_cons
    (gs_asg rfl rfl (ge_list (of_decide_eq_true rfl) gl_nil')) (gss_cons
    (gs_asg rfl rfl (ge_list (of_decide_eq_true rfl) gl_nil')) (gss_cons
    (gs_forv rfl rfl (gss_cons (gs_asg rfl rfl (ge_slice (jA0 rfl) (go_some (ge_meth rfl rfl rfl (of_decide_eq_true rfl) (jA0 rfl) (gl_cons rfl (jA0 rfl) gl_nil'))) (go_some (ge_bin rfl (ge_meth rfl rfl rfl (of_decide_eq_true rfl) (jA0 rfl) (gl_cons rfl (jA0 rfl) gl_nil')) (ge_int rfl))))) (gss_cons (gs_for rfl rfl rfl (gi_val (ge_list (of_decide_eq_true rfl) (gl_cons rfl (ge_slice (jA0 rfl) (go_some (ge_int rfl)) go_no) (gl_cons rfl (ge_slice (jA0 rfl) go_no (go_some (ge_neg (ge_int rfl)))) gl_nil')))) (gss_cons (gs_aug rfl rfl (ge_list (of_decide_eq_true rfl) (gl_cons rfl (ge_call nok fns rfl rfl (gl_cons rfl (jA0 rfl) (gl_cons rfl (jA0 rfl) gl_nil'))) (gl_cons rfl (ge_call nok fns rfl rfl (gl_cons rfl (ge_bin rfl (ge_bin rfl (jA0 rfl) (ge_str rfl (of_decide_eq_true rfl))) (jA0 rfl)) (gl_cons rfl (jA0 rfl) gl_nil'))) gl_nil')))) (gss_cons (gs_aug rfl rfl (ge_list (of_decide_eq_true rfl) (gl_cons rfl (ge_cmp rfl rfl (jA0 rfl) (jA0 rfl)) (gl_cons rfl ge_bool gl_nil')))) gss_nil))) (gss_cons (gs_for rfl rfl rfl (gi_val (ge_slice (jA0 rfl) go_no (go_some (ge_meth rfl rfl rfl (of_decide_eq_true rfl) (jA0 rfl) (gl_cons rfl (jA0 rfl) gl_nil'))))) (gss_cons (gs_unpack rfl rfl rfl (ge_call nok fns rfl rfl (gl_cons rfl (jA0 rfl) (gl_cons rfl (jA0 rfl) (gl_cons rfl (jA0 rfl) (gl_cons rfl (jA0 rfl) gl_nil')))))) (gss_cons (gs_unpack rfl rfl rfl (ge_call nok fns rfl rfl (gl_cons rfl (jA0 rfl) (gl_cons rfl (jA0 rfl) (gl_cons rfl (jA0 rfl) gl_nil'))))) (gss_cons (gs_aug rfl rfl (ge_list (of_decide_eq_true rfl) (gl_cons rfl (jA0 rfl) (gl_cons rfl (jA0 rfl) (gl_cons rfl (jA0 rfl) gl_nil'))))) (gss_cons (gs_aug rfl rfl (ge_list (of_decide_eq_true rfl) (gl_cons rfl (jA0 rfl) (gl_cons rfl (jA0 rfl) (gl_cons rfl (jA0 rfl) gl_nil'))))) (gss_cons (gs_if (gt_not (gt_val rfl (jA0 rfl))) (gss_cons (gs_aug rfl rfl (ge_list (of_decide_eq_true rfl) (gl_cons rfl (ge_bin rfl (jA0 rfl) (jA0 rfl)) (gl_cons rfl (ge_bin rfl (jA0 rfl) (jA0 rfl)) gl_nil')))) gss_nil) gss_nil) (gss_cons (gs_if (gt_val rfl (jA0 rfl)) (gss_cons (gs_aug rfl rfl (ge_list (of_decide_eq_true rfl) (gl_cons rfl (ge_bin rfl (jA0 rfl) (jA0 rfl)) (gl_cons rfl (ge_bin rfl (jA0 rfl) (jA0 rfl)) gl_nil')))) gss_nil) gss_nil) gss_nil))))))) gss_nil)))) (gss_cons
    (gs_if (gt_or (gt_cmp rfl rfl (jA0 rfl) (jA0 rfl)) (gt_val rfl (ge_comp rfl rfl rfl rfl (gi_val (ge_bin rfl (jA0 rfl) (jA0 rfl))) (gto_some (gt_and (gt_cmp rfl rfl (jA0 rfl) ge_bool) (gt_cmp rfl rfl (jA0 rfl) ge_bool))) (jA0 rfl)))) (gss_cons (gs_ret ge_bool) gss_nil) gss_nil) (gss_cons
    (gs_asgc rfl rfl rfl rfl rfl (gi_val (jA0 rfl)) (gto_some (gt_or (gt_val rfl (ge_idx rfl (jA0 rfl) (ge_meth rfl rfl rfl (of_decide_eq_true rfl) (jA0 rfl) (gl_cons rfl (jA0 rfl) gl_nil')))) (gt_val rfl (ge_idx rfl (jA0 rfl) (ge_meth rfl rfl rfl (of_decide_eq_true rfl) (jA0 rfl) (gl_cons rfl (jA0 rfl) gl_nil')))))) (jA0 rfl)) (gss_cons
    (gs_asgc rfl rfl rfl rfl rfl (gi_val (jA0 rfl)) (gto_some (gt_cmp rfl rfl (ge_idx rfl (jA0 rfl) (ge_meth rfl rfl rfl (of_decide_eq_true rfl) (jA0 rfl) (gl_cons rfl (jA0 rfl) gl_nil'))) (ge_idx rfl (jA0 rfl) (ge_meth rfl rfl rfl (of_decide_eq_true rfl) (jA0 rfl) (gl_cons rfl (jA0 rfl) gl_nil'))))) (jA0 rfl)) (gss_cons
    (gs_asg rfl rfl (ge_call nok fns rfl rfl (gl_cons rfl (jA0 rfl) (gl_cons rfl (jA0 rfl) gl_nil')))) (gss_cons
    (gs_ret (ge_cmp rfl rfl (ge_comp rfl rfl rfl rfl (gi_val (ge_list (of_decide_eq_true rfl) (gl_cons rfl (jA0 rfl) (gl_cons rfl (jA0 rfl) gl_nil')))) gto_no (ge_bin rfl (ge_call nok fns rfl rfl (gl_cons rfl (jA0 rfl) (gl_cons rfl (jA0 rfl) (gl_cons rfl (jA0 rfl) gl_nil')))) (ge_int rfl))) (ge_list (of_decide_eq_true rfl) (gl_cons rfl (jA0 rfl) (gl_cons rfl (jA0 rfl) gl_nil'))))) gss_nil))))))))))))))))))))
end
end
noncomputable section
theorem free_of {w:World}{s₀:Shared}{mg mb:Str→Option Value}{h:Heap}(G:Ground qv lse rr.records XP w s₀ mg mb h)(x:Str)
  (e:(startupNames.contains x || (looseW qv lse).contains x || ((recsOf qv).map (·.name)).contains x || ((litsOf qv).map (·.1)).contains x || ((clssOf qv (looseW qv lse)).map (·.name)).contains x)=false):mg x=none:=by
 simp only [qEf] at e
 obtain⟨⟨⟨⟨e1,e2⟩,e3⟩,e4⟩,e5⟩:=e
 have nc:∀l:List Str,l.contains x=false→x∉l:=fun l hl hm=>by rw [qGv.mpr hm] at hl;cases hl
 exact G.T.free x (nc _ e1) (nc _ e2) (nc _ e3) (nc _ e4) (nc _ e5)
theorem mgOk {w:World}{s₀:Shared}{mg mb:Str→Option Value}{h:Heap}(G:Ground qv lse rr.records XP w s₀ mg mb h)(Y:YP w h):exC w mg h∧MgOk w mg mb:=by
 have hex:exC w mg h:=by
  refine⟨fun i hi=>?_,Y.1,Y.2⟩
  have key:∀d∈recsOf qv,∃a,mg d.name=some (.ref a)∧DefAt h a ⟨d.name,d.params,d.body,d.scope⟩:=fun d hd=>by
   obtain⟨a,o,pm,cd,doc,h1,h2,h3,h4⟩:=G.T.fn d hd
   exact⟨a,h1,o,pm,cd,doc,h2,h3,h4⟩
  have at_:∀i j,(recsOf qv)[j]?=some (defAt i)→∃a,mg (dS i).name=some (.ref a)∧DefAt h a (dS i):=fun i j e=>key (defAt i) (qDg.mpr ⟨j,e⟩)
  simp only [fnIdx,qA6,qB0,or_false] at hi
  rcases hi with rfl|rfl|rfl|rfl|rfl|rfl|rfl|rfl|rfl|rfl|rfl|rfl|rfl
  ·exact at_ 1 0 (by kernel_rfl)
  ·exact at_ 9 4 (by kernel_rfl)
  ·exact at_ 11 5 (by kernel_rfl)
  ·exact at_ 2 1 (by kernel_rfl)
  ·exact at_ 3 2 (by kernel_rfl)
  ·exact at_ 6 3 (by kernel_rfl)
  ·exact at_ 13 6 (by kernel_rfl)
  ·exact at_ 14 7 (by kernel_rfl)
  ·exact at_ 15 8 (by kernel_rfl)
  ·exact at_ 16 9 (by kernel_rfl)
  ·exact at_ 17 10 (by kernel_rfl)
  ·exact at_ 18 11 (by kernel_rfl)
  ·exact at_ 19 12 (by kernel_rfl)
 refine⟨hex,?_,?_,?_,?_,?_,G.X.1,G.X.2,h,hex⟩
 ·obtain⟨v,h1,h2⟩:=G.T.const "ELLIPSIS_MARKER" (.str (mk [46,46,46])) (by kernel_rfl)
  cases h2 h with
  |str x t=>exact⟨t,h1⟩
 ·intro b
  cases b<;>exact⟨free_of G _ (by kernel_rfl),(G.T.builtins _ (by decide)).trans (by kernel_rfl)⟩
 ·exact⟨free_of G _ (by kernel_rfl),(G.T.builtins _ (by decide)).trans (by kernel_rfl)⟩
 ·exact⟨free_of G _ (by kernel_rfl),(G.T.builtins _ (by decide)).trans (by kernel_rfl)⟩
 ·exact⟨free_of G _ (by kernel_rfl),(G.T.builtins _ (by decide)).trans (by kernel_rfl)⟩
theorem idx_of (f:Nat)(x:Str)(h:fnNames[f]?=some x):∃i,i∈1::fnIdx∧x=(dS i).name:=by
 have hlt:f<12:=(qAk.mp h).1
 match f,hlt,h with
 |0,_,h=>exact⟨9,by decide,by cases h;kernel_rfl⟩
 |1,_,h=>exact⟨11,by decide,by cases h;kernel_rfl⟩
 |2,_,h=>exact⟨2,by decide,by cases h;kernel_rfl⟩
 |3,_,h=>exact⟨3,by decide,by cases h;kernel_rfl⟩
 |4,_,h=>exact⟨6,by decide,by cases h;kernel_rfl⟩
 |5,_,h=>exact⟨13,by decide,by cases h;kernel_rfl⟩
 |6,_,h=>exact⟨14,by decide,by cases h;kernel_rfl⟩
 |7,_,h=>exact⟨15,by decide,by cases h;kernel_rfl⟩
 |8,_,h=>exact⟨16,by decide,by cases h;kernel_rfl⟩
 |9,_,h=>exact⟨17,by decide,by cases h;kernel_rfl⟩
 |10,_,h=>exact⟨18,by decide,by cases h;kernel_rfl⟩
 |11,_,h=>exact⟨19,by decide,by cases h;kernel_rfl⟩
theorem st_of {w:World}{s₀:Shared}{mg mb:Str→Option Value}{h:Heap}(G:Ground qv lse rr.records XP w s₀ mg mb h)(hex:exC w mg h):St (cN w mg mb) h:=by
 refine⟨G.T.g,G.T.b,G.T.nolimit,fun f x hf=>?_,hex⟩
 obtain⟨i,hi,rfl⟩:=idx_of f x hf
 obtain⟨o,pm,cd,doc,ho,hd,_⟩:=hat (w:=w) (mg:=mg) (mb:=mb) hf hi h hex
 exact⟨o,_,ho,hd⟩
noncomputable def Plain:Prop:=∀ns:List Int,ns.length≤63→runF Ph10 false 1 p1law_nm.length p1law [.list (ns.map .int)]=some (.bool true)
theorem post_ok (ns:List Int):rr.claim.post [WData.list (List.map WData.int ns)] (WData.bool true) [WData.list (List.map WData.int ns)]=true:=by
 kernel_rfl
theorem call_plain (plain:Plain):CallT:=by
 intro w s₀ s₁ mg mb G Y htok args vs as hpre hlay L low
 obtain⟨hex,M⟩:=mgOk G Y
 obtain⟨hp1,hp2⟩:=pre_splitW (r:=rr) hpre
 obtain⟨ns,rfl⟩:=args_ints hp1
 have hlen:ns.length≤63:=by
  have h2:WTm.holds [] lw.pre { args:=[.list (ns.map .int)] }=true:=hp2
  have e:lw.pre=.and (.not (.lt (.lit (.int 63)) (.len (.arg 0)))) (.lit (.bool true)):=by kernel_rfl
  have e3:WTm.value [] (.not (.lt (.lit (.int 63)) (.len (.arg 0)))) { args:=[.list (ns.map .int)] }=some (.bool (!decide ((63:Int)<((ns.map WData.int).length:Nat)))):=by kernel_rfl
  rw [e] at h2
  by_cases hc:(63:Int)<ns.length
  ·rw [qAa,decide_eq_true hc] at e3
   delta WTm.holds at h2
   rw [WTm.value,e3] at h2
   exact nof h2
  ·lia
 have tk:1≤s₁.toks:=by
  obtain⟨ord,_,hl⟩:=L.laid
  exact qA9 htok (layAllW_grows _ _ _ hl).toks
 have ra:Rds s₁.heap s₁.toks No [.list (ns.map .int)] vs:=by
  have hr:=L.reads
  cases hr with
  |cons r1 r2=>
   cases r2
   cases r1 with
   |list ho hc hd hall=>
    rw [Rds]
    refine⟨_,_,rfl,?_,by rw [Rds]⟩
    rw [Rd]
    exact⟨by rw [qAa];unfold SZ;exact jL [_] [cL xa (eN 63)] (cL xa (eN 16777216)) jT hlen,_,_,rfl,⟨_,ho,hc,_,by rw [hd]⟩,id,rds_of_ints hall⟩
 refine⟨.ref (faOf mg 11),(nmOk M).fns 11 _ rfl,?_⟩
 refine wpAny_mono (ok_law M false [.list (ns.map .int)] (.bool true) (plain ns hlen) callerA s₁ vs ⟨rfl,by decide,by decide⟩ (st_of G hex) tk ra _ (fun v s' k r p=>?_)) (fun _ _ z=>z) fun _ _ z=>z.elim
 rw [Rd] at r
 subst r
 refine⟨.inl ⟨_,.bool true,[],rfl,fun _=>rfl,.bool true,post_ok ns,fun _=>⟨.nil,fun a ha=>nomatch ha⟩⟩,.of_keep k.keep,?_,?_⟩
 ·obtain⟨_,_,_,rfl,_⟩:=k
  rfl
 ·obtain⟨_,_,_,rfl,_,_,_,_,hb⟩:=k
  exact hb (by rw [L.gens];exact .empty)
end
end Mine
end

section
open PySem PyProof.Rows
namespace Mine
open Builtin Builtin.Str StrLaws
noncomputable def occF (p:Nat→Bool)(w:Nat):List Nat→Nat→Nat→List Nat
 |[],_,_=>[]
 |i::l,lim,fr=>if (0<lim∧fr≤i)∧p i=true then i::occF p w l (lim-1) (i+w) else occF p w l lim fr
theorem occF_c {p:Nat→Bool}{w i:Nat}{l:List Nat}{lim fr:Nat}:occF p w (i::l) lim fr=if (0<lim∧fr≤i)∧p i=true then i::occF p w l (lim-1) (i+w) else occF p w l lim fr:=rfl
theorem occ_run (s sub:Str)(hi limit:Nat):∀(l:List Nat) (st:Array Nat×Nat),st.fst.size≤limit→
  (forIn l st (occBody s sub hi limit)).run.fst.toList=st.fst.toList++occF (fun i=>decide (i+sub.length≤hi)&&subAt s sub i) sub.length l (limit-st.fst.size) st.snd
 |[],_,_=>(qAu _).symm
 |i::l,st,h=>by
  rw [qE3]
  unfold occBody
  rw [occF_c]
  by_cases hc:((st.fst.size<limit∧st.snd≤i)∧i+sub.length≤hi)∧subAt s sub i=true
  ·have hc2:(0<limit-st.fst.size∧st.snd≤i)∧(decide (i+sub.length≤hi)&&subAt s sub i)=true:=⟨⟨jL [_,_,_] [cT xa xb,cR (eA xc xa) xb] (cT (eN 0) xc) jT hc.1.1.1 (qAg (qAq hc.1.1.1)),hc.1.1.2⟩,by simp [hc.1.2,hc.2]⟩
   rw [if_pos hc,if_pos hc2]
   have ih:=occ_run s sub hi limit l (st.fst.push i,i+sub.length) (by simp;exact jL [_,_] [cT xa xb] (cL (eU xa) xb) jT hc.1.1.1)
   simp only [Array.size_push,qHm] at ih
   rw [Nat.sub_sub]
   rw [qAe] at ih
   exact ih
  ·have hc2:¬((0<limit-st.fst.size∧st.snd≤i)∧(decide (i+sub.length≤hi)&&subAt s sub i)=true):=fun h=>hc ⟨⟨⟨by lia,h.1.2⟩,by simpa using (qAl.mp h.2).1⟩,(qAl.mp h.2).2⟩
   rw [if_neg hc,if_neg hc2]
   exact occ_run s sub hi limit l st h
noncomputable def atL (x y:List Nat)(i:Nat):Bool:=y.isPrefixOf (x.drop i)
theorem isPrefixOf_take:∀(y l:List Nat),((l.take y.length)==y)=y.isPrefixOf l
 |[],l=>by simp
 |c::y,[]=>by simp
 |c::y,d::l=>by
  have ih:=isPrefixOf_take y l
  simp only [qAd,qCk,List.isPrefixOf_cons_cons]
  rw [List.cons_beq_cons,ih]
  by_cases h:d=c
  ·subst h;simp
  ·have h':(d==c)=false:=by simpa using h
   have h'':(c==d)=false:=by simpa using fun e:c=d=>h e.symm
   rw [h',h'']
theorem subAt_mk (x y:List Nat)(i:Nat):subAt (mk x) (mk y) i=atL x y i:=by
 rw [subAt_eq]
 unfold atL mk
 show ((x.toArray.toList.drop i).take y.toArray.size==y.toArray.toList)=_
 rw [qBy]
 exact isPrefixOf_take y (x.drop i)
theorem mk_ln (x:List Nat):(mk x).length=x.length:=by simp [mk,Str.length]
theorem mk_cps (x:List Nat):(mk x).cps.toList=x:=by simp [mk]
theorem occ_mk (x y:List Nat)(lo hi limit:Nat):occurrences (mk x) (mk y) lo hi limit=occF (fun i=>decide (i+y.length≤hi)&&atL x y i) y.length (qAm lo (hi+1-lo)) limit lo:=by
 rw [occ_eq,occ_run _ _ _ _ _ _ (by simp)]
 simp only [mk_ln,subAt_mk,qCs,qBy,qCq,qGw]
theorem atL_lt {x y:List Nat}{i:Nat}(h:atL x y i=true)(hy:y≠[]):i+y.length≤x.length:=by
 unfold atL at h
 have h2:=(qBa.mp h).length_le
 rw [qAn] at h2
 cases y with
 |nil=>exact absurd rfl hy
 |cons c y=>simp only [qAd] at h2 ⊢;lia
theorem occF_one (p:Nat→Bool)(w:Nat):∀(l:List Nat) (fr:Nat),(∀i∈l,fr≤i)→occF p w l 1 fr=match l.find? p with|some i=>[i]|none=>[]
 |[],fr,_=>rfl
 |i::l,fr,h=>by
  rw [occF_c]
  rw [qEw]
  have hz:∀(l:List Nat) (fr:Nat),occF p w l 0 fr=[]:=by
   intro l
   induction l with
   |nil=>intro fr;rfl
   |cons a l ih=>intro fr;rw [occF_c,if_neg (by exact (fun e_=>jL [] [cT (eN 0) (eN 0)] cF jT e_.1.1))];exact ih fr
  cases hp:p i with
  |true=>rw [if_pos ⟨⟨qDn (qA7 (qBb 0)),h i (qA5 ..)⟩,rfl⟩];simp [hz]
  |false=>
   rw [if_neg (by simp)]
   exact occF_one p w l fr fun j hj=>h j (qA3 _ hj)
theorem infix_iff (x y:List Nat):(∃i,i+y.length≤x.length∧atL x y i=true)↔y <:+: x:=by
 constructor
 ·rintro⟨i,_,h⟩
  exact (qBa.mp h).isInfix.trans (List.drop_suffix i x).isInfix
 ·rintro⟨a,b,e⟩
  refine⟨a.length,by rw [←e];simp,?_⟩
  unfold atL
  rw [←e,qBa,qAe,qF5]
  exact⟨b,rfl⟩
theorem inS_iff (a b:List Nat):inS a b=true↔a <:+: b:=by
 unfold inS Txt.contains
 rw [found_iff,←infix_iff]
 simp only [mk_ln,subAt_mk]
theorem startsB_eq (x y:List Nat):startsB x y=y.isPrefixOf x:=by
 unfold startsB Txt.startswith
 rw [subAt_mk,mk_ln,mk_ln]
 unfold atL
 rw [List.drop_zero]
 cases h:y.isPrefixOf x with
 |false=>simp
 |true=>
  have:=(qBa.mp h).length_le
  simpa using this
theorem endsB_eq (x y:List Nat):endsB x y=y.isSuffixOf x:=by
 unfold endsB Txt.endswith
 rw [subAt_mk,mk_ln,mk_ln]
 unfold atL
 rw [qC1,qAl,qBa,qDa,decide_eq_true_iff]
 constructor
 ·rintro⟨h1,h2⟩
  have e:y=x.drop (x.length-y.length):=h2.eq_of_length (by rw [qAn,Nat.sub_sub_self (by rw [qB2] at h1;exact h1)])
  exact e▸List.drop_suffix _ _
 ·intro h
  have hl:=h.length_le
  refine⟨jL [_,_] [cL xa xb] (cL (eA (eN 0) xa) xb) jT hl,?_⟩
  obtain⟨a,e⟩:=h
  subst e
  have:(a++y).length-y.length=a.length:=by simp
  rw [this,qF5]
  exact List.prefix_refl _
theorem find3_eq (x y:List Nat)(i j:Nat):find3I x y i j=match (qAm i (j+1-i)).find? (fun k=>decide (k+y.length≤j)&&atL x y k) with|some k=>(k:Int)|none=>-1:=by
 unfold find3I
 rw [occ_mk,qD2,qD2,occF_one _ _ _ _ (fun k hk=>(qDo.mp hk).1)]
 cases (qAm i (j+1-i)).find? (fun k=>decide (k+y.length≤j)&&atL x y k)<;>rfl
noncomputable def after (w:List Nat):List Nat→Option (List Nat)
 |[]=>if w=[] then some [] else none
 |c::r=>if w.isPrefixOf (c::r) then some ((c::r).drop w.length) else after w r
theorem after_n {w:List Nat}:after w []=if w=[] then some [] else none:=rfl
theorem after_c {w:List Nat}{c:Nat}{r:List Nat}:after w (c::r)=if w.isPrefixOf (c::r) then some ((c::r).drop w.length) else after w r:=rfl
theorem drop_take_cons {x:List Nat}{i j c:Nat}{r:List Nat}(h:(x.take j).drop i=c::r):(x.take j).drop (i+1)=r:=by
 have e:(x.take j).drop (i+1)=((x.take j).drop i).tail:=by rw [qG0]
 rw [e,h];rfl
theorem pre_take {x w:List Nat}{i j:Nat}(_hj:j≤x.length)(hi:i≤j):(decide (i+w.length≤j)&&atL x w i)=w.isPrefixOf ((x.take j).drop i):=by
 have e:(x.take j).drop i=(x.drop i).take (j-i):=by rw [List.drop_take]
 rw [e]
 unfold atL
 rw [qC1,qAl,qBa,qBa,decide_eq_true_iff]
 constructor
 ·rintro⟨h1,h2⟩
  exact qH3.mpr ⟨h2,jL [_,_,_,_] [cL (eA xa xb) xc,cR (eA xd xa) xc] (cL xb xd) jT h1 (qAg (jL [_,_,_] [cL (eA xa xb) xc] (cL xa xc) jT h1))⟩
 ·intro h
  have:=qH3.mp h
  exact⟨jL [_,_,_,_] [cL xa xb,cQ (eA xb xc) xd] (cL (eA xc xa) xd) jT this.2 (qAg hi),this.1⟩
theorem find3_after (x w:List Nat)(i j:Nat)(hi:i≤j)(hj:j≤x.length):(match after w ((x.take j).drop i) with
  |some g=>∃k:Nat,find3I x w i j=k∧i≤k∧k+w.length≤j∧(x.take j).drop (k+w.length)=g
  |none=>find3I x w i j=-1):=by
 rw [find3_eq]
 obtain⟨n,hn⟩:∃n,n=j-i:=⟨_,rfl⟩
 induction n generalizing i with
 |zero=>
  obtain rfl:i=j:=qE2 hi (qEz.mp hn.symm)
  have e2:(x.take i).drop i=[]:=by simp [qDl]
  have e3:i+1-i=1:=qCc ..
  rw [e2,e3]
  show match after w [] with|some g=>_|none=>_
  rw [after_n]
  rw [show qAm i 1=[i] from rfl,qEw]
  rw [pre_take hj (qA7 _),e2]
  by_cases hw:w=[]
  ·subst hw
   exact⟨i,rfl,qA7 _,qA7 _,e2⟩
  ·rw [if_neg hw]
   cases w with
   |nil=>exact absurd rfl hw
   |cons c w=>simp
 |succ n ih=>
  have e3:j+1-i=(j+1-(i+1))+1:=by rw [qGq,Nat.succ_sub hi]
  rw [e3,qBt,qEw,pre_take hj hi]
  cases hg:(x.take j).drop i with
  |nil=>
   have:=congrArg qB8 hg
   rw [qAn,qB6,Nat.min_eq_left hj,←hn] at this
   cases this
  |cons c r=>
   rw [after_c]
   by_cases hp:w.isPrefixOf (c::r)=true
   ·rw [if_pos hp,hp]
    refine⟨i,rfl,qA7 _,?_,?_⟩
    ·have:=pre_take (w:=w) hj hi
     rw [hg,hp] at this
     exact of_decide_eq_true (qAl.mp this).1
    ·rw [←hg,qG1]
   ·rw [if_neg hp]
    have hp':w.isPrefixOf (c::r)=false:=qC5.mpr hp
    rw [hp']
    have ih:=ih (i+1) (qDn (Nat.sub_pos_iff_lt.mp (by rw [←hn];exact qBi n))) (by rw [Nat.sub_add_eq,←hn];rfl)
    rw [drop_take_cons hg] at ih
    cases ha:after w r with
    |none=>rw [ha] at ih;exact ih
    |some g=>
     rw [ha] at ih
     obtain⟨k,h1,h2,h3,h4⟩:=ih
     exact⟨k,h1,qF3 h2,h3,h4⟩
noncomputable def cut (y:List Nat):List Nat→Nat→List Nat→List (List Nat)
 |[],_,acc=>[acc]
 |c::r,0,acc=>if y.isPrefixOf (c::r) then acc::cut y r (y.length-1) [] else cut y r 0 (acc++[c])
 |_::r,k+1,acc=>cut y r k acc
noncomputable def plc (y:List Nat):List Nat→Nat→Nat→List Nat
 |[],_,_=>[]
 |c::r,0,p=>if y.isPrefixOf (c::r) then p::plc y r (y.length-1) (p+1) else plc y r 0 (p+1)
 |_::r,k+1,p=>plc y r k (p+1)
theorem cut_n {y:List Nat}{k:Nat}{a:List Nat}:cut y [] k a=[a]:=rfl
theorem cut_c {y:List Nat}{c:Nat}{r a:List Nat}:cut y (c::r) 0 a=if y.isPrefixOf (c::r) then a::cut y r (y.length-1) [] else cut y r 0 (a++[c]):=rfl
theorem cut_s {y:List Nat}{c k:Nat}{r a:List Nat}:cut y (c::r) (k+1) a=cut y r k a:=rfl
theorem plc_c {y:List Nat}{c p:Nat}{r:List Nat}:plc y (c::r) 0 p=if y.isPrefixOf (c::r) then p::plc y r (y.length-1) (p+1) else plc y r 0 (p+1):=rfl
theorem plc_s {y:List Nat}{c k p:Nat}{r:List Nat}:plc y (c::r) (k+1) p=plc y r k (p+1):=rfl
theorem occF_plc (x y:List Nat)(hy:y≠[]):∀(n p k lim:Nat),p+n=x.length→n<lim→
  occF (fun i=>decide (i+y.length≤x.length)&&atL x y i) y.length (qAm p (n+1)) lim (p+k)=plc y (x.drop p) k p
 |0,p,k,lim,hp,hl=>by
  have e:x.drop p=[]:=by rw [qDl];exact jL [_,_] [cR (eA xa (eN 0)) xb] (cL xb xa) jT hp
  rw [e]
  show occF _ _ [p] _ _=[]
  have hyl:0<y.length:=qFq.mpr hy
  rw [occF_c,if_neg]
  ·rfl
  ·rintro⟨_,h⟩
   have:=of_decide_eq_true (qAl.mp h).1
   lia
 |n+1,p,k,lim,hp,hl=>by
  obtain⟨c,r,e⟩:∃c r,x.drop p=c::r:=by
   cases h:x.drop p with
   |nil=>rw [qDl] at h;lia
   |cons c r=>exact⟨c,r,rfl⟩
  have e1:x.drop (p+1)=r:=by
   have:x.drop (p+1)=(x.drop p).tail:=by rw [qG0]
   rw [this,e];rfl
  have hyl:0<y.length:=qFq.mpr hy
  rw [qBt,occF_c]
  cases k with
  |zero=>
   rw [e,plc_c]
   by_cases h:y.isPrefixOf (c::r)=true
   ·have ha:atL x y p=true:=by unfold atL;rw [e];exact h
    rw [if_pos h,if_pos ⟨⟨jL [_,_] [cT (eU xa) xb] (cT (eN 0) xb) jT hl,qA7 (p+0)⟩,by rw [ha];simpa using atL_lt ha hy⟩]
    have ih:=occF_plc x y hy n (p+1) (y.length-1) (lim-1) (jQ [_,_,_] [cQ (eA xa (eU xb)) xc] (eA (eU xa) xb) xc jT jT hp) (jL [_,_,_] [cT (eU xa) xb,cR (eA xc (eN 1)) xb] (cT xa xc) jT hl (qAg (jL [_,_] [cT (eU xa) xb] (cL (eN 1) xb) jT hl)))
    rw [e1] at ih
    rw [←ih]
    have e2:p+1+(y.length-1)=p+y.length:=jQ [_,_,_] [cQ (eA xa (eN 1)) xb] (eA (eU xc) xa) (eA xc xb) jT jT (qAg (jL [_] [cT (eN 0) xa] (cL (eN 1) xa) jT hyl))
    rw [e2]
   ·rw [if_neg h,if_neg]
    ·have ih:=occF_plc x y hy n (p+1) 0 lim (jQ [_,_,_] [cQ (eA xa (eU xb)) xc] (eA (eU xa) xb) xc jT jT hp) (qAq hl)
     rw [e1] at ih
     rw [←ih]
     have key:∀l:List Nat,(∀i∈l,p+1≤i)→occF (fun i=>decide (i+y.length≤x.length)&&atL x y i) y.length l lim p=occF (fun i=>decide (i+y.length≤x.length)&&atL x y i) y.length l lim (p+1):=by
      intro l hl'
      induction l with
      |nil=>rfl
      |cons i l ih=>
       have hi:=hl' i (qA5 ..)
       rw [occF_c,occF_c,ih fun j hj=>hl' j (qA3 _ hj)]
       have h1:p≤i:=qAq hi
       simp only [h1,hi]
     exact key _ fun i hi=>(qDo.mp hi).1
    ·rintro⟨_,h2⟩
     have h3:=(qAl.mp h2).2
     unfold atL at h3
     rw [e] at h3
     exact h h3
  |succ k=>
   rw [e,if_neg (by exact (fun e_=>jL [_,_] [cL (eA xa (eU xb)) xa] cF jT e_.1.2))]
   rw [plc_s]
   have ih:=occF_plc x y hy n (p+1) k lim (jQ [_,_,_] [cQ (eA xa (eU xb)) xc] (eA (eU xa) xb) xc jT jT hp) (qAq hl)
   rw [e1] at ih
   rw [←ih]
   have e2:p+(k+1)=p+1+k:=jQ [_,_] [] (eA xa (eU xb)) (eA (eU xa) xb) jT jT
   rw [e2]
theorem occ_plc (x y:List Nat)(hy:y≠[]):occurrences (mk x) (mk y) 0 (mk x).length ((mk x).length+1)=plc y x 0 0:=by
 rw [mk_ln,occ_mk]
 exact occF_plc x y hy x.length 0 0 (x.length+1) (jQ [_] [] (eA (eN 0) xa) xa jT jT) (jL [_] [] (cT xa (eU xa)) jT)
noncomputable def partsL (x:List Nat)(w:Nat):Nat→List Nat→List (List Nat)
 |st,[]=>[(x.drop st)]
 |st,c::cs=>(x.drop st).take (c-st)::partsL x w (c+w) cs
theorem partsL_n {x:List Nat}{w st:Nat}:partsL x w st []=[(x.drop st)]:=rfl
theorem partsL_c {x:List Nat}{w st c:Nat}{cs:List Nat}:partsL x w st (c::cs)=(x.drop st).take (c-st)::partsL x w (c+w) cs:=rfl
theorem parts_mk (x:List Nat)(w:Nat):∀(st:Nat) (cs:List Nat),(((st::cs.map (·+w)).zip (cs++[(mk x).length])).map fun ij=>(strSub (mk x) ij.1 ij.2).cps.toList)=partsL x w st cs
 |st,[]=>by
  simp only [qDe,qCs,qFw,List.zip_nil_left,qAh,partsL_n]
  rw [strSub_toList,mk_cps,mk_ln,qBu (by rw [qAn];exact qA7 _)]
 |st,c::cs=>by
  have ih:=parts_mk x w (c+w) cs
  simp only [qAh,qB7,qFw,partsL_c] at ih⊢
  rw [ih,strSub_toList,mk_cps]
theorem partsL_cut (x y:List Nat)(hy0:y≠[]):∀(n p st k:Nat),p+n=x.length→st≤p+k→(k≠0→st=p+k)→k≤n→
  partsL x y.length st (plc y (x.drop p) k p)=cut y (x.drop p) k ((x.drop st).take (p-st))
 |0,p,st,k,hp,hs,hk,hkn=>by
  have e:x.drop p=[]:=by rw [qDl];exact jL [_,_] [cR (eA xa (eN 0)) xb] (cL xb xa) jT hp
  rw [e]
  show partsL x y.length st []=_
  rw [cut_n,partsL_n,qBu]
  rw [qAn]
  lia
 |n+1,p,st,k,hp,hs,hk,hkn=>by
  obtain⟨c,r,e⟩:∃c r,x.drop p=c::r:=by
   cases h:x.drop p with
   |nil=>rw [qDl] at h;lia
   |cons c r=>exact⟨c,r,rfl⟩
  have e1:x.drop (p+1)=r:=by
   have:x.drop (p+1)=(x.drop p).tail:=by rw [qG0]
   rw [this,e];rfl
  rw [e]
  cases k with
  |zero=>
   rw [plc_c,cut_c]
   by_cases h:y.isPrefixOf (c::r)=true
   ·rw [if_pos h,if_pos h]
    have hl:=(qBa.mp h).length_le
    have hr:r.length=n:=by
     have:=congrArg qB8 e1
     rw [qAn] at this;exact jQ [_,_,_,_,_] [cR (eA xa (eU xb)) xc,cR xd xe,cQ (eA xd (eU xa)) xc] xe xb jT jT hp this (qAg (jL [_,_,_] [cQ (eA xa (eU xb)) xc] (cL (eU xa) xc) jT hp))
    rw [partsL_c]
    cases hy:y.length with
    |zero=>exact absurd (qCy.mp hy) hy0
    |succ m=>
     have ih:=partsL_cut x y hy0 n (p+1) (p+(m+1)) m (jQ [_,_,_] [cQ (eA xa (eU xb)) xc] (eA (eU xa) xb) xc jT jT hp) (jL [_,_] [] (cL (eA xa (eU xb)) (eA (eU xa) xb)) jT) (by lia) (by simp [qAd] at hl;exact jL [_,_,_,_] [cL xa (eU xb),cQ xb xc,cR xa (eU xd)] (cL xd xc) jT hl hr hy)
     rw [e1,hy] at ih
     rw [show m+1-1=m from rfl,ih]
     have:p+1-(p+(m+1))=0:=jq [_] [cQ xa (eN 0)] xa (eN 0) [1,1] [1,0] jT jT (Nat.sub_eq_zero_of_le (jL [_,_] [] (cL (eU xa) (eA xa (eU xb))) jT))
     rw [this,qH5]
   ·rw [if_neg h,if_neg h]
    have ih:=partsL_cut x y hy0 n (p+1) st 0 (jQ [_,_,_] [cQ (eA xa (eU xb)) xc] (eA (eU xa) xb) xc jT jT hp) (qH8 hs) (by lia) (qBr n)
    rw [e1] at ih
    rw [ih]
    congr 1
    have e3:p+1-st=(p-st)+1:=jQ [_,_,_,_] [cQ (eA xa xb) (eU xc),cR (eA xd xb) xc] xa (eU xd) jT jT (qAg (jL [_,_] [cL xa (eA xb (eN 0))] (cL xa (eU xb)) jT hs)) (qAg hs)
    rw [e3,qG4,qEx]
    have e4:st+(p-st)=p:=jQ [_,_,_] [cQ (eA xa xb) xc] (eA xb xa) xc jT jT (qAg hs)
    rw [e4]
    have e5:x[p]?=(x.drop p)[0]?:=by rw [qEx];rfl
    rw [e5,e]
    rfl
  |succ k=>
   have ih:=partsL_cut x y hy0 n (p+1) st k (jQ [_,_,_] [cQ (eA xa (eU xb)) xc] (eA (eU xa) xb) xc jT jT hp) (by lia) (by lia) (qG8 hkn)
   rw [e1] at ih
   rw [plc_s,cut_s,ih]
   have h1:=hk (qCf (qBv (qBb 0) k))
   have:p+1-st=0:=by lia
   have:p-st=0:=by lia
   simp [*]
theorem plc_nil_cut (y:List Nat):∀(x:List Nat) (k p:Nat) (acc:List Nat),k=0→plc y x k p=[]→cut y x k acc=[acc++x]
 |[],k,p,acc,_,_=>by rw [qAu];rfl
 |c::r,0,p,acc,_,h=>by
  rw [plc_c] at h
  rw [cut_c]
  by_cases hp:y.isPrefixOf (c::r)=true
  ·rw [if_pos hp] at h;cases h
  ·rw [if_neg hp] at h⊢
   rw [plc_nil_cut y r 0 (p+1) (acc++[c]) rfl h]
   simp
theorem parts_cut (x y:List Nat)(hy:y≠[]):(partsBetween (mk x) (plc y x 0 0) y.length).map (fun s=>s.cps.toList)=cut y x 0 []:=by
 unfold partsBetween
 rw [qBx]
 have h:=parts_mk x y.length 0 (plc y x 0 0)
 have h2:=partsL_cut x y hy x.length 0 0 0 (jQ [_] [] (eA (eN 0) xa) xa jT jT) (qA7 0) (by exact (fun a=>qHs 0)) (qBr (qB8 x))
 rw [List.drop_zero] at h2
 rw [h2] at h
 exact h
theorem kind_one (x:Str):1≤qC3 x:=by
 unfold qC3
 split
 ·exact qDn (qA7 (qBb 0))
 ·split<;>lia
theorem splitL_eq (x y:List Nat)(hy:y≠[])(hk:qC3 (mk y)=1):splitL x y=cut y x 0 []:=by
 unfold splitL qEi
 rw [occ_plc x y hy]
 have hki:decide (qC3 (mk x)<qC3 (mk y))=false:=decide_eq_false (by have:=kind_one (mk x);exact (fun e_=>jL [_,_] [cQ xa (eN 1),cL (eN 1) xb,cT xb xa] cF jT hk this e_))
 rw [hki,qFh]
 by_cases hl:decide ((mk x).length<(mk y).length)=true
 ·rw [if_pos hl]
  have hl:=of_decide_eq_true hl
  rw [mk_ln,mk_ln] at hl
  have hnil:plc y x 0 0=[]:=by
   cases h:plc y x 0 0 with
   |nil=>rfl
   |cons i r=>
    exfalso
    have h2:=occ_spec (mk x) (mk y) 0 (mk x).length ((mk x).length+1) i (by rw [occ_plc x y hy,h];exact qA5 ..)
    have:=h2.1
    rw [mk_ln,mk_ln] at this
    lia
  rw [plc_nil_cut y x 0 0 [] rfl hnil]
  simp [mk]
 ·rw [if_neg hl]
  cases h:plc y x 0 0 with
  |nil=>
   rw [plc_nil_cut y x 0 0 [] rfl h]
   simp [mk]
  |cons i r=>
   rw [if_neg (by simp),mk_ln y,←h]
   exact parts_cut x y hy
noncomputable def glue (sep:List Nat):List (List Nat)→List Nat
 |[]=>[]
 |[a]=>a
 |a::r=>a++sep++glue sep r
theorem join_glue (sep:Str):∀ps:List Str,(Str.join sep ps).cps.toList=glue sep.cps.toList (ps.map fun s=>s.cps.toList)
 |[]=>rfl
 |[a]=>rfl
 |a::b::r=>by
  have ih:=join_glue sep (b::r)
  show (a.cps++sep.cps++(Str.join sep (b::r)).cps).toList=_
  rw [qHb,qHb,ih]
  rfl
theorem joinL_eq (x:List Nat)(ys:List (List Nat)):joinL x ys=glue x ys:=by
 unfold joinL Txt.join
 rw [glued_eq_join,join_glue,mk_cps,qBx]
 congr 1
 induction ys with
 |nil=>rfl
 |cons a r ih=>rw [qAh,ih];simp [mk]
theorem glue_nil:∀ys:List (List Nat),glue [] ys=ys.flatten
 |[]=>rfl
 |[a]=>(qAu a).symm
 |a::b::r=>by
  show a++[]++glue [] (b::r)=a++(b::r).flatten
  rw [glue_nil (b::r),qAu]
theorem replL_eq (x y z:List Nat)(hy:y≠[]):replL x y z=glue z (cut y x 0 []):=by
 unfold replL Txt.replace
 rw [occ_plc x y hy]
 have hyl:0<y.length:=qFq.mpr hy
 have e0:((mk y).length==0&&(mk z).length==0)=false:=by rw [mk_ln];simp [hy]
 rw [e0,qFh]
 cases h:plc y x 0 0 with
 |nil=>
  rw [plc_nil_cut y x 0 0 [] rfl h]
  show _=[]++x
  simp [mk]
 |cons i r=>
  rw [if_neg (by simp),mk_ln y,←h,glued_eq_join,join_glue,mk_cps,parts_cut x y hy]
theorem glue_cons_ne (z a:List Nat)(r:List (List Nat))(h:r≠[]):glue z (a::r)=a++z++glue z r:=by
 cases r with
 |nil=>exact absurd rfl h
 |cons b r=>rfl
theorem cut_ne (y:List Nat):∀(x:List Nat) (k:Nat) (acc:List Nat),cut y x k acc≠[]
 |[],_,_=>List.cons_ne_nil _ _
 |c::r,0,acc=>by
  rw [cut_c]
  split
  ·simp
  ·exact cut_ne y r 0 _
 |c::r,k+1,acc=>cut_ne y r k acc
theorem glue_cut_one (c:Nat)(z:List Nat):∀(x acc:List Nat),glue z (cut [c] x 0 acc)=acc++x.flatMap fun a=>if a=c then z else [a]
 |[],acc=>(qAu acc).symm
 |d::r,acc=>by
  rw [cut_c]
  by_cases h:d=c
  ·subst h
   have:[d].isPrefixOf (d::r)=true:=by simp
   rw [if_pos this,glue_cons_ne _ _ _ (cut_ne _ _ _ _)]
   have ih:=glue_cut_one d z r []
   rw [show ([d]:List Nat).length-1=0 from rfl,ih]
   simp
  ·have:¬[c].isPrefixOf (d::r)=true:=by simpa using fun e:c=d=>h e.symm
   rw [if_neg this,glue_cut_one c z r (acc++[d])]
   simp [h]
theorem repl_one (x:List Nat)(c:Nat)(z:List Nat):replL x [c] z=x.flatMap fun a=>if a=c then z else [a]:=by
 rw [replL_eq x [c] z (by simp),glue_cut_one];rfl
end Mine
end

section
open PySem PyProof.Rows
namespace Mine
set_option maxRecDepth 100000
section
variable {Φ:Fns}{q:Bool}{ρ:Env'}
theorem q_E_bool {b}:evE Φ q ρ (.bool b)=(some (Rs.flat (.bool b))):=by kernel_rfl
theorem q_E_int {i}:evE Φ q ρ (.int i)=(some (Rs.flat (.int i))):=by kernel_rfl
theorem q_E_str {l}:evE Φ q ρ (.str l)=(some (Rs.flat (.str l))):=by kernel_rfl
theorem q_E_var {i}:evE Φ q ρ (.var i)=((match ρ[i]? with|some s=>VT.get s|none=>none)):=by kernel_rfl
theorem q_E_bin {op} {a} {b}:evE Φ q ρ (.bin op a b)=((match evE Φ q ρ a with
  |some x=>(match evE Φ q ρ b with
   |some y=>(match binD op x.d y.d with
    |some d=>some (Rs.new d (x.t.join y.t).fresh)
    |none=>none)
   |none=>none)
  |none=>none)):=by kernel_rfl
theorem q_E_neg {a}:evE Φ q ρ (.neg a)=((match evE Φ q ρ a with
  |some x=>(match x.d with|.int i=>some (Rs.flat (.int (-i)))|_=>none)
  |none=>none)):=by kernel_rfl
theorem q_E_cmp {op} {a} {b}:evE Φ q ρ (.cmp op a b)=((match evE Φ q ρ a with
  |some x=>(match evE Φ q ρ b with
   |some y=>(match cmpD op x.d y.d with
    |some c=>some (Rs.flat (.bool c))
    |none=>none)
   |none=>none)
  |none=>none)):=by kernel_rfl
theorem q_E_ife {t} {a} {b}:evE Φ q ρ (.ife t a b)=((match evT Φ q ρ t with
  |some true=>evE Φ q ρ a
  |some false=>evE Φ q ρ b
  |none=>none)):=by kernel_rfl
theorem q_E_idx {a} {i}:evE Φ q ρ (.idx a i)=((match evE Φ q ρ a with
  |some x=>(match evE Φ q ρ i with
   |some y=>idxR x y
   |none=>none)
  |none=>none)):=by kernel_rfl
theorem q_E_slice {a} {lo} {hi}:evE Φ q ρ (.slice a lo hi)=((match evE Φ q ρ a with
  |some x=>(match evO Φ q ρ lo with
   |some l=>(match evO Φ q ρ hi with
    |some h=>sliceR x l h none
    |none=>none)
   |none=>none)
  |none=>none)):=by kernel_rfl
theorem q_E_list {es}:evE Φ q ρ (.list es)=((match evL Φ q ρ es with
  |some rs=>some (Rs.new (.list (rs.map (·.d))) (rs.foldr (fun r t=>(eff r.d r.t).held.join t) Tg.z))
  |none=>none)):=by kernel_rfl
theorem q_E_comp {elt} {v} {it} {c}:evE Φ q ρ (.comp elt v it c)=((match evI Φ q ρ it with
  |some its=>(match compL (fun d=>match evTo Φ true (ρ.set v (some (d,.val (eff d its.t)))) c with
    |some true=>(match evE Φ true (ρ.set v (some (d,.val (eff d its.t)))) elt with
     |some r=>some (some r)
     |none=>none)
    |some false=>some none
    |none=>none) its.ds with
   |some l=>if l.length≤SZ then some (Rs.new (.list l) Tg.z) else none
   |none=>none)
  |none=>none)):=by kernel_rfl
theorem q_E_call {f} {as}:evE Φ q ρ (.call f as)=((match evL Φ q ρ as with
  |some rs=>(match Φ q f (rs.map (·.d)) with
   |some d=>some (Rs.new d Tg.z)
   |none=>none)
  |none=>none)):=by kernel_rfl
theorem q_E_bi {b} {as}:evE Φ q ρ (.bi b as)=((match evL Φ q ρ as with
  |some rs=>biR b rs
  |none=>none)):=by kernel_rfl
theorem q_E_meth {m} {o} {as}:evE Φ q ρ (.meth m o as)=((match evE Φ q ρ o with
  |some x=>(match evL Φ q ρ as with
   |some rs=>methR m x rs
   |none=>none)
  |none=>none)):=by kernel_rfl
theorem q_E_repl {o} {old} {new}:evE Φ q ρ (.repl o old new)=((match evE Φ q ρ o with
  |some x=>(match new with
   |.str l=>replR x old l
   |.var i=>(match ρ[i]? with
    |some (some (.cst l,_))=>replR x old l
    |_=>none)
   |_=>none)
  |none=>none)):=by kernel_rfl
theorem q_O_no:evO Φ q ρ (.no)=(some none):=by kernel_rfl
theorem q_O_some {e}:evO Φ q ρ (.some e)=((match evE Φ q ρ e with
  |some r=>(match r.d with|.int i=>if small i then some (some i) else none|_=>none)
  |none=>none)):=by kernel_rfl
theorem q_L_nil:evL Φ q ρ (.nil)=(some []):=by kernel_rfl
theorem q_L_cons {e} {r}:evL Φ q ρ (.cons e r)=((match evE Φ q ρ e with
  |some x=>(match evL Φ q ρ r with
   |some xs=>some (x::xs)
   |none=>none)
  |none=>none)):=by kernel_rfl
theorem q_T_val {e}:evT Φ q ρ (.val e)=((match evE Φ q ρ e with
  |some r=>truth r.d
  |none=>none)):=by kernel_rfl
theorem q_T_cmp {op} {a} {b}:evT Φ q ρ (.cmp op a b)=((match evE Φ q ρ a with
  |some x=>(match evE Φ q ρ b with
   |some y=>cmpD op x.d y.d
   |none=>none)
  |none=>none)):=by kernel_rfl
theorem q_T_not {t}:evT Φ q ρ (.not t)=((match evT Φ q ρ t with
  |some b=>some (!b)
  |none=>none)):=by kernel_rfl
theorem q_T_and {t} {u}:evT Φ q ρ (.and t u)=((match evT Φ q ρ t with
  |some true=>evT Φ q ρ u
  |some false=>some false
  |none=>none)):=by kernel_rfl
theorem q_T_or {t} {u}:evT Φ q ρ (.or t u)=((match evT Φ q ρ t with
  |some true=>some true
  |some false=>evT Φ q ρ u
  |none=>none)):=by kernel_rfl
theorem q_To_some {t}:evTo Φ q ρ (.some t)=(evT Φ q ρ t):=by kernel_rfl
theorem q_I_val {e}:evI Φ q ρ (.val e)=((match evE Φ q ρ e with
  |some r=>(match r.d with
   |.list ds=>some ⟨ds,r.t.item,r.t.top⟩
   |.str l=>some ⟨l.map fun c=>.str [c],Tg.z,false⟩
   |_=>none)
  |none=>none)):=by kernel_rfl
theorem q_I_range1 {n}:evI Φ q ρ (.range1 n)=((match evE Φ q ρ n with
  |some r=>(match r.d with
   |.int k=>if tiny k&&decide (k≤SZ) then some ⟨rangeL 0 k,Tg.z,false⟩ else none
   |_=>none)
  |none=>none)):=by kernel_rfl
theorem q_S_asg {v} {e}:exS Φ q ρ (.asg v e)=((match evE Φ q ρ e with
  |some r=>(match setV ρ v r with|some ρ'=>some (.next,ρ')|none=>none)
  |none=>none)):=by kernel_rfl
theorem q_S_unpack {vs} {e}:exS Φ q ρ (.unpack vs e)=((match evE Φ q ρ e with
  |some r=>(match r.d with
   |.list ds=>if r.t.deep then none else (match setAll ρ vs ds r.t.item with|some ρ'=>some (.next,ρ')|none=>none)
   |_=>none)
  |none=>none)):=by kernel_rfl
theorem q_S_aug {v} {op} {e}:exS Φ q ρ (.aug v op e)=((match ρ[v]? with
  |some (some (.list ds,.own b))=>(match op with
   |.add=>(match evE Φ q ρ e with
    |some r=>(match r.d with
     |.list es=>if ds.length+es.length≤SZ then
       (if allFlat es then some (.next,ρ.set v (some (.list (ds++es),.own b)))
       else if r.t.deep then none else some (.next,ρ.set v (some (.list (ds++es),.own (b || r.t.base))))) else none
     |_=>none)
    |none=>none)
   |_=>none)
  |some (some (d,.val _))=>if d.flat then (match evE Φ q ρ e with
   |some r=>(match augD op d r.d with
    |some d'=>(match setV ρ v (Rs.flat d') with|some ρ'=>some (.next,ρ')|none=>none)
    |none=>none)
   |none=>none) else none
  |_=>none)):=by kernel_rfl
theorem q_S_app {v} {e}:exS Φ q ρ (.app v e)=((match evE Φ q ρ e with
  |some r=>(match ρ[v]? with
   |some (some (.list ds,.own b))=>if ds.length+1≤SZ then (match eff r.d r.t with
    |⟨false,false,b'⟩=>some (.next,ρ.set v (some (.list (ds++[r.d]),.own (b || b'))))
    |_=>none) else none
   |_=>none)
  |none=>none)):=by kernel_rfl
theorem q_S_ins {v} {e1} {e2}:exS Φ q ρ (.ins v e1 e2)=((match evE Φ q ρ e1 with
  |some r1=>(match evE Φ q ρ e2 with
   |some r2=>(match ρ[v]? with
    |some (some (.list ds,.own b))=>(match r1.d with
     |.int k=>if 0≤k∧k≤ds.length∧ds.length+1≤SZ then (match eff r2.d r2.t with
      |⟨false,false,b'⟩=>some (.next,ρ.set v (some (.list (ds.take k.toNat++r2.d::ds.drop k.toNat),.own (b || b'))))
      |_=>none) else none
     |_=>none)
    |_=>none)
   |none=>none)
  |none=>none)):=by kernel_rfl
theorem q_S_if {t} {b} {o}:exS Φ q ρ (.if_ t b o)=((match evT Φ q ρ t with
  |some true=>exSs Φ q ρ b
  |some false=>exSs Φ q ρ o
  |none=>none)):=by kernel_rfl
theorem q_S_for {v} {it} {b}:exS Φ q ρ (.for_ v it b)=((match evI Φ q ρ it with
  |some its=>(match pinIt ρ it with
   |some (ρ',sv)=>if its.t.deep || (its.top&&sv.isNone) then none else
    (match forS (fun ρ d=>match setV ρ v (Rs.val d its.t) with
      |some ρ₁=>exSs Φ q ρ₁ b
      |none=>none) its.ds ρ' with
     |some (fl,ρ'')=>(match sv with
      |some (i,s)=>some (fl,ρ''.set i s)
      |none=>some (fl,ρ''))
     |none=>none)
   |none=>none)
  |none=>none)):=by kernel_rfl
theorem q_S_forG {v1} {v2} {e} {b}:exS Φ q ρ (.forG v1 v2 e b)=(if q then none else (match evE Φ q ρ e with
  |some r=>(match r.d with
   |.str l=>forS (fun ρ d=>match d with
     |.list [.int p,.str c]=>(match setV ρ v1 (Rs.flat (.int p)) with
      |some ρ₁=>(match setV ρ₁ v2 (Rs.flat (.str c)) with
       |some ρ₂=>exSs Φ true ρ₂ b
       |none=>none)
      |none=>none)
     |_=>none) ((escL l).map fun x=>D.list [.int x.1,.str x.2]) ρ
   |_=>none)
  |none=>none)):=by kernel_rfl
theorem q_S_while {t} {b}:exS Φ q ρ (.while_ t b)=(whileS (fun ρ=>evT Φ q ρ t) (fun ρ=>exSs Φ q ρ b) WF ρ):=by kernel_rfl
theorem q_S_ret {e}:exS Φ q ρ (.ret e)=((match evE Φ q ρ e with
  |some r=>some (.ret r,ρ)
  |none=>none)):=by kernel_rfl
theorem q_S_assert {t}:exS Φ q ρ (.assert_ t)=((match evT Φ q ρ t with
  |some true=>some (.next,ρ)
  |_=>none)):=by kernel_rfl
theorem q_Ss_cons {st} {r}:exSs Φ q ρ (.cons st r)=((match exS Φ q ρ st with
  |some (.next,ρ')=>exSs Φ q ρ' r
  |some (.ret x,ρ')=>some (.ret x,ρ')
  |none=>none)):=by kernel_rfl
end
noncomputable def bodyF (Φ:Fns)(q:Bool)(v:Nat)(t:Tg)(b:PSs)(ρ:Env')(d:D):Option (Fl×Env'):=
 match setV ρ v (Rs.val d t) with
 |some ρ₁=>exSs Φ q ρ₁ b
 |none=>none
noncomputable def compF (Φ:Fns)(ρ:Env')(v:Nat)(t:Tg)(elt:PE)(c:PTo)(d:D):Option (Option Rs):=
 match evTo Φ true (ρ.set v (some (d,.val (eff d t)))) c with
 |some true=>(match evE Φ true (ρ.set v (some (d,.val (eff d t)))) elt with
  |some r=>some (some r)
  |none=>none)
 |some false=>some none
 |none=>none
section
variable {Φ:Fns}{q:Bool}{ρ ρ':Env'}
theorem x_seq {st:PS}{r:PSs}(h:exS Φ q ρ st=some (.next,ρ')):exSs Φ q ρ (.cons st r)=exSs Φ q ρ' r:=by rw [q_Ss_cons,h]
theorem x_seqr {st:PS}{r:PSs}{x:Rs}(h:exS Φ q ρ st=some (.ret x,ρ')):exSs Φ q ρ (.cons st r)=some (.ret x,ρ'):=by rw [q_Ss_cons,h]
theorem x_asg {v:Nat}{e:PE}{r:Rs}(h:evE Φ q ρ e=some r)(h2:setV ρ v r=some ρ'):exS Φ q ρ (.asg v e)=some (.next,ρ'):=by rw [q_S_asg,h];simp only [h2]
theorem x_ift {t:PT}{b o:PSs}(h:evT Φ q ρ t=some true):exS Φ q ρ (.if_ t b o)=exSs Φ q ρ b:=by rw [q_S_if,h]
theorem x_iff {t:PT}{b o:PSs}(h:evT Φ q ρ t=some false):exS Φ q ρ (.if_ t b o)=exSs Φ q ρ o:=by rw [q_S_if,h]
theorem x_ret {e:PE}{r:Rs}(h:evE Φ q ρ e=some r):exS Φ q ρ (.ret e)=some (.ret r,ρ):=by rw [q_S_ret,h]
theorem x_assert {t:PT}(h:evT Φ q ρ t=some true):exS Φ q ρ (.assert_ t)=some (.next,ρ):=by rw [q_S_assert,h]
theorem x_app {v:Nat}{e:PE}{r:Rs}{ds:List D}{b b':Bool}(h:evE Φ q ρ e=some r)(hv:ρ[v]?=some (some (.list ds,.own b)))(hl:ds.length+1≤SZ)(he:eff r.d r.t=⟨false,false,b'⟩) :
  exS Φ q ρ (.app v e)=some (.next,ρ.set v (some (.list (ds++[r.d]),.own (b || b')))):=by
 rw [q_S_app,h];simp only [hv,he,if_pos hl]
theorem x_augi {v:Nat}{op:BOp}{e:PE}{i j:Int}{r:Rs}{d:D}(hv:ρ[v]?=some (some (.int i,.val Tg.z)))(h:evE Φ q ρ e=some r)(hr:r.d=.int j)(hd:augD op (.int i) (.int j)=some d)(h2:setV ρ v (Rs.flat d)=some ρ') :
  exS Φ q ρ (.aug v op e)=some (.next,ρ'):=by
 rw [q_S_aug,hv];simp [D.flat,h,hr,hd,h2]
theorem x_augs {v:Nat}{e:PE}{i j:List Nat}{r:Rs}(hv:ρ[v]?=some (some (.str i,.val Tg.z)))(h:evE Φ q ρ e=some r)(hr:r.d=.str j)(hl:i.length+j.length≤SZ)(h2:setV ρ v (Rs.flat (.str (i++j)))=some ρ') :
  exS Φ q ρ (.aug v .add e)=some (.next,ρ'):=by
 have hd:augD .add (.str i) (.str j)=some (.str (i++j)):=if_pos hl
 rw [q_S_aug,hv];simp [D.flat,h,hr,hd,h2]
theorem x_augl {v:Nat}{e:PE}{ds es:List D}{b:Bool}{r:Rs}(hv:ρ[v]?=some (some (.list ds,.own b)))(h:evE Φ q ρ e=some r)(hr:r.d=.list es)(hl:ds.length+es.length≤SZ)(hf:allFlat es=true) :
  exS Φ q ρ (.aug v .add e)=some (.next,ρ.set v (some (.list (ds++es),.own b))):=by
 rw [q_S_aug,hv];simp [h,hr,hf,if_pos hl]
theorem x_for0 {v:Nat}{it:PI}{b:PSs}{its:Items}{fl:Fl}{ρ₁:Env'}(h:evI Φ q ρ it=some its)(hp:pinIt ρ it=some (ρ',none))(hd:its.t.deep=false)(ht:its.top=false)
  (hf:forS (bodyF Φ q v its.t b) its.ds ρ'=some (fl,ρ₁)):exS Φ q ρ (.for_ v it b)=some (fl,ρ₁):=by
 rw [q_S_for,h];simp only [hp,hd,ht]
 show (match forS (bodyF Φ q v its.t b) its.ds ρ' with
  |some (fl,ρ'')=>some (fl,ρ'')
  |none=>none)=_
 rw [hf]
theorem x_for1 {v i:Nat}{s:Slot}{it:PI}{b:PSs}{its:Items}{fl:Fl}{ρ₁:Env'}(h:evI Φ q ρ it=some its)(hp:pinIt ρ it=some (ρ',some (i,s)))(hd:its.t.deep=false)
  (hf:forS (bodyF Φ q v its.t b) its.ds ρ'=some (fl,ρ₁)):exS Φ q ρ (.for_ v it b)=some (fl,ρ₁.set i s):=by
 rw [q_S_for,h];simp only [hp,hd,Option.isNone_some,qCn,Bool.or_self]
 show (match forS (bodyF Φ q v its.t b) its.ds ρ' with
  |some (fl,ρ'')=>some (fl,ρ''.set i s)
  |none=>none)=_
 rw [hf]
theorem e_call {f:Nat}{as:PL}{rs:List Rs}{d:D}(h:evL Φ q ρ as=some rs)(h2:Φ q f (rs.map (·.d))=some d):evE Φ q ρ (.call f as)=some (Rs.new d Tg.z):=by
 rw [q_E_call,h];simp only [h2]
theorem e_comp {elt:PE}{v:Nat}{it:PI}{c:PTo}{its:Items}{l:List D}(h:evI Φ q ρ it=some its)
  (hc:compL (compF Φ ρ v its.t elt c) its.ds=some l) (hl:l.length≤SZ):evE Φ q ρ (.comp elt v it c)=some (Rs.new (.list l) Tg.z):=by
 rw [q_E_comp,h]
 show (match compL (compF Φ ρ v its.t elt c) its.ds with
  |some l=>if l.length≤SZ then some (Rs.new (.list l) Tg.z) else none
  |none=>none)=_
 rw [hc]
 exact if_pos hl
theorem comp_map {α:Type}{f:D→Option (Option Rs)}{i g:α→D}:∀{l:List α},(∀a∈l,∃r,f (i a)=some (some r)∧r.d=g a∧eff r.d r.t=Tg.z)→compL f (l.map i)=some (l.map g)
 |[],_=>rfl
 |a::l,h=>by
  obtain⟨r,h1,h2,h3⟩:=h a (qA5 ..)
  have ih:=comp_map (f:=f) (i:=i) (g:=g) (l:=l) fun b hb=>h b (qA3 _ hb)
  rw [qAh,compL,h1,qAh]
  simp only [h3,Tg.z,ih]
  rw [h2]
theorem comp_filter {α:Type}{f:D→Option (Option Rs)}{i g:α→D}{p:α→Bool}:∀{l:List α},(∀a∈l,p a=true→∃r,f (i a)=some (some r)∧r.d=g a∧eff r.d r.t=Tg.z)→(∀a∈l,p a=false→f (i a)=some none)→compL f (l.map i)=some ((l.filter p).map g)
 |[],_,_=>rfl
 |a::l,h,h'=>by
  have ih:=comp_filter (f:=f) (i:=i) (g:=g) (p:=p) (l:=l) (fun b hb=>h b (qA3 _ hb)) fun b hb=>h' b (qA3 _ hb)
  rw [qAh,compL,qFc]
  cases hp:p a with
  |true=>
   obtain⟨r,h1,h2,h3⟩:=h a (qA5 ..) hp
   rw [h1]
   simp only [h3,Tg.z,ih,if_true,qAh]
   rw [h2]
  |false=>
   rw [h' a (qA5 ..) hp]
   simp only [ih]
   rfl
theorem run_ret {m n:Nat}{body:PSs}{args:List D}{r:Rs}{ρ':Env'}(hm:args.length=m)(h:exSs Φ q (args.map (fun d=>some (d,.val (eff d ⟨false,false,true⟩)))++qBh (n-args.length) none) body=some (.ret r,ρ'))
  (hb:((eff r.d r.t).base || !(r.d.flat || r.f))=false):runF Φ q m n body args=some r.d:=by
 unfold runF
 rw [if_neg (by simp [hm]),h]
 simp only [hb]
 rfl
end
end Mine
end

section
open PySem PyProof.Rows
namespace Mine
set_option maxRecDepth 100000
open Builtin Builtin.Str StrLaws
theorem slL_ab {α:Type}(l:List α){a b:Nat}(hab:a≤b)(hb:b≤l.length):slL l (some (a:Int)) (some (b:Int)) none=(l.drop a).take (b-a):=by
 unfold slL
 show (strSliceIndices (some (a:Int)) (some (b:Int)) 1 l.length).filterMap (l[·]?)=_
 rw [strSliceIndices_plain hab hb]
 exact picks l (b-a) a (jL [_,_,_,_] [cL xa xb,cQ (eA xc xd) xa] (cL (eA xd xc) xb) jT hb (qAg hab))
theorem slL_to {α:Type}(l:List α)(b:Nat):slL l none (some (b:Int)) none=l.take b:=by
 have key:∀b:Nat,b≤l.length→slL l none (some (b:Int)) none=l.take b:=fun b hb=>by
  have h:=slL_ab l (qBr b) hb
  unfold slL at h⊢
  show (strSliceIndices none (some (b:Int)) 1 l.length).filterMap (l[·]?)=_
  rw [sliceIdx_none_lo]
  exact h
 by_cases hb:b≤l.length
 ·exact key b hb
 ·have h:=key l.length (qA7 _)
  unfold slL at h⊢
  have e:strSliceIndices none (some (b:Int)) 1 l.length=strSliceIndices none (some (l.length:Int)) 1 l.length:=sliceIdx_hi_beyond l.length (by lia)
  show (strSliceIndices none (some (b:Int)) 1 l.length).filterMap (l[·]?)=_
  rw [e]
  exact h.trans (by rw [qGi,qBu (by exact jL [_,_] [cT xa xb] (cL xa xb) jT (qGh hb))])
theorem slL_from {α:Type}(l:List α)(a:Nat):slL l (some (a:Int)) none none=l.drop a:=by
 have key:∀a:Nat,a≤l.length→slL l (some (a:Int)) none none=l.drop a:=fun a ha=>by
  have h:=slL_ab l ha (qA7 _)
  unfold slL at h⊢
  show (strSliceIndices (some (a:Int)) none 1 l.length).filterMap (l[·]?)=_
  rw [sliceIdx_none_hi]
  refine h.trans ?_
  rw [qBu (by rw [qAn];exact qA7 _)]
 by_cases ha:a≤l.length
 ·exact key a ha
 ·have h:=key l.length (qA7 _)
  unfold slL at h⊢
  have e:strSliceIndices (some (a:Int)) none 1 l.length=strSliceIndices (some (l.length:Int)) none 1 l.length:=sliceIdx_lo_beyond l.length (by lia)
  show (strSliceIndices (some (a:Int)) none 1 l.length).filterMap (l[·]?)=_
  rw [e]
  exact h.trans (by rw [List.drop_length,qF0 (by exact jL [_,_] [cT xa xb] (cL xa xb) jT (qGh ha))])
noncomputable def evens {α:Type}:List α→List α
 |[]=>[]
 |[a]=>[a]
 |a::_::r=>a::evens r
end Mine
end

section
open PySem PyProof.Rows
namespace Mine
set_option maxRecDepth 100000
set_option Elab.async false
set_option linter.unusedSimpArgs false
noncomputable abbrev ds:List Nat:=[46,46,46]
noncomputable abbrev vs (l:List Nat):Slot:=some (.str l,.val Tg.z)
noncomputable abbrev vi (i:Int):Slot:=some (.int i,.val Tg.z)
noncomputable abbrev ol (l:List D):Slot:=some (.list l,.own false)
noncomputable abbrev pl (l:List D):Slot:=some (.list l,.pin false)
noncomputable def ellT:PSs:=
 (.cons (.if_ (.cmp .notin (.gstr [46,46,46]) (.var 0)) (.cons (.ret (.cmp .eq (.var 0) (.var 1)))
   .nil) .nil)
 (.cons (.asg 2 (.meth .split (.var 0) (.cons (.gstr [46,46,46]) .nil)))
 (.cons (.assert_ (.cmp .ge (.bi .len (.cons (.var 2) .nil)) (.int 2)))
 (.cons (.asg2 3 4 (.int 0) (.bi .len (.cons (.var 1) .nil)))
 (.cons (.asg 5 (.idx (.var 2) (.int 0)))
 (.cons (.if_ (.val (.var 5)) (.cons (.if_ (.val (.meth .startswith (.var 1) (.cons (.var 5) .nil))) (.cons (.asg 3 (.bi .len (.cons (.var 5) .nil)))
     (.cons (.del 2 false)
     .nil)) (.cons (.ret (.bool false))
     .nil))
   .nil) .nil)
 (.cons (.asg 5 (.idx (.var 2) (.neg (.int 1))))
 (.cons (.if_ (.val (.var 5)) (.cons (.if_ (.val (.meth .endswith (.var 1) (.cons (.var 5) .nil))) (.cons (.aug 4 .sub (.bi .len (.cons (.var 5) .nil)))
     (.cons (.del 2 true)
     .nil)) (.cons (.ret (.bool false))
     .nil))
   .nil) .nil)
 (.cons (.if_ (.cmp .gt (.var 3) (.var 4)) (.cons (.ret (.bool false))
   .nil) .nil)
 (.cons (.for_ 5 (.val (.var 2)) (.cons (.asg 3 (.meth .find3 (.var 1) (.cons (.var 5) (.cons (.var 3) (.cons (.var 4) .nil)))))
   (.cons (.if_ (.cmp .lt (.var 3) (.int 0)) (.cons (.ret (.bool false))
     .nil) .nil)
   (.cons (.aug 3 .add (.bi .len (.cons (.var 5) .nil)))
   .nil))))
 (.cons (.ret (.bool true))
 .nil)))))))))))
theorem ell_no (Φ:Fns)(q:Bool)(want got:List Nat)(h:inS ds want=false):runF Φ q 2 6 ellT [.str want,.str got]=some (.bool (decide (want=got))):=by
 unfold ellT
 refine run_ret (r:=Rs.flat (.bool (decide (want=got)))) (ρ':=[vs want,vs got,none,none,none,none]) rfl ?_ rfl
 refine x_seqr ?_
 refine (x_ift ?_).trans ?_
 ·show some (!inS ds want)=_
  rw [h];rfl
 ·exact x_seqr (x_ret rfl)
noncomputable def gl:List (List Nat)→List Nat→Bool
 |[],_=>true
 |w::ws,g=>match after w g with
  |some g'=>gl ws g'
  |none=>false
noncomputable def ellBody:PSs:=(.cons (.asg 3 (.meth .find3 (.var 1) (.cons (.var 5) (.cons (.var 3) (.cons (.var 4) .nil)))))
   (.cons (.if_ (.cmp .lt (.var 3) (.int 0)) (.cons (.ret (.bool false))
     .nil) .nil)
   (.cons (.aug 3 .add (.bi .len (.cons (.var 5) .nil)))
   .nil)))
theorem ell_loop (Φ:Fns)(q:Bool)(a0 a2:Slot)(got:List Nat)(en:Nat)(he:en≤got.length):∀(ws:List (List Nat)) (st:Nat) (w5:List Nat),st≤en→
  (if gl ws ((got.take en).drop st)=true then ∃ρ',forS (bodyF Φ q 5 Tg.z ellBody) (ws.map .str) [a0,vs got,a2,vi st,vi en,vs w5]=some (.next,ρ')
   else ∃ρ',forS (bodyF Φ q 5 Tg.z ellBody) (ws.map .str) [a0,vs got,a2,vi st,vi en,vs w5]=some (.ret (Rs.flat (.bool false)),ρ'))
 |[],st,_,hs=>⟨_,rfl⟩
 |w::ws,st,w5,hs=>by
  have h:=find3_after got w st en hs he
  have e0:((0:Int)≤st∧(st:Int)≤got.length∧(0:Int)≤en∧(en:Int)≤got.length):=⟨by exact qCd (st+0),by lia,by exact qCd (en+0),by lia⟩
  unfold gl
  have e1:∀k,find3I got w st en=k→exS Φ q [a0,vs got,a2,vi st,vi en,vs w] (.asg 3 (.meth .find3 (.var 1) (.cons (.var 5) (.cons (.var 3) (.cons (.var 4) .nil)))))=some (.next,[a0,vs got,a2,vi k,vi en,vs w]):=fun k hk=>
   x_asg (r:=Rs.flat (.int k)) (by rw [←hk];exact if_pos e0) rfl
  cases hA:after w ((got.take en).drop st) with
  |none=>
   rw [hA] at h
   rw [if_neg (by simp)]
   refine⟨[a0,vs got,a2,vi (-1),vi en,vs w],?_⟩
   have h:find3I got w st en=-1:=h
   have key:bodyF Φ q 5 Tg.z ellBody [a0,vs got,a2,vi st,vi en,vs w5] (.str w)=some (.ret (Rs.flat (.bool false)),[a0,vs got,a2,vi (-1),vi en,vs w]):=by
    show exSs Φ q [a0,vs got,a2,vi st,vi en,vs w] ellBody=_
    refine (x_seq (e1 _ h)).trans ?_
    exact x_seqr rfl
   rw [qAh,forS_c,key];rfl
  |some g=>
   rw [hA] at h
   obtain⟨k,h1,h2,h3,h4⟩:=h
   have ih:=ell_loop Φ q a0 a2 got en he ws (k+w.length) w h3
   rw [h4] at ih
   have key:bodyF Φ q 5 Tg.z ellBody [a0,vs got,a2,vi st,vi en,vs w5] (.str w)=some (Fl.next,[a0,vs got,a2,vi ((k+w.length:Nat):Int),vi en,vs w]):=by
    have hn:¬((k:Int)<0):=by lia
    show exSs Φ q [a0,vs got,a2,vi st,vi en,vs w] ellBody=_
    refine (x_seq (e1 _ h1)).trans ?_
    refine (x_seq (x_iff (by show some (decide ((k:Int)<0))=_;rw [decide_eq_false hn]))).trans ?_
    rfl
   show if gl ws g=true then _ else _
   rw [qAh,forS_c,key]
   exact ih
theorem gl_nil (w:List Nat)(h:w=[]) (ws)(g:List Nat):gl (w::ws) g=gl ws g:=by
 subst h
 have:after [] g=some g:=by rcases g with _|_<;>rfl
 show (match after [] g with|some g'=>gl ws g'|none=>false)=_
 rw [this]
theorem gl_snoc:∀(ws:List (List Nat)) (g:List Nat),gl (ws++[[]]) g=gl ws g
 |[],g=>gl_nil [] rfl [] g
 |w::ws,g=>by
  rw [qB7]
  unfold gl
  cases after w g with
  |none=>rfl
  |some g'=>exact gl_snoc ws g'
noncomputable def ellTail:PSs:=(.cons (.asg 5 (.idx (.var 2) (.neg (.int 1))))
 (.cons (.if_ (.val (.var 5)) (.cons (.if_ (.val (.meth .endswith (.var 1) (.cons (.var 5) .nil))) (.cons (.aug 4 .sub (.bi .len (.cons (.var 5) .nil)))
     (.cons (.del 2 true)
     .nil)) (.cons (.ret (.bool false))
     .nil))
   .nil) .nil)
 (.cons (.if_ (.cmp .gt (.var 3) (.var 4)) (.cons (.ret (.bool false))
   .nil) .nil)
 (.cons (.for_ 5 (.val (.var 2)) ellBody)
 (.cons (.ret (.bool true))
 .nil)))))
noncomputable def ellEnd:PSs:=(.cons (.if_ (.cmp .gt (.var 3) (.var 4)) (.cons (.ret (.bool false))
   .nil) .nil)
 (.cons (.for_ 5 (.val (.var 2)) ellBody)
 (.cons (.ret (.bool true))
 .nil)))
theorem ell_end (Φ:Fns)(q:Bool)(a0:Slot)(got:List Nat)(L:List (List Nat))(st en:Nat)(w5:List Nat)(he:en≤got.length) :
  ∃ρ',exSs Φ q [a0,vs got,ol (L.map .str),vi st,vi en,vs w5] ellEnd=some (.ret (Rs.flat (.bool (decide (st≤en)&&gl L ((got.take en).drop st)))),ρ'):=by
 by_cases hs:st≤en
 ·have hn:¬((st:Int) > en):=by lia
  rw [decide_eq_true hs,qEb]
  have h:=ell_loop Φ q a0 (pl (L.map .str)) got en he L st w5 hs
  have e1:exSs Φ q [a0,vs got,ol (L.map .str),vi st,vi en,vs w5] ellEnd=exSs Φ q [a0,vs got,ol (L.map .str),vi st,vi en,vs w5] ((.cons (.for_ 5 (.val (.var 2)) ellBody)
   (.cons (.ret (.bool true)) .nil))):=x_seq (x_iff (by show some (decide ((st:Int) > en))=_;rw [decide_eq_false hn]))
  rw [e1]
  cases hg:gl L ((got.take en).drop st) with
  |true=>
   rw [hg,if_pos rfl] at h
   obtain⟨ρ',h⟩:=h
   exact⟨_,(x_seq (x_for1 (i:=2) (s:=ol (L.map .str)) rfl rfl rfl h)).trans (x_seqr (x_ret rfl))⟩
  |false=>
   rw [hg,if_neg (by simp)] at h
   obtain⟨ρ',h⟩:=h
   exact⟨_,x_seqr (x_for1 (i:=2) (s:=ol (L.map .str)) rfl rfl rfl h)⟩
 ·have hn:((st:Int) > en):=by lia
  rw [decide_eq_false hs,qDh]
  exact⟨_,x_seqr ((x_ift (by show some (decide ((st:Int) > en))=_;rw [decide_eq_true hn])).trans (x_seqr (x_ret rfl)))⟩
theorem ell_tail (Φ:Fns)(q:Bool)(a0:Slot)(got:List Nat)(A:List (List Nat))(wl:List Nat)(st:Nat)(w5:List Nat) :
  ∃ρ',exSs Φ q [a0,vs got,ol ((A++[wl]).map .str),vi st,vi got.length,vs w5] ellTail=some (.ret (Rs.flat (.bool (wl.isSuffixOf got&&(decide (st+wl.length≤got.length)&&gl A ((got.take (got.length-wl.length)).drop st))))),ρ'):=by
 have e1:evE Φ q [a0,vs got,ol ((A++[wl]).map .str),vi st,vi got.length,vs w5] (.idx (.var 2) (.neg (.int 1)))=some (Rs.flat (.str wl)):=by
  have hl:((A++[wl]).map D.str).length=A.length+1:=by simp
  refine (if_pos (by show -(((A++[wl]).map D.str).length:Int)≤-1;rw [hl];lia)).trans ?_
  have:((A++[wl]).map D.str)[((-1:Int)+((A++[wl]).map D.str).length).toNat]?=some (.str wl):=by
   rw [hl]
   have:((-1:Int)+((A.length+1:Nat):Int)).toNat=A.length:=by lia
   rw [this];simp
  show (match ((A++[wl]).map D.str)[((-1:Int)+((A++[wl]).map D.str).length).toNat]? with|some d=>some (Rs.val d Tg.z)|none=>none)=_
  rw [this];rfl
 have e2:exSs Φ q [a0,vs got,ol ((A++[wl]).map .str),vi st,vi got.length,vs w5] ellTail=exSs Φ q [a0,vs got,ol ((A++[wl]).map .str),vi st,vi got.length,vs wl] (.cons (.if_ (.val (.var 5)) (.cons (.if_ (.val (.meth .endswith (.var 1) (.cons (.var 5) .nil))) (.cons (.aug 4 .sub (.bi .len (.cons (.var 5) .nil)))
     (.cons (.del 2 true)
     .nil)) (.cons (.ret (.bool false))
     .nil))
   .nil) .nil) ellEnd):=x_seq (x_asg e1 rfl)
 rw [e2]
 by_cases hw:wl=[]
 ·subst hw
  obtain⟨ρ',h⟩:=ell_end Φ q a0 got (A++[[]]) st got.length [] (qA7 _)
  refine⟨ρ',(x_seq (x_iff (by rfl))).trans (h.trans ?_)⟩
  rw [gl_snoc]
  simp
 ·have ht:evT Φ q [a0,vs got,ol ((A++[wl]).map .str),vi st,vi got.length,vs wl] (.val (.var 5))=some true:=by
   show some (decide (wl≠[]))=_
   rw [decide_eq_true hw]
  have ht2:evT Φ q [a0,vs got,ol ((A++[wl]).map .str),vi st,vi got.length,vs wl] (.val (.meth .endswith (.var 1) (.cons (.var 5) .nil)))=some (wl.isSuffixOf got):=by
   show some (endsB got wl)=_
   rw [endsB_eq]
  cases hsx:wl.isSuffixOf got with
  |false=>
   rw [qDh]
   exact⟨_,x_seqr ((x_ift ht).trans (x_seqr ((x_iff (ht2.trans (by rw [hsx]))).trans (x_seqr (x_ret rfl)))))⟩
  |true=>
   rw [qEb]
   have hle:=(qDa.mp hsx).length_le
   obtain⟨ρ',h⟩:=ell_end Φ q a0 got A st (got.length-wl.length) wl (Nat.sub_le (qB8 got) (qB8 wl))
   have e3:decide (st≤got.length-wl.length)=decide (st+wl.length≤got.length):=by
    rw [qC1,decide_eq_true_iff,decide_eq_true_iff];lia
   rw [e3] at h
   refine⟨ρ',(x_seq ((x_ift ht).trans ((x_seq (ρ':=[a0,vs got,ol (A.map .str),vi st,vi ((got.length-wl.length:Nat):Int),vs wl]) ((x_ift (ht2.trans (by rw [hsx]))).trans ?_)).trans rfl))).trans h⟩
   have e4:((got.length-wl.length:Nat):Int)=(got.length:Int)-wl.length:=by lia
   refine (x_seq (x_augi (ρ':=[a0,vs got,ol ((A++[wl]).map .str),vi st,vi ((got.length-wl.length:Nat):Int),vs wl]) (r:=Rs.flat (.int wl.length)) rfl rfl rfl rfl (by rw [e4];rfl))).trans ?_
   have e5:exS Φ q [a0,vs got,ol ((A++[wl]).map .str),vi st,vi ((got.length-wl.length:Nat):Int),vs wl] (.del 2 true)=some (.next,[a0,vs got,ol (A.map .str),vi st,vi ((got.length-wl.length:Nat):Int),vs wl]):=by
    show (if ((A++[wl]).map D.str).length=0 then none else some (Fl.next,[a0,vs got,some (.list ((A++[wl]).map D.str).dropLast,.own false),vi st,vi ((got.length-wl.length:Nat):Int),vs wl]))=_
    rw [if_neg (by simp)]
    simp
   exact (x_seq e5).trans rfl
theorem cut_len (y:List Nat):∀(x:List Nat) (k:Nat) (acc:List Nat),(cut y x k acc).length≤x.length+1∧∀p∈cut y x k acc,p.length≤acc.length+x.length
 |[],k,acc=>by rw [cut_n];exact⟨qA7 _,fun p h=>by rw [qAi.mp h];exact qA7 _⟩
 |c::r,0,acc=>by
  rw [cut_c]
  split
  ·have ih:=cut_len y r (y.length-1) []
   refine⟨by simp only [qAd];exact jL [_,_] [cL xa (eU xb)] (cL (eU xa) (eU (eU xb))) jT ih.1,fun p hp=>?_⟩
   rcases qA6.mp hp with rfl|hp
   ·exact qB5 (qB8 p) (qB8 (c::r))
   ·have:=ih.2 p hp
    simp only [qAd,qCq] at this ⊢;exact jL [_,_,_] [cL xa (eA (eN 0) xb)] (cL xa (eA xc (eU xb))) jT this
  ·have ih:=cut_len y r 0 (acc++[c])
   refine⟨by simp only [qAd];exact jL [_,_] [cL xa (eU xb)] (cL xa (eU (eU xb))) jT ih.1,fun p hp=>?_⟩
   have:=ih.2 p hp
   simp only [qAd,qA1,qCq] at this ⊢;exact jL [_,_,_] [cL xa (eA (eA xb (eU (eN 0))) xc)] (cL xa (eA xb (eU xc))) jT this
 |c::r,k+1,acc=>by
  rw [cut_s]
  have ih:=cut_len y r k acc
  refine⟨by simp only [qAd];exact jL [_,_] [cL xa (eU xb)] (cL xa (eU (eU xb))) jT ih.1,fun p hp=>?_⟩
  have:=ih.2 p hp
  simp only [qAd];exact qH8 this
noncomputable def ellB (w0:List Nat)(mid:List (List Nat))(wl got:List Nat):Bool:=
 w0.isPrefixOf got&&(wl.isSuffixOf got&&(decide (w0.length+wl.length≤got.length)&&gl mid ((got.take (got.length-wl.length)).drop w0.length)))
theorem ell_yes (Φ:Fns)(q:Bool)(want got w0:List Nat)(mid:List (List Nat))(wl:List Nat)(hin:inS ds want=true)(hl:want.length<SZ)(hc:cut ds want 0 []=w0::(mid++[wl])) :
  runF Φ q 2 6 ellT [.str want,.str got]=some (.bool (ellB w0 mid wl got)):=by
 have hsp:splitL want ds=w0::(mid++[wl]):=by rw [splitL_eq want ds (by simp) (by simp [qC3,mk]),hc]
 have hlen:=cut_len ds want 0 []
 rw [hc] at hlen
 unfold ellT
 obtain⟨ρ',h⟩:∃ρ',exSs Φ q [vs want,vs got,none,none,none,none] ellT=some (.ret (Rs.flat (.bool (ellB w0 mid wl got))),ρ'):=by
  unfold ellT
  have s1:exS Φ q [vs want,vs got,none,none,none,none] (.if_ (.cmp .notin (.gstr [46,46,46]) (.var 0)) (.cons (.ret (.cmp .eq (.var 0) (.var 1))) .nil) .nil)=some (.next,[vs want,vs got,none,none,none,none]):=
   (x_iff (by show some (!inS ds want)=_;rw [hin];rfl)).trans rfl
  have s2:exS Φ q [vs want,vs got,none,none,none,none] (.asg 2 (.meth .split (.var 0) (.cons (.gstr [46,46,46]) .nil)))=some (.next,[vs want,vs got,ol ((w0::(mid++[wl])).map .str),none,none,none]):=by
   refine x_asg (r:=Rs.new (.list ((w0::(mid++[wl])).map .str)) Tg.z) ?_ rfl
   refine (if_pos ?_).trans (by rw [hsp])
   refine⟨by decide,?_,?_⟩
   ·rw [hsp];have:=hlen.1;exact jL [_,_,_] [cT xa xb,cL xc (eU xa)] (cL xc xb) jT hl hlen.1
   ·rw [hsp,qC2]
    intro p hp
    have:=hlen.2 p hp
    simp only [qCq] at this
    exact decide_eq_true (jL [_,_,_] [cT xa xb,cL xc (eA (eN 0) xa)] (cL xc xb) jT hl this)
  have s3:exS Φ q [vs want,vs got,ol ((w0::(mid++[wl])).map .str),none,none,none] (.assert_ (.cmp .ge (.bi .len (.cons (.var 2) .nil)) (.int 2)))=some (.next,[vs want,vs got,ol ((w0::(mid++[wl])).map .str),none,none,none]):=by
   refine x_assert ?_
   show some (decide ((((w0::(mid++[wl])).map D.str).length:Int)≥2))=_
   rw [decide_eq_true]
   simp;lia
  have s4:∀r,exSs Φ q [vs want,vs got,ol ((w0::(mid++[wl])).map .str),none,none,none] (.cons (.asg2 3 4 (.int 0) (.bi .len (.cons (.var 1) .nil))) (.cons (.asg 5 (.idx (.var 2) (.int 0))) r))=exSs Φ q [vs want,vs got,ol ((w0::(mid++[wl])).map .str),vi 0,vi got.length,vs w0] r:=fun r=>
   (x_seq (ρ':=[vs want,vs got,ol ((w0::(mid++[wl])).map .str),vi 0,vi got.length,none]) rfl).trans (x_seq rfl)
  have pre:∀ρ',exSs Φ q [vs want,vs got,ol ((w0::(mid++[wl])).map .str),vi 0,vi got.length,vs w0] (.cons (.if_ (.val (.var 5)) (.cons (.if_ (.val (.meth .startswith (.var 1) (.cons (.var 5) .nil))) (.cons (.asg 3 (.bi .len (.cons (.var 5) .nil)))
     (.cons (.del 2 false)
     .nil)) (.cons (.ret (.bool false))
     .nil))
   .nil) .nil) ellTail)=some (.ret (Rs.flat (.bool (ellB w0 mid wl got))),ρ')→∃ρ',exSs Φ q [vs want,vs got,none,none,none,none] ellT=some (.ret (Rs.flat (.bool (ellB w0 mid wl got))),ρ'):=fun ρ' h=>
   ⟨ρ',(x_seq s1).trans ((x_seq s2).trans ((x_seq s3).trans ((s4 _).trans h)))⟩
  by_cases hw:w0=[]
  ·subst hw
   obtain⟨ρ',h⟩:=ell_tail Φ q (vs want) got ([]::mid) wl 0 []
   refine pre ρ' ((x_seq (x_iff (by rfl))).trans (h.trans ?_))
   have e:[].isPrefixOf got=true:=by rcases got with _|_<;>rfl
   rw [gl_nil [] rfl]
   unfold ellB
   rw [e,qEb];rfl
  ·have ht:evT Φ q [vs want,vs got,ol ((w0::(mid++[wl])).map .str),vi 0,vi got.length,vs w0] (.val (.var 5))=some true:=by
    show some (decide (w0≠[]))=_
    rw [decide_eq_true hw]
   have ht2:evT Φ q [vs want,vs got,ol ((w0::(mid++[wl])).map .str),vi 0,vi got.length,vs w0] (.val (.meth .startswith (.var 1) (.cons (.var 5) .nil)))=some (w0.isPrefixOf got):=by
    show some (startsB got w0)=_
    rw [startsB_eq]
   cases hp:w0.isPrefixOf got with
   |false=>
    have he:ellB w0 mid wl got=false:=by unfold ellB;rw [hp];rfl
    rw [he] at pre⊢
    exact pre _ (x_seqr ((x_ift ht).trans (x_seqr ((x_iff (ht2.trans (by rw [hp]))).trans (x_seqr (x_ret rfl))))))
   |true=>
    obtain⟨ρ',h⟩:=ell_tail Φ q (vs want) got mid wl w0.length w0
    refine pre ρ' ((x_seq (ρ':=[vs want,vs got,ol ((mid++[wl]).map .str),vi w0.length,vi got.length,vs w0]) ((x_ift ht).trans ((x_seq ((x_ift (ht2.trans (by rw [hp]))).trans ?_)).trans rfl))).trans (h.trans ?_))
    ·exact (x_seq (ρ':=[vs want,vs got,ol ((w0::(mid++[wl])).map .str),vi w0.length,vi got.length,vs w0]) rfl).trans ((x_seq rfl).trans rfl)
    ·unfold ellB
     rw [hp,qEb]
 exact run_ret (r:=Rs.flat (.bool (ellB w0 mid wl got))) rfl h rfl
noncomputable def stT:PSs:=
 (.cons (.if_ (.cmp .notin (.str [34]) (.var 0)) (.cons (.ret (.var 0))
   .nil) .nil)
 (.cons (.asg 1 (.int 0))
 (.cons (.asg 2 .none)
 (.cons (.asg 3 (.list .nil))
 (.cons (.forG 4 5 (.var 0) (.cons (.if_ (.cmp .eq (.var 5) (.str [34])) (.cons (.if_ (.cmp .is (.var 2) .none) (.cons (.asg 2 (.var 4))
       .nil) (.cons (.if_ (.cmp .ne (.var 1) (.var 2)) (.cons (.app 3 (.slice (.var 0) (.some (.var 1)) (.some (.var 2))))
         .nil) .nil)
       (.cons (.asg 1 (.bin .add (.var 4) (.int 1)))
       (.cons (.asg 2 .none)
       .nil))))
     .nil) .nil)
   .nil))
 (.cons (.if_ (.cmp .lt (.var 1) (.bi .len (.cons (.var 0) .nil))) (.cons (.app 3 (.slice (.var 0) (.some (.var 1)) .no))
   .nil) .nil)
 (.cons (.ret (.meth .join (.str []) (.cons (.var 3) .nil)))
 .nil)))))))
noncomputable def ckT:PSs:=
 (.cons (.asg 0 (.call 2 (.cons (.var 0) .nil)))
 (.cons (.asg 1 (.int 0))
 (.cons (.forG 2 3 (.var 0) (.cons (.if_ (.cmp .eq (.var 3) (.str [40])) (.cons (.aug 1 .add (.int 1))
     .nil) (.cons (.if_ (.cmp .eq (.var 3) (.str [41])) (.cons (.aug 1 .sub (.int 1))
       (.cons (.if_ (.cmp .lt (.var 1) (.int 0)) (.cons (.ret (.bool false))
         .nil) .nil)
       .nil)) .nil)
     .nil))
   .nil))
 (.cons (.ret (.cmp .eq (.var 1) (.int 0)))
 .nil))))
noncomputable def bodyG (Φ:Fns)(v1 v2:Nat)(b:PSs)(ρ:Env')(d:D):Option (Fl×Env'):=match d with
 |.list [.int p,.str c]=>(match setV ρ v1 (Rs.flat (.int p)) with
  |some ρ₁=>(match setV ρ₁ v2 (Rs.flat (.str c)) with
   |some ρ₂=>exSs Φ true ρ₂ b
   |none=>none)
  |none=>none)
 |_=>none
theorem x_forG {Φ:Fns}{ρ ρ':Env'}{v1 v2:Nat}{e:PE}{b:PSs}{fl:Fl}{l:List Nat}{r:Rs}(h:evE Φ false ρ e=some r)(hr:r.d=.str l)
  (hf:forS (bodyG Φ v1 v2 b) ((escL l).map fun x=>D.list [.int x.1,.str x.2]) ρ=some (fl,ρ')):exS Φ false ρ (.forG v1 v2 e b)=some (fl,ρ'):=by
 obtain⟨d,tg,f⟩:=r
 obtain rfl:d=.str l:=hr
 rw [q_S_forG,h];exact hf
noncomputable def Tok (t:List Nat):Prop:=(∃c,c≠92∧t=[c])∨∃c,t=[92,c]
noncomputable def posT:Nat→List (List Nat)→List (Int×List Nat)
 |_,[]=>[]
 |p,t::r=>(((p+t.length-1:Nat):Int),t)::posT (p+t.length) r
theorem escG_tok:∀(ts:List (List Nat)) (p:Nat),(∀t∈ts,Tok t)→escG p false ts.flatten=posT p ts
 |[],p,_=>rfl
 |t::r,p,h=>by
  have ih:=escG_tok r (p+t.length) fun t ht=>h t (qA3 _ ht)
  rw [qBe]
  rcases h t (qA5 ..) with⟨c,hc,rfl⟩|⟨c,rfl⟩
  ·show (if c=92 then _ else _)=_
   rw [if_neg hc]
   show ((p:Int),[c])::escG (p+1) false r.flatten=_
   have ih:escG (p+1) false r.flatten=posT (p+1) r:=ih
   rw [ih];rfl
  ·show (if (92:Nat)=92 then _ else _)=_
   rw [if_pos rfl]
   show (((p+1:Nat):Int),[92,c])::escG (p+1+1) false r.flatten=_
   have ih:escG (p+1+1) false r.flatten=posT (p+2) r:=ih
   rw [ih];rfl
noncomputable def strip2:List (List Nat)→Option (List (List Nat))→List (List Nat)
 |[],none=>[]
 |[],some acc=>acc
 |t::r,none=>if t=[34] then strip2 r (some [t]) else t::strip2 r none
 |t::r,some acc=>if t=[34] then strip2 r none else strip2 r (some (acc++[t]))
noncomputable def stB:PSs:=(.cons (.if_ (.cmp .eq (.var 5) (.str [34])) (.cons (.if_ (.cmp .is (.var 2) .none) (.cons (.asg 2 (.var 4))
       .nil) (.cons (.if_ (.cmp .ne (.var 1) (.var 2)) (.cons (.app 3 (.slice (.var 0) (.some (.var 1)) (.some (.var 2))))
         .nil) .nil)
       (.cons (.asg 1 (.bin .add (.var 4) (.int 1)))
       (.cons (.asg 2 .none)
       .nil))))
     .nil) .nil)
   .nil)
noncomputable abbrev vn:Slot:=some (.none,.val Tg.z)
noncomputable abbrev stE (addr:List Nat)(s:Nat)(o:Option Nat)(R:List (List Nat))(a4 a5:Slot):Env':=[vs addr,vi s,(match o with|none=>vn|some i=>vi i),ol (R.map .str),a4,a5]
theorem evO_nat {Φ q ρ}{e:PE}{i:Nat}(h:evE Φ q ρ e=some (Rs.flat (.int i)))(hs:(i:Int)<I63):evO Φ q ρ (.some e)=some (some (i:Int)):=by
 rw [q_O_some,h]
 have:small (i:Int)=true:=by
  unfold small
  rw [decide_eq_true (by unfold I63 at *;lia),decide_eq_true hs];rfl
 simp only [Rs.flat,this,if_true]
theorem e_sl {Φ q ρ}{e:PE}{lo hi:PO}{l h:Option Int}{x:List Nat}{t:Tg}{f:Bool}(h0:evE Φ q ρ e=some ⟨.str x,t,f⟩)(h1:evO Φ q ρ lo=some l)(h2:evO Φ q ρ hi=some h) :
  evE Φ q ρ (.slice e lo hi)=some (Rs.flat (.str (slL x l h none))):=by
 rw [q_E_slice,h0];simp only [h1,h2];rfl
theorem st_open {Φ:Fns}{addr:List Nat}{s p:Nat}{R:List (List Nat)}{a4 a5:Slot}{t:List Nat}(h4:a4=none∨∃i,a4=vi i)(h5:a5=none∨∃i,a5=vs i)(o:Option Nat) :
  bodyG Φ 4 5 stB (stE addr s o R a4 a5) (.list [.int p,.str t])=exSs Φ true (stE addr s o R (vi p) (vs t)) stB:=by
 rcases h4 with rfl|⟨i,rfl⟩<;>rcases h5 with rfl|⟨j,rfl⟩<;>rfl
theorem st_body {Φ:Fns}{addr:List Nat}{s p:Nat}{R:List (List Nat)}{t:List Nat}(o:Option Nat)(hb:addr.length<1000000)(hR:R.length<1000000)(ho:∀i,o=some i→s≤i∧i≤addr.length) :
  exSs Φ true (stE addr s o R (vi p) (vs t)) stB=some (.next,if t=[34] then (match o with
   |none=>stE addr s (some p) R (vi p) (vs t)
   |some i=>stE addr (p+1) none (R++(if s=i then [] else [(addr.drop s).take (i-s)])) (vi p) (vs t)) else stE addr s o R (vi p) (vs t)):=by
 have hc:∀o,evT Φ true (stE addr s o R (vi p) (vs t)) (.cmp .eq (.var 5) (.str [34]))=some (decide (t=[34])):=fun o=>rfl
 by_cases ht:t=[34]
 ·rw [if_pos ht]
  rw [decide_eq_true ht] at hc
  cases o with
  |none=>exact x_seq ((x_ift (hc none)).trans (x_seq (x_ift rfl)))
  |some i=>
   obtain⟨h1,h2⟩:=ho i rfl
   refine (x_seq (ρ':=stE addr (p+1) none (R++(if s=i then [] else [(addr.drop s).take (i-s)])) (vi p) (vs t)) ((x_ift (hc _)).trans ((x_seq ((x_iff rfl).trans ?_)).trans rfl))).trans rfl
   have hne:evT Φ true (stE addr s (some i) R (vi p) (vs t)) (.cmp .ne (.var 1) (.var 2))=some (!decide ((s:Int)=i)):=rfl
   by_cases hs:s=i
   ·rw [if_pos hs,qAu]
    rw [decide_eq_true (by lia)] at hne
    refine (x_seq (x_iff hne)).trans ?_
    rfl
   ·rw [if_neg hs]
    rw [decide_eq_false (by lia)] at hne
    have e1:evE Φ true (stE addr s (some i) R (vi p) (vs t)) (.slice (.var 0) (.some (.var 1)) (.some (.var 2)))=some (Rs.flat (.str ((addr.drop s).take (i-s)))):=by
     rw [e_sl (x:=addr) (l:=some (s:Int)) (h:=some (i:Int)) rfl (evO_nat rfl (by unfold I63;lia)) (evO_nat rfl (by unfold I63;lia)),slL_ab addr h1 h2]
    refine (x_seq (ρ':=stE addr s (some i) (R++[(addr.drop s).take (i-s)]) (vi p) (vs t)) ((x_ift hne).trans ((x_seq (x_app (b:=false) (b':=false) e1 rfl (by rw [qAa];unfold SZ;lia) rfl)).trans ?_))).trans ?_
    ·unfold stE ol
     rw [qAt];rfl
    ·rfl
 ·rw [if_neg ht]
  rw [decide_eq_false ht] at hc
  exact x_seq (x_iff (hc o))
theorem take_grow {addr t x:List Nat}{s p:Nat}(h:addr.drop p=t++x)(hs:s≤p):(addr.drop s).take (p+t.length-s)=(addr.drop s).take (p-s)++t:=by
 have e:p+t.length-s=(p-s)+t.length:=Nat.sub_add_comm hs
 rw [e,List.take_add,qG1]
 rw [qDu hs,h,qH6]
inductive SH (addr:List Nat)(p s:Nat)(R:List (List Nat))(a4 a5:Slot)(rest:List Nat):Prop
 |mk (h4:a4=none∨∃i,a4=vi i) (h5:a5=none∨∃i,a5=vs i) (hd:addr.drop p=rest) (hp:p≤addr.length) (hs:s≤p) (hR:R.length≤s) (hF:R.flatten.length≤s)
inductive StOut (run:Option (Fl×Env'))(addr T:List Nat):Prop
 |mk (s':Nat) (o':Option Nat) (R':List (List Nat)) (a4 a5:Slot) (e1:run=some (.next,stE addr s' o' R' a4 a5)) (e2:s'≤addr.length) (e3:R'.length≤s') (e4:R'.flatten.length≤s') (e5:R'.flatten++addr.drop s'=T)
theorem StOut.to {run:Option (Fl×Env')}{addr T T':List Nat}(h:StOut run addr T)(e:T=T'):StOut run addr T':=e▸h
noncomputable def stF (ts:List (Int×List Nat)):List D:=ts.map fun x=>D.list [.int x.1,.str x.2]
theorem st_step {Φ:Fns}{addr T:List Nat}{z:Env'}{s p:Nat}{R:List (List Nat)}{a4 a5:Slot}{t:List Nat}{r:List (List Nat)}{o:Option Nat}(h4:a4=none∨∃i,a4=vi i)(h5:a5=none∨∃i,a5=vs i)(hb:addr.length<1000000)(hR:R.length<1000000)(ho:∀i,o=some i→s≤i∧i≤addr.length)
  (hz:(if t=[34] then (match o with
   |none=>stE addr s (some (p+t.length-1)) R (vi (p+t.length-1:Nat)) (vs t)
   |some i=>stE addr (p+t.length-1+1) none (R++(if s=i then [] else [(addr.drop s).take (i-s)])) (vi (p+t.length-1:Nat)) (vs t)) else stE addr s o R (vi (p+t.length-1:Nat)) (vs t))=z)
  (h:StOut (forS (bodyG Φ 4 5 stB) (stF (posT (p+t.length) r)) z) addr T) :
  StOut (forS (bodyG Φ 4 5 stB) (stF (posT p (t::r))) (stE addr s o R a4 a5)) addr T:=by
 unfold posT
 show StOut (forS _ (_::stF _) _) _ _
 rw [forS_c,(st_open (Φ:=Φ) (addr:=addr) (s:=s) (p:=p+t.length-1) (R:=R) (t:=t) h4 h5 o).trans (st_body o hb hR ho),hz]
 exact h
theorem drop_next {addr t r:List Nat}{p:Nat}(hd:addr.drop p=t++r)(hp:p≤addr.length):p+t.length≤addr.length∧addr.drop (p+t.length)=r:=by
 refine⟨?_,by rw [←qG1,hd,qF5]⟩
 have:=congrArg qB8 hd
 rw [qAn,qA1] at this
 exact jL [_,_,_,_,_] [cR xa (eA xb xc),cQ (eA xa xd) xe] (cL (eA xd xb) xe) jT this (qAg hp)
theorem st_end {addr R a:List Nat}{s i:Nat}(h1:s≤i)(h3:a=(addr.drop i).take (addr.length-i)):R++addr.drop s=R++(addr.drop s).take (i-s)++a:=by
 rw [h3,qAe,qBu (l:=addr.drop i) (by rw [qAn];exact qA7 _),show addr.drop i=(addr.drop s).drop (i-s) by rw [qG1,qDu h1],qAy]
theorem st_cut {addr:List Nat}{s i p:Nat}{R:List (List Nat)}(hR:R.length≤s)(hF:R.flatten.length≤s)(h1:s≤i)(h2:i≤p) :
  (R++(if s=i then [] else [(addr.drop s).take (i-s)])).flatten=R.flatten++(addr.drop s).take (i-s)∧(R++(if s=i then [] else [(addr.drop s).take (i-s)])).length≤p+1∧(R++(if s=i then [] else [(addr.drop s).take (i-s)])).flatten.length≤p+1:=by
 have eF:(R++(if s=i then [] else [(addr.drop s).take (i-s)])).flatten=R.flatten++(addr.drop s).take (i-s):=by
  rw [qBl]
  by_cases hsi:s=i
  ·rw [if_pos hsi,hsi,qEq];rfl
  ·rw [if_neg hsi];simp
 refine⟨eF,?_,?_⟩
 ·by_cases hsi:s=i
  ·rw [if_pos hsi,qAu];exact qA9 hR (qB4 (qA9 h1 h2))
  ·rw [if_neg hsi,qA1];exact Nat.succ_le_succ (qA9 hR (qA9 h1 h2))
 ·rw [eF,qA1,qB6]
  exact qB4 (qA9 (qDy hF (qCr ..)) (by rw [qDu h1];exact h2))
theorem st_loop {Φ:Fns}{addr:List Nat}(hb:addr.length<1000000)(ts:List (List Nat)) :
  (∀(p s:Nat) (R:List (List Nat)) (a4 a5:Slot),SH addr p s R a4 a5 ts.flatten→StOut (forS (bodyG Φ 4 5 stB) (stF (posT p ts)) (stE addr s none R a4 a5)) addr (R.flatten++(addr.drop s).take (p-s)++(strip2 ts none).flatten))∧
  ∀(p s i:Nat) (a R:List (List Nat)) (a4 a5:Slot),SH addr p s R a4 a5 ts.flatten→s≤i→i≤p→a.flatten=(addr.drop i).take (p-i)→
   StOut (forS (bodyG Φ 4 5 stB) (stF (posT p ts)) (stE addr s (some i) R a4 a5)) addr (R.flatten++(addr.drop s).take (i-s)++(strip2 ts (some a)).flatten):=by
 induction ts with
 |nil=>
  have hl:∀{p},addr.drop p=[]→p≤addr.length→p=addr.length:=fun hd hp=>qE2 hp (qEz.mp (qAn.symm.trans (congrArg qB8 hd)))
  constructor
  ·rintro p s R a4 a5 ⟨_,_,hd,hp,hs,hR,hF⟩
   exact⟨s,none,R,a4,a5,rfl,qA9 hs hp,hR,hF,st_end hs (by rw [hl hd hp,qEq];rfl)⟩
  ·rintro p s i a R a4 a5 ⟨_,_,hd,hp,hs,hR,hF⟩ h1 h2 h3
   exact⟨s,some i,R,a4,a5,rfl,qA9 hs hp,hR,hF,st_end h1 (by rw [←hl hd hp];exact h3)⟩
 |cons t r ih=>
  constructor
  ·rintro p s R a4 a5 ⟨h4,h5,hd,hp,hs,hR,hF⟩
   have hn:=drop_next hd hp
   have hRl:=qC9 (qA9 hR (qA9 hs hp)) hb
   by_cases ht:t=[34]
   ·subst ht
    refine st_step h4 h5 hb hRl (fun i hi=>nomatch hi) (if_pos rfl) (ih.2 (p+1) s p [[34]] R _ _ ⟨.inr ⟨_,rfl⟩,.inr ⟨_,rfl⟩,hn.2,hn.1,qB4 hs,hR,hF⟩ hs (qAj _) ?_)
    rw [hd,qCc];rfl
   ·refine st_step h4 h5 hb hRl (fun i hi=>nomatch hi) (if_neg ht) ((ih.1 (p+t.length) s R _ _ ⟨.inr ⟨_,rfl⟩,.inr ⟨_,rfl⟩,hn.2,hn.1,qA9 hs (qB5 ..),hR,hF⟩).to ?_)
    rw [take_grow hd hs,show strip2 (t::r) none=t::strip2 r none from if_neg ht,qBe,qAe,qAe,qAe]
  ·rintro p s i a R a4 a5 ⟨h4,h5,hd,hp,hs,hR,hF⟩ h1 h2 h3
   have hn:=drop_next hd hp
   have hRl:=qC9 (qA9 hR (qA9 hs hp)) hb
   have hi':∀j,some i=some j→s≤j∧j≤addr.length:=fun j e=>qA8 e▸⟨h1,qA9 h2 hp⟩
   by_cases ht:t=[34]
   ·subst ht
    have hc:=st_cut (addr:=addr) hR hF h1 h2
    refine st_step h4 h5 hb hRl hi' (if_pos rfl) ((ih.1 (p+1) (p+1) _ _ _ ⟨.inr ⟨_,rfl⟩,.inr ⟨_,rfl⟩,hn.2,hn.1,qA7 _,hc.2.1,hc.2.2⟩).to ?_)
    rw [hc.1,qEq,qH5,qAu]
    rfl
   ·refine st_step h4 h5 hb hRl hi' (if_neg ht) ((ih.2 (p+t.length) s i (a++[t]) R _ _ ⟨.inr ⟨_,rfl⟩,.inr ⟨_,rfl⟩,hn.2,hn.1,qA9 hs (qB5 ..),hR,hF⟩ h1 (qA9 h2 (qB5 ..)) ?_).to ?_)
    ·rw [take_grow hd h2,←h3,qBl,List.flatten_singleton]
    ·rw [show strip2 (t::r) (some a)=strip2 r (some (a++[t])) from if_neg ht]
theorem strip2_no:∀ts:List (List Nat),[34]∉ts→strip2 ts none=ts
 |[],_=>rfl
 |t::r,h=>by
  have e2:strip2 (t::r) none=t::strip2 r none:=if_neg fun e=>h (by rw [e];exact qA5 ..)
  rw [e2,strip2_no r fun hm=>h (qA3 _ hm)]
theorem strs_ok (R:List (List Nat)):strsOf (R.map D.str)=some R:=by
 induction R with
 |nil=>rfl
 |cons a R ih=>exact congrArg (Option.map (a::·)) ih
theorem joinS {sep:List Nat}{R:List (List Nat)}(h1:JoinOk (mk sep) (R.map mk)=true)(h2:(glue sep R).length≤SZ)(t:Tg)(f:Bool):methR .join (Rs.flat (.str sep)) [⟨.list (R.map .str),t,f⟩]=some (Rs.flat (.str (glue sep R))):=by
 rw [←joinL_eq] at h2⊢
 exact (congrArg (qF2 · _) (strs_ok R)).trans (if_pos ⟨h1,h2⟩)
theorem sum_lens (R:List (List Nat)):((R.map mk).map (·.length)).sum=R.flatten.length:=by
 induction R with
 |nil=>rfl
 |cons a R ih=>rw [qAh,qAh,List.sum_cons,ih,qBe,qA1,mk_ln]
theorem join_nil {R:List (List Nat)}(h1:R.flatten.length<2000000)(t:Tg)(f:Bool):methR .join (Rs.flat (.str [])) [⟨.list (R.map .str),t,f⟩]=some (Rs.flat (.str R.flatten)):=by
 rw [←glue_nil]
 refine joinS ?_ (by rw [glue_nil];exact qAq (qBj h1 (by decide))) t f
 have e2:¬R.flatten.length+(R.map mk).length*0 > 2 ^ 24:=qCj.mpr (qAq (qBj h1 (by decide)))
 unfold JoinOk
 rw [StrLaws.joinTotal,sum_lens]
 show (!decide (R.flatten.length+(R.map mk).length*0 > 2 ^ 24))=true
 rw [decide_eq_false e2];rfl
theorem strip_gen (Φ:Fns)(ts:List (List Nat))(e0:escL ts.flatten=posT 0 ts)(hb:ts.flatten.length<1000000):runF Φ false 1 6 stT [.str ts.flatten]=some (.str (strip2 ts none).flatten):=by
 by_cases hin:inS [34] ts.flatten=true
 ·obtain⟨s',o',R',a4,a5,g1,g2,g3,g4,g5⟩:=(st_loop (Φ:=Φ) hb ts).1 0 0 [] none none ⟨.inl rfl,.inl rfl,rfl,qBr _,qA7 _,qA7 _,qA7 _⟩
  have g5:R'.flatten++ts.flatten.drop s'=(strip2 ts none).flatten:=g5
  have s1:exS Φ false [vs ts.flatten,none,none,none,none,none] (.if_ (.cmp .notin (.str [34]) (.var 0)) (.cons (.ret (.var 0)) .nil) .nil)=some (.next,[vs ts.flatten,none,none,none,none,none]):=
   (x_iff (by show some (!inS [34] ts.flatten)=_;rw [hin];rfl)).trans rfl
  have s2:exS Φ false (stE ts.flatten 0 none [] none none) (.forG 4 5 (.var 0) stB)=some (.next,stE ts.flatten s' o' R' a4 a5):=
   x_forG (l:=ts.flatten) (r:=Rs.flat (.str ts.flatten)) rfl rfl (by rw [e0];exact g1)
  have htest:evT Φ false (stE ts.flatten s' o' R' a4 a5) (.cmp .lt (.var 1) (.bi .len (.cons (.var 0) .nil)))=some (decide ((s':Int)<ts.flatten.length)):=rfl
  have fin:∀R'',R''.flatten.length<2000000→R''.length<2000000→R''.flatten=(strip2 ts none).flatten→exSs Φ false (stE ts.flatten s' o' R'' a4 a5) (.cons (.ret (.meth .join (.str []) (.cons (.var 3) .nil))) .nil)=some (.ret (Rs.flat (.str (strip2 ts none).flatten)),stE ts.flatten s' o' R'' a4 a5):=fun R'' h1 h2 h3=>by
   rw [←h3]
   exact x_seqr (x_ret (join_nil h1 _ _))
  have all:∃ρ',exSs Φ false [vs ts.flatten,none,none,none,none,none] stT=some (.ret (Rs.flat (.str (strip2 ts none).flatten)),ρ'):=by
   by_cases hl:s'<ts.flatten.length
   ·rw [decide_eq_true (by lia)] at htest
    refine⟨stE ts.flatten s' o' (R'++[ts.flatten.drop s']) a4 a5,(x_seq s1).trans ((x_seq (ρ':=[vs ts.flatten,vi 0,none,none,none,none]) rfl).trans ((x_seq (ρ':=[vs ts.flatten,vi 0,vn,none,none,none]) rfl).trans ((x_seq rfl).trans ((x_seq s2).trans ?_))))⟩
    have e1:evE Φ false (stE ts.flatten s' o' R' a4 a5) (.slice (.var 0) (.some (.var 1)) .no)=some (Rs.flat (.str (ts.flatten.drop s'))):=by
     rw [e_sl (x:=ts.flatten) (l:=some (s':Int)) (h:=none) rfl (evO_nat rfl (by unfold I63;lia)) rfl,slL_from]
    refine (x_seq (ρ':=stE ts.flatten s' o' (R'++[ts.flatten.drop s']) a4 a5) ((x_ift htest).trans ((x_seq (x_app (b:=false) (b':=false) e1 rfl (by rw [qAa];unfold SZ;lia) rfl)).trans ?_))).trans (fin _ ?_ ?_ ?_)
    ·unfold stE ol
     rw [qAt];rfl
    ·have e3:[ts.flatten.drop s'].flatten.length=ts.flatten.length-s':=by
      have:[ts.flatten.drop s'].flatten=ts.flatten.drop s':=qAu _
      rw [this,qAn]
     rw [qBl,qA1,e3];lia
    ·rw [qA1];show R'.length+1<_;lia
    ·rw [qBl,←g5];simp
   ·rw [decide_eq_false (by lia)] at htest
    refine⟨stE ts.flatten s' o' R' a4 a5,(x_seq s1).trans ((x_seq (ρ':=[vs ts.flatten,vi 0,none,none,none,none]) rfl).trans ((x_seq (ρ':=[vs ts.flatten,vi 0,vn,none,none,none]) rfl).trans ((x_seq rfl).trans ((x_seq s2).trans ?_))))⟩
    refine (x_seq (ρ':=stE ts.flatten s' o' R' a4 a5) ((x_iff htest).trans rfl)).trans (fin _ (jL [_,_,_] [cT xa (eN 1000000),cL xb xa,cL xc xb] (cT xc (eN 2000000)) jT hb g2 g4) (jL [_,_,_] [cT xa (eN 1000000),cL xb xa,cL xc xb] (cT xc (eN 2000000)) jT hb g2 g3) ?_)
    rw [←g5,qF0 (by exact jL [_,_] [cL xa xb] (cL xa xb) jT (qDx hl)),qAu]
  obtain⟨ρ',h⟩:=all
  exact run_ret (r:=Rs.flat (.str (strip2 ts none).flatten)) rfl h rfl
 ·have hno:[34]∉ts:=fun hm=>hin ((inS_iff _ _).mpr (by
   obtain⟨a,b,e⟩:=qHi hm
   exact⟨a.flatten,b.flatten,by rw [e];simp⟩))
  rw [strip2_no ts hno]
  refine run_ret (r:=Rs.flat (.str ts.flatten)) (ρ':=[vs ts.flatten,none,none,none,none,none]) rfl ?_ rfl
  refine x_seqr ((x_ift ?_).trans (x_seqr (x_ret rfl)))
  show some (!inS [34] ts.flatten)=_
  rw [qC5.mpr hin];rfl
theorem strip_ok (Φ:Fns)(ts:List (List Nat))(hT:∀t∈ts,Tok t)(hb:ts.flatten.length<1000000):runF Φ false 1 6 stT [.str ts.flatten]=some (.str (strip2 ts none).flatten):=
 strip_gen Φ ts (escG_tok ts 0 hT) hb
end Mine
end

section
open PySem PyProof.Rows
namespace Mine
set_option maxRecDepth 100000
theorem strip2_mem:∀(ts:List (List Nat)) (acc:Option (List (List Nat))) (t:List Nat),t∈strip2 ts acc→t∈ts∨t∈acc.getD []
 |[],none,t,h=>by cases h
 |[],some acc,t,h=>.inr h
 |u::r,none,t,h=>by
  by_cases hu:u=[34]
  ·have e:strip2 (u::r) none=strip2 r (some [u]):=if_pos hu
   rw [e] at h
   rcases strip2_mem r _ t h with h|h
   ·exact .inl (qA3 _ h)
   ·exact .inl (by rw [qAi.mp h];exact qA5 ..)
  ·have e:strip2 (u::r) none=u::strip2 r none:=if_neg hu
   rw [e] at h
   rcases qA6.mp h with rfl|h
   ·exact .inl (qA5 ..)
   ·rcases strip2_mem r _ t h with h|h
    ·exact .inl (qA3 _ h)
    ·cases h
 |u::r,some acc,t,h=>by
  by_cases hu:u=[34]
  ·have e:strip2 (u::r) (some acc)=strip2 r none:=if_pos hu
   rw [e] at h
   rcases strip2_mem r _ t h with h|h
   ·exact .inl (qA3 _ h)
   ·cases h
  ·have e:strip2 (u::r) (some acc)=strip2 r (some (acc++[u])):=if_neg hu
   rw [e] at h
   rcases strip2_mem r _ t h with h|h
   ·exact .inl (qA3 _ h)
   ·rcases qAc.mp h with h|h
    ·exact .inr h
    ·exact .inl (by rw [qAi.mp h];exact qA5 ..)
noncomputable def ck:List (List Nat)→Int→Bool
 |[],n=>decide (n=0)
 |t::r,n=>if t=[40] then ck r (n+1) else if t=[41] then (if n-1<0 then false else ck r (n-1)) else ck r n
noncomputable def ckB:PSs:=(.cons (.if_ (.cmp .eq (.var 3) (.str [40])) (.cons (.aug 1 .add (.int 1))
     .nil) (.cons (.if_ (.cmp .eq (.var 3) (.str [41])) (.cons (.aug 1 .sub (.int 1))
       (.cons (.if_ (.cmp .lt (.var 1) (.int 0)) (.cons (.ret (.bool false))
         .nil) .nil)
       .nil)) .nil)
     .nil))
   .nil)
theorem ck_loop {Φ:Fns}{a0:Slot}:∀(ts:List (List Nat)) (p:Nat) (n:Int) (a2 a3:Slot),(a2=none∨∃i,a2=vi i)→(a3=none∨∃i,a3=vs i)→
  ∃ρ',(forS (bodyG Φ 2 3 ckB) ((posT p ts).map fun x=>D.list [.int x.1,.str x.2]) [a0,vi n,a2,a3]=some (.ret (Rs.flat (.bool false)),ρ')∧ck ts n=false)∨
   (∃b2 b3 m,forS (bodyG Φ 2 3 ckB) ((posT p ts).map fun x=>D.list [.int x.1,.str x.2]) [a0,vi n,a2,a3]=some (.next,ρ')∧ρ'=[a0,vi m,b2,b3]∧ck ts n=decide (m=0))
 |[],p,n,a2,a3,_,_=>⟨_,.inr ⟨a2,a3,n,rfl,rfl,rfl⟩⟩
 |t::r,p,n,a2,a3,h2,h3=>by
  unfold posT
  rw [qAh,forS_c]
  have e0:bodyG Φ 2 3 ckB [a0,vi n,a2,a3] (.list [.int (p+t.length-1:Nat),.str t])=exSs Φ true [a0,vi n,vi (p+t.length-1:Nat),vs t] ckB:=by
   rcases h2 with rfl|⟨i,rfl⟩<;>rcases h3 with rfl|⟨j,rfl⟩<;>rfl
  rw [e0]
  have c1:evT Φ true [a0,vi n,vi (p+t.length-1:Nat),vs t] (.cmp .eq (.var 3) (.str [40]))=some (decide (t=[40])):=rfl
  have c2:evT Φ true [a0,vi n,vi (p+t.length-1:Nat),vs t] (.cmp .eq (.var 3) (.str [41]))=some (decide (t=[41])):=rfl
  by_cases ht:t=[40]
  ·rw [decide_eq_true ht] at c1
   have e1:exSs Φ true [a0,vi n,vi (p+t.length-1:Nat),vs t] ckB=some (.next,[a0,vi (n+1),vi (p+t.length-1:Nat),vs t]):=(x_seq ((x_ift c1).trans (x_seq rfl))).trans rfl
   have e2:ck (t::r) n=ck r (n+1):=if_pos ht
   rw [e1,e2]
   exact ck_loop r _ (n+1) _ _ (.inr ⟨_,rfl⟩) (.inr ⟨_,rfl⟩)
  ·rw [decide_eq_false ht] at c1
   by_cases ht2:t=[41]
   ·rw [decide_eq_true ht2] at c2
    have e2:ck (t::r) n=if n-1<0 then false else ck r (n-1):=(if_neg ht).trans (if_pos ht2)
    rw [e2]
    have c3:evT Φ true [a0,vi (n-1),vi (p+t.length-1:Nat),vs t] (.cmp .lt (.var 1) (.int 0))=some (decide (n-1<0)):=rfl
    by_cases hn:n-1<0
    ·rw [decide_eq_true hn] at c3
     rw [if_pos hn]
     have e1:exSs Φ true [a0,vi n,vi (p+t.length-1:Nat),vs t] ckB=some (.ret (Rs.flat (.bool false)),[a0,vi (n-1),vi (p+t.length-1:Nat),vs t]):=
      x_seqr ((x_iff c1).trans (x_seqr ((x_ift c2).trans ((x_seq rfl).trans (x_seqr ((x_ift c3).trans (x_seqr (x_ret rfl))))))))
     rw [e1]
     exact⟨_,.inl ⟨rfl,rfl⟩⟩
    ·rw [decide_eq_false hn] at c3
     rw [if_neg hn]
     have e1:exSs Φ true [a0,vi n,vi (p+t.length-1:Nat),vs t] ckB=some (.next,[a0,vi (n-1),vi (p+t.length-1:Nat),vs t]):=
      (x_seq ((x_iff c1).trans ((x_seq ((x_ift c2).trans ((x_seq rfl).trans ((x_seq ((x_iff c3).trans rfl)).trans rfl)))).trans rfl))).trans rfl
     rw [e1]
     exact ck_loop r _ (n-1) _ _ (.inr ⟨_,rfl⟩) (.inr ⟨_,rfl⟩)
   ·rw [decide_eq_false ht2] at c2
    have e2:ck (t::r) n=ck r n:=(if_neg ht).trans (if_neg ht2)
    have e1:exSs Φ true [a0,vi n,vi (p+t.length-1:Nat),vs t] ckB=some (.next,[a0,vi n,vi (p+t.length-1:Nat),vs t]):=
     (x_seq ((x_iff c1).trans ((x_seq ((x_iff c2).trans rfl)).trans rfl))).trans rfl
    rw [e1,e2]
    exact ck_loop r _ n _ _ (.inr ⟨_,rfl⟩) (.inr ⟨_,rfl⟩)
theorem check_gen (Φ:Fns)(ts:List (List Nat))(e0:escL (strip2 ts none).flatten=posT 0 (strip2 ts none))(hΦ:Φ false 2 [.str ts.flatten]=some (.str (strip2 ts none).flatten)):runF Φ false 1 4 ckT [.str ts.flatten]=some (.bool (ck (strip2 ts none) 0)):=by
 obtain⟨us,hus⟩:∃us,us=strip2 ts none:=⟨_,rfl⟩
 rw [←hus] at hΦ e0⊢
 have s1:exS Φ false [vs ts.flatten,none,none,none] (.asg 0 (.call 2 (.cons (.var 0) .nil)))=some (.next,[vs us.flatten,none,none,none]):=
  x_asg (r:=Rs.new (.str us.flatten) Tg.z) (e_call (rs:=[Rs.flat (.str ts.flatten)]) rfl hΦ) rfl
 obtain⟨ρ',h⟩:=ck_loop (Φ:=Φ) (a0:=vs us.flatten) us 0 0 none none (.inl rfl) (.inl rfl)
 have all:∃ρ',exSs Φ false [vs ts.flatten,none,none,none] ckT=some (.ret (Rs.flat (.bool (ck us 0))),ρ'):=by
  rcases h with⟨h1,h2⟩|⟨b2,b3,m,h1,rfl,h2⟩
  ·rw [h2]
   exact⟨ρ',(x_seq s1).trans ((x_seq (ρ':=[vs us.flatten,vi 0,none,none]) rfl).trans (x_seqr (x_forG (l:=us.flatten) (r:=Rs.flat (.str us.flatten)) rfl rfl (by rw [e0];exact h1))))⟩
  ·rw [h2]
   exact⟨_,(x_seq s1).trans ((x_seq (ρ':=[vs us.flatten,vi 0,none,none]) rfl).trans ((x_seq (x_forG (l:=us.flatten) (r:=Rs.flat (.str us.flatten)) rfl rfl (by rw [e0];exact h1))).trans (x_seqr (x_ret rfl))))⟩
 obtain⟨ρ',h⟩:=all
 exact run_ret (r:=Rs.flat (.bool (ck us 0))) rfl h rfl
theorem check_ok (Φ:Fns)(ts:List (List Nat))(hT:∀t∈ts,Tok t)(hΦ:Φ false 2 [.str ts.flatten]=some (.str (strip2 ts none).flatten)):runF Φ false 1 4 ckT [.str ts.flatten]=some (.bool (ck (strip2 ts none) 0)):=
 check_gen Φ ts (escG_tok _ 0 fun t ht=>by
  rcases strip2_mem ts none t ht with h|h
  ·exact hT t h
  ·cases h) hΦ
noncomputable def good:List Nat→Bool
 |[]=>true
 |c::r=>(c != 46 || (match r with|[]=>false|d::_=>d != 46))&&good r
theorem good_tail {c:Nat}{r:List Nat}(h:good (c::r)=true):good r=true:=by
 unfold good at h;exact (qAl.mp h).2
theorem good_pre {c:Nat}{r:List Nat}(h:good (c::r)=true)(x:List Nat):ds.isPrefixOf (c::(r++x))=false:=by
 unfold good at h
 have h1:=(qAl.mp h).1
 cases r with
 |nil=>
  have:c≠46:=by simpa using h1
  have hc:((46:Nat)==c)=false:=by simpa using fun e:46=c=>this e.symm
  show ((46:Nat)==c&&_)=false
  rw [hc];rfl
 |cons d r=>
  by_cases hc:c=46
  ·subst hc
   have:d≠46:=by simpa using h1
   have hd:((46:Nat)==d)=false:=by simpa using fun e:46=d=>this e.symm
   show ((46:Nat)==46&&((46:Nat)==d&&_))=false
   rw [hd];rfl
  ·have hc:((46:Nat)==c)=false:=by simpa using fun e:46=c=>hc e.symm
   show ((46:Nat)==c&&_)=false
   rw [hc];rfl
theorem cut_good:∀(p rest acc:List Nat),good p=true→cut ds (p++(46::46::46::rest)) 0 acc=(acc++p)::cut ds rest 0 []
 |[],rest,acc,_=>by
  rw [qCs,qAu]
  show (if ds.isPrefixOf (46::46::46::rest)=true then _ else _)=_
  have:ds.isPrefixOf (46::46::46::rest)=true:=by simp [ds]
  rw [if_pos this]
  rfl
 |c::r,rest,acc,h=>by
  rw [qB7]
  show (if ds.isPrefixOf (c::(r++_))=true then _ else _)=_
  rw [good_pre h,if_neg (by simp),cut_good r rest (acc++[c]) (good_tail h)]
  simp
theorem cut_good_end:∀(p acc:List Nat),good p=true→cut ds p 0 acc=[acc++p]
 |[],acc,_=>by rw [qAu];rfl
 |c::r,acc,h=>by
  show (if ds.isPrefixOf (c::r)=true then _ else _)=_
  have:=good_pre h []
  rw [qAu] at this
  rw [this,if_neg (by simp),cut_good_end r (acc++[c]) (good_tail h)]
  simp
theorem cut_glue:∀(p:List Nat) (ps:List (List Nat)),(∀x∈p::ps,good x=true)→cut ds (glue ds (p::ps)) 0 []=p::ps
 |p,[],h=>by
  show cut ds p 0 []=_
  rw [cut_good_end p [] (h p (qA5 ..))];rfl
 |p,q::ps,h=>by
  have ih:=cut_glue q ps fun x hx=>h x (qA3 _ hx)
  show cut ds (p++ds++glue ds (q::ps)) 0 []=_
  rw [qAe]
  show cut ds (p++(46::46::46::glue ds (q::ps))) 0 []=_
  rw [cut_good p _ [] (h p (qA5 ..)),ih];rfl
theorem good_no:∀p:List Nat,good p=true→inS ds p=false:=by
 intro p h
 rw [qC5]
 intro hi
 obtain⟨a,b,e⟩:=(inS_iff _ _).mp hi
 have key:∀(a:List Nat),good (a++ds++b)=true→False:=by
  intro a
  induction a with
  |nil=>intro h;simp [good,ds] at h
  |cons c a ih=>intro h;exact ih (good_tail h)
 exact key a (e▸h)
theorem has_ds (a b:List Nat):inS ds (a++ds++b)=true:=(inS_iff _ _).mpr ⟨a,b,rfl⟩
theorem ell_glue (Φ:Fns)(q:Bool)(w0:List Nat)(mid:List (List Nat))(wl got:List Nat)(hg:∀x∈w0::(mid++[wl]),good x=true)(hl:(glue ds (w0::(mid++[wl]))).length<SZ) :
  runF Φ q 2 6 ellT [.str (glue ds (w0::(mid++[wl]))),.str got]=some (.bool (ellB w0 mid wl got)):=by
 refine ell_yes Φ q _ got w0 mid wl ?_ hl (cut_glue w0 _ hg)
 rw [glue_cons_ne _ _ _ (by simp)]
 exact has_ds _ _
theorem ell_good (Φ:Fns)(q:Bool)(want got:List Nat)(h:good want=true):runF Φ q 2 6 ellT [.str want,.str got]=some (.bool (decide (want=got))):=ell_no Φ q want got (good_no want h)
theorem l_nil {Φ q ρ}:evL Φ q ρ .nil=some []:=by rw [q_L_nil]
theorem l_cons {Φ q ρ}{e:PE}{r:PL}{x:Rs}{xs:List Rs}(h:evE Φ q ρ e=some x)(h2:evL Φ q ρ r=some xs):evL Φ q ρ (.cons e r)=some (x::xs):=by
 rw [q_L_cons,h];simp only [h2]
theorem e_list {Φ q ρ}{es:PL}{rs:List Rs}(h:evL Φ q ρ es=some rs):evE Φ q ρ (.list es)=some (Rs.new (.list (rs.map (·.d))) (rs.foldr (fun r t=>(eff r.d r.t).held.join t) Tg.z)):=by
 rw [q_E_list,h]
theorem e_meth {Φ q ρ}{m:ME}{o:PE}{as:PL}{x:Rs}{rs:List Rs}{r:Rs}(h:evE Φ q ρ o=some x)(h2:evL Φ q ρ as=some rs)(h3:methR m x rs=some r):evE Φ q ρ (.meth m o as)=some r:=by
 rw [q_E_meth,h];simp only [h2,h3]
theorem e_bi {Φ q ρ}{b:BI}{as:PL}{rs:List Rs}{r:Rs}(h2:evL Φ q ρ as=some rs)(h3:biR b rs=some r):evE Φ q ρ (.bi b as)=some r:=by
 rw [q_E_bi,h2];exact h3
theorem e_bin {Φ q ρ}{op:BOp}{a b:PE}{x y:Rs}{d:D}(h:evE Φ q ρ a=some x)(h2:evE Φ q ρ b=some y)(h3:binD op x.d y.d=some d):evE Φ q ρ (.bin op a b)=some (Rs.new d (x.t.join y.t).fresh):=by
 rw [q_E_bin,h];simp only [h2,h3]
theorem e_cmp {Φ q ρ}{op:COp}{a b:PE}{x y:Rs}{c:Bool}(h:evE Φ q ρ a=some x)(h2:evE Φ q ρ b=some y)(h3:cmpD op x.d y.d=some c):evE Φ q ρ (.cmp op a b)=some (Rs.flat (.bool c)):=by
 rw [q_E_cmp,h];simp only [h2,h3]
theorem t_cmp {Φ q ρ}{op:COp}{a b:PE}{x y:Rs}{c:Bool}(h:evE Φ q ρ a=some x)(h2:evE Φ q ρ b=some y)(h3:cmpD op x.d y.d=some c):evT Φ q ρ (.cmp op a b)=some c:=by
 rw [q_T_cmp,h];simp only [h2,h3]
theorem t_val {Φ q ρ}{a:PE}{x:Rs}{c:Bool}(h:evE Φ q ρ a=some x)(h3:truth x.d=some c):evT Φ q ρ (.val a)=some c:=by
 rw [q_T_val,h];exact h3
theorem e_ift {Φ q ρ}{t:PT}{a b:PE}(h:evT Φ q ρ t=some true):evE Φ q ρ (.ife t a b)=evE Φ q ρ a:=by rw [q_E_ife,h]
theorem e_iff {Φ q ρ}{t:PT}{a b:PE}(h:evT Φ q ρ t=some false):evE Φ q ρ (.ife t a b)=evE Φ q ρ b:=by rw [q_E_ife,h]
section
variable {ρ:Env'}
theorem e_idx_nat {Φ q ρ}{e i:PE}{ds:List D}{k:Nat}{t:Tg}{f:Bool}{d:D}{t2:Tg}{f2:Bool}(h1:evE Φ q ρ e=some ⟨.list ds,t,f⟩)(h2:evE Φ q ρ i=some ⟨.int k,t2,f2⟩)(h3:ds[k]?=some d) :
  evE Φ q ρ (.idx e i)=some (Rs.val d t.item):=by
 rw [q_E_idx,h1];simp only [h2]
 unfold idxR
 simp only []
 rw [if_pos (by exact qCd (k+0)),qD2,h3]
theorem e_mul {Φ q ρ}{e1 e2:PE}{i j:Int}{r1 r2:Rs}(h1:evE Φ q ρ e1=some ⟨.int i,r1.t,r1.f⟩)(h2:evE Φ q ρ e2=some ⟨.int j,r2.t,r2.f⟩)(hs:(small i&&small j)=true) :
  evE Φ q ρ (.bin .mul e1 e2)=some (Rs.new (.int (i*j)) (r1.t.join r2.t).fresh):=by
 rw [q_E_bin,h1,h2]
 have hb:binD .mul (.int i) (.int j)=some (.int (i*j)):=if_pos hs
 simp only [hb]
noncomputable abbrev vb (b:Bool):Slot:=some (.bool b,.val Tg.z)
theorem all_range {n:Nat}{p:Nat→Bool}(h:((qAf n).all p)=true){k:Nat}(hk:k<n):p k=true:=qC2.mp h k (qC7.mpr hk)
noncomputable abbrev Db (b:Bool):D:=.bool b
theorem e_var {Φ q}{ρ:Env'}{i:Nat}{d:D}{vt:VT}(h:ρ[i]?=some (some (d,vt))):evE Φ q ρ (.var i)=some (Rs.val d vt.tg):=by
 rw [q_E_var,h];rfl
theorem i_var {Φ q}{ρ:Env'}{i:Nat}{l:List D}{b:Bool}(h:ρ[i]?=some (some (.list l,.own b))):evI Φ q ρ (.val (.var i))=some ⟨l,⟨false,false,b⟩,true⟩:=by
 rw [q_I_val,e_var h];rfl
theorem compF_no {Φ:Fns}{ρ:Env'}{v:Nat}{t:Tg}{elt:PE}{d:D}{r:Rs}(h:evE Φ true (ρ.set v (some (d,.val (eff d t)))) elt=some r):compF Φ ρ v t elt .no d=some (some r):=by
 show (match evE Φ true (ρ.set v (some (d,.val (eff d t)))) elt with
  |some r=>some (some r)
  |none=>none)=_
 rw [h]
theorem eqL_bools:∀l:List Bool,eqL (l.map .bool) (l.map .bool)=some true
 |[]=>rfl
 |a::l=>by
  show ((some (a==a)).bind fun c=>(eqL (l.map .bool) (l.map .bool)).map (c&&·))=_
  rw [eqL_bools l,beq_self_eq_true]
  rfl
theorem sv_flat {ρ:Env'}{v:Nat}{r:Rs}{s:Slot}(h:ρ[v]?=some s)(hp:pinned s=false)(hd:r.d.flat=true):setV ρ v r=some (ρ.set v (some (r.d,.val Tg.z))):=by
 refine (sv_x h hp).trans ?_
 obtain⟨d,t,f⟩:=r
 rcases d with _|_<;>first|rfl|exact nof hd
theorem sv_list {ρ:Env'}{v:Nat}{l:List D}{s:Slot}(h:ρ[v]?=some s)(hp:pinned s=false):setV ρ v (Rs.val (.list l) Tg.z)=some (ρ.set v (some (.list l,.val Tg.z))):=(sv_x h hp).trans rfl
theorem sv_new {ρ:Env'}{v:Nat}{l:List D}{s:Slot}(h:ρ[v]?=some s)(hp:pinned s=false):setV ρ v (Rs.new (.list l) Tg.z)=some (ρ.set v (ol l)):=(sv_x h hp).trans rfl
theorem x_unpack2 {Φ:Fns}{q:Bool}{ρ ρ₁ ρ₂:Env'}{v1 v2:Nat}{e:PE}{d1 d2:D}{r:Rs}(h:evE Φ q ρ e=some r)(hr:r.d=.list [d1,d2])(ht:r.t=Tg.z)(h1:setV ρ v1 (Rs.val d1 Tg.z)=some ρ₁)(h2:setV ρ₁ v2 (Rs.val d2 Tg.z)=some ρ₂) :
  exS Φ q ρ (.unpack [v1,v2] e)=some (.next,ρ₂):=by
 rw [q_S_unpack,h]
 obtain⟨d,t,f⟩:=r
 obtain rfl:d=.list [d1,d2]:=hr
 obtain rfl:t=Tg.z:=ht
 have e:setAll ρ [v1,v2] [d1,d2] Tg.z=(setV ρ v1 (Rs.val d1 Tg.z)).bind fun ρ₁=>(setV ρ₁ v2 (Rs.val d2 Tg.z)).bind fun ρ₂=>some ρ₂:=by kernel_rfl
 rw [h1,qDb,h2] at e
 show (match setAll ρ [v1,v2] [d1,d2] Tg.z with|some ρ'=>some (Fl.next,ρ')|none=>none)=_
 rw [e];rfl
theorem allFlat_map {α:Type}(f:α→D)(hf:∀a,(f a).flat=true):∀l:List α,allFlat (l.map f)=true
 |[]=>rfl
 |a::l=>by
  show ((f a).flat&&allFlat (l.map f))=true
  rw [hf,allFlat_map f hf l];rfl
theorem e_repls {Φ q}{ρ:Env'}{o:PE}{old l x:List Nat}{t:Tg}{f:Bool}(h:evE Φ q ρ o=some ⟨.str x,t,f⟩)(h1:old≠l)(h2:x.length+(x.length+1)*l.length≤SZ)(h3:(replL x old l).length≤SZ) :
  evE Φ q ρ (.repl o old (.str l))=some (Rs.flat (.str (replL x old l))):=by
 rw [q_E_repl,h]
 exact if_pos ⟨h1,h2,h3⟩
theorem small_of {i:Int}(h:-1000000<i)(h2:i<1000000):small i=true:=by
 unfold small
 rw [decide_eq_true (by unfold I63;lia),decide_eq_true (by unfold I63;lia)];rfl
theorem flat_bound {R:List (List Nat)}{B:Nat}(h:∀r∈R,r.length≤B):R.flatten.length≤R.length*B:=by
 induction R with
 |nil=>simp
 |cons a R ih=>
  have h1:=h a (qA5 ..)
  have h2:=ih fun r hr=>h r (qA3 _ hr)
  rw [qBe,qA1,qAd,qGx];exact jL [_,_,_,_] [cL xa xb,cL xc xd] (cL (eA xa xc) (eA xd xb)) jT h1 h2
theorem ex_join {q:Bool}{Φ:Fns}{i:Nat}{R:List (List Nat)}(h:ρ[i]?=some (ol (R.map .str)))(hb:R.flatten.length<2000000):evE Φ q ρ (.meth .join (.str []) (.cons (.var i) .nil))=some (Rs.flat (.str R.flatten)):=
 e_meth (x:=Rs.flat (.str [])) (by rw [q_E_str]) (l_cons (e_var h) l_nil) (join_nil hb ⟨true,false,false⟩ false)
theorem ex_len {q:Bool}{Φ:Fns}{e:PE}{x:List Nat}{t:Tg}{f:Bool}(h:evE Φ q ρ e=some ⟨.str x,t,f⟩):evE Φ q ρ (.bi .len (.cons e .nil))=some (Rs.flat (.int (x.length:Nat))):=
 e_bi (l_cons h l_nil) rfl
theorem ex_lenl {q:Bool}{Φ:Fns}{e:PE}{x:List D}{t:Tg}{f:Bool}(h:evE Φ q ρ e=some ⟨.list x,t,f⟩):evE Φ q ρ (.bi .len (.cons e .nil))=some (Rs.flat (.int (x.length:Nat))):=
 e_bi (l_cons h l_nil) rfl
theorem glue_len (sep:List Nat)(B:Nat):∀ps:List (List Nat),(∀p∈ps,p.length≤B)→(glue sep ps).length≤ps.length*(B+sep.length)
 |[],_=>qBr _
 |[a],h=>by have:=h a (qA5 ..);show a.length≤1*_;rw [qHq];exact Nat.le_add_right_of_le this
 |a::b::r,h=>by
  have ih:=glue_len sep B (b::r) fun p hp=>h p (qA3 _ hp)
  have:=h a (qA5 ..)
  show (a++sep++glue sep (b::r)).length≤_
  rw [qA1,qA1]
  rw [qAd (a:=a),qGx]
  exact jL [_,_,_,_,_] [cL xa xb,cL xc xd] (cL (eA (eA xc xe) xa) (eA xb (eA xd xe))) jT ih this
theorem rangeL0 (n:Nat):rangeL 0 (n:Int)=(qAf n).map fun k:Nat=>D.int (k:Int):=by
 unfold rangeL
 have:((n:Int)-0).toNat=n:=by exact qHs (Int.toNat (↑n-0))
 rw [this]
 refine qFo fun k _=>?_
 rw [Int.zero_add]
theorem tiny_of {i:Int}(h:-1000000<i)(h2:i<1000000):tiny i=true:=by
 unfold tiny
 rw [decide_eq_true (by lia),decide_eq_true (by lia)];rfl
theorem i_range1 {Φ q ρ}{e:PE}{n:Nat}{t:Tg}{f:Bool}(h:evE Φ q ρ e=some ⟨.int n,t,f⟩)(hn:n<100000):evI Φ q ρ (.range1 e)=some ⟨(qAf n).map fun k:Nat=>D.int (k:Int),Tg.z,false⟩:=by
 rw [q_I_range1,h]
 show (if (tiny (n:Int)&&decide ((n:Int)≤SZ))=true then some (⟨rangeL 0 n,Tg.z,false⟩:Items) else none)=_
 have hz:SZ=16777216:=rfl
 rw [tiny_of (by exact qCd (n+qBb 999998)) (by lia),decide_eq_true (by lia),rangeL0];rfl
theorem compF_yes {Φ:Fns}{ρ:Env'}{v:Nat}{t:Tg}{elt:PE}{c:PT}{d:D}{r:Rs}(hc:evT Φ true (ρ.set v (some (d,.val (eff d t)))) c=some true)(h:evE Φ true (ρ.set v (some (d,.val (eff d t)))) elt=some r):compF Φ ρ v t elt (.some c) d=some (some r):=by
 unfold compF
 rw [q_To_some,hc]
 simp only [h]
theorem compF_not {Φ:Fns}{ρ:Env'}{v:Nat}{t:Tg}{elt:PE}{c:PT}{d:D}(hc:evT Φ true (ρ.set v (some (d,.val (eff d t)))) c=some false):compF Φ ρ v t elt (.some c) d=some none:=by
 unfold compF
 rw [q_To_some,hc]
theorem glue_join {Φ q ρ}{e:PE}{i:Nat}{sep:List Nat}{R:List (List Nat)}{B:Nat}(he:evE Φ q ρ e=some (Rs.flat (.str sep)))(h:ρ[i]?=some (ol (R.map .str)))(hB:∀r∈R,r.length≤B)(hb:R.length*(B+sep.length)≤2000000) :
  evE Φ q ρ (.meth .join e (.cons (.var i) .nil))=some (Rs.flat (.str (glue sep R))):=by
 have hz:SZ=16777216:=rfl
 refine e_meth he (l_cons (e_var h) l_nil) ?_
 show ((strsOf (R.map D.str)).bind fun ys=>if JoinOk (mk sep) (ys.map mk)=true∧(joinL sep ys).length≤SZ then some (Rs.flat (.str (joinL sep ys))) else none)=_
 rw [strs_ok]
 have ej:joinL sep R=glue sep R:=joinL_eq sep R
 show (if JoinOk (mk sep) (R.map mk)=true∧(joinL sep R).length≤SZ then some (Rs.flat (.str (joinL sep R))) else none)=_
 have hgl:=glue_len sep B R hB
 rw [ej,if_pos]
 refine⟨?_,jL [_,_,_] [cL xa (eN 2000000),cR xb (eN 16777216),cL xc xa] (cL xc xb) jT hb hz hgl⟩
 have hf:=StrLaws.joinFits (sep:=mk sep) (texts:=R.map mk) (B:=B) (fun y hy=>by
  obtain⟨r,hr,rfl⟩:=qBf.mp hy
  rw [mk_ln];exact hB r hr) (by rw [qAa,mk_ln,←Nat.mul_add];exact jL [_] [cL xa (eN 2000000)] (cL xa (eN 16777216)) jT hb)
 unfold JoinOk
 rw [hf];rfl
theorem e_sll {Φ q ρ}{e:PE}{lo hi:PO}{l h:Option Int}{x:List D}{t:Tg}{f:Bool}(h0:evE Φ q ρ e=some ⟨.list x,t,f⟩)(h1:evO Φ q ρ lo=some l)(h2:evO Φ q ρ hi=some h) :
  evE Φ q ρ (.slice e lo hi)=some (Rs.new (.list (slL x l h none)) t.fresh):=by
 rw [q_E_slice,h0];simp only [h1,h2];rfl
theorem evO_n {Φ q ρ}{e:PE}{i:Nat}{t:Tg}{f:Bool}(h:evE Φ q ρ e=some ⟨.int (i:Int),t,f⟩)(hs:i<1000000):evO Φ q ρ (.some e)=some (some (i:Int)):=by
 rw [q_O_some,h]
 show (if small (i:Int)=true then _ else _)=_
 rw [small_of (by exact qCd (i+qBb 999998)) (by lia)];rfl
theorem e_addl {Φ q ρ}{e1 e2:PE}{i j:List D}{t1 t2:Tg}{f1 f2:Bool}(h1:evE Φ q ρ e1=some ⟨.list i,t1,f1⟩)(h2:evE Φ q ρ e2=some ⟨.list j,t2,f2⟩)(hs:i.length+j.length≤SZ) :
  evE Φ q ρ (.bin .add e1 e2)=some (Rs.new (.list (i++j)) (t1.join t2).fresh):=e_bin h1 h2 (if_pos hs)
theorem comp_none {f:D→Option (Option Rs)}:∀{l:List D},(∀d∈l,f d=some none)→compL f l=some []
 |[],_=>rfl
 |d::l,h=>by
  rw [compL,h d (qA5 ..)]
  exact comp_none fun e he=>h e (qA3 _ he)
end
noncomputable def unS:List Nat:=[173,847,6150,6155,6156,6157,8203,8204,8205,8288,65279]
noncomputable def unC (a:Nat):Nat:=if a<16 then 65024+a else unS.getD (a-16) 0
noncomputable def ltr (v f:Nat):Nat:=if f % 2=0 then 97+v else if f / 2 % 7=0 then 65+v else 120120+52*(f / 2 % 7)+v
noncomputable def spell (v f:Nat):List Nat:=(if f / 14 % 2=1 then [unC (f / 28 % 27)] else [])++[ltr v f]
theorem unC_ok:((qAf 27).all fun a=>b1S (unC a)&&decide (unC a<70000))=true:=by kernel_rfl
noncomputable def lt8 (v j:Nat):Nat:=if j=0 then 97+v else if j=1 then 65+v else 120120+52*(j-1)+v
theorem lt8_ok:((qAf 5).all fun v=>(qAf 8).all fun j=>!b1S (lt8 v j)&&decide (foldT tbT (lt8 v j)=some [97+v]))=true:=by kernel_rfl
theorem ltr_lt8 (v f:Nat):∃j,j<8∧ltr v f=lt8 v j:=by
 unfold ltr
 by_cases h:f % 2=0
 ·rw [if_pos h];exact⟨0,qAq (qBv (qBb (qBb 0)) 6),rfl⟩
 ·rw [if_neg h]
  by_cases h2:f / 2 % 7=0
  ·rw [if_pos h2];exact⟨1,qAq (qBv (qBb (qBb 1)) 5),rfl⟩
  ·rw [if_neg h2]
   refine⟨f / 2 % 7+1,jL [_] [cT xa (eN 7)] (cT (eU xa) (eN 8)) jT (qC6 _ (qBi _)),?_⟩
   unfold lt8
   rw [if_neg (qCf (qBv (qBb 0) (f / 2 % 7))),if_neg (by exact (fun e_=>jL [_] [cT (eN 0) xa,cQ (eU xa) (eN 1)] cF jT (qE1 h2) e_)),qFx]
theorem ltr_ok {v:Nat}(hv:v<5)(f:Nat):b1S (ltr v f)=false∧foldT tbT (ltr v f)=some [97+v]:=by
 obtain⟨j,hj,e⟩:=ltr_lt8 v f
 have h:=all_range (all_range lt8_ok hv) hj
 rw [qAw] at h
 rw [e]
 exact⟨by simpa using h.1,of_decide_eq_true h.2⟩
theorem ltr_great (v f:Nat)(hv:v<5):decide ([97+v]=[ltr v f])=decide (f % 2=0):=by
 unfold ltr
 by_cases h:f % 2=0
 ·rw [if_pos h,decide_eq_true rfl,decide_eq_true h]
 ·rw [if_neg h,decide_eq_false h,decide_eq_false]
  intro e
  have e:=qCb e
  split at e<;>lia
theorem un_ok {a:Nat}(h:a<27):b1S (unC a)=true∧unC a<70000:=by
 have:=all_range unC_ok h
 rw [qAw] at this
 exact⟨this.1,of_decide_eq_true this.2⟩
section
variable {ρ:Env'}{Φ:Fns}{q:Bool}
theorem e_chr {e:PE}{n:Nat}{t:Tg}{f:Bool}(h:evE Φ q ρ e=some ⟨.int n,t,f⟩)(hn:n<1000000):evE Φ q ρ (.bi .chr (.cons e .nil))=some (Rs.flat (.str [n])):=by
 refine e_bi (l_cons h l_nil) ?_
 show (if 0≤(n:Int)∧(n:Int)≤1114111 then some (Rs.flat (.str [(n:Int).toNat])) else none)=_
 rw [if_pos (by lia),qD2]
theorem e_addi {e1 e2:PE}{i j:Int}{t1 t2:Tg}{f1 f2:Bool}(h1:evE Φ q ρ e1=some ⟨.int i,t1,f1⟩)(h2:evE Φ q ρ e2=some ⟨.int j,t2,f2⟩):evE Φ q ρ (.bin .add e1 e2)=some ⟨.int (i+j),Tg.z,true⟩:=e_bin h1 h2 rfl
theorem e_subi {e1 e2:PE}{i j:Int}{t1 t2:Tg}{f1 f2:Bool}(h1:evE Φ q ρ e1=some ⟨.int i,t1,f1⟩)(h2:evE Φ q ρ e2=some ⟨.int j,t2,f2⟩):evE Φ q ρ (.bin .sub e1 e2)=some ⟨.int (i-j),Tg.z,true⟩:=e_bin h1 h2 rfl
theorem e_muli {e1 e2:PE}{i j:Int}{t1 t2:Tg}{f1 f2:Bool}(h1:evE Φ q ρ e1=some ⟨.int i,t1,f1⟩)(h2:evE Φ q ρ e2=some ⟨.int j,t2,f2⟩)(hi:-1000000<i∧i<1000000)(hj:-1000000<j∧j<1000000):evE Φ q ρ (.bin .mul e1 e2)=some ⟨.int (i*j),Tg.z,true⟩:=by
 refine e_bin h1 h2 ?_
 show (if (small i&&small j)=true then some (D.int (i*j)) else none)=_
 rw [small_of hi.1 hi.2,small_of hj.1 hj.2];rfl
theorem e_fdiv {e1 e2:PE}{i j:Int}{t1 t2:Tg}{f1 f2:Bool}(h1:evE Φ q ρ e1=some ⟨.int i,t1,f1⟩)(h2:evE Φ q ρ e2=some ⟨.int j,t2,f2⟩)(hj:0<j∧j<1073741824):evE Φ q ρ (.bin .fdiv e1 e2)=some ⟨.int (i / j),Tg.z,true⟩:=
 e_bin h1 h2 (if_pos hj)
theorem e_mod {e1 e2:PE}{i j:Int}{t1 t2:Tg}{f1 f2:Bool}(h1:evE Φ q ρ e1=some ⟨.int i,t1,f1⟩)(h2:evE Φ q ρ e2=some ⟨.int j,t2,f2⟩)(hj:0<j):evE Φ q ρ (.bin .mod e1 e2)=some ⟨.int (i % j),Tg.z,true⟩:=
 e_bin h1 h2 (if_pos hj)
theorem e_int (i:Int):evE Φ q ρ (.int i)=some ⟨.int i,Tg.z,false⟩:=by rw [q_E_int];rfl
theorem e_str (i:List Nat):evE Φ q ρ (.str i)=some ⟨.str i,Tg.z,false⟩:=by rw [q_E_str];rfl
theorem e_vi {i:Nat}{n:Int}(h:ρ[i]?=some (vi n)):evE Φ q ρ (.var i)=some ⟨.int n,Tg.z,false⟩:=e_var h
theorem e_vs {i:Nat}{n:List Nat}(h:ρ[i]?=some (vs n)):evE Φ q ρ (.var i)=some ⟨.str n,Tg.z,false⟩:=e_var h
theorem t_eqi {e1 e2:PE}{i j:Int}{t1 t2:Tg}{f1 f2:Bool}(h1:evE Φ q ρ e1=some ⟨.int i,t1,f1⟩)(h2:evE Φ q ρ e2=some ⟨.int j,t2,f2⟩):evT Φ q ρ (.cmp .eq e1 e2)=some (decide (i=j)):=t_cmp h1 h2 rfl
theorem t_lti {e1 e2:PE}{i j:Int}{t1 t2:Tg}{f1 f2:Bool}(h1:evE Φ q ρ e1=some ⟨.int i,t1,f1⟩)(h2:evE Φ q ρ e2=some ⟨.int j,t2,f2⟩):evT Φ q ρ (.cmp .lt e1 e2)=some (decide (i<j)):=t_cmp h1 h2 rfl
theorem e_addss {e1 e2:PE}{i j:List Nat}{t1 t2:Tg}{f1 f2:Bool}(h1:evE Φ q ρ e1=some ⟨.str i,t1,f1⟩)(h2:evE Φ q ρ e2=some ⟨.str j,t2,f2⟩)(hs:i.length+j.length≤1000000) :
  evE Φ q ρ (.bin .add e1 e2)=some ⟨.str (i++j),Tg.z,true⟩:=e_bin h1 h2 (if_pos (by have:SZ=16777216:=rfl;exact jL [_,_,_] [cL (eA xa xb) (eN 1000000),cR xc (eN 16777216)] (cL (eA xa xb) xc) jT hs this))
theorem ex_un {a:Nat}(h2:ρ[2]?=some (ol (unS.map fun n:Nat=>D.int n)))(h4:ρ[4]?=some (vi a))(ha:a<27) :
  evE Φ q ρ (.bi .chr (.cons (.ife (.cmp .lt (.var 4) (.int 16)) (.bin .add (.int 65024) (.var 4)) (.idx (.var 2) (.bin .sub (.var 4) (.int 16)))) .nil))=some (Rs.flat (.str [unC a])):=by
 have hb:=(un_ok ha).2
 by_cases h:a<16
 ·have e:unC a=65024+a:=if_pos h
  refine e_chr (t:=Tg.z) (f:=true) ?_ (jL [_,_] [cT xa (eN 16),cQ xb (eA (eN 65024) xa)] (cT xb (eN 1000000)) jT h e)
  have ht:=t_lti (Φ:=Φ) (q:=q) (e_vi h4) (e_int 16)
  rw [decide_eq_true (by lia)] at ht
  rw [e_ift ht,e_addi (e_int _) (e_vi h4),e]
  rfl
 ·have e:unC a=unS.getD (a-16) 0:=if_neg h
  refine e_chr (t:=Tg.z) (f:=false) ?_ (jL [_] [cT xa (eN 70000)] (cT xa (eN 1000000)) jT hb)
  have ht:=t_lti (Φ:=Φ) (q:=q) (e_vi h4) (e_int 16)
  rw [decide_eq_false (by lia)] at ht
  rw [e_iff ht]
  have hlt:a-16<unS.length:=by show a-16<11;lia
  have ei:evE Φ q ρ (.bin .sub (.var 4) (.int 16))=some ⟨.int ((a-16:Nat):Int),Tg.z,true⟩:=by
   rw [e_subi (e_vi h4) (e_int 16)]
   have:(a:Int)-16=((a-16:Nat):Int):=by lia
   rw [this]
  refine e_idx_nat (ds:=unS.map fun n:Nat=>D.int n) (d:=.int (unC a:Nat)) (e_var h2) ei ?_
  rw [qC4,e,qAo,qAb hlt];rfl
end
theorem spelled_ok (Φ:Fns)(q:Bool)(v f:Nat)(hv:v<5)(hf:f<100000):runF Φ q 2 5 p1_law_spelled [.int v,.int f]=some (.str (spell v f)):=by
 have hz:SZ=16777216:=rfl
 obtain⟨tx,htx⟩:∃tx,tx=if f / 14 % 2=1 then [unC (f / 28 % 27)] else []:=⟨_,rfl⟩
 have htl:tx.length≤1:=by rw [htx];split<;>simp
 have key:∃a4,exSs Φ q [vi v,vi f,none,none,none] p1_law_spelled=exSs Φ q [vi v,vi f,ol (unS.map fun n:Nat=>D.int n),vs tx,a4] (.cons (.if_ (.cmp .eq (.bin .mod (.var 1) (.int 2)) (.int 0)) (.cons (.ret (.bin .add (.var 3) (.bi .chr (.cons (.bin .add (.int 97) (.var 0)) .nil)))) .nil) .nil)
 (.cons (.if_ (.cmp .eq (.bin .mod (.bin .fdiv (.var 1) (.int 2)) (.int 7)) (.int 0)) (.cons (.ret (.bin .add (.var 3) (.bi .chr (.cons (.bin .add (.int 65) (.var 0)) .nil)))) .nil) .nil)
 (.cons (.ret (.bin .add (.var 3) (.bi .chr (.cons (.bin .add (.bin .add (.int 120120) (.bin .mul (.int 52) (.bin .mod (.bin .fdiv (.var 1) (.int 2)) (.int 7)))) (.var 0)) .nil))))
 .nil))):=by
  have c3:evT Φ q [vi v,vi f,ol (unS.map fun n:Nat=>D.int n),vs [],none] (.cmp .eq (.bin .mod (.bin .fdiv (.var 1) (.int 14)) (.int 2)) (.int 1))=some (decide ((f:Int) / 14 % 2=1)):=
   t_eqi (e_mod (e_fdiv (e_vi rfl) (e_int 14) (by lia)) (e_int 2) (by exact qCd (2-qBb 0))) (e_int 1)
  have s1:exS Φ q [vi v,vi f,none,none,none] (.asg 2 (.list (.cons (.int 173) (.cons (.int 847) (.cons (.int 6150) (.cons (.int 6155) (.cons (.int 6156) (.cons (.int 6157) (.cons (.int 8203) (.cons (.int 8204) (.cons (.int 8205) (.cons (.int 8288) (.cons (.int 65279) .nil)))))))))))))=some (.next,[vi v,vi f,ol (unS.map fun n:Nat=>D.int n),none,none]):=rfl
  have s2:exS Φ q [vi v,vi f,ol (unS.map fun n:Nat=>D.int n),none,none] (.asg 3 (.str []))=some (.next,[vi v,vi f,ol (unS.map fun n:Nat=>D.int n),vs [],none]):=rfl
  by_cases h:f / 14 % 2=1
  ·have hd:decide ((f:Int) / 14 % 2=1)=true:=decide_eq_true (by lia)
   rw [hd] at c3
   rw [if_pos h] at htx
   refine⟨vi (f / 28 % 27:Nat),(x_seq s1).trans ((x_seq s2).trans ((x_seq ((x_ift c3).trans ((x_seq (ρ':=[vi v,vi f,ol (unS.map fun n:Nat=>D.int n),vs [],vi (f / 28 % 27:Nat)]) ?_).trans (x_seq ?_)))).trans rfl))⟩
   ·have e:((f / 28 % 27:Nat):Int)=(f:Int) / 28 % 27:=by lia
    rw [e]
    exact x_asg (e_mod (e_fdiv (e_vi rfl) (e_int 28) (by lia)) (e_int 27) (by exact qCd (27-qBb 0))) rfl
   ·rw [htx]
    exact x_asg (ex_un rfl rfl (jL [_] [cT xa (eN 27)] (cT xa (eN 27)) jT (qC6 _ (qBi _)))) rfl
  ·have hd:decide ((f:Int) / 14 % 2=1)=false:=decide_eq_false (by lia)
   rw [hd] at c3
   rw [if_neg h] at htx
   rw [htx]
   exact⟨none,(x_seq s1).trans ((x_seq s2).trans ((x_seq ((x_iff c3).trans rfl)).trans rfl))⟩
 obtain⟨a4,key⟩:=key
 have e1:spell v f=tx++[ltr v f]:=by rw [htx];rfl
 refine run_ret (r:=⟨.str (spell v f),Tg.z,true⟩) (ρ':=[vi v,vi f,ol (unS.map fun n:Nat=>D.int n),vs tx,a4]) rfl (qAz key ?_) rfl
 rw [e1]
 have c4:evT Φ q [vi v,vi f,ol (unS.map fun n:Nat=>D.int n),vs tx,a4] (.cmp .eq (.bin .mod (.var 1) (.int 2)) (.int 0))=some (decide ((f:Int) % 2=0)):=
  t_eqi (e_mod (e_vi rfl) (e_int 2) (by exact qCd (2-qBb 0))) (e_int 0)
 have c5:evT Φ q [vi v,vi f,ol (unS.map fun n:Nat=>D.int n),vs tx,a4] (.cmp .eq (.bin .mod (.bin .fdiv (.var 1) (.int 2)) (.int 7)) (.int 0))=some (decide ((f:Int) / 2 % 7=0)):=
  t_eqi (e_mod (e_fdiv (e_vi rfl) (e_int 2) (by lia)) (e_int 7) (by exact qCd (7-qBb 0))) (e_int 0)
 have l1:∀n:Nat,tx.length+[n].length≤1000000:=fun n=>by show tx.length+1≤_;exact jL [_] [cL xa (eN 1)] (cL (eU xa) (eN 1000000)) jT htl
 by_cases h4:f % 2=0
 ·have hl:ltr v f=97+v:=if_pos h4
  rw [decide_eq_true (by lia)] at c4
  rw [hl]
  refine x_seqr ((x_ift c4).trans (x_seqr (x_ret (e_addss (e_vs rfl) (e_chr (t:=Tg.z) (f:=true) ?_ (jL [_] [cT xa (eN 5)] (cT (eA (eN 97) xa) (eN 1000000)) jT hv)) (l1 _)))))
  rw [e_addi (e_int 97) (e_vi (n:=v) rfl)];rfl
 ·rw [decide_eq_false (by lia)] at c4
  refine (x_seq ((x_iff c4).trans rfl)).trans ?_
  by_cases h5:f / 2 % 7=0
  ·have hl:ltr v f=65+v:=(if_neg h4).trans (if_pos h5)
   rw [decide_eq_true (by lia)] at c5
   rw [hl]
   refine x_seqr ((x_ift c5).trans (x_seqr (x_ret (e_addss (e_vs rfl) (e_chr (t:=Tg.z) (f:=true) ?_ (jL [_] [cT xa (eN 5)] (cT (eA (eN 65) xa) (eN 1000000)) jT hv)) (l1 _)))))
   rw [e_addi (e_int 65) (e_vi (n:=v) rfl)];rfl
  ·have hl:ltr v f=120120+52*(f / 2 % 7)+v:=(if_neg h4).trans (if_neg h5)
   rw [decide_eq_false (by lia)] at c5
   rw [hl]
   refine (x_seq ((x_iff c5).trans rfl)).trans (x_seqr (x_ret (e_addss (e_vs rfl) (e_chr (t:=Tg.z) (f:=true) ?_ (by lia)) (l1 _))))
   rw [e_addi (e_addi (e_int 120120) (e_muli (e_int 52) (e_mod (e_fdiv (e_vi (n:=f) rfl) (e_int 2) (by lia)) (e_int 7) (by lia)) (by lia) (by lia))) (e_vi (n:=v) rfl)]
   have e:((120120+52*(f / 2 % 7)+v:Nat):Int)=120120+52*((f:Int) / 2 % 7)+v:=by lia
   rw [e]
theorem ph6_0 (q:Bool)(c:Nat):Ph5 q 0 [.str [c]]=some (.bool (b1S c)):=rfl
theorem ph6_1 (q:Bool)(c:Nat):Ph5 q 1 [.str [c]]=(foldT tbT c).map D.str:=rfl
noncomputable def rdS (c:Nat):List (Nat×Bool):=if b1S c=true then [] else match foldT tbT c with
 |some [k]=>[(k,!decide ([k]=[c]))]
 |_=>[]
theorem rd_spell {v:Nat}(hv:v<5)(f:Nat):(spell v f).flatMap rdS=[(97+v,!decide (f % 2=0))]:=by
 have h1:=ltr_ok hv f
 have e:rdS (ltr v f)=[(97+v,!decide (f % 2=0))]:=by
  unfold rdS
  rw [h1.1,h1.2,if_neg (by decide),←ltr_great v f hv]
 unfold spell
 rw [qFr]
 have e2:[ltr v f].flatMap rdS=[(97+v,!decide (f % 2=0))]:=by rw [qD4,e];rfl
 rw [e2]
 split
 ·have:rdS (unC (f / 28 % 27))=[]:=if_pos (un_ok (jL [_] [cT xa (eN 27)] (cT xa (eN 27)) jT (qC6 _ (qBi _)))).1
  rw [qD4,this];rfl
 ·rfl
noncomputable def rdB:PSs:=(.cons (.asg 4 (.call 0 (.cons (.var 3) .nil)))
   (.cons (.if_ (.cmp .is (.var 4) (.bool false)) (.cons (.asg 5 (.call 1 (.cons (.var 3) .nil)))
     (.cons (.aug 1 .add (.var 5))
     (.cons (.app 2 (.cmp .ne (.var 5) (.var 3)))
     .nil))) (.cons (.if_ (.cmp .isnot (.var 4) (.bool true)) (.cons (.aug 1 .add (.str [63]))
       .nil) .nil)
     .nil))
   .nil))
theorem read_loop (q:Bool)(a0:Slot):∀(cs acc:List Nat) (G:List Bool) (a3 a4 a5:Slot),pinned a3=false→pinned a4=false→pinned a5=false→
  (∀c∈cs,b1S c=true∨∃k,foldT tbT c=some [k])→acc.length+cs.length≤1000→G.length+cs.length≤1000→
  ∃b3 b4 b5,forS (bodyF Ph5 q 3 Tg.z rdB) (cs.map fun c=>D.str [c]) [a0,vs acc,ol (G.map .bool),a3,a4,a5] =
   some (.next,[a0,vs (acc++(cs.flatMap rdS).map (·.1)),ol ((G++(cs.flatMap rdS).map (·.2)).map .bool),b3,b4,b5])
 |[],acc,G,a3,a4,a5,_,_,_,_,_,_=>⟨a3,a4,a5,by
  have e1:acc++(([]:List Nat).flatMap rdS).map (·.1)=acc:=qAu _
  have e2:G++(([]:List Nat).flatMap rdS).map (·.2)=G:=qAu _
  rw [e1,e2];rfl⟩
 |c::cs,acc,G,a3,a4,a5,h3,h4,h5,hc,hl,hg=>by
  have hz:SZ=16777216:=rfl
  rw [qAd] at hl hg
  have e0:bodyF Ph5 q 3 Tg.z rdB [a0,vs acc,ol (G.map .bool),a3,a4,a5] (.str [c])=exSs Ph5 q [a0,vs acc,ol (G.map .bool),vs [c],a4,a5] rdB:=by
   unfold bodyF
   rw [sv_flat (s:=a3) rfl h3 rfl]
   rfl
  have e1:exS Ph5 q [a0,vs acc,ol (G.map .bool),vs [c],a4,a5] (.asg 4 (.call 0 (.cons (.var 3) .nil)))=some (.next,[a0,vs acc,ol (G.map .bool),vs [c],vb (b1S c),a5]):=
   x_asg (r:=Rs.new (.bool (b1S c)) Tg.z) (e_call (rs:=[Rs.flat (.str [c])]) rfl (ph6_0 q c)) (sv_flat (s:=a4) rfl h4 rfl)
  have e2:∃acc' G' b5,pinned b5=false∧acc'.length≤acc.length+1∧G'.length≤G.length+1∧acc'=acc++(rdS c).map (·.1)∧G'=G++(rdS c).map (·.2)∧
    bodyF Ph5 q 3 Tg.z rdB [a0,vs acc,ol (G.map .bool),a3,a4,a5] (.str [c])=some (.next,[a0,vs acc',ol (G'.map .bool),vs [c],vb (b1S c),b5]):=by
   rw [e0]
   by_cases hb:b1S c=true
   ·have er:rdS c=[]:=if_pos hb
    refine⟨acc,G,a5,h5,jL [_] [] (cL xa (eU xa)) jT,jL [_] [] (cL xa (eU xa)) jT,by rw [er,qDe,qAu],by rw [er,qDe,qAu],(x_seq e1).trans ?_⟩
    rw [hb];rfl
   ·obtain⟨k,hk⟩:=(hc c (qA5 ..)).resolve_left hb
    have hb':b1S c=false:=by simpa using hb
    have er:rdS c=[(k,!decide ([k]=[c]))]:=by
     unfold rdS;rw [if_neg hb,hk]
    refine⟨acc++[k],G++[!decide ([k]=[c])],vs [k],rfl,by rw [qA1];exact qA7 _,by rw [qA1];exact qA7 _,by rw [er];rfl,by rw [er];rfl,(x_seq e1).trans ?_⟩
    rw [hb']
    have h6:evE Ph5 q [a0,vs acc,ol (G.map .bool),vs [c],vb false,a5] (.call 1 (.cons (.var 3) .nil))=some (Rs.new (.str [k]) Tg.z):=
     e_call (rs:=[Rs.flat (.str [c])]) rfl (by show Ph5 q 1 [.str [c]]=_;rw [ph6_1,hk];rfl)
    have s2:exS Ph5 q [a0,vs acc,ol (G.map .bool),vs [c],vb false,a5] (.asg 5 (.call 1 (.cons (.var 3) .nil)))=some (.next,[a0,vs acc,ol (G.map .bool),vs [c],vb false,vs [k]]):=
     x_asg h6 (sv_flat (s:=a5) rfl h5 rfl)
    have s3:exS Ph5 q [a0,vs acc,ol (G.map .bool),vs [c],vb false,vs [k]] (.aug 1 .add (.var 5))=some (.next,[a0,vs (acc++[k]),ol (G.map .bool),vs [c],vb false,vs [k]]):=
     x_augs (r:=Rs.val (.str [k]) Tg.z) rfl rfl rfl (by show _+1≤_;exact jL [_,_,_] [cL (eA xa (eU xb)) (eN 1000),cR xc (eN 16777216)] (cL (eU xa) xc) jT hl hz) rfl
    have s4:exS Ph5 q [a0,vs (acc++[k]),ol (G.map .bool),vs [c],vb false,vs [k]] (.app 2 (.cmp .ne (.var 5) (.var 3)))=some (.next,[a0,vs (acc++[k]),ol ((G++[!decide ([k]=[c])]).map .bool),vs [c],vb false,vs [k]]):=by
     rw [qAt]
     exact x_app (r:=Rs.flat (.bool (!decide ([k]=[c])))) (b:=false) (b':=false) (e_cmp (x:=Rs.val (.str [k]) Tg.z) (y:=Rs.val (.str [c]) Tg.z) rfl rfl rfl) rfl (by rw [qAa];exact jL [_,_,_] [cL (eA xa (eU xb)) (eN 1000),cR xc (eN 16777216)] (cL (eU xa) xc) jT hg hz) rfl
    exact (x_seq ((x_ift rfl).trans ((x_seq s2).trans ((x_seq s3).trans ((x_seq s4).trans rfl))))).trans rfl
  obtain⟨acc',G',b5,hp,hl1,hl2,ea,eg,e2⟩:=e2
  obtain⟨c3,c4,c5,ih⟩:=read_loop q a0 cs acc' G' (vs [c]) (vb (b1S c)) b5 rfl rfl hp (fun d hd=>hc d (qA3 _ hd)) (jL [_,_,_] [cL (eA xa (eU xb)) (eN 1000),cL xc (eU xa)] (cL (eA xc xb) (eN 1000)) jT hl hl1) (jL [_,_,_] [cL (eA xa (eU xb)) (eN 1000),cL xc (eU xa)] (cL (eA xc xb) (eN 1000)) jT hg hl2)
  refine⟨c3,c4,c5,?_⟩
  have f1:acc++((c::cs).flatMap rdS).map (·.1)=acc'++(cs.flatMap rdS).map (·.1):=by
   rw [qD4,qAt,←qAe,←ea]
  have f2:G++((c::cs).flatMap rdS).map (·.2)=G'++(cs.flatMap rdS).map (·.2):=by
   rw [qD4,qAt,←qAe,←eg]
  rw [qAh,forS_c,e2,f1,f2]
  exact ih
theorem read_ok (q:Bool)(cs:List Nat)(hc:∀c∈cs,b1S c=true∨∃k,foldT tbT c=some [k])(hl:cs.length≤1000) :
  runF Ph5 q 1 6 p1_law_read [.str cs]=some (.list [.str ((cs.flatMap rdS).map (·.1)),.list (((cs.flatMap rdS).map (·.2)).map .bool)]):=by
 obtain⟨b3,b4,b5,h⟩:=read_loop q (vs cs) cs [] [] none none none rfl rfl rfl hc (by show 0+_≤_;exact jL [_] [cL xa (eN 1000)] (cL (eA (eN 0) xa) (eN 1000)) jT hl) (by show 0+_≤_;exact jL [_] [cL xa (eN 1000)] (cL (eA (eN 0) xa) (eN 1000)) jT hl)
 rw [qCs,qCs] at h
 refine run_ret (r:=Rs.new (.list [.str ((cs.flatMap rdS).map (·.1)),.list (((cs.flatMap rdS).map (·.2)).map .bool)]) ⟨false,true,false⟩) (ρ':=[vs cs,vs ((cs.flatMap rdS).map (·.1)),ol (((cs.flatMap rdS).map (·.2)).map .bool),b3,b4,b5]) rfl ?_ rfl
 refine (x_seq (ρ':=[vs cs,vs [],none,none,none,none]) rfl).trans ((x_seq (ρ':=[vs cs,vs [],ol [],none,none,none]) rfl).trans ?_)
 exact (x_seq (x_for0 (its:=⟨cs.map fun c=>.str [c],Tg.z,false⟩) rfl rfl rfl rfl h)).trans (x_seqr (x_ret rfl))
theorem read_row (q:Bool)(row:List (Nat×Nat))(hr:∀x∈row,x.1<5)(hl:row.length≤100) :
  runF Ph5 q 1 6 p1_law_read [.str (row.map fun x=>spell x.1 x.2).flatten]=some (.list [.str (row.map fun x=>97+x.1),.list ((row.map fun x=>!decide (x.2 % 2=0)).map .bool)]):=by
 have e:((row.map fun x=>spell x.1 x.2).flatten).flatMap rdS=row.map fun x=>(97+x.1,!decide (x.2 % 2=0)):=by
  clear hl
  induction row with
  |nil=>rfl
  |cons x row ih=>
   rw [qAh,qBe,qFr,ih fun y hy=>hr y (qA3 _ hy),rd_spell (hr x (qA5 ..))]
   rfl
 have hb:((row.map fun x=>spell x.1 x.2).flatten).length≤row.length*2:=by
  have:=flat_bound (R:=row.map fun x=>spell x.1 x.2) (B:=2) fun r hr=>by
   obtain⟨x,_,rfl⟩:=qBf.mp hr
   unfold spell
   split<;>simp
  rw [qAa] at this
  exact this
 have h:=read_ok q (row.map fun x=>spell x.1 x.2).flatten (fun c hc=>by
  obtain⟨s,hs,hcs⟩:=List.mem_flatten.mp hc
  obtain⟨x,hx,rfl⟩:=qBf.mp hs
  unfold spell at hcs
  rcases qAc.mp hcs with h|h
  ·split at h
   ·rw [qAi.mp h]
    exact .inl (un_ok (jL [_] [cT xa (eN 27)] (cT xa (eN 27)) jT (qC6 _ (qBi _)))).1
   ·cases h
  ·rw [qAi.mp h]
   exact .inr ⟨_,(ltr_ok (hr x hx) x.2).2⟩) (by lia)
 have f1:(row.map fun x=>(97+x.1,!decide (x.2 % 2=0))).map (·.1)=row.map fun x=>97+x.1:=by rw [qBx];rfl
 have f2:(row.map fun x=>(97+x.1,!decide (x.2 % 2=0))).map (·.2)=row.map fun x=>!decide (x.2 % 2=0):=by rw [qBx];rfl
 rw [h,e,f1,f2]
end Mine
end

section
open PySem PyProof.Rows
namespace Mine
set_option maxRecDepth 100000
set_option Elab.async false
open Builtin Builtin.Str StrLaws
theorem atL_one (L:List Nat)(y i:Nat):atL L [y] i=decide (L[i]?=some y):=by
 unfold atL
 have e:L[i]?=(L.drop i)[0]?:=by rw [qEx,qDq]
 rw [e]
 cases L.drop i with
 |nil=>rfl
 |cons a r=>
  show ((y==a)&&true)=decide (some a=some y)
  rw [qDs]
  by_cases h:y=a
  ·rw [h,decide_eq_true rfl];simp
  ·rw [decide_eq_false (fun e=>h (qA8 e).symm)];simpa using h
theorem find_split {A R:List Nat}{x:Nat}(h:x∉A):findI (A++x::R) [x]=(A.length:Nat):=by
 have e:findI (A++x::R) [x]=find3I (A++x::R) [x] (0:Nat) (A++x::R).length:=by
  show Txt.find _ _=_
  unfold Txt.find find3I
  rw [mk_ln];rfl
 rw [e,find3_eq]
 have e2:qAm 0 ((A++x::R).length+1-0)=qAm 0 A.length++A.length::qAm (A.length+1) (R.length+1):=by
  rw [qA1,qAd,qGw]
  have:A.length+(R.length+1)+1=A.length+(R.length+2):=by exact qHs (qB8 A+(qB8 R+1)+1)
  rw [this,←qEg,qB2,qBt (n:=R.length+1)]
 rw [e2,List.find?_append]
 have e3:(qAm 0 A.length).find? (fun k=>decide (k+[x].length≤(A++x::R).length)&&atL (A++x::R) [x] k)=none:=by
  rw [List.find?_eq_none]
  intro k hk
  have hk:=(qDo.mp hk).2
  rw [atL_one,qCm (by lia),qAb (by lia)]
  rw [decide_eq_false (p:=some A[k]=some x) (fun e=>h (by rw [←qA8 e];exact qGk _)),qCn]
  exact qAr
 rw [e3,Option.none_or,List.find?_cons_of_pos]
 ·rw [atL_one,qBq (qA7 _),qEq]
  rw [qA1]
  show (decide (A.length+1≤A.length+(R.length+1))&&decide (some x=some x))=true
  rw [decide_eq_true (by exact qCi (qB5 (qB8 A) (qB8 R))),decide_eq_true rfl];rfl
theorem last_run (c:Nat→Bool):∀(l:List Nat) (o:Option Nat),(forIn (m:=Id) l o (fun i r=>if c i=true then pure (qC8 (some i)) else pure (qC8 r))).run=l.foldl (fun r i=>if c i=true then some i else r) o
 |[],o=>rfl
 |i::l,o=>by
  rw [qE3,qEt]
  by_cases h:c i=true
  ·rw [if_pos h,if_pos h]
   exact last_run c l (some i)
  ·rw [if_neg h,if_neg h]
   exact last_run c l o
theorem foldl_none (c:Nat→Bool):∀(l:List Nat) (o:Option Nat),(∀i∈l,c i=false)→l.foldl (fun r i=>if c i=true then some i else r) o=o
 |[],o,_=>rfl
 |i::l,o,h=>by
  rw [qEt,h i (qA5 ..),if_neg qAr]
  exact foldl_none c l o fun j hj=>h j (qA3 _ hj)
theorem rfind_split {A R:List Nat}{x:Nat}(h:x∉R):rfindI (A++x::R) [x]=(A.length:Nat):=by
 have e:lastOccurrence (mk (A++x::R)) (mk [x]) 0 (mk (A++x::R)).length=(qAm 0 ((A++x::R).length+1)).foldl (fun r i=>if (decide (i+1≤(A++x::R).length)&&atL (A++x::R) [x] i)=true then some i else r) none:=by
  have e0:∀(s sub:Str) (hi:Nat),lastOccurrence s sub 0 hi=(forIn (m:=Id) (qAm 0 (hi+1)) none (fun i r=>if (decide (i+sub.length≤hi)&&subAt s sub i)=true then pure (qC8 (some i)) else pure (qC8 r))).run:=fun s sub hi=>by
   unfold lastOccurrence
   simp
  rw [e0,mk_ln,mk_ln]
  simp only [subAt_mk]
  exact last_run (fun i=>decide (i+1≤(A++x::R).length)&&atL (A++x::R) [x] i) _ none
 show Txt.rfind _ _=_
 unfold Txt.rfind
 rw [e]
 have e2:qAm 0 ((A++x::R).length+1)=qAm 0 A.length++A.length::qAm (A.length+1) (R.length+1):=by
  rw [qA1,qAd]
  have:A.length+(R.length+1)+1=A.length+(R.length+2):=by exact qHs (qB8 A+(qB8 R+1)+1)
  rw [this,←qEg,qB2,qBt (n:=R.length+1)]
 rw [e2,List.foldl_append,qEt,if_pos,foldl_none]
 ·intro k hk
  have hk:=qDo.mp hk
  rw [atL_one]
  by_cases hk2:k+1≤(A++x::R).length
  ·rw [qA1,qAd] at hk2
   rw [qBq (by exact jL [_,_] [cL (eU xa) xb] (cL xa xb) jT hk.1)]
   have e5:k-A.length=(k-A.length-1)+1:=jQ [_,_] [cR (eA xa (eN 1)) xb] xb (eU xa) jT jT (qAg (jL [_,_,_] [cL (eU xa) xb,cR (eA xc xa) xb] (cL (eN 1) xc) jT hk.1 (qAg (jL [_,_] [cL (eU xa) xb] (cL xa xb) jT hk.1))))
   rw [e5,qCz,qAb (by lia),decide_eq_false (p:=some R[k-A.length-1]=some x) (fun e=>h (by rw [←qA8 e];exact qGk _)),qCn]
  ·rw [decide_eq_false hk2];rfl
 ·rw [atL_one,qBq (qA7 _),qEq,qA1]
  show (decide (A.length+1≤A.length+(R.length+1))&&decide (some x=some x))=true
  rw [decide_eq_true (by exact qCi (qB5 (qB8 A) (qB8 R))),decide_eq_true rfl];rfl
end Mine
end

section
open PySem PyProof.Rows
namespace Mine
set_option maxRecDepth 100000
theorem after_one {P R:List Nat}{y:Nat}(h:y∉P):after [y] (P++y::R)=some R:=by
 induction P with
 |nil=>
  show (if [y].isPrefixOf (y::R)=true then some R else after [y] R)=_
  rw [if_pos]
  show ((y==y)&&true)=true
  rw [beq_self_eq_true];rfl
 |cons a P ih=>
  rw [qA6,not_or] at h
  show (if [y].isPrefixOf (a::(P++y::R))=true then some (P++y::R) else after [y] (P++y::R))=_
  rw [if_neg,ih h.2]
  show ¬((y==a)&&true)=true
  rw [qDs]
  simpa using h.1
theorem after_no {g:List Nat}{y:Nat}(h:y∉g):after [y] g=none:=by
 induction g with
 |nil=>rfl
 |cons a P ih=>
  rw [qA6,not_or] at h
  show (if [y].isPrefixOf (a::P)=true then some P else after [y] P)=_
  rw [if_neg,ih h.2]
  show ¬((y==a)&&true)=true
  rw [qDs]
  simpa using h.1
theorem gl_step (y:Nat)(ws:List (List Nat))(P R:List Nat)(h:y∉P):gl ([y]::ws) (P++y::R)=gl ws R:=by
 show (match after [y] (P++y::R) with|some g'=>gl ws g'|none=>false)=_
 rw [after_one h]
theorem gl_stop (y:Nat)(ws:List (List Nat))(g:List Nat)(h:y∉g):gl ([y]::ws) g=false:=by
 show (match after [y] g with|some g'=>gl ws g'|none=>false)=_
 rw [after_no h]
theorem gl_last (y:Nat)(g:List Nat):gl [[y]] g=decide (y∈g):=by
 by_cases h:y∈g
 ·obtain⟨P,R,rfl,hP⟩:=qC0 h
  rw [gl_step _ _ _ _ hP,decide_eq_true h];rfl
 ·rw [gl_stop _ _ _ h,decide_eq_false h]
theorem gl_yxy {x y:Nat}{B E:List Nat}(hB:x∉B)(hE:x∉E)(hxy:x≠y):gl [[y],[x],[y]] (B++x::E)=decide (y∈B∧y∈E):=by
 by_cases h:y∈B
 ·obtain⟨P,R,rfl,hP⟩:=qC0 h
  have hR:x∉R:=fun hx=>hB (by simp [hx])
  rw [qAe,qB7,gl_step _ _ _ _ hP,gl_step _ _ _ _ hR,gl_last]
  by_cases h2:y∈E
  ·rw [decide_eq_true h2,decide_eq_true ⟨h,h2⟩]
  ·rw [decide_eq_false h2,decide_eq_false fun e=>h2 e.2]
 ·rw [decide_eq_false fun e=>h e.1]
  by_cases h2:y∈E
  ·obtain⟨P,R,rfl,hP⟩:=qC0 h2
   have hR:x∉R:=fun hx=>hE (by simp [hx])
   have e:B++x::(P++y::R)=(B++x::P)++y::R:=by simp
   rw [e,gl_step _ _ _ _ ?_,gl_stop _ _ _ hR]
   simp [h,hP,qBz hxy]
  ·exact gl_stop _ _ _ (by simp [h,h2,qBz hxy])
theorem gl_yy (y:Nat)(B:List Nat):gl [[y],[y]] B=decide (2≤B.count y):=by
 by_cases h:y∈B
 ·obtain⟨P,R,rfl,hP⟩:=qC0 h
  rw [gl_step _ _ _ _ hP,gl_last,qAx,qFg,qCt.mpr hP]
  by_cases h2:y∈R
  ·have:=qCe.mpr h2
   rw [decide_eq_true h2,decide_eq_true (by exact jL [_] [cT (eN 0) xa] (cL (eN 2) (eA (eN 0) (eU xa))) jT this)]
  ·rw [qCt.mpr h2,decide_eq_false h2];rfl
 ·rw [gl_stop _ _ _ h,qCt.mpr h];rfl
theorem ellB_wrap (x:Nat)(mid:List (List Nat))(M:List Nat):ellB [x] mid [x] (x::(M++[x]))=gl mid M:=by
 have h1:[x].isPrefixOf (x::(M++[x]))=true:=qBa.mpr ⟨M++[x],rfl⟩
 have h2:[x].isSuffixOf (x::(M++[x]))=true:=qDa.mpr ⟨x::M,rfl⟩
 unfold ellB
 rw [h1,h2,decide_eq_true (by simp),qEb,qEb,qEb]
 congr 1
 have e:(x::(M++[x])).length-[x].length=M.length+1:=by simp
 rw [e,qCk,qH6]
 rfl
structure Pair (L:List Nat)(x y:Nat)(A B D:List Nat):Prop where
 eq:L=A++x::(B++x::D)
 hA:x∉A
 hB:x∉B
 hD:x∉D
 ne:x≠y
 two:A.count y+B.count y+D.count y=2
 len:L.length≤100
 nx:x≠46
 ny:y≠46
theorem Pair.fst {L:List Nat}{x y:Nat}{A B D:List Nat}(H:Pair L x y A B D):findI L [x]=(A.length:Nat):=by
 rw [H.eq];exact find_split H.hA
theorem Pair.lst {L:List Nat}{x y:Nat}{A B D:List Nat}(H:Pair L x y A B D):rfindI L [x]=((A.length+1+B.length:Nat):Int):=by
 have e:A++x::(B++x::D)=(A++x::B)++x::D:=by simp
 rw [H.eq,e,rfind_split H.hD,qA1,qAd]
 congr 1;exact jQ [_,_] [] (eA xa (eU xb)) (eA (eU xa) xb) jT jT
section
variable {Φ:Fns}{q:Bool}{ρ:Env'}
theorem m_join {sep:List Nat}{R:List (List Nat)}{B:Nat}(hB:∀r∈R,r.length≤B)(hb:R.length*(B+sep.length)≤2000000)(t:Tg)(f:Bool) :
  methR .join (Rs.flat (.str sep)) [⟨.list (R.map .str),t,f⟩]=some (Rs.flat (.str (glue sep R))):=by
 have h:=glue_join (Φ:=Φ0) (q:=false) (ρ:=[ol (R.map .str)]) (e:=.str sep) (i:=0) (sep:=sep) (R:=R) (by rw [q_E_str]) rfl hB hb
 rw [q_E_meth,q_E_str] at h
 exact h
theorem e_find {e1 e2:PE}{a b:List Nat}{t1 t2:Tg}{f1 f2:Bool}(h1:evE Φ q ρ e1=some ⟨.str a,t1,f1⟩)(h2:evE Φ q ρ e2=some ⟨.str b,t2,f2⟩):evE Φ q ρ (.meth .find e1 (.cons e2 .nil))=some ⟨.int (findI a b),Tg.z,false⟩:=
 e_meth h1 (l_cons h2 l_nil) rfl
theorem e_rfind {e1 e2:PE}{a b:List Nat}{t1 t2:Tg}{f1 f2:Bool}(h1:evE Φ q ρ e1=some ⟨.str a,t1,f1⟩)(h2:evE Φ q ρ e2=some ⟨.str b,t2,f2⟩):evE Φ q ρ (.meth .rfind e1 (.cons e2 .nil))=some ⟨.int (rfindI a b),Tg.z,false⟩:=
 e_meth h1 (l_cons h2 l_nil) rfl
theorem e_joinl {es:PL}{sep:List Nat}{R:List (List Nat)}{rs:List Rs}(h:evL Φ q ρ es=some rs)(hd:rs.map (·.d)=R.map .str){B:Nat}(hB:∀r∈R,r.length≤B)(hb:R.length*(B+sep.length)≤2000000) :
  evE Φ q ρ (.meth .join (.str sep) (.cons (.list es) .nil))=some ⟨.str (glue sep R),Tg.z,false⟩:=by
 refine e_meth (x:=Rs.flat (.str sep)) (by rw [q_E_str]) (l_cons (e_list h) l_nil) ?_
 rw [hd]
 exact m_join hB hb _ _
theorem e_stretch {i:Nat}{L:List Nat}{x y:Nat}{A B D:List Nat}(H:Pair L x y A B D){lo hi:PE}{t1 t2:Tg}{f1 f2:Bool}(h:ρ[i]?=some (vs L))(h1:evE Φ q ρ lo=some ⟨.int (A.length:Nat),t1,f1⟩)
  (h2:evE Φ q ρ hi=some ⟨.int ((A.length+1+B.length:Nat):Int),t2,f2⟩):evE Φ q ρ (.slice (.var i) (.some lo) (.some (.bin .add hi (.int 1))))=some ⟨.str (x::(B++[x])),Tg.z,false⟩:=by
 have hl:=H.len
 have hL:L.length=A.length+1+B.length+1+D.length:=by rw [H.eq];simp;exact jQ [_,_,_] [] (eA xa (eU (eA xb (eU xc)))) (eA (eU (eA (eU xa) xb)) xc) jT jT
 have h3:evE Φ q ρ (.bin .add hi (.int 1))=some ⟨.int ((A.length+1+B.length+1:Nat):Int),Tg.z,true⟩:=e_addi h2 (e_int 1)
 refine (e_sl (e_vs h) (evO_n h1 (jL [_,_,_,_] [cL xa (eN 100),cR xa (eA (eU (eA (eU xb) xc)) xd)] (cT xb (eN 1000000)) jT hl hL)) (evO_n h3 (jL [_,_,_,_] [cL xa (eN 100),cR xa (eA (eU (eA (eU xb) xc)) xd)] (cT (eU (eA (eU xb) xc)) (eN 1000000)) jT hl hL))).trans ?_
 rw [slL_ab _ (by exact jL [_,_] [] (cL xa (eU (eA (eU xa) xb))) jT) (by exact jL [_,_,_,_] [cR xa (eA (eU (eA (eU xb) xc)) xd)] (cL (eU (eA (eU xb) xc)) xa) jT hL)]
 have e:(L.drop A.length).take (A.length+1+B.length+1-A.length)=x::(B++[x]):=by
  rw [H.eq,qF5]
  have:A.length+1+B.length+1-A.length=(B.length+1)+1:=jQ [_,_,_] [cQ (eA xa xb) (eU (eA (eU xb) xc))] xa (eU (eU xc)) jT jT (qAg (jL [_,_] [] (cL xa (eU (eA (eU xa) xb))) jT))
  rw [this,qCk]
  have e2:B++x::D=(B++[x])++D:=by simp
  rw [e2,qD8 (by simp)]
 rw [e];rfl
end
theorem dots_ok {Φ Φ':Fns}{q:Bool}{L:List Nat}{x y:Nat}{A B D:List Nat}(H:Pair L x y A B D)(hΦ:∀w g,Φ q 4 [.str w,.str g]=runF Φ' q 2 6 ellT [.str w,.str g]) :
  runF Φ q 3 6 p1_law_by_dots [.str L,.str [x],.str [y]]=some (.list [.bool (decide (B.count y=1)),.bool (decide (B.count y=2))]):=by
 have hl:=H.len
 have hL:L.length=A.length+1+B.length+1+D.length:=by rw [H.eq];simp;exact jQ [_,_,_] [] (eA xa (eU (eA xb (eU xc)))) (eA (eU (eA (eU xa) xb)) xc) jT jT
 have hz:SZ=16777216:=rfl
 have hc1:=List.count_le_length (a:=y) (l:=B)
 have s1:exS Φ q [vs L,vs [x],vs [y],none,none,none] (.asg 3 (.meth .find (.var 0) (.cons (.var 1) .nil)))=some (.next,[vs L,vs [x],vs [y],vi A.length,none,none]):=
  x_asg (e_find (e_vs rfl) (e_vs rfl)) (by rw [H.fst];rfl)
 have hr:L.drop A.length++L.take (A.length+1)=x::((B++x::(D++A))++[x]):=by
  rw [H.eq,qF5]
  have e2:A++x::(B++x::D)=(A++[x])++(B++x::D):=by simp
  conv=>lhs;rhs;rw [e2]
  rw [qD8 (by simp)]
  simp
 have s2:exS Φ q [vs L,vs [x],vs [y],vi A.length,none,none] (.asg 4 (.bin .add (.slice (.var 0) (.some (.var 3)) .no) (.slice (.var 0) .no (.some (.bin .add (.var 3) (.int 1))))))=some (.next,[vs L,vs [x],vs [y],vi A.length,vs (x::((B++x::(D++A))++[x])),none]):=by
  have h3:evE Φ q [vs L,vs [x],vs [y],vi A.length,none,none] (.bin .add (.var 3) (.int 1))=some ⟨.int ((A.length+1:Nat):Int),Tg.z,true⟩:=e_addi (i:=(A.length:Nat)) (e_vi rfl) (e_int 1)
  refine x_asg (e_addss (e_sl (e_vs rfl) (evO_n (e_vi rfl) (jL [_,_,_,_] [cL xa (eN 100),cR xa (eA (eU (eA (eU xb) xc)) xd)] (cT xb (eN 1000000)) jT hl hL)) (by rw [q_O_no])) (e_sl (e_vs rfl) (by rw [q_O_no]) (evO_n h3 (jL [_,_,_,_] [cL xa (eN 100),cR xa (eA (eU (eA (eU xb) xc)) xd)] (cT (eU xb) (eN 1000000)) jT hl hL))) ?_) ?_
  ·rw [slL_from,slL_to,qAn,qB6];exact jL [_,_,_,_] [cL xa (eN 100),cQ (eA xb xc) xa,cL xd (eU xc)] (cL (eA xb xd) (eN 1000000)) jT hl (qAg (jL [_,_,_,_] [cR xa (eA (eU (eA (eU xb) xc)) xd)] (cL xb xa) jT hL)) (qCr _ _)
  ·rw [slL_from,slL_to,hr];rfl
 have s3:exS Φ q [vs L,vs [x],vs [y],vi A.length,vs (x::((B++x::(D++A))++[x])),none] (.asg 5 (.slice (.var 0) (.some (.var 3)) (.some (.bin .add (.meth .rfind (.var 0) (.cons (.var 1) .nil)) (.int 1)))))=some (.next,[vs L,vs [x],vs [y],vi A.length,vs (x::((B++x::(D++A))++[x])),vs (x::(B++[x]))]):=by
  refine x_asg (e_stretch (t2:=Tg.z) (f2:=false) H rfl (e_vi rfl) ?_) rfl
  rw [←H.lst]
  exact e_rfind (e_vs rfl) (e_vs rfl)
 have gx:∀z:Nat,z≠46→good [z]=true:=fun z hz=>by
  show ((z != 46 || false)&&true)=true
  rw [qFh,qDs];simpa using hz
 have m1:Φ q 4 [.str (glue ds [[x],[y],[x],[y],[x]]),.str (x::((B++x::(D++A))++[x]))]=some (.bool (decide (B.count y=1))):=by
  refine (hΦ _ _).trans ((ell_glue Φ' q [x] [[y],[x],[y]] [x] _ (fun z hz=>by
   simp only [qA6,qB7,qCs,qB0,or_false] at hz
   rcases hz with rfl|rfl|rfl|rfl|rfl<;>first|exact gx _ H.nx|exact gx _ H.ny) (by show 5+4*3<_;exact qAq (qBv (qBb (qBb (5+4*3))) 16777197))).trans ?_)
  rw [ellB_wrap,gl_yxy H.hB (by simp [H.hA,H.hD]) H.ne]
  refine congrArg some (congrArg Mine.D.bool ?_)
  have h2:=H.two
  have e:(y∈B∧y∈D++A)↔B.count y=1:=by
   rw [←qCe,←qCe,qAx];lia
  exact decide_eq_decide.mpr e
 have m2:Φ q 4 [.str (glue ds [[x],[y],[y],[x]]),.str (x::(B++[x]))]=some (.bool (decide (B.count y=2))):=by
  refine (hΦ _ _).trans ((ell_glue Φ' q [x] [[y],[y]] [x] _ (fun z hz=>by
   simp only [qA6,qB7,qCs,qB0,or_false] at hz
   rcases hz with rfl|rfl|rfl|rfl<;>first|exact gx _ H.nx|exact gx _ H.ny) (by show 4+3*3<_;exact qAq (qBv (qBb (qBb (4+3*3))) 16777201))).trans ?_)
  rw [ellB_wrap,gl_yy]
  refine congrArg some (congrArg Mine.D.bool ?_)
  have h2:=H.two
  exact decide_eq_decide.mpr (by lia)
 refine run_ret (r:=Rs.new (.list [.bool (decide (B.count y=1)),.bool (decide (B.count y=2))]) Tg.z) (ρ':=[vs L,vs [x],vs [y],vi A.length,vs (x::((B++x::(D++A))++[x])),vs (x::(B++[x]))]) rfl ?_ rfl
 refine (x_seq s1).trans ((x_seq s2).trans ((x_seq s3).trans (x_seqr (x_ret ?_))))
 refine (e_list (l_cons (e_call (l_cons (e_joinl (R:=[[x],[y],[x],[y],[x]]) (l_cons (e_vs rfl) (l_cons (e_vs rfl) (l_cons (e_vs rfl) (l_cons (e_vs rfl) (l_cons (e_vs rfl) l_nil))))) rfl (B:=1) (by simp) (by show 5*4≤_;exact jL [] [] (cL (eM 5 (eN 4)) (eN 2000000)) jT)) (l_cons (e_vs rfl) l_nil)) m1)
  (l_cons (e_call (l_cons (e_joinl (R:=[[x],[y],[y],[x]]) (l_cons (e_vs rfl) (l_cons (e_vs rfl) (l_cons (e_vs rfl) (l_cons (e_vs rfl) l_nil)))) rfl (B:=1) (by simp) (by show 4*4≤_;exact jL [] [] (cL (eM 4 (eN 4)) (eN 2000000)) jT)) (l_cons (e_vs rfl) l_nil)) m2) l_nil))).trans rfl
end Mine
end

section
namespace Mine
noncomputable def dot:Nat→Nat→(Nat→Bool)→Bool
 |0,_,_=>false
 |k+1,b,δ=>(dot k b δ) ^^ (b.testBit k&&δ k)
theorem dot_s {k b:Nat} {δ:Nat→Bool}:dot (k+1) b δ=(dot k b δ ^^ (b.testBit k&&δ k)):=rfl
theorem dot_xor (b c:Nat) (δ:Nat→Bool):∀k,dot k (b ^^^ c) δ=(dot k b δ ^^ dot k c δ)
 |0=>rfl
 |k+1=>by
  rw [dot_s,dot_s,dot_s,dot_xor b c δ k,qE5]
  cases dot k b δ<;>cases dot k c δ<;>cases b.testBit k<;>cases c.testBit k<;>cases δ k<;>rfl
theorem dot_zero (δ:Nat→Bool):∀k,dot k 0 δ=false
 |0=>rfl
 |k+1=>by rw [dot_s,dot_zero δ k,Nat.zero_testBit];rfl
theorem dot_congr (b:Nat) {δ ε:Nat→Bool}:∀k,(∀i,i<k→b.testBit i=true→δ i=ε i)→dot k b δ=dot k b ε
 |0,_=>rfl
 |k+1,h=>by
  rw [dot_s,dot_s,dot_congr b k fun i hi=>h i (qD3 hi)]
  cases hb:b.testBit k with
  |false=>rfl
  |true=>rw [h k (jL [_] [] (cT xa (eU xa)) jT) hb]
noncomputable def upd (δ:Nat→Bool)(i:Nat)(v:Bool):Nat→Bool:=fun j=>if j=i then v else δ j
theorem dot_upd (b i:Nat) (δ:Nat→Bool)(v:Bool)(hb:b.testBit i=true):∀k,i<k→dot k b (upd δ i v)=(dot k b (upd δ i false) ^^ v)
 |0,h=>by lia
 |k+1,h=>by
  rw [dot_s,dot_s]
  by_cases hk:i=k
  ·subst hk
   rw [dot_congr b i (δ:=upd δ i v) (ε:=upd δ i false) fun j hj _=>by unfold upd;rw [if_neg (qBg hj),if_neg (qBg hj)]]
   unfold upd
   rw [if_pos rfl,if_pos rfl,hb]
   cases dot i b (fun j=>if j=i then false else δ j)<;>cases v<;>rfl
  ·rw [dot_upd b i δ v hb k (by lia)]
   have e:upd δ i v k=upd δ i false k:=by unfold upd;rw [if_neg (by lia),if_neg (by lia)]
   rw [e]
   cases dot k b (upd δ i false)<;>cases v<;>cases b.testBit k<;>cases upd δ i false k<;>rfl
noncomputable def lead (b:Nat):Nat:=b.log2
theorem lead_bit {b:Nat}(h:b≠0):b.testBit (lead b)=true:=Nat.testBit_log2 h
theorem lead_above {b j:Nat}(h:lead b<j):b.testBit j=false:=by
 apply qF1
 exact qB3 Nat.lt_log2_self (qDm (qAq (qA7 (qBb (qBb 0)))) h)
theorem lead_lt {b k:Nat}(h:b≠0)(hk:b<2 ^ k):lead b<k:=(Nat.log2_lt h).mpr hk
theorem lt_bits:∀(i x y:Nat),x.testBit i=false→y.testBit i=true→(∀j,i<j→x.testBit j=y.testBit j)→x<y
 |0,x,y,hx,hy,h=>by
  have e:x / 2=y / 2:=qH4 fun j=>by
   rw [←qD9,←qD9];exact h (j+1) (jL [_] [] (cT (eN 0) (eU xa)) jT)
  rw [Nat.testBit_zero] at hx hy
  have hx:=of_decide_eq_false hx
  have hy:=of_decide_eq_true hy
  lia
 |i+1,x,y,hx,hy,h=>by
  rw [qD9] at hx hy
  have:=lt_bits i (x / 2) (y / 2) hx hy fun j hj=>by
   rw [←qD9,←qD9];exact h (j+1) (qCi hj)
  exact jk [_,_,_,_,_,_] [cT xa xb,cR (eA (eM 2 xa) xc) xd,cQ (eA (eM 2 xb) xe) xf,cT xc (eN 2)] (cT xd xf) [1,2,1,1,1] jT this (qBc _ _) (qBc _ _) (qC6 _ (qBi _))
noncomputable def minI (b c:Nat):Nat:=if c<b then c else b
theorem min_xor (b o:Nat)(ho:o≠0):minI b (b ^^^ o)=if b.testBit (lead o)=true then b ^^^ o else b:=by
 unfold minI
 by_cases h:b.testBit (lead o)=true
 ·rw [if_pos h,if_pos]
  refine lt_bits (lead o) _ _ ?_ h fun j hj=>?_
  ·rw [qE5,h,lead_bit ho];rfl
  ·rw [qE5,lead_above hj,qDz]
 ·rw [if_neg h,if_neg]
  have h:b.testBit (lead o)=false:=by simpa using h
  have:b<b ^^^ o:=by
   refine lt_bits (lead o) _ _ h ?_ fun j hj=>?_
   ·rw [qE5,h,lead_bit ho];rfl
   ·rw [qE5,lead_above hj,qDz]
  exact (fun e_=>jL [_,_] [cT xa xb,cT xb xa] cF jT this e_)
noncomputable def Tri (k:Nat):List Nat→Prop
 |[]=>True
 |o::os=>o≠0∧o<2 ^ k∧(∀p∈os,o.testBit (lead p)=false)∧Tri k os
noncomputable def red:List Nat→Nat→Nat
 |[],b=>b
 |o::os,b=>minI (red os b) (red os b ^^^ o)
theorem red_spec (k:Nat)(b:Nat)(hb:b<2 ^ k):∀B,Tri k B→red B b<2 ^ k∧(∀o∈B,(red B b).testBit (lead o)=false)∧∀δ,(∀o∈B,dot k o δ=false)→dot k (red B b) δ=dot k b δ
 |[],_=>⟨hb,fun _ h=>(nomatch h),fun _ _=>rfl⟩
 |o::os,h=>by
  obtain⟨h1,h2,h3⟩:=red_spec k b hb os h.2.2.2
  rw [show red (o::os) b=minI (red os b) (red os b ^^^ o) from rfl,min_xor _ _ h.1]
  by_cases hc:(red os b).testBit (lead o)=true
  ·rw [if_pos hc]
   refine⟨Nat.xor_lt_two_pow h1 h.2.1,fun p hp=>?_,fun δ hδ=>?_⟩
   ·rw [qE5]
    rcases qA6.mp hp with rfl|hp
    ·rw [hc,lead_bit h.1];rfl
    ·rw [h2 p hp,h.2.2.1 p hp];rfl
   ·rw [dot_xor,hδ o (qA5 ..),qDz]
    exact h3 δ fun p hp=>hδ p (qA3 _ hp)
  ·rw [if_neg hc]
   refine⟨h1,fun p hp=>?_,fun δ hδ=>h3 δ fun p hp=>hδ p (qA3 _ hp)⟩
   rcases qA6.mp hp with rfl|hp
   ·simpa using hc
   ·exact h2 p hp
noncomputable def basis:List Nat→List Nat→List Nat
 |[],B=>B
 |r::rs,B=>if red B r≠0 then basis rs (red B r::B) else basis rs B
theorem basis_spec (k:Nat):∀(rs B:List Nat),(∀r∈rs,r<2 ^ k)→Tri k B→Tri k (basis rs B)∧∀δ,(∀o∈basis rs B,dot k o δ=false)↔(∀o∈B,dot k o δ=false)∧∀r∈rs,dot k r δ=false
 |[],B,_,hB=>⟨hB,fun δ=>⟨fun h=>⟨h,fun _ hr=>nomatch hr⟩,fun h=>h.1⟩⟩
 |r::rs,B,hr,hB=>by
  obtain⟨h1,h2,h3⟩:=red_spec k r (hr r (qA5 ..)) B hB
  have hrs:=fun q hq=>hr q (qA3 _ hq)
  rw [show basis (r::rs) B=if red B r≠0 then basis rs (red B r::B) else basis rs B from rfl]
  by_cases h0:red B r≠0
  ·rw [if_pos h0]
   obtain⟨g1,g2⟩:=basis_spec k rs (red B r::B) hrs ⟨h0,h1,h2,hB⟩
   refine⟨g1,fun δ=>(g2 δ).trans ?_⟩
   constructor
   ·rintro⟨a,b⟩
    have a':=fun o ho=>a o (qA3 _ ho)
    refine⟨a',fun q hq=>?_⟩
    rcases qA6.mp hq with rfl|hq
    ·rw [←h3 δ a'];exact a _ (qA5 ..)
    ·exact b q hq
   ·rintro⟨a,b⟩
    refine⟨fun o ho=>?_,fun q hq=>b q (qA3 _ hq)⟩
    rcases qA6.mp ho with rfl|ho
    ·rw [h3 δ a];exact b r (qA5 ..)
    ·exact a o ho
  ·rw [if_neg h0]
   have h0:red B r=0:=by lia
   obtain⟨g1,g2⟩:=basis_spec k rs B hrs hB
   refine⟨g1,fun δ=>(g2 δ).trans ?_⟩
   constructor
   ·rintro⟨a,b⟩
    refine⟨a,fun q hq=>?_⟩
    rcases qA6.mp hq with rfl|hq
    ·rw [←h3 δ a,h0,dot_zero]
    ·exact b q hq
   ·rintro⟨a,b⟩
    exact⟨a,fun q hq=>b q (qA3 _ hq)⟩
noncomputable def free (k:Nat):List Nat→List Nat
 |[]=>qAf k
 |o::os=>(free k os).erase (lead o)
theorem free_spec (k:Nat):∀B,Tri k B→(free k B).Nodup∧(∀i,i∈free k B↔i<k∧∀o∈B,lead o≠i)∧(free k B).length+B.length=k
 |[],_=>⟨List.nodup_range,fun _=>⟨fun h=>⟨qC7.mp h,fun _ ho=>nomatch ho⟩,fun h=>qC7.mpr h.1⟩,qBp⟩
 |o::os,h=>by
  obtain⟨h1,h2,h3⟩:=free_spec k os h.2.2.2
  have hm:lead o∈free k os:=(h2 _).mpr ⟨lead_lt h.1 h.2.1,fun p hp e=>by
   have:=h.2.2.1 p hp
   rw [e,lead_bit h.1] at this;cases this⟩
  rw [show free k (o::os)=(free k os).erase (lead o) from rfl]
  refine⟨h1.erase _,fun i=>?_,?_⟩
  ·rw [h1.mem_erase_iff,h2]
   constructor
   ·rintro⟨a,b,c⟩
    refine⟨b,fun p hp=>?_⟩
    rcases qA6.mp hp with rfl|hp
    ·exact fun e=>a e.symm
    ·exact c p hp
   ·rintro⟨b,c⟩
    exact⟨fun e=>c o (qA5 ..) e.symm,b,fun p hp=>c p (qA3 _ hp)⟩
  ·rw [qG9 hm,qAd]
   have:=qGn hm
   exact jQ [_,_,_,_] [cQ (eA xa xb) xc,cQ (eA xd (eN 1)) xa] (eA xd (eU xb)) xc jT jT h3 (qAg (jL [_] [cT (eN 0) xa] (cL (eN 1) xa) jT this))
theorem dot_one (k b i:Nat) (δ:Nat→Bool)(hi:i<k)(hb:b.testBit i=true):dot k b δ=(dot k b (upd δ i false) ^^ δ i):=by
 have h:=dot_upd b i δ (δ i) hb k hi
 have e:upd δ i (δ i)=δ:=by
  funext j
  unfold upd
  by_cases hj:j=i
  ·rw [if_pos hj,hj]
  ·rw [if_neg hj]
 rw [e] at h
 exact h
theorem ker_inj (k:Nat) (δ ε:Nat→Bool):∀B,Tri k B→(∀o∈B,dot k o δ=false)→(∀o∈B,dot k o ε=false)→(∀i,i<k→(∀o∈B,lead o≠i)→δ i=ε i)→∀i,i<k→δ i=ε i
 |[],_,_,_,h,i,hi=>h i hi fun _ ho=>nomatch ho
 |o::os,hT,hd,he,h,i,hi=>by
  refine ker_inj k δ ε os hT.2.2.2 (fun p hp=>hd p (qA3 _ hp)) (fun p hp=>he p (qA3 _ hp)) (fun j hj hjo=>?_) i hi
  by_cases hl:lead o=j
  ·subst hl
   have hb:=lead_bit hT.1
   have d1:=dot_one k o (lead o) δ hj hb
   have d2:=dot_one k o (lead o) ε hj hb
   rw [hd o (qA5 ..)] at d1
   rw [he o (qA5 ..)] at d2
   have e:dot k o (upd δ (lead o) false)=dot k o (upd ε (lead o) false):=by
    refine dot_congr o k fun m hm hbm=>?_
    unfold upd
    by_cases hml:m=lead o
    ·rw [if_pos hml,if_pos hml]
    ·rw [if_neg hml,if_neg hml]
     refine h m hm fun p hp e=>?_
     rcases qA6.mp hp with rfl|hp
     ·exact hml e.symm
     ·have:=hT.2.2.1 p hp
      rw [e,hbm] at this;cases this
   rw [e] at d1
   cases hx:δ (lead o)<;>cases hy:ε (lead o)<;>cases hz:dot k o (upd ε (lead o) false)<;>simp [hx,hy,hz] at d1 d2⊢
  ·refine h j hj fun p hp=>?_
   rcases qA6.mp hp with rfl|hp
   ·exact hl
   ·exact hjo p hp
noncomputable def solve (k:Nat):List Nat→(Nat→Bool)→Nat→Bool
 |[],δ=>δ
 |o::os,δ=>solve k os (upd δ (lead o) (dot k o (upd δ (lead o) false)))
theorem solve_free (k:Nat):∀(B:List Nat) (δ:Nat→Bool) (i:Nat),(∀o∈B,lead o≠i)→solve k B δ i=δ i
 |[],_,_,_=>rfl
 |o::os,δ,i,h=>by
  show solve k os _ i=_
  rw [solve_free k os _ i fun p hp=>h p (qA3 _ hp)]
  unfold upd
  rw [if_neg fun e=>h o (qA5 ..) e.symm]
theorem solve_ker (k:Nat):∀(B:List Nat) (δ:Nat→Bool),Tri k B→∀o∈B,dot k o (solve k B δ)=false
 |o::os,δ,hT,p,hp=>by
  show dot k p (solve k os _)=_
  rcases qA6.mp hp with rfl|hp
  ·have e:dot k p (solve k os (upd δ (lead p) (dot k p (upd δ (lead p) false))))=dot k p (upd δ (lead p) (dot k p (upd δ (lead p) false))):=by
    refine dot_congr p k fun i hi hb=>solve_free k os _ i fun q hq e=>?_
    have:=hT.2.2.1 q hq
    rw [e,hb] at this;cases this
   rw [e,dot_upd p (lead p) δ _ (lead_bit hT.1) k (lead_lt hT.1 hT.2.1)]
   cases dot k p (upd δ (lead p) false)<;>rfl
  ·exact solve_ker k os _ hT.2.2.2 p hp
noncomputable def code (h:Nat→Bool):Nat→Nat
 |0=>0
 |b+1=>code h b+if h b then 2 ^ b else 0
theorem code_s {h:Nat→Bool}{b:Nat}:code h (b+1)=code h b+if h b then 2 ^ b else 0:=rfl
theorem code_lt (h:Nat→Bool):∀b,code h b<2 ^ b
 |0=>qHt
 |b+1=>by
  have:=code_lt h b
  rw [code_s,qHp]
  split<;>lia
theorem code_inj (h g:Nat→Bool):∀b,code h b=code g b→∀i,i<b→h i=g i
 |0,_,i,hi=>by lia
 |b+1,e,i,hi=>by
  have h1:=code_lt h b
  have h2:=code_lt g b
  rw [code_s,code_s] at e
  have key:h b=g b∧code h b=code g b:=by
   cases hh:h b<;>cases hg:g b<;>simp [hh,hg] at e⊢<;> lia
  by_cases hib:i=b
  ·rw [hib];exact key.1
  ·exact code_inj h g b key.2 i (by lia)
theorem nodup_le:∀(l m:List Nat),l.Nodup→(∀x∈l,x∈m)→l.length≤m.length
 |[],_,_,_=>qBr _
 |a::l,m,hn,h=>by
  have ha:=h a (qA5 ..)
  have hn':=qCp.mp hn
  have ih:=nodup_le l (m.erase a) hn'.2 fun x hx=>(List.mem_erase_of_ne fun e=>hn'.1 (by rw [←e];exact hx)).mpr (h x (qA3 _ hx))
  rw [qG9 ha] at ih
  have:=qGn ha
  rw [qAd];exact jL [_,_,_] [cL xa xb,cQ (eA xb (eN 1)) xc] (cL (eU xa) xc) jT ih (qAg (jL [_] [cT (eN 0) xa] (cL (eN 1) xa) jT this))
theorem inj_le (a b:Nat)(F:(Nat→Bool)→Nat→Bool)(hF:∀g g',(∀i,i<b→F g i=F g' i)→∀i,i<a→g i=g' i):a≤b:=by
 have h:2 ^ a≤2 ^ b:=by
  have hl:=nodup_le ((qAf (2 ^ a)).map fun n=>code (F (qHu n)) b) (qAf (2 ^ b)) ?_ ?_
  ·simpa using hl
  ·rw [List.Nodup,List.pairwise_map]
   refine List.Pairwise.imp_of_mem ?_ (List.nodup_range (n:=2 ^ a))
   intro x y hx hy hxy e
   apply hxy
   have hx:=qC7.mp hx
   have hy:=qC7.mp hy
   refine qH4 fun i=>?_
   by_cases hi:i<a
   ·exact hF _ _ (code_inj _ _ b e) i hi
   ·have hp:2 ^ a≤2 ^ i:=qDm (qAq (qA7 (qBb (qBb 0)))) (jL [_,_] [cL xa xb] (cL xa xb) jT (qDx hi))
    rw [qF1 (qB3 hx hp),qF1 (qB3 hy hp)]
  ·intro x hx
   obtain⟨n,_,rfl⟩:=qBf.mp hx
   exact qC7.mpr (code_lt _ _)
 exact (Nat.pow_le_pow_iff_right (qDn (qA7 (qBb 1)))).mp h
noncomputable def walkO (τ σ:Nat→Nat):Nat→List Nat→Nat→Option (List Nat)
 |0,_,_=>none
 |n+1,S,s=>if S.contains s=true then some S else walkO τ σ n (S++[s,τ s]) (σ (τ s))
noncomputable def compsO (τ σ:Nat→Nat):List Nat→List Nat→Nat→Option (List Nat×Nat)
 |[],S,w=>some (S,w)
 |a::r,S,w=>if S.contains a=true then compsO τ σ r S w else match walkO τ σ 100 S a with
  |some S'=>compsO τ σ r S' (w+1)
  |none=>none
structure Two (τ σ:Nat→Nat)(N:Nat):Prop where
 tl:∀s,s<N→τ s<N
 sl:∀s,s<N→σ s<N
 tt:∀s,s<N→τ (τ s)=s
 ss:∀s,s<N→σ (σ s)=s
 tn:∀s,s<N→τ s≠s
 sn:∀s,s<N→σ s≠s
noncomputable def Invt (τ σ:Nat→Nat)(N:Nat)(f:Nat→Bool):Prop:=∀s,s<N→f (τ s)=f s∧f (σ s)=f s
structure Seen (τ σ:Nat→Nat)(N:Nat)(S:List Nat)(w:Nat)(lb rp:Nat→Nat):Prop where
 nd:S.Nodup
 lt:∀s∈S,s<N
 tc:∀s∈S,τ s∈S
 sc:∀s∈S,σ s∈S
 lw:∀s∈S,lb s<w
 lt':∀s∈S,lb (τ s)=lb s
 ls:∀s∈S,lb (σ s)=lb s
 rs:∀i,i<w→rp i∈S∧lb (rp i)=i
 cn:∀f,Invt τ σ N f→∀s∈S,f s=f (rp (lb s))
structure Wk (τ σ:Nat→Nat)(N:Nat)(O:List Nat)(a:Nat)(S:List Nat)(l:Nat):Prop where
 nd:S.Nodup
 lt:∀s∈S,s<N
 sub:∀s∈O,s∈S
 am:a∈S
 lm:l∈S
 tc:∀s∈S,τ s∈S
 st:∀s∈S,s≠a→s≠l→σ s∈S∧σ s≠l
 cn:∀f,Invt τ σ N f→∀s∈S,s∈O∨f s=f a
theorem walkO_s {τ σ:Nat→Nat}{n:Nat}{S:List Nat}{s:Nat}:walkO τ σ (n+1) S s=if S.contains s=true then some S else walkO τ σ n (S++[s,τ s]) (σ (τ s)):=rfl
theorem compsO_c {τ σ:Nat→Nat}{a:Nat}{r S:List Nat}{w:Nat}:compsO τ σ (a::r) S w=if S.contains a=true then compsO τ σ r S w else (walkO τ σ 100 S a).bind fun S'=>compsO τ σ r S' (w+1):=by kernel_rfl
theorem wk_nd {τ σ:Nat→Nat}{N:Nat}(T:Two τ σ N){S:List Nat}(nd:S.Nodup)(lt:∀s∈S,s<N)(tc:∀s∈S,τ s∈S){s:Nat}(hs:s<N)(hn:s∉S) :
  (S++[s,τ s]).Nodup∧τ s∉S∧∀x∈S++[s,τ s],x<N:=by
 have ht:τ s∉S:=fun h=>hn (by have:=tc _ h;rw [T.tt s hs] at this;exact this)
 refine⟨?_,ht,fun x hx=>?_⟩
 ·rw [qE9]
  refine⟨nd,?_,fun a ha b hb e=>?_⟩
  ·simp [qBz (T.tn s hs)]
  ·subst e
   rcases qA6.mp hb with rfl|hb
   ·exact hn ha
   ·rw [qAi.mp hb] at ha;exact ht ha
 ·rcases qAc.mp hx with h|h
  ·exact lt x h
  ·rcases qA6.mp h with rfl|h
   ·exact hs
   ·rw [qAi.mp h];exact T.tl s hs
theorem walk_go {τ σ:Nat→Nat}{N:Nat}(T:Two τ σ N){O:List Nat}{a:Nat}(oc:∀s∈O,σ s∈O)(ot:∀s∈O,τ s∈O)(ha:a∉O):∀(n:Nat) (S:List Nat) (l:Nat),Wk τ σ N O a S l→N<n+S.length→
  ∃S' l',walkO τ σ n S (σ l)=some S'∧Wk τ σ N O a S' l'∧σ a∈S'∧σ l'∈S'
 |0,S,l,W,h=>by
  have:=nodup_le S (qAf N) W.nd fun x hx=>qC7.mpr (W.lt x hx)
  rw [qBp] at this
  lia
 |n+1,S,l,W,h=>by
  have hl:=W.lt l W.lm
  rw [walkO_s]
  by_cases hc:σ l∈S
  ·rw [if_pos (by simpa using hc)]
   refine⟨S,l,rfl,W,?_,hc⟩
   by_cases he:σ l=a
   ·rw [←he,T.ss l hl];exact W.lm
   ·exact absurd (T.ss l hl) (W.st _ hc he (T.sn l hl)).2
  ·rw [if_neg (by simpa using hc)]
   obtain⟨h1,h2,h3⟩:=wk_nd T W.nd W.lt W.tc (T.sl l hl) hc
   have hs:=T.sl l hl
   refine walk_go T oc ot ha n (S++[σ l,τ (σ l)]) (τ (σ l)) ⟨h1,h3,fun s h=>qBn _ (W.sub s h),qBn _ W.am,by simp,fun s h=>?_,fun s h hna hnl=>?_,fun f hf s h=>?_⟩ (by rw [qA1];simp only [qAd,qCq];exact jL [_,_,_] [cT xa (eA (eU xb) xc)] (cT xa (eA xb (eA xc (eU (eU (eN 0)))))) jT h)
   ·rcases qAc.mp h with h|h
    ·exact qBn _ (W.tc s h)
    ·rcases qA6.mp h with rfl|h
     ·simp
     ·rw [qAi.mp h,T.tt _ hs];simp
   ·rcases qAc.mp h with h|h
    ·by_cases hz:s=l
     ·rw [hz]
      exact⟨by simp,qBz (T.tn _ hs)⟩
     ·obtain⟨b1,b2⟩:=W.st s h hna hz
      exact⟨qBn _ b1,fun e=>h2 (by rw [←e];exact b1)⟩
    ·rcases qA6.mp h with rfl|h
     ·rw [T.ss l hl]
      exact⟨qBn _ W.lm,fun e=>h2 (by rw [←e];exact W.lm)⟩
     ·exact absurd (qAi.mp h) hnl
   ·have hll:f (σ l)=f a:=by
     rw [(hf l hl).2]
     rcases W.cn f hf l W.lm with h|h
     ·exact absurd (W.sub _ (oc l h)) hc
     ·exact h
    rcases qAc.mp h with h|h
    ·exact W.cn f hf s h
    ·rcases qA6.mp h with rfl|h
     ·exact .inr hll
     ·rw [qAi.mp h,(hf _ hs).1]
      exact .inr hll
theorem walk_spec {τ σ:Nat→Nat}{N:Nat}(T:Two τ σ N)(hN:N<99){S:List Nat}{w a:Nat}{lb rp:Nat→Nat}(H:Seen τ σ N S w lb rp)(haN:a<N)(ha:a∉S) :
  ∃S' lb' rp',walkO τ σ 100 S a=some S'∧Seen τ σ N S' (w+1) lb' rp'∧a∈S'∧∀s∈S,s∈S':=by
 obtain⟨h1,h2,h3⟩:=wk_nd T H.nd H.lt H.tc haN ha
 have W0:Wk τ σ N S a (S++[a,τ a]) (τ a):=by
  refine⟨h1,h3,fun s h=>qBn _ h,by simp,by simp,fun s h=>?_,fun s h hna hnl=>?_,fun f hf s h=>?_⟩
  ·rcases qAc.mp h with h|h
   ·exact qBn _ (H.tc s h)
   ·rcases qA6.mp h with rfl|h
    ·simp
    ·rw [qAi.mp h,T.tt _ haN];simp
  ·rcases qAc.mp h with h|h
   ·exact⟨qBn _ (H.sc s h),fun e=>h2 (by rw [←e];exact H.sc s h)⟩
   ·rcases qA6.mp h with rfl|h
    ·exact absurd rfl hna
    ·exact absurd (qAi.mp h) hnl
  ·rcases qAc.mp h with h|h
   ·exact .inl h
   ·rcases qA6.mp h with rfl|h
    ·exact .inr rfl
    ·rw [qAi.mp h];exact .inr (hf a haN).1
 obtain⟨S',l',e,W,hsa,hsl⟩:=walk_go T H.sc H.tc ha 99 (S++[a,τ a]) (τ a) W0 (jL [_,_] [cT xa (eN 99)] (cT xa (eA (eN 99) xb)) jT hN)
 have sc:∀s∈S',σ s∈S':=fun s h=>by
  by_cases h1:s=a
  ·rw [h1];exact hsa
  ·by_cases h2:s=l'
   ·rw [h2];exact hsl
   ·exact (W.st s h h1 h2).1
 have nt:∀s,s<N→s∉S→τ s∉S:=fun s hs h h'=>h (by have:=H.tc _ h';rw [T.tt s hs] at this;exact this)
 have ns:∀s,s<N→s∉S→σ s∉S:=fun s hs h h'=>h (by have:=H.sc _ h';rw [T.ss s hs] at this;exact this)
 have P:∀x,x∈S→S.contains x=true:=fun x h=>by simpa using h
 have Q:∀x,x∉S→¬S.contains x=true:=fun x h=>by simpa using h
 have L1:∀x,x∈S→(if S.contains x=true then lb x else w)=lb x:=fun x h=>if_pos (P x h)
 have L2:∀x,x∉S→(if S.contains x=true then lb x else w)=w:=fun x h=>if_neg (Q x h)
 refine⟨S',(fun s=>if S.contains s=true then lb s else w),(fun i=>if i=w then a else rp i),?_,⟨W.nd,W.lt,W.tc,sc,fun s h=>?_,fun s h=>?_,fun s h=>?_,fun i hi=>?_,fun f hf s h=>?_⟩,W.am,W.sub⟩
 ·rw [←e]
  show (if S.contains a=true then some S else walkO τ σ 99 (S++[a,τ a]) (σ (τ a)))=_
  rw [if_neg (Q a ha)]
 ·show (if S.contains s=true then lb s else w)<w+1
  by_cases hc:s∈S
  ·rw [L1 s hc];have:=H.lw s hc;exact qD3 this
  ·rw [L2 s hc];exact jL [_] [] (cT xa (eU xa)) jT
 ·show (if S.contains (τ s)=true then lb (τ s) else w)=(if S.contains s=true then lb s else w)
  by_cases hc:s∈S
  ·rw [L1 _ hc,L1 _ (H.tc s hc),H.lt' s hc]
  ·rw [L2 _ hc,L2 _ (nt s (W.lt s h) hc)]
 ·show (if S.contains (σ s)=true then lb (σ s) else w)=(if S.contains s=true then lb s else w)
  by_cases hc:s∈S
  ·rw [L1 _ hc,L1 _ (H.sc s hc),H.ls s hc]
  ·rw [L2 _ hc,L2 _ (ns s (W.lt s h) hc)]
 ·show (if i=w then a else rp i)∈S'∧(if S.contains (if i=w then a else rp i)=true then lb (if i=w then a else rp i) else w)=i
  by_cases hw:i=w
  ·rw [if_pos hw,L2 _ ha]
   exact⟨W.am,hw.symm⟩
  ·obtain⟨r1,r2⟩:=H.rs i (by lia)
   rw [if_neg hw,L1 _ r1]
   exact⟨W.sub _ r1,r2⟩
 ·show f s=f (if (if S.contains s=true then lb s else w)=w then a else rp (if S.contains s=true then lb s else w))
  by_cases hc:s∈S
  ·rw [L1 s hc,if_neg (by have:=H.lw s hc;exact qBg this)]
   exact H.cn f hf s hc
  ·rw [L2 s hc,if_pos rfl]
   rcases W.cn f hf s h with h|h
   ·exact absurd h hc
   ·exact h
theorem comps_spec {τ σ:Nat→Nat}{N:Nat}(T:Two τ σ N)(hN:N<99):∀(l:List Nat) (S:List Nat) (w:Nat) (lb rp:Nat→Nat),Seen τ σ N S w lb rp→(∀a∈l,a<N)→
  ∃S' w' lb' rp',compsO τ σ l S w=some (S',w')∧Seen τ σ N S' w' lb' rp'∧(∀s∈S,s∈S')∧∀s∈l,s∈S'
 |[],S,w,lb,rp,H,_=>⟨S,w,lb,rp,rfl,H,fun _ h=>h,fun _ h=>nomatch h⟩
 |a::r,S,w,lb,rp,H,hl=>by
  rw [compsO_c]
  have hr:=fun s h=>hl s (qA3 _ h)
  by_cases ha:a∈S
  ·rw [if_pos (by simpa using ha)]
   obtain⟨S',w',lb',rp',e,H',h1,h2⟩:=comps_spec T hN r S w lb rp H hr
   refine⟨S',w',lb',rp',e,H',h1,fun s h=>?_⟩
   rcases qA6.mp h with rfl|h
   ·exact h1 _ ha
   ·exact h2 s h
  ·rw [if_neg (by simpa using ha)]
   obtain⟨S1,lb1,rp1,e1,H1,ha1,hs1⟩:=walk_spec T hN H (hl a (qA5 ..)) ha
   obtain⟨S',w',lb',rp',e,H',h1,h2⟩:=comps_spec T hN r S1 (w+1) lb1 rp1 H1 hr
   refine⟨S',w',lb',rp',?_,H',fun s h=>h1 s (hs1 s h),fun s h=>?_⟩
   ·rw [e1];exact e
   ·rcases qA6.mp h with rfl|h
    ·exact h1 _ ha1
    ·exact h2 s h
theorem comps_all {τ σ:Nat→Nat}{N:Nat}(T:Two τ σ N)(hN:N<99) :
  ∃S w lb rp,compsO τ σ (qAf N) [] 0=some (S,w)∧Seen τ σ N S w lb rp∧∀s,s<N→s∈S:=by
 obtain⟨S,w,lb,rp,e,H,_,h⟩:=comps_spec T hN (qAf N) [] 0 id id ⟨List.nodup_nil,fun _ h=>(nomatch h),fun _ h=>(nomatch h),fun _ h=>(nomatch h),fun _ h=>(nomatch h),fun _ h=>(nomatch h),fun _ h=>(nomatch h),fun _ h=>absurd h (Nat.not_lt_zero _),fun _ _ _ h=>(nomatch h)⟩ fun a h=>qC7.mp h
 exact⟨S,w,lb,rp,e,H,fun s hs=>h s (qC7.mpr hs)⟩
structure Dbl (m:Nat)(L fst lst:Nat→Nat)(names:List Nat):Prop where
 mem:∀q,q<m→L q∈names
 lt:∀v∈names,fst v<lst v
 lm:∀v∈names,lst v<m
 a1:∀v∈names,L (fst v)=v
 a2:∀v∈names,L (lst v)=v
 only:∀q,q<m→q=fst (L q)∨q=lst (L q)
section
variable {m:Nat}{L fst lst:Nat→Nat}{names:List Nat}{g:Nat→Bool}
noncomputable def inR (a n x:Nat):Bool:=decide (a≤x∧x<a+n)
noncomputable def par (fst lst:Nat→Nat)(a n v:Nat):Bool:=inR a n (fst v) ^^ inR a n (lst v)
noncomputable def seg (L:Nat→Nat)(d:Nat→Bool)(a:Nat):Nat→Bool
 |0=>false
 |n+1=>seg L d a n ^^ d (L (a+n))
noncomputable def xorL (T:List Nat)(b:Nat→Bool):Bool:=match T with
 |[]=>false
 |t::r=>b t ^^ xorL r b
theorem xorL_c {b:Nat→Bool}{t:Nat}{r:List Nat}:xorL (t::r) b=(b t ^^ xorL r b):=rfl
theorem xorL_xor (b c:Nat→Bool):∀T,xorL T (fun t=>b t ^^ c t)=(xorL T b ^^ xorL T c)
 |[]=>rfl
 |t::r=>by
  rw [xorL_c,xorL_c,xorL_c,xorL_xor b c r]
  cases b t<;>cases c t<;>cases xorL r b<;>cases xorL r c<;>rfl
theorem xorL_no (b:Nat→Bool):∀T,(∀t∈T,b t=false)→xorL T b=false
 |[],_=>rfl
 |t::r,h=>by
  rw [xorL_c,h t (qA5 ..),xorL_no b r fun t ht=>h t (qA3 _ ht)];rfl
theorem xorL_congr {b c:Nat→Bool}:∀{T},(∀t∈T,b t=c t)→xorL T b=xorL T c
 |[],_=>rfl
 |t::r,h=>by
  rw [xorL_c,xorL_c,h t (qA5 ..),xorL_congr fun t ht=>h t (qA3 _ ht)]
theorem xorL_one (u:Nat)(c:Nat→Bool):∀T:List Nat,T.Nodup→u∈T→xorL T (fun t=>decide (u=t)&&c t)=c u
 |t::r,hn,hu=>by
  rw [xorL_c]
  have hn':=qCp.mp hn
  by_cases h:u=t
  ·rw [decide_eq_true h,xorL_no,h]
   ·cases c t<;>rfl
   ·intro x hx
    have:u≠x:=fun e=>hn'.1 (by rw [←h,e];exact hx)
    rw [decide_eq_false this];rfl
  ·rw [decide_eq_false h,xorL_one u c r hn'.2]
   ·cases c u<;>rfl
   ·rcases qA6.mp hu with e|e
    ·exact absurd e h
    ·exact e
theorem xorL_zero (u:Nat)(c:Nat→Bool)(T:List Nat)(hu:u∉T):xorL T (fun t=>decide (u=t)&&c t)=false:=
 xorL_no _ _ fun t ht=>by
  have:u≠t:=fun e=>hu (by rw [e];exact ht)
  rw [decide_eq_false this];rfl
theorem inR_succ (a n x:Nat):inR a (n+1) x=(inR a n x ^^ decide (a+n=x)):=by
 unfold inR
 by_cases h:a+n=x
 ·rw [decide_eq_true h,decide_eq_true (p:=a≤x∧x<a+(n+1)) (by lia),decide_eq_false (p:=a≤x∧x<a+n) (by exact (fun e_=>jL [_,_,_] [cQ (eA xa xb) xc,cT xc (eA xa xb)] cF jT h e_.2))];rfl
 ·rw [decide_eq_false h,qDz]
  by_cases h2:a≤x∧x<a+n
  ·rw [decide_eq_true h2,decide_eq_true (by lia)]
  ·rw [decide_eq_false h2,decide_eq_false (by lia)]
theorem par_succ (H:Dbl m L fst lst names)(a n v:Nat)(hv:v∈names)(hn:a+n<m):par fst lst a (n+1) v=(par fst lst a n v ^^ decide (L (a+n)=v)):=by
 unfold par
 rw [inR_succ,inR_succ]
 have e:(decide (a+n=fst v) ^^ decide (a+n=lst v))=decide (L (a+n)=v):=by
  have hlt:=H.lt v hv
  by_cases h:L (a+n)=v
  ·rw [decide_eq_true h]
   rcases H.only (a+n) hn with h1|h1
   ·rw [h] at h1
    rw [decide_eq_true h1,decide_eq_false (by exact (fun e_=>jL [_,_,_,_] [cT xa xb,cQ (eA xc xd) xa,cR (eA xc xd) xb] cF jT hlt h1 e_))];rfl
   ·rw [h] at h1
    rw [decide_eq_true h1,decide_eq_false (by exact (fun e_=>jL [_,_,_,_] [cT xa xb,cR (eA xc xd) xb,cQ (eA xc xd) xa] cF jT hlt h1 e_))];rfl
  ·rw [decide_eq_false h]
   have h1:¬a+n=fst v:=fun e=>h (by rw [e];exact H.a1 v hv)
   have h2:¬a+n=lst v:=fun e=>h (by rw [e];exact H.a2 v hv)
   rw [decide_eq_false h1,decide_eq_false h2];rfl
 rw [←e]
 cases inR a n (fst v)<;>cases inR a n (lst v)<;>cases decide (a+n=fst v)<;>cases decide (a+n=lst v)<;>rfl
theorem seg_s {L:Nat→Nat}{d:Nat→Bool}{a n:Nat}:seg L d a (n+1)=(seg L d a n ^^ d (L (a+n))):=rfl
theorem par_zero (fst lst:Nat→Nat)(a v:Nat):par fst lst a 0 v=false:=by
 unfold par inR
 rw [decide_eq_false (by exact (fun e_=>jL [_,_] [cL xa xb,cT xb (eA xa (eN 0))] cF jT e_.1 e_.2)),decide_eq_false (by exact (fun e_=>jL [_,_] [cL xa xb,cT xb (eA xa (eN 0))] cF jT e_.1 e_.2))];rfl
theorem seg_par (H:Dbl m L fst lst names){T:List Nat}(hT:T.Nodup)(hs:∀t∈T,t∈names){d:Nat→Bool}(hd:∀v∈names,v∉T→d v=false)(a:Nat):∀n,a+n≤m→seg L d a n=xorL T (fun t=>par fst lst a n t&&d t)
 |0,_=>by
  show false=_
  rw [xorL_no]
  intro t _
  rw [par_zero];rfl
 |n+1,hn=>by
  rw [seg_s,seg_par H hT hs hd a n (qAq hn)]
  have e:xorL T (fun t=>par fst lst a (n+1) t&&d t)=xorL T (fun t=>(par fst lst a n t&&d t) ^^ (decide (L (a+n)=t)&&d t)):=xorL_congr fun t ht=>by
   rw [par_succ H a n t (hs t ht) (by exact hn)]
   cases par fst lst a n t<;>cases d t<;>cases decide (L (a+n)=t)<;>rfl
  rw [e,xorL_xor]
  congr 1
  by_cases hm:L (a+n)∈T
  ·rw [xorL_one _ _ _ hT hm]
  ·rw [xorL_zero _ _ _ hm]
   exact hd _ (H.mem _ (by exact hn)) hm
theorem seg_add (L:Nat→Nat)(d:Nat→Bool)(a k:Nat):∀n,seg L d a (k+n)=(seg L d a k ^^ seg L d (a+k) n)
 |0=>by
  show seg L d a k=(seg L d a k ^^ false)
  rw [qDz]
 |n+1=>by
  show (seg L d a (k+n) ^^ d (L (a+(k+n))))=(seg L d a k ^^ (seg L d (a+k) n ^^ d (L (a+k+n))))
  rw [seg_add L d a k n,qEc,qG2]
noncomputable def sg (N s:Nat):Nat:=if s % 2=1 then (s+1) % N else (s+N-1) % N
noncomputable def oth (L fst lst:Nat→Nat)(q:Nat):Nat:=fst (L q)+lst (L q)-q
noncomputable def tuX (g:Nat→Bool)(L fst lst:Nat→Nat)(s:Nat):Nat:=
 if g (s / 2)≠g (oth L fst lst (s / 2)) then 2*oth L fst lst (s / 2)+s % 2
 else if g (s / 2)=true then 2*oth L fst lst (s / 2)+(1-s % 2)
 else 2*(s / 2)+(1-s % 2)
theorem oth_f {q:Nat}(h:q=fst (L q)):oth L fst lst q=lst (L q):=
 (congrArg (fst (L q)+lst (L q)-·) h).trans (qCc ..)
theorem oth_l {q:Nat}(h:q=lst (L q)):oth L fst lst q=fst (L q):=
 (congrArg (fst (L q)+lst (L q)-·) h).trans (qFx ..)
theorem oth_ok (H:Dbl m L fst lst names){q:Nat}(hq:q<m):oth L fst lst q<m∧L (oth L fst lst q)=L q∧oth L fst lst (oth L fst lst q)=q∧oth L fst lst q≠q:=by
 have hv:=H.mem q hq
 have h1:=H.lt _ hv
 have h2:=H.lm _ hv
 rcases H.only q hq with h|h
 ·have e:oth L fst lst q=lst (L q):=oth_f h
  have e2:L (oth L fst lst q)=L q:=by rw [e];exact H.a2 _ hv
  refine⟨by rw [e];exact h2,e2,?_,fun z=>qBg h1 (h.symm.trans (z.symm.trans e))⟩
  have e3:=oth_l (L:=L) (fst:=fst) (lst:=lst) (q:=oth L fst lst q) (by rw [e2];exact e)
  rw [e3,e2];exact h.symm
 ·have e:oth L fst lst q=fst (L q):=oth_l h
  have e2:L (oth L fst lst q)=L q:=by rw [e];exact H.a1 _ hv
  refine⟨by rw [e];exact qBj h1 h2,e2,?_,fun z=>qBg h1 (e.symm.trans (z.trans h))⟩
  have e3:=oth_f (L:=L) (fst:=fst) (lst:=lst) (q:=oth L fst lst q) (by rw [e2];exact e)
  rw [e3,e2];exact h.symm
theorem sp2 (s:Nat):∃q b,b<2∧s=2*q+b:=⟨s / 2,s % 2,qC6 _ (by decide),(qBc ..).symm⟩
theorem dv2 {q b:Nat}(h:b<2):(2*q+b) / 2=q:=by
 rw [Nat.mul_add_div (by decide),Nat.div_eq_of_lt h];rfl
theorem md2 {q b:Nat}(h:b<2):(2*q+b) % 2=b:=by
 rw [Nat.mul_add_mod,qEn h]
theorem bd2 {q b m:Nat}(hq:q<m)(h:b<2):2*q+b<2*m:=
 qB3 (qHc h _) (qCh 2 hq)
theorem lt2 {q b m:Nat}(h:2*q+b<2*m):q<m:=
 Nat.lt_of_mul_lt_mul_left (qC9 (qB5 ..) h)
theorem bit2 {b:Nat}(h:b<2):b=0∨b=1:=by
 rcases b with _|_|b
 ·exact .inl rfl
 ·exact .inr rfl
 ·exact absurd h (qCj.mpr (qBv 2 b))
theorem fl2 {b:Nat}(h:b<2):1-b<2∧1-(1-b)=b∧1-b≠b:=by
 rcases bit2 h with rfl|rfl<;>decide
theorem hf2 {q b:Nat}(h:b<2):(2*q+b+1) / 2=q+b:=by
 rcases bit2 h with rfl|rfl
 ·exact dv2 (by decide)
 ·exact dv2 (q:=q+1) (b:=0) (by decide)
theorem ne2 {q o b c:Nat}(hb:b<2)(hc:c<2)(h:o≠q∨c≠b):2*o+c≠2*q+b:=fun e=>
 h.elim (fun h=>h (by rw [←dv2 (q:=o) hc,e,dv2 hb])) fun h=>h (by rw [←md2 (q:=o) hc,e,md2 hb])
theorem tuX_eq {q b:Nat}(hb:b<2):tuX g L fst lst (2*q+b)=if g q≠g (oth L fst lst q) then 2*oth L fst lst q+b else if g q=true then 2*oth L fst lst q+(1-b) else 2*q+(1-b):=by
 unfold tuX
 rw [dv2 hb,md2 hb]
noncomputable def nx (m q:Nat):Nat:=if q+1=m then 0 else q+1
noncomputable def pv (m q:Nat):Nat:=if q=0 then m-1 else q-1
theorem nx_pv {m q:Nat}(h:q<m):nx m (pv m q)=q∧pv m q<m:=by
 unfold nx pv
 rcases q with _|q
 ·rw [if_pos rfl,qAg h,if_pos rfl]
  exact⟨rfl,Nat.sub_lt h qHt⟩
 ·rw [if_neg (qCw q)]
  exact⟨if_neg (qBg h),qBj (qBo q) h⟩
theorem pv_nx {m q:Nat}(h:q<m):pv m (nx m q)=q∧nx m q<m:=by
 unfold nx pv
 by_cases e:q+1=m
 ·rw [if_pos e,if_pos rfl,←e]
  exact⟨rfl,qBi q⟩
 ·rw [if_neg e,if_neg (qCw q)]
  exact⟨rfl,qFt h e⟩
theorem sg_1 {m q:Nat}(h:q<m):sg (2*m) (2*q+1)=2*nx m q+0:=by
 unfold sg nx
 rw [if_pos (md2 (by decide))]
 by_cases e:q+1=m
 ·rw [if_pos e,←e];exact Nat.mod_self _
 ·rw [if_neg e]
  exact qEn (bd2 (b:=0) (qFt h e) (by decide))
theorem sg_0 {m q:Nat}(h:q<m):sg (2*m) (2*q+0)=2*pv m q+1:=by
 unfold sg pv
 rw [if_neg (by rw [md2 (by decide)];decide)]
 rcases q with _|q
 ·rcases m with _|m
  ·exact absurd h (qGb 0)
  ·rw [if_pos rfl]
   show (2*0+0+(2*m+1)) % (2*(m+1))=2*m+1
   rw [qB2]
   exact qEn (bd2 (qBo m) (by decide))
 ·rw [if_neg (qCw q)]
  show (2*q+1+1+2*m-1) % (2*m)=2*q+1
  rw [qCu (2*q+1),qFx,Nat.add_mod_right]
  exact qEn (bd2 (qBj (qBo q) h) (by decide))
theorem two (H:Dbl m L fst lst names)(_:0<m)(g:Nat→Bool):Two (tuX g L fst lst) (sg (2*m)) (2*m) where
 tl s hs:=by
  obtain⟨q,b,hb,rfl⟩:=sp2 s
  have h:=(oth_ok H (lt2 hs)).1
  rw [tuX_eq hb]
  split
  ·exact bd2 h hb
  ·split
   ·exact bd2 h (fl2 hb).1
   ·exact bd2 (lt2 hs) (fl2 hb).1
 tt s hs:=by
  obtain⟨q,b,hb,rfl⟩:=sp2 s
  have h:=(oth_ok H (lt2 hs)).2.2.1
  have f:=fl2 hb
  rw [tuX_eq hb]
  by_cases h1:g q≠g (oth L fst lst q)
  ·rw [if_pos h1,tuX_eq hb,h,if_pos (qBz h1)]
  ·rw [if_neg h1]
   have h1':g q=g (oth L fst lst q):=qHo.mp h1
   by_cases h2:g q=true
   ·rw [if_pos h2,tuX_eq f.1,h,if_neg (fun z=>h1 (qBz z)),if_pos (h1'.symm.trans h2),f.2.1]
   ·rw [if_neg h2,tuX_eq f.1,if_neg h1,if_neg h2,f.2.1]
 tn s hs:=by
  obtain⟨q,b,hb,rfl⟩:=sp2 s
  have h:=(oth_ok H (lt2 hs)).2.2.2
  have f:=fl2 hb
  rw [tuX_eq hb]
  split
  ·exact ne2 hb hb (.inl h)
  ·split
   ·exact ne2 hb f.1 (.inl h)
   ·exact ne2 hb f.1 (.inr f.2.2)
 sl s hs:=by
  obtain⟨q,b,hb,rfl⟩:=sp2 s
  have h:=lt2 hs
  rcases bit2 hb with rfl|rfl
  ·rw [sg_0 h];exact bd2 (nx_pv h).2 (by decide)
  ·rw [sg_1 h];exact bd2 (pv_nx h).2 (by decide)
 ss s hs:=by
  obtain⟨q,b,hb,rfl⟩:=sp2 s
  have h:=lt2 hs
  rcases bit2 hb with rfl|rfl
  ·rw [sg_0 h,sg_1 (nx_pv h).2,(nx_pv h).1]
  ·rw [sg_1 h,sg_0 (pv_nx h).2,(pv_nx h).1]
 sn s hs:=by
  obtain⟨q,b,hb,rfl⟩:=sp2 s
  have h:=lt2 hs
  rcases bit2 hb with rfl|rfl
  ·rw [sg_0 h];exact ne2 hb (by decide) (.inr (by decide))
  ·rw [sg_1 h];exact ne2 hb (by decide) (.inr (by decide))
noncomputable def tk (g:Nat→Bool)(fst lst:Nat→Nat)(v:Nat):Bool:=g (fst v) || g (lst v)
noncomputable def unl (g:Nat→Bool)(fst lst:Nat→Nat)(v:Nat):Bool:=g (fst v) != g (lst v)
noncomputable def btw (L fst lst:Nat→Nat)(d:Nat→Bool)(v:Nat):Bool:=seg L d (fst v+1) (lst v-(fst v+1))
noncomputable def Ker (g:Nat→Bool)(L fst lst:Nat→Nat)(names:List Nat)(d:Nat→Bool):Prop:=
 ∀v∈names,if tk g fst lst v=true then (btw L fst lst d v ^^ (unl g fst lst v&&d v))=false else d v=false
noncomputable def fcd (L:Nat→Nat)(c:Bool)(d:Nat→Bool)(s:Nat):Bool:=c ^^ seg L d 0 ((s+1) / 2)
noncomputable def jmp (fst:Nat→Nat)(f:Nat→Bool)(v:Nat):Bool:=f (2*fst v) ^^ f (2*fst v+1)
theorem seg_btw (H:Dbl m L fst lst names)(d:Nat→Bool){v:Nat}(hv:v∈names):seg L d 0 (lst v)=(seg L d 0 (fst v+1) ^^ btw L fst lst d v):=by
 have e:=seg_add L d 0 (fst v+1) (lst v-(fst v+1))
 rw [qDu (H.lt v hv),qB2] at e
 exact e
theorem seg_fst (H:Dbl m L fst lst names)(d:Nat→Bool){v:Nat}(hv:v∈names):seg L d 0 (fst v+1)=(seg L d 0 (fst v) ^^ d v):=by
 show (seg L d 0 (fst v) ^^ d (L (0+fst v)))=_
 rw [qB2,H.a1 v hv]
theorem seg_lst (H:Dbl m L fst lst names)(d:Nat→Bool){v:Nat}(hv:v∈names):seg L d 0 (lst v+1)=(seg L d 0 (lst v) ^^ d v):=by
 show (seg L d 0 (lst v) ^^ d (L (0+lst v)))=_
 rw [qB2,H.a2 v hv]
theorem seg_all (H:Dbl m L fst lst names)(hn:names.Nodup)(d:Nat→Bool):seg L d 0 m=false:=by
 rw [seg_par H hn (fun _ h=>h) (fun v h h'=>absurd h h') 0 m (jL [_] [] (cL (eA (eN 0) xa) xa) jT),xorL_no]
 intro t ht
 have h1:=H.lt t ht
 have h2:=H.lm t ht
 unfold par inR
 rw [decide_eq_true (by lia),decide_eq_true (by lia)];rfl
theorem tu_val (d:Nat→Bool){q b:Nat}(hb:b<2):seg L d 0 ((tuX g L fst lst (2*q+b)+1) / 2) =
  bif (g q != g (oth L fst lst q)) then seg L d 0 (oth L fst lst q+b)
  else bif g q then seg L d 0 (oth L fst lst q+(1-b)) else seg L d 0 (q+(1-b)):=by
 have f:=(fl2 hb).1
 rw [tuX_eq hb]
 by_cases h1:g q≠g (oth L fst lst q)
 ·rw [if_pos h1,hf2 hb,bne_iff_ne.mpr h1];rfl
 ·rw [if_neg h1,show (g q != g (oth L fst lst q))=false from qC5.mpr fun z=>h1 (bne_iff_ne.mp z)]
  by_cases h2:g q=true
  ·rw [if_pos h2,hf2 f,h2];rfl
  ·rw [if_neg h2,hf2 f,qC5.mpr h2];rfl
theorem ker_inv (H:Dbl m L fst lst names)(hn:names.Nodup)(_:0<m){d:Nat→Bool}(hd:Ker g L fst lst names d)(c:Bool):Invt (tuX g L fst lst) (sg (2*m)) (2*m) (fcd L c d):=by
 intro s hs
 obtain⟨q,b,hb,rfl⟩:=sp2 s
 have hq:=lt2 hs
 clear hs
 constructor
 ·have hv:=H.mem _ hq
  have hk:=hd _ hv
  have k1:=seg_fst H d hv
  have k2:=seg_lst H d hv
  have k3:=seg_btw H d hv
  unfold fcd
  congr 1
  have hcase:(q=fst (L q)∧oth L fst lst q=lst (L q))∨(q=lst (L q)∧oth L fst lst q=fst (L q)):=
   (H.only _ hq).imp (fun h=>⟨h,oth_f h⟩) fun h=>⟨h,oth_l h⟩
  rw [tu_val d hb,hf2 hb]
  clear hd hq
  generalize oth L fst lst q=o at *
  generalize L q=v at *
  clear hv
  rw [k1] at k3
  rw [k3] at k2
  unfold tk unl at hk
  rcases hcase with⟨rfl,rfl⟩|⟨rfl,rfl⟩<;>rcases bit2 hb with rfl|rfl<;>simp only [qDq,qGw,qEq]<;>rw [k2,k1,k3]<;>clear k1 k2 k3 hb <;>
   generalize g (fst v)=p1 at*<;> generalize g (lst v)=p2 at*<;> generalize d v=dv at*<;> generalize btw L fst lst d v=X at*<;> generalize seg L d 0 (fst v)=A<;>revert hk<;>revert p1 p2 dv X A<;>decide
 ·unfold fcd
  congr 1
  rcases bit2 hb with rfl|rfl
  ·rw [sg_0 hq]
   show seg L d 0 ((2*(pv m q+1)+0) / 2)=seg L d 0 ((2*q+1) / 2)
   rw [dv2 (by decide),dv2 (by decide)]
   unfold pv
   rcases q with _|q
   ·rw [if_pos rfl,qAg hq,seg_all H hn];rfl
   ·rfl
  ·rw [sg_1 hq]
   show seg L d 0 ((2*nx m q+1) / 2)=seg L d 0 ((2*(q+1)+0) / 2)
   rw [dv2 (by decide),dv2 (by decide)]
   unfold nx
   by_cases e:q+1=m
   ·rw [if_pos e,e,seg_all H hn];rfl
   ·rw [if_neg e]
end
section
variable {m:Nat}{L fst lst:Nat→Nat}{names:List Nat}{g:Nat→Bool}
theorem invX_two (H:Dbl m L fst lst names){f:Nat→Bool}(hf:Invt (tuX g L fst lst) (sg (2*m)) (2*m) f){q:Nat}(hq:q<m) :
  if g q≠g (oth L fst lst q) then f (2*oth L fst lst q)=f (2*q)∧f (2*oth L fst lst q+1)=f (2*q+1)
  else if g q=true then f (2*oth L fst lst q+1)=f (2*q)∧f (2*oth L fst lst q)=f (2*q+1)
  else f (2*q+1)=f (2*q):=by
 have h0:=(hf (2*q) (jk [_,_] [cT xa xb] (cT (eM 2 xa) (eM 2 xb)) [1,2] jT hq)).1
 have h1:=(hf (2*q+1) (jk [_,_] [cT xa xb] (cT (eU (eM 2 xa)) (eM 2 xb)) [1,2] jT hq)).1
 unfold tuX at h0 h1
 have e0:2*q / 2=q:=jq [_,_,_] [cQ (eA (eM 2 xa) xb) (eM 2 xc),cT xb (eN 2)] xa xc [2,1,0] [2,1,1] jT jT (qBc _ _) (qC6 _ (qBi _))
 have e1:(2*q+1) / 2=q:=jq [_,_,_] [cQ (eA (eM 2 xa) xb) (eU (eM 2 xc)),cT xb (eN 2)] xa xc [2,1,0] [2,1,1] jT jT (qBc _ _) (qC6 _ (qBi _))
 have e2:2*q % 2=0:=by lia
 have e3:(2*q+1) % 2=1:=by lia
 rw [e0,e2] at h0
 rw [e1,e3] at h1
 by_cases c1:g q≠g (oth L fst lst q)
 ·rw [if_pos c1] at h0 h1⊢
  exact⟨h0,h1⟩
 ·rw [if_neg c1] at h0 h1⊢
  by_cases c2:g q=true
  ·rw [if_pos c2] at h0 h1⊢
   exact⟨h0,h1⟩
  ·rw [if_neg c2] at h0 h1⊢
   exact h0
theorem oth_fst (H:Dbl m L fst lst names){v:Nat}(hv:v∈names):oth L fst lst (fst v)=lst v:=by
 unfold oth;rw [H.a1 v hv];exact jQ [_,_,_] [cQ (eA xa xb) (eA xb xc)] xa xc jT jT (qAg (jL [_,_] [] (cL xa (eA xa xb)) jT))
theorem oth_lst (H:Dbl m L fst lst names){v:Nat}(hv:v∈names):oth L fst lst (lst v)=fst v:=by
 unfold oth;rw [H.a2 v hv];exact jQ [_,_,_] [cQ (eA xa xb) (eA xc xb)] xa xc jT jT (qAg (jL [_,_] [] (cL xa (eA xb xa)) jT))
theorem inv_jmp (H:Dbl m L fst lst names){f:Nat→Bool}(hf:Invt (tuX g L fst lst) (sg (2*m)) (2*m) f){q:Nat}(hq:q<m):(f (2*q) ^^ f (2*q+1))=jmp fst f (L q):=by
 have hv:=H.mem q hq
 have h1:=H.lt _ hv
 have h2:=H.lm _ hv
 unfold jmp
 rcases H.only q hq with h|h
 ·rw [←h]
 ·have i1:=invX_two H hf (q:=lst (L q)) (by exact h2)
  have i2:=invX_two H hf (q:=fst (L q)) (jL [_,_,_,_] [cT xa xb,cT xc xd,cR xa xd] (cT xc xb) jT hq h1 h)
  rw [oth_lst H hv] at i1
  rw [oth_fst H hv] at i2
  generalize L q=v at *
  subst h
  by_cases c1:g (lst v)≠g (fst v)
  ·rw [if_pos c1] at i1
   rw [i1.1,i1.2]
  ·rw [if_neg c1] at i1
   rw [if_neg (fun e=>c1 (qBz e))] at i2
   have c1:=qHo.mp c1
   by_cases c2:g (lst v)=true
   ·rw [if_pos c2] at i1
    rw [i1.1,i1.2,Bool.xor_comm]
   ·rw [if_neg c2] at i1
    rw [if_neg (by rw [←c1];exact c2)] at i2
    rw [i1,i2,Bool.xor_self,Bool.xor_self]
theorem xor_sol {a b c:Bool}(h:(a ^^ b)=c):b=(a ^^ c):=by
 revert h;cases a<;>cases b<;>cases c<;>decide
theorem inv_even (H:Dbl m L fst lst names){f:Nat→Bool}(hf:Invt (tuX g L fst lst) (sg (2*m)) (2*m) f):∀p,p<m→f (2*p)=(f 0 ^^ seg L (jmp fst f) 0 p)
 |0,_=>by
  show f 0=(f 0 ^^ false)
  rw [qDz]
 |p+1,hp=>by
  have ih:=inv_even H hf p (qAq hp)
  have j:=xor_sol (inv_jmp H hf (q:=p) (qAq hp))
  have k:=(hf (2*p+1) (jk [_,_] [cT (eU xa) xb] (cT (eU (eM 2 xa)) (eM 2 xb)) [1,2] jT hp)).2
  unfold sg at k
  rw [if_pos (by lia),qEn (by exact jk [_,_] [cT (eU xa) xb] (cT (eU (eU (eM 2 xa))) (eM 2 xb)) [1,2] jT hp)] at k
  have e:2*(p+1)=2*p+1+1:=jQ [_] [] (eM 2 (eU xa)) (eU (eU (eM 2 xa))) jT jT
  rw [e,k,j,ih]
  show _=(f 0 ^^ (seg L (jmp fst f) 0 p ^^ jmp fst f (L (0+p))))
  rw [qB2,qG2]
theorem inv_odd (H:Dbl m L fst lst names){f:Nat→Bool}(hf:Invt (tuX g L fst lst) (sg (2*m)) (2*m) f)(p:Nat)(hp:p<m):f (2*p+1)=(f 0 ^^ seg L (jmp fst f) 0 (p+1)):=by
 rw [xor_sol (inv_jmp H hf hp),inv_even H hf p hp]
 show _=(f 0 ^^ (seg L (jmp fst f) 0 p ^^ jmp fst f (L (0+p))))
 rw [qB2,qG2]
theorem inv_fcd (H:Dbl m L fst lst names){f:Nat→Bool}(hf:Invt (tuX g L fst lst) (sg (2*m)) (2*m) f)(s:Nat)(hs:s<2*m):f s=fcd L (f 0) (jmp fst f) s:=by
 unfold fcd
 have hp:s=2*(s / 2)∨s=2*(s / 2)+1:=by lia
 rcases hp with h|h
 ·have e:(s+1) / 2=s / 2:=jq [_,_,_,_] [cQ xa (eM 2 xb),cQ (eA (eM 2 xc) xd) (eU xa),cT xd (eN 2)] xc xb [2,1,1,0] [2,1,1,1] jT jT h (qBc _ _) (qC6 _ (qBi _))
  rw [e]
  conv=>lhs;rw [h]
  exact inv_even H hf _ (jk [_,_,_] [cT xa (eM 2 xb),cR xa (eM 2 xc)] (cT xc xb) [2,1,1] jT hs h)
 ·have e:(s+1) / 2=s / 2+1:=jq [_,_,_,_] [cQ xa (eU (eM 2 xb)),cQ (eA (eM 2 xc) xd) (eU xa),cT xd (eN 2)] xc (eU xb) [2,1,1,0] [2,1,1,1] jT jT h (qBc _ _) (qC6 _ (qBi _))
  rw [e]
  conv=>lhs;rw [h]
  exact inv_odd H hf _ (jk [_,_,_] [cT xa (eM 2 xb),cR xa (eU (eM 2 xc))] (cT xc xb) [2,1,1] jT hs h)
theorem inv_ker (H:Dbl m L fst lst names){f:Nat→Bool}(hf:Invt (tuX g L fst lst) (sg (2*m)) (2*m) f):Ker g L fst lst names (jmp fst f):=by
 intro v hv
 have h1:=H.lt _ hv
 have h2:=H.lm _ hv
 have i1:=invX_two H hf (q:=fst v) (jL [_,_,_] [cT xa xb,cT xb xc] (cT xa xc) jT h1 h2)
 rw [oth_fst H hv] at i1
 have e1:=inv_even H hf (fst v) (jL [_,_,_] [cT xa xb,cT xb xc] (cT xa xc) jT h1 h2)
 have e2:=inv_odd H hf (fst v) (jL [_,_,_] [cT xa xb,cT xb xc] (cT xa xc) jT h1 h2)
 have e3:=inv_even H hf (lst v) (by exact h2)
 have e4:=inv_odd H hf (lst v) (by exact h2)
 have k1:=seg_fst H (jmp fst f) hv
 have k2:=seg_lst H (jmp fst f) hv
 have k3:=seg_btw H (jmp fst f) hv
 rw [k1] at e2 k3
 rw [k2,k3] at e4
 rw [k3] at e3
 have ej:jmp fst f v=(f (2*fst v) ^^ f (2*fst v+1)):=rfl
 unfold tk unl
 generalize btw L fst lst (jmp fst f) v=X at *
 generalize jmp fst f v=dv at *
 generalize seg L (jmp fst f) 0 (fst v)=A at *
 generalize f (2*fst v)=f1 at *
 generalize f (2*fst v+1)=f2 at *
 generalize f (2*lst v)=f3 at *
 generalize f (2*lst v+1)=f4 at *
 generalize f 0=f0 at *
 generalize g (fst v)=p1 at *
 generalize g (lst v)=p2 at *
 clear k1 k2 k3 h1 h2 hf
 subst e1 e2 e3 e4
 revert p1 p2 i1 ej
 revert dv A X f0
 decide
theorem jmp_fcd (H:Dbl m L fst lst names)(c:Bool)(d:Nat→Bool){v:Nat}(hv:v∈names):jmp fst (fcd L c d) v=d v:=by
 unfold jmp fcd
 have e1:(2*fst v+1) / 2=fst v:=jq [_,_,_] [cQ (eA (eM 2 xa) xb) (eU (eM 2 xc)),cT xb (eN 2)] xa xc [2,1,0] [2,1,1] jT jT (qBc _ _) (qC6 _ (qBi _))
 have e2:(2*fst v+1+1) / 2=fst v+1:=jq [_,_,_] [cQ (eA (eM 2 xa) xb) (eU (eU (eM 2 xc))),cT xb (eN 2)] xa (eU xc) [2,1,0] [2,1,1] jT jT (qBc _ _) (qC6 _ (qBi _))
 rw [e1,e2,seg_fst H d hv]
 cases c<;>cases seg L d 0 (fst v)<;>cases d v<;>rfl
end
section
variable {m:Nat}{L fst lst:Nat→Nat}{names:List Nat}{g:Nat→Bool}
noncomputable def numR (b:Nat→Bool):List Nat→Nat
 |[]=>0
 |t::U=>2*numR b U+if b t=true then 1 else 0
theorem numR_c {b:Nat→Bool}{t:Nat}{U:List Nat}:numR b (t::U)=2*numR b U+if b t=true then 1 else 0:=rfl
theorem numR_lt (b:Nat→Bool):∀U,numR b U<2 ^ U.length
 |[]=>qHt
 |t::U=>by
  have:=numR_lt b U
  rw [qAd,qHp]
  rw [numR_c]
  split<;>lia
theorem dot_two (a:Nat)(b:Bool) (δ:Nat→Bool):∀k,dot (k+1) (2*a+if b=true then 1 else 0) δ=((b&&δ 0) ^^ dot k a fun i=>δ (i+1))
 |0=>by
  show (false ^^ (qHu (2*a+if b=true then 1 else 0) 0&&δ 0))=((b&&δ 0) ^^ false)
  rw [Nat.testBit_zero]
  cases b
  ·rw [if_neg (by decide),decide_eq_false (by lia)];rfl
  ·rw [if_pos rfl,decide_eq_true (by lia)];cases δ 0<;>rfl
 |k+1=>by
  show (dot (k+1) (2*a+if b=true then 1 else 0) δ ^^ (qHu (2*a+if b=true then 1 else 0) (k+1)&&δ (k+1)))=((b&&δ 0) ^^ (dot k a (fun i=>δ (i+1)) ^^ (a.testBit k&&δ (k+1))))
  rw [dot_two a b δ k,qD9]
  have e:(2*a+if b=true then 1 else 0) / 2=a:=by split<;>lia
  rw [e,qG2]
theorem dot_num (b d:Nat→Bool):∀U:List Nat,dot U.length (numR b U) (fun i=>d (U.getD i 0))=xorL U (fun t=>b t&&d t)
 |[]=>rfl
 |t::U=>by
  rw [qAd]
  rw [numR_c,dot_two]
  show ((b t&&d t) ^^ dot U.length (numR b U) fun i=>d (U.getD i 0))=((b t&&d t) ^^ _)
  rw [dot_num b d U]
noncomputable def mbit (g:Nat→Bool)(fst lst:Nat→Nat)(v t:Nat):Bool:=if v=t then unl g fst lst v else par fst lst (fst v+1) (lst v-(fst v+1)) t
theorem row_dot (H:Dbl m L fst lst names){U:List Nat}(hU:U.Nodup)(hs:∀t∈U,t∈names){d:Nat→Bool}(hd:∀v∈names,v∉U→d v=false){v:Nat}(hv:v∈U) :
  dot U.length (numR (mbit g fst lst v) U) (fun i=>d (U.getD i 0))=(btw L fst lst d v ^^ (unl g fst lst v&&d v)):=by
 have h1:=H.lt v (hs v hv)
 have h2:=H.lm v (hs v hv)
 rw [dot_num]
 have e:xorL U (fun t=>mbit g fst lst v t&&d t)=xorL U (fun t=>(par fst lst (fst v+1) (lst v-(fst v+1)) t&&d t) ^^ (decide (v=t)&&(unl g fst lst v&&d t))):=xorL_congr fun t ht=>by
  unfold mbit
  by_cases h:v=t
  ·rw [if_pos h,decide_eq_true h,←h]
   have:par fst lst (fst v+1) (lst v-(fst v+1)) v=false:=by
    unfold par inR
    rw [decide_eq_false (by exact (fun e_=>jL [_] [cL (eU xa) xa] cF jT e_.1)),decide_eq_false (by exact (fun e_=>jL [_,_,_] [cT xa (eA (eU xb) xc),cQ (eA xc (eU xb)) xa] cF jT e_.2 (qAg e_.1)))];rfl
   rw [this]
   cases unl g fst lst v<;>cases d v<;>rfl
  ·rw [if_neg h,decide_eq_false h]
   cases par fst lst (fst v+1) (lst v-(fst v+1)) t<;>cases d t<;>rfl
 rw [e,xorL_xor,xorL_one v (fun t=>unl g fst lst v&&d t) U hU hv]
 congr 1
 exact (seg_par H hU hs hd _ _ (jL [_,_,_,_] [cT xa xb,cQ (eA xc (eU xd)) xa] (cL (eA (eU xd) xc) xb) jT h2 (qAg (jL [_,_] [cT xa xb] (cL (eU xa) xb) jT h1)))).symm
theorem seg_congr (H:Dbl m L fst lst names){d e:Nat→Bool}(h:∀v∈names,d v=e v):∀n,n≤m→seg L d 0 n=seg L e 0 n
 |0,_=>rfl
 |n+1,hn=>by
  rw [seg_s,seg_s,seg_congr H h n (by exact qAq hn),h _ (H.mem _ (by exact jL [_,_] [cL (eU xa) xb] (cT (eA (eN 0) xa) xb) jT hn))]
theorem getD_mem {U:List Nat}{i:Nat}(h:i<U.length):U.getD i 0∈U:=by
 rw [qAo,qAb h]
 exact qGk h
theorem idx_getD {U:List Nat}(hU:U.Nodup){i:Nat}(h:i<U.length):U.idxOf (U.getD i 0)=i:=by
 rw [qAo,qAb h]
 exact hU.idxOf_getElem i h
theorem getD_idx {U:List Nat}{v:Nat}(h:v∈U):U.getD (U.idxOf v) 0=v:=by
 have hl:=qE6 h
 rw [qAo,qAb hl]
 exact List.getElem_idxOf hl
theorem rank_ok (H:Dbl m L fst lst names)(hn:names.Nodup)(hm:0<m){U R:List Nat}(hU:U.Nodup)(hs:∀v,v∈U↔v∈names∧tk g fst lst v=true)
  (hR:∀r,r∈R↔∃v∈U,r=numR (mbit g fst lst v) U) {S:List Nat} {w:Nat} {lb rp:Nat→Nat}
  (W:Seen (tuX g L fst lst) (sg (2*m)) (2*m) S w lb rp) (hall:∀s,s<2*m→s∈S):w+(basis R []).length=U.length+1:=by
 have hs1:∀t∈U,t∈names:=fun t ht=>((hs t).mp ht).1
 obtain⟨hT,hK⟩:=basis_spec U.length R [] (fun r hr=>by obtain⟨v,_,rfl⟩:=(hR r).mp hr;exact numR_lt _ _) trivial
 obtain⟨f1,f2,f3⟩:=free_spec U.length _ hT
 generalize hB:basis R []=B at *
 generalize hF:free U.length B=Fr at *
 have kd:∀d:Nat→Bool,Ker g L fst lst names d→∀o∈B,dot U.length o (fun i=>d (U.getD i 0))=false:=fun d hd=>by
  have hd0:∀v∈names,v∉U→d v=false:=fun v hv hvU=>by
   have:=hd v hv
   rw [if_neg (fun h=>hvU ((hs v).mpr ⟨hv,h⟩))] at this
   exact this
  refine (hK _).mpr ⟨fun _ h=>(nomatch h),fun r hr=>?_⟩
  obtain⟨v,hv,rfl⟩:=(hR r).mp hr
  rw [row_dot H hU hs1 hd0 hv]
  have:=hd v (hs1 v hv)
  rw [if_pos ((hs v).mp hv).2] at this
  exact this
 have dk:∀d:Nat→Bool,(∀v∈names,v∉U→d v=false)→(∀o∈B,dot U.length o (fun i=>d (U.getD i 0))=false)→Ker g L fst lst names d:=fun d hd0 h v hv=>by
  have h:=((hK _).mp h).2
  by_cases hvU:v∈U
  ·rw [if_pos ((hs v).mp hvU).2,←row_dot H hU hs1 hd0 hvU]
   exact h _ ((hR _).mpr ⟨v,hvU,rfl⟩)
  ·rw [if_neg (fun h=>hvU ((hs v).mpr ⟨hv,h⟩))]
   exact hd0 v hv hvU
 have A:w≤Fr.length+1:=by
  refine inj_le w (Fr.length+1) (fun h i=>match i with|0=>h (lb 0)|i+1=>jmp fst (fun s=>h (lb s)) (U.getD (Fr.getD i 0) 0)) fun h h' he i hi=>?_
  have iv:∀h:Nat→Bool,Invt (tuX g L fst lst) (sg (2*m)) (2*m) fun s=>h (lb s):=fun h s hs=>by
   constructor
   ·show h (lb _)=h (lb _)
    rw [W.lt' s (hall s hs)]
   ·show h (lb _)=h (lb _)
    rw [W.ls s (hall s hs)]
  have i1:=iv h
  have i2:=iv h'
  have k1:=inv_ker H i1
  have k2:=inv_ker H i2
  have hδ:=ker_inj U.length _ _ B hT (kd _ k1) (kd _ k2) (fun j hj hjo=>by
   have hm:=(f2 j).mpr ⟨hj,hjo⟩
   have hl:=qE6 hm
   have:=he (Fr.idxOf j+1) (qCi hl)
   simp only [getD_idx hm] at this
   exact this)
  have hdd:∀v∈names,jmp fst (fun s=>h (lb s)) v=jmp fst (fun s=>h' (lb s)) v:=fun v hv=>by
   by_cases hvU:v∈U
   ·have:=hδ (U.idxOf v) (qE6 hvU)
    simp only [getD_idx hvU] at this
    exact this
   ·have a1:=k1 v hv
    have a2:=k2 v hv
    rw [if_neg (fun h=>hvU ((hs v).mpr ⟨hv,h⟩))] at a1 a2
    rw [a1,a2]
  obtain⟨r1,r2⟩:=W.rs i hi
  have hr:=W.lt _ r1
  have e1:=inv_fcd H i1 (rp i) hr
  have e2:=inv_fcd H i2 (rp i) hr
  have e0:=he 0 (jL [_] [] (cT (eN 0) (eU xa)) jT)
  simp only [] at e0
  have e3:h (lb (rp i))=h' (lb (rp i)):=by
   refine e1.trans (qAz ?_ e2.symm)
   unfold fcd
   rw [seg_congr H hdd _ (by exact jk [_,_,_,_] [cT xa (eM 2 xb),cQ (eA (eM 2 xc) xd) (eU xa)] (cL xc xb) [2,1,1] jT hr (qBc _ _))]
   show (h (lb 0) ^^ _)=(h' (lb 0) ^^ _)
   rw [e0]
  rw [r2] at e3
  exact e3
 have C:Fr.length+1≤w:=by
  let dE:(Nat→Bool)→Nat→Bool:=fun e v=>if U.contains v=true then solve U.length B (fun i=>if Fr.contains i=true then e (Fr.idxOf i+1) else false) (U.idxOf v) else false
  have dEU:∀(e:Nat→Bool) (v:Nat),v∈U→dE e v=solve U.length B (fun i=>if Fr.contains i=true then e (Fr.idxOf i+1) else false) (U.idxOf v):=fun e v hv=>if_pos (by simpa using hv)
  have dE0:∀(e:Nat→Bool) (v:Nat),v∉U→dE e v=false:=fun e v hv=>if_neg (by simpa using hv)
  have hk:∀e,Ker g L fst lst names (dE e):=fun e=>dk _ (fun v _ hv=>dE0 e v hv) fun o ho=>by
   rw [←solve_ker U.length B (fun i=>if Fr.contains i=true then e (Fr.idxOf i+1) else false) hT o ho]
   refine dot_congr o U.length fun i hi _=>?_
   rw [dEU e _ (getD_mem hi),idx_getD hU hi]
  have hv:=fun e=>ker_inv H hn hm (hk e) (e 0)
  refine inj_le (Fr.length+1) w (fun e i=>fcd L (e 0) (dE e) (rp i)) fun e e' he i hi=>?_
  have hf:∀s,s<2*m→fcd L (e 0) (dE e) s=fcd L (e' 0) (dE e') s:=fun s hs=>by
   rw [W.cn _ (hv e) s (hall s hs),W.cn _ (hv e') s (hall s hs)]
   exact he _ (W.lw s (hall s hs))
  have h0:e 0=e' 0:=by
   have:=hf 0 (jk [_] [cT (eN 0) xa] (cT (eN 0) (eM 2 xa)) [1,2] jT hm)
   unfold fcd at this
   simp only [show (0+1) / 2=0 from rfl,seg,qDz] at this
   exact this
  cases i with
  |zero=>exact h0
  |succ i=>
   have hi:i<Fr.length:=qG8 hi
   have hm:=getD_mem hi
   have hj:=(f2 _).mp hm
   have hvU:=getD_mem hj.1
   have hvn:=hs1 _ hvU
   have l1:=H.lt _ hvn
   have l2:=H.lm _ hvn
   have ej:jmp fst (fcd L (e 0) (dE e)) (U.getD (Fr.getD i 0) 0)=jmp fst (fcd L (e' 0) (dE e')) (U.getD (Fr.getD i 0) 0):=by
    unfold jmp
    rw [hf _ (by exact jk [_,_,_] [cT xa xb,cT xb xc] (cT (eM 2 xa) (eM 2 xc)) [1,2,2] jT l1 l2),hf _ (by exact jk [_,_,_] [cT xa xb,cT xb xc] (cT (eU (eM 2 xa)) (eM 2 xc)) [1,2,2] jT l1 l2)]
   rw [jmp_fcd H _ _ hvn,jmp_fcd H _ _ hvn,dEU _ _ hvU,dEU _ _ hvU,idx_getD hU hj.1,solve_free _ _ _ _ hj.2,solve_free _ _ _ _ hj.2,if_pos (by simpa using hm),if_pos (by simpa using hm),idx_getD f1 hi] at ej
   exact ej
 exact jq [_,_,_,_] [cQ (eA xa xb) xc,cL xd (eU xa),cL (eU xa) xd] (eA xd xb) (eU xc) [1,1,1,0] [1,1,0,1] jT jT f3 A C
end
end Mine
end

section
open PySem PyProof.Rows
namespace Mine
set_option maxRecDepth 100000
noncomputable def isP (t:List Nat):Bool:=t==[40] || t==[41]
theorem ck_c {t:List Nat}{r:List (List Nat)}{n:Int}:ck (t::r) n=if t=[40] then ck r (n+1) else if t=[41] then (if n-1<0 then false else ck r (n-1)) else ck r n:=rfl
theorem ck_filter:∀(ts:List (List Nat)) (n:Int),ck ts n=ck (ts.filter isP) n
 |[],_=>rfl
 |t::r,n=>by
  rw [qFc]
  by_cases h1:t=[40]
  ·have:isP t=true:=by rw [h1];rfl
   rw [if_pos this]
   rw [ck_c,ck_c,if_pos h1,if_pos h1]
   exact ck_filter r (n+1)
  ·by_cases h2:t=[41]
   ·have:isP t=true:=by rw [h2];rfl
    rw [if_pos this]
    rw [ck_c,ck_c,if_neg h1,if_neg h1,if_pos h2,if_pos h2]
    by_cases h3:n-1<0
    ·rw [if_pos h3,if_pos h3]
    ·rw [if_neg h3,if_neg h3]
     exact ck_filter r (n-1)
   ·have:¬isP t=true:=by
     unfold isP
     rw [qEu,beq_iff_eq,beq_iff_eq]
     exact fun h=>h.elim h1 h2
    rw [if_neg this]
    rw [ck_c,if_neg h1,if_neg h2]
    exact ck_filter r n
theorem strip2_keep:∀(U R:List (List Nat)),[34]∉U→strip2 (U++R) none=U++strip2 R none
 |[],_,_=>rfl
 |t::U,R,h=>by
  rw [qA6,not_or] at h
  show (if t=[34] then strip2 (U++R) (some [t]) else t::strip2 (U++R) none)=_
  rw [if_neg (fun e=>h.1 e.symm),strip2_keep U R h.2];rfl
theorem strip2_in:∀(V R acc:List (List Nat)),[34]∉V→strip2 (V++R) (some acc)=strip2 R (some (acc++V))
 |[],R,acc,_=>by rw [qAu];rfl
 |t::V,R,acc,h=>by
  rw [qA6,not_or] at h
  show (if t=[34] then strip2 (V++R) none else strip2 (V++R) (some (acc++[t])))=_
  rw [if_neg (fun e=>h.1 e.symm),strip2_in V R _ h.2,qAe];rfl
theorem strip2_quote (U V R:List (List Nat))(hU:[34]∉U)(hV:[34]∉V):strip2 (U++[34]::(V++[34]::R)) none=U++strip2 R none:=by
 rw [strip2_keep U _ hU]
 congr 1
 show strip2 (V++[34]::R) (some [[34]])=_
 rw [strip2_in V _ _ hV];rfl
theorem strip2_open (U V:List (List Nat))(hU:[34]∉U)(hV:[34]∉V):strip2 (U++[34]::V) none=U++[34]::V:=by
 rw [strip2_keep U _ hU]
 congr 1
 show strip2 V (some [[34]])=_
 have:=strip2_in V [] [[34]] hV
 rw [qAu] at this
 rw [this];rfl
noncomputable def cy (L:List Nat)(y i:Nat):Nat:=(L.take i).count y
theorem take_succ' {L:List Nat}{i:Nat}(h:i<L.length):L.take (i+1)=L.take i++[L.getD i 0]:=by
 rw [qG4,qAb h,qAo,qAb h];rfl
theorem cy_succ (L:List Nat)(y:Nat){i:Nat}(h:i<L.length):cy L y (i+1)=cy L y i+if L.getD i 0=y then 1 else 0:=by
 unfold cy
 rw [take_succ' h,qAx,qEh]
 by_cases h:L.getD i 0=y
 ·rw [if_pos h,if_pos (by simpa using h)]
 ·rw [if_neg h,if_neg (by simpa using h)]
theorem filt (L:List Nat)(y:Nat)(u k:Nat→List Nat)(hk:∀j,isP (k j)=true)(hy:∀i,i<L.length→L.getD i 0=y→u i=k (cy L y i))(hn:∀i,i<L.length→L.getD i 0≠y→isP (u i)=false) :
  ∀(n i:Nat),i+n≤L.length→((qAm i n).map u).filter isP=(qAm (cy L y i) (cy L y (i+n)-cy L y i)).map k∧cy L y i≤cy L y (i+n)
 |0,i,_=>by
  rw [qDq,qEq]
  exact⟨rfl,qA7 _⟩
 |n+1,i,h=>by
  obtain⟨ih,hle⟩:=filt L y u k hk hy hn n (i+1) (jL [_,_,_] [cL (eA xa (eU xb)) xc] (cL (eA (eU xa) xb) xc) jT h)
  have e:i+1+n=i+(n+1):=jQ [_,_] [] (eA (eU xa) xb) (eA xa (eU xb)) jT jT
  rw [e] at ih hle
  have hs:=cy_succ L y (i:=i) (jL [_,_,_] [cL (eA xa (eU xb)) xc] (cT xa xc) jT h)
  rw [qBt,qAh,qFc]
  by_cases hc:L.getD i 0=y
  ·rw [if_pos hc] at hs
   rw [hy i (jL [_,_,_] [cL (eA xa (eU xb)) xc] (cT xa xc) jT h) hc,if_pos (hk _),ih]
   refine⟨?_,jL [_,_,_] [cL xa xb,cR xa (eU xc)] (cL xc xb) jT hle hs⟩
   have e2:cy L y (i+(n+1))-cy L y i=(cy L y (i+(n+1))-cy L y (i+1))+1:=jQ [_,_,_,_,_] [cQ xa (eU xb),cQ (eA xc xb) xd,cR (eA xe xa) xd] xc (eU xe) jT jT hs (qAg (jL [_,_,_] [cL xa xb,cR xa (eU xc)] (cL xc xb) jT hle hs)) (qAg hle)
   rw [e2,qBt,qAh,hs]
  ·rw [if_neg hc] at hs
   rw [hn i (jL [_,_,_] [cL (eA xa (eU xb)) xc] (cT xa xc) jT h) hc,if_neg qAr,ih,hs]
   exact⟨rfl,jL [_,_,_] [cL xa xb,cR xa (eA xc (eN 0))] (cL xc xb) jT hle hs⟩
noncomputable def opn (pre:List Nat):List Nat→Nat
 |[]=>0
 |v::r=>(if pre.count v=1 then 1 else 0)+opn pre r
theorem opn_c {pre r:List Nat}{v:Nat}:opn pre (v::r)=(if pre.count v=1 then 1 else 0)+opn pre r:=rfl
theorem opn_not (pre:List Nat)(c:Nat):∀ns:List Nat,c∉ns→opn (pre++[c]) ns=opn pre ns
 |[],_=>rfl
 |v::r,h=>by
  rw [qA6,not_or] at h
  rw [opn_c,opn_c,opn_not pre c r h.2,qAx,qEh,if_neg (show ¬(c==v)=true by simpa using h.1),qDq]
theorem opn_up (pre:List Nat)(c:Nat)(h0:pre.count c=0):∀ns:List Nat,ns.Nodup→c∈ns→opn (pre++[c]) ns=opn pre ns+1
 |v::r,hn,h=>by
  have hn':=qCp.mp hn
  rw [opn_c,opn_c]
  by_cases hv:v=c
  ·subst hv
   rw [opn_not pre v r hn'.1,qAx,qEl,h0,if_pos (by exact qHs (0+1)),if_neg (qBg (qA7 (qBb 0)))];exact jQ [_] [] (eA (eN 1) xa) (eU (eA (eN 0) xa)) jT jT
  ·rw [opn_up pre c h0 r hn'.2 (by rcases qA6.mp h with e|e;exact absurd e.symm hv;exact e),qAx,qEh,if_neg (show ¬(c==v)=true by simpa using qBz hv),qDq];exact qHs ((if List.count v pre=1 then 1 else 0)+(opn pre r+1))
theorem opn_down (pre:List Nat)(c:Nat)(h0:pre.count c=1):∀ns:List Nat,ns.Nodup→c∈ns→opn (pre++[c]) ns+1=opn pre ns
 |v::r,hn,h=>by
  have hn':=qCp.mp hn
  rw [opn_c,opn_c]
  by_cases hv:v=c
  ·subst hv
   rw [opn_not pre v r hn'.1,qAx,qEl,h0,if_neg (qCf (qA7 (qBb 1))),if_pos rfl];exact jQ [_] [] (eU (eA (eN 0) xa)) (eA (eN 1) xa) jT jT
  ·have e:(pre++[c]).count v=pre.count v:=by
    rw [qAx,qEh,if_neg (show ¬(c==v)=true by simpa using qBz hv),qDq]
   have:=opn_down pre c h0 r hn'.2 (by rcases qA6.mp h with e|e;exact absurd e.symm hv;exact e)
   rw [e];exact jQ [_,_,_] [cQ (eU xa) xb] (eU (eA xc xa)) (eA xc xb) jT jT this
theorem opn_zero (pre:List Nat):∀ns:List Nat,(∀v∈ns,pre.count v=2)→opn pre ns=0
 |[],_=>rfl
 |v::r,h=>by
  rw [opn_c,h v (qA5 ..),opn_zero pre r fun w hw=>h w (qA3 _ hw)];rfl
noncomputable def dyk (L:List Nat)(k:Nat):Nat:=if (L.take k).contains (L.getD k 0)=true then 41 else 40
theorem ck_dy (L ns:List Nat)(hn:ns.Nodup)(hm:∀c∈L,c∈ns)(h2:∀v∈ns,L.count v=2)(z:Nat):∀(n i:Nat),i+n=L.length→ck ((qAm i n).map fun k=>[dyk L k]) ((z+opn (L.take i) ns:Nat):Int)=decide (z=0)
 |0,i,h=>by
  have e:L.take i=L:=qBu (jL [_,_] [cR (eA xa (eN 0)) xb] (cL xb xa) jT h)
  rw [e,opn_zero L ns h2]
  show decide (((z+0:Nat):Int)=0)=_
  exact decide_eq_decide.mpr (by lia)
 |n+1,i,h=>by
  have hi:i<L.length:=jL [_,_,_] [cQ (eA xa (eU xb)) xc] (cT xa xc) jT h
  have ih:=ck_dy L ns hn hm h2 z n (i+1) (jQ [_,_,_] [cQ (eA xa (eU xb)) xc] (eA (eU xa) xb) xc jT jT h)
  have ht:=take_succ' hi
  have hcm:L.getD i 0∈L:=getD_mem hi
  have hc:=hm _ hcm
  have h2c:=h2 _ hc
  have hsplit:L.count (L.getD i 0)=(L.take (i+1)).count (L.getD i 0)+(L.drop (i+1)).count (L.getD i 0):=by
   rw [←qAx,qAy]
  rw [ht,qAx,qEl] at hsplit
  rw [qBt,qAh]
  rw [ck_c]
  by_cases hd:(L.take i).contains (L.getD i 0)=true
  ·have e:dyk L i=41:=if_pos hd
   have hpos:0<(L.take i).count (L.getD i 0):=qCe.mpr (by simpa using hd)
   have hdn:=opn_down (L.take i) (L.getD i 0) (jq [_,_,_] [cQ xa (eN 2),cR xa (eA (eU xb) xc),cT (eN 0) xb] xb (eN 1) [1,1,1,0] [1,0,0,1] jT jT h2c hsplit hpos) ns hn hc
   rw [←ht] at hdn
   rw [e,if_neg (by decide),if_pos rfl,if_neg (by lia)]
   have e2:((z+opn (L.take i) ns:Nat):Int)-1=((z+opn (L.take (i+1)) ns:Nat):Int):=by lia
   rw [e2]
   exact ih
  ·have e:dyk L i=40:=if_neg hd
   have h0:(L.take i).count (L.getD i 0)=0:=qCt.mpr (by simpa using hd)
   have hup:=opn_up (L.take i) (L.getD i 0) h0 ns hn hc
   rw [←ht] at hup
   rw [e,if_pos rfl]
   have e2:((z+opn (L.take i) ns:Nat):Int)+1=((z+opn (L.take (i+1)) ns:Nat):Int):=by lia
   rw [e2]
   exact ih
theorem escG_tail:∀(ts:List (List Nat)) (p:Nat),(∀t∈ts,Tok t)→escG p false (ts++[[92]]).flatten=posT p (ts++[[92]])
 |[],p,_=>by
  show [(((p+1:Nat):Int)-1,[92])]=[(((p+1-1:Nat):Int),[92])]
  congr 2;lia
 |t::r,p,h=>by
  have ih:=escG_tail r (p+t.length) fun t ht=>h t (qA3 _ ht)
  rw [qB7,qBe]
  rcases h t (qA5 ..) with⟨c,hc,rfl⟩|⟨c,rfl⟩
  ·show (if c=92 then _ else _)=_
   rw [if_neg hc]
   show ((p:Int),[c])::escG (p+1) false (r++[[92]]).flatten=_
   have ih:escG (p+1) false (r++[[92]]).flatten=posT (p+1) (r++[[92]]):=ih
   rw [ih];rfl
  ·show (if (92:Nat)=92 then _ else _)=_
   rw [if_pos rfl]
   show (((p+1:Nat):Int),[92,c])::escG (p+1+1) false (r++[[92]]).flatten=_
   have ih:escG (p+1+1) false (r++[[92]]).flatten=posT (p+2) (r++[[92]]):=ih
   rw [ih];rfl
noncomputable def e4 (i:Nat):Nat:=[34,40,41,92].getD (i % 4) 0
noncomputable def pt (L:List Nat)(x y i:Nat):List Nat:=if L.getD i 0=x then [34] else if L.getD i 0=y then (if (L.take i).contains y=true then [41] else [40]) else [92,e4 i]
noncomputable def sw (a b:Nat)(t:List Nat):List Nat:=t.flatMap fun c=>if c=a then [b] else [c]
noncomputable def trn (t:List Nat):List Nat:=sw 60 41 (sw 41 40 (sw 40 60 t))
theorem sw_flat (a b:Nat):∀ts:List (List Nat),sw a b ts.flatten=(ts.map (sw a b)).flatten
 |[]=>rfl
 |t::r=>by
  rw [qBe,qAh,qBe,←sw_flat a b r]
  unfold sw
  rw [qFr]
theorem trn_flat (ts:List (List Nat)):trn ts.flatten=(ts.map trn).flatten:=by
 unfold trn
 rw [sw_flat,sw_flat,sw_flat,qBx,qBx];rfl
theorem sw_len (a b:Nat):∀t:List Nat,(sw a b t).length=t.length
 |[]=>rfl
 |c::t=>by
  show ((if c=a then [b] else [c])++sw a b t).length=t.length+1
  rw [qA1,sw_len a b t]
  split<;>exact qCo ..
theorem e4_cases (i:Nat):e4 i=34∨e4 i=40∨e4 i=41∨e4 i=92:=by
 unfold e4
 exact (by decide:∀j,j<4→[34,40,41,92].getD j 0=34∨[34,40,41,92].getD j 0=40∨[34,40,41,92].getD j 0=41∨[34,40,41,92].getD j 0=92) _ (qC6 i (by decide))
theorem pt_cases (L:List Nat)(x y i:Nat):(L.getD i 0=x∧pt L x y i=[34])∨(L.getD i 0≠x∧L.getD i 0=y∧pt L x y i=(if 0<cy L y i then [41] else [40]))∨(L.getD i 0≠x∧L.getD i 0≠y∧pt L x y i=[92,e4 i]):=by
 unfold pt
 by_cases h:L.getD i 0=x
 ·exact .inl ⟨h,if_pos h⟩
 ·rw [if_neg h]
  by_cases h2:L.getD i 0=y
  ·rw [if_pos h2]
   refine .inr (.inl ⟨h,h2,?_⟩)
   unfold cy
   by_cases h3:y∈L.take i
   ·rw [if_pos (by simpa using h3),if_pos (qCe.mpr h3)]
   ·rw [if_neg (by simpa using h3),if_neg (fun e=>h3 (qCe.mp e))]
  ·rw [if_neg h2]
   exact .inr (.inr ⟨h,h2,rfl⟩)
theorem pt_tok (L:List Nat)(x y i:Nat):Tok (pt L x y i)∧(pt L x y i).length≤2:=by
 rcases pt_cases L x y i with⟨_,e⟩|⟨_,_,e⟩|⟨_,_,e⟩<;>rw [e]
 ·exact⟨.inl ⟨34,by decide,rfl⟩,by decide⟩
 ·split
  ·exact⟨.inl ⟨41,by decide,rfl⟩,by decide⟩
  ·exact⟨.inl ⟨40,by decide,rfl⟩,by decide⟩
 ·exact⟨.inr ⟨_,rfl⟩,qA7 2⟩
theorem trn_e4 (i:Nat):∃c,trn [92,e4 i]=[92,c]:=by
 rcases e4_cases i with h|h|h|h<;>rw [h]
 ·exact⟨34,rfl⟩
 ·exact⟨41,rfl⟩
 ·exact⟨40,rfl⟩
 ·exact⟨92,rfl⟩
theorem trn_tok (L:List Nat)(x y i:Nat):Tok (trn (pt L x y i)):=by
 rcases pt_cases L x y i with⟨_,e⟩|⟨_,_,e⟩|⟨_,_,e⟩<;>rw [e]
 ·exact .inl ⟨34,by decide,rfl⟩
 ·split
  ·exact .inl ⟨40,by decide,rfl⟩
  ·exact .inl ⟨41,by decide,rfl⟩
 ·obtain⟨c,h⟩:=trn_e4 i
  rw [h];exact .inr ⟨_,rfl⟩
noncomputable def k1 (j:Nat):List Nat:=if 0<j then [41] else [40]
noncomputable def k2 (j:Nat):List Nat:=if 0<j then [40] else [41]
structure TokOf (L:List Nat)(x y:Nat)(u k:Nat→List Nat):Prop where
 q:∀i,i<L.length→(u i=[34]↔L.getD i 0=x)
 p:∀j,isP (k j)=true
 s:∀i,i<L.length→L.getD i 0=y→u i=k (cy L y i)
 n:∀i,i<L.length→L.getD i 0≠y→isP (u i)=false
theorem getD_left {P R:List Nat}{i:Nat}(h:i<P.length):(P++R).getD i 0=P.getD i 0:=by
 rw [qAo,qAo,qCm h]
theorem getD_right {P R:List Nat}{i:Nat}(h:P.length≤i):(P++R).getD i 0=R.getD (i-P.length) 0:=by
 rw [qAo,qAo,qBq h]
theorem at1 {x:Nat}{R:List Nat}:∀(P:List Nat),x∉P→∀i,(P++x::R)[i]?=some x↔i=P.length∨∃j,P.length+1+j=i∧R[j]?=some x
 |[],_,0=>⟨fun _=>.inl rfl,fun _=>rfl⟩
 |[],_,i+1=>⟨fun h=>.inr ⟨i,qCo ..,h⟩,fun h=>by
  rcases h with h|⟨j,h,e⟩
  ·exact absurd h (qCw i)
  ·exact (qF8 ((qCo j 1).trans h))▸e⟩
 |a::P,h,0=>⟨fun e=>absurd (qA6.mpr (.inl (qA8 e).symm)) h,fun e=>by
  rcases e with e|⟨j,e,_⟩
  ·exact absurd e.symm (qCw _)
  ·exact absurd e (by rw [qCu];exact qCw _)⟩
 |a::P,h,i+1=>by
  have ih:=at1 (R:=R) P (fun m=>h (qA3 _ m)) i
  rw [qAd,qB7,qCz,ih]
  refine or_congr ⟨congrArg qBb,qF8⟩ (exists_congr fun j=>and_congr_left fun _=>?_)
  rw [qCu (P.length+1) 1 j]
  exact⟨congrArg qBb,qF8⟩
theorem len3 {A B D:List Nat}{x:Nat}:(A++x::(B++x::D)).length=A.length+1+B.length+1+D.length:=by
 rw [qA1,qAd,qA1,qAd,qEc (A.length+1+B.length),qCo 1,qEc (A.length+1),qCu A.length 1];rfl
structure Cut (L:List Nat)(a b d:Nat)(u k:Nat→List Nat)(PA PB PD:List (List Nat)):Prop where
 eq:(qAf L.length).map u=PA++[34]::(PB++[34]::PD)
 nA:[34]∉PA
 nB:[34]∉PB
 nD:[34]∉PD
 fA:PA.filter isP=(qAm 0 a).map k
 fB:PB.filter isP=(qAm a b).map k
 fD:PD.filter isP=(qAm (a+b) d).map k
structure Cys (L:List Nat)(y:Nat)(A B D:List Nat):Prop where
 c0:cy L y 0=0
 c1:cy L y A.length=A.count y
 c2:cy L y (A.length+1)=A.count y
 c3:cy L y (A.length+1+B.length)=A.count y+B.count y
 c4:cy L y (A.length+1+B.length+1)=A.count y+B.count y
 c5:cy L y (A.length+1+B.length+1+D.length)=2
section
variable {L:List Nat}{x y:Nat}{A B D:List Nat}(H:Pair L x y A B D)
include H
theorem Pair.at (i:Nat)(hi:i<L.length):L.getD i 0=x↔i=A.length∨i=A.length+1+B.length:=by
 have e:L.getD i 0=x↔L[i]?=some x:=by
  rw [qAo,qAb hi]
  exact⟨congrArg some,qA8⟩
 rw [e,H.eq,at1 A H.hA]
 refine or_congr qHr ⟨fun⟨j,e,h⟩=>?_,fun h=>⟨B.length,h.symm,(at1 B H.hB _).mpr (.inl rfl)⟩⟩
 rcases (at1 B H.hB j).mp h with h|⟨k,_,h⟩
 ·rw [←e,h]
 ·exact absurd (qFf h) H.hD
theorem Pair.cyA:Cys L y A B D:=by
 have hne:∀l:List Nat,(x::l).count y=l.count y:=fun l=>by
  rw [qE7,if_neg (show ¬(x==y)=true by simpa using H.ne),qDq]
 refine⟨rfl,?_,?_,?_,?_,?_⟩<;>(unfold cy;rw [H.eq])
 ·rw [qH6]
 ·have e:A++x::(B++x::D)=(A++[x])++(B++x::D):=by simp
  rw [e,qD8 (by simp),qAx,hne];rfl
 ·have e:A++x::(B++x::D)=(A++x::B)++(x::D):=by simp
  rw [e,qD8 (by rw [qA1];exact qCu A.length B.length 1),qAx,hne]
 ·have e:A++x::(B++x::D)=(A++x::(B++[x]))++D:=by simp
  rw [e,qD8 (by rw [qA1,qAd,qA1];exact congrArg qBb (qCu A.length B.length 1)),qAx,hne,qAx,hne];rfl
 ·rw [←len3 (x:=x),qGi,qAx,hne,qAx,hne,←qEc];exact H.two
theorem Pair.nq {u k:Nat→List Nat}(U:TokOf L x y u k)(a n:Nat)(hn:a+n≤L.length)(hh:∀i,a≤i→i<a+n→i≠A.length∧i≠A.length+1+B.length):[34]∉(qAm a n).map u:=fun hm=>by
 obtain⟨i,hi,e⟩:=qBf.mp hm
 have hi:=qDo.mp hi
 have hl:=qB3 hi.2 hn
 have h:=hh i hi.1 hi.2
 exact ((H.at i hl).mp ((U.q i hl).mp e)).elim h.1 h.2
theorem Pair.split {u k:Nat→List Nat}(U:TokOf L x y u k):∃PA PB PD:List (List Nat),Cut L (A.count y) (B.count y) (D.count y) u k PA PB PD∧PB=(qAm (A.length+1) B.length).map u:=by
 have hL:L.length=A.length+1+B.length+1+D.length:=by rw [H.eq];exact len3
 have C:=H.cyA
 have f:=fun n i h=>(filt L y u k U.p U.s U.n n i h).1
 have lA:A.length<A.length+1+B.length:=qB3 (qBo _) (qB5 ..)
 have lB:A.length+1+B.length<L.length:=by rw [hL];exact qB3 (qBo _) (qB5 ..)
 refine⟨(qAm 0 A.length).map u,(qAm (A.length+1) B.length).map u,(qAm (A.length+1+B.length+1) D.length).map u,⟨?_,H.nq U _ _ ?_ (fun i _ h=>?_),H.nq U _ _ (qAq lB) (fun i h h'=>⟨qCf h,qBg h'⟩),H.nq U _ _ (qEo hL.symm) (fun i h _=>⟨qCf (qBj lA h),qCf h⟩),?_,?_,?_⟩,rfl⟩
 ·have e1:[34]=u A.length:=((U.q _ (qBj lA lB)).mpr ((H.at _ (qBj lA lB)).mpr (.inl rfl))).symm
  have e2:[34]=u (A.length+1+B.length):=((U.q _ lB).mpr ((H.at _ lB).mpr (.inr rfl))).symm
  conv=>rhs;rhs;rw [←List.singleton_append]
  have r:qAf L.length=qAm 0 A.length++A.length::(qAm (A.length+1) B.length++(A.length+1+B.length)::qAm (A.length+1+B.length+1) D.length):=by
   rw [qCx,hL,qEc (A.length+1+B.length),qCo 1,qEc (A.length+1),qEc A.length,qCo 1,←qEg,qB2,qBt,←qEg,qBt]
  rw [r,qAt,qAh,qAt,qAh,←e1,←e2];rfl
 ·rw [qB2];exact qAq (qBj lA lB)
 ·rw [qB2] at h;exact⟨qBg h,qBg (qBj h lA)⟩
 ·rw [f _ _ (by rw [qB2];exact qAq (qBj lA lB)),qB2,C.c0,C.c1,qGw]
 ·rw [f _ _ (qAq lB),C.c2,C.c3,qCc]
 ·rw [f _ _ (qEo hL.symm),C.c4,C.c5,←H.two,qCc]
theorem pt_of:TokOf L x y (pt L x y) k1:=by
 refine⟨fun i hi=>?_,fun j=>?_,fun i hi e=>?_,fun i hi e=>?_⟩
 ·rcases pt_cases L x y i with⟨h,e⟩|⟨h,h2,e⟩|⟨h,h2,e⟩<;>rw [e]
  ·exact⟨fun _=>h,fun _=>rfl⟩
  ·refine⟨fun g=>?_,fun g=>absurd g h⟩
   split at g<;>cases g
  ·exact⟨fun g=>(nomatch g),fun g=>absurd g h⟩
 ·unfold k1;split<;>rfl
 ·rcases pt_cases L x y i with⟨h,_⟩|⟨_,_,e2⟩|⟨_,h,_⟩
  ·exact absurd (h.symm.trans e) H.ne
  ·rw [e2];rfl
  ·exact absurd e h
 ·rcases pt_cases L x y i with⟨h,e2⟩|⟨_,h,_⟩|⟨_,_,e2⟩
  ·rw [e2];rfl
  ·exact absurd h e
  ·rw [e2];rfl
theorem trn_of:TokOf L x y (fun i=>trn (pt L x y i)) k2:=by
 refine⟨fun i hi=>?_,fun j=>?_,fun i hi e=>?_,fun i hi e=>?_⟩
 ·rcases pt_cases L x y i with⟨h,e⟩|⟨h,h2,e⟩|⟨h,h2,e⟩<;>simp only [e]
  ·exact⟨fun _=>h,fun _=>rfl⟩
  ·refine⟨fun g=>?_,fun g=>absurd g h⟩
   split at g<;>cases g
  ·obtain⟨c,hc⟩:=trn_e4 i
   rw [hc]
   exact⟨fun g=>(nomatch g),fun g=>absurd g h⟩
 ·unfold k2;split<;>rfl
 ·rcases pt_cases L x y i with⟨h,_⟩|⟨_,_,e2⟩|⟨_,h,_⟩
  ·exact absurd (h.symm.trans e) H.ne
  ·simp only [e2]
   unfold k2
   split<;>rfl
  ·exact absurd e h
 ·rcases pt_cases L x y i with⟨h,e2⟩|⟨_,h,_⟩|⟨_,_,e2⟩
  ·simp only [e2];rfl
  ·exact absurd h e
  ·obtain⟨c,hc⟩:=trn_e4 i
   simp only [e2,hc];rfl
end
theorem memS (a:List Nat):∀R:List (List Nat),memD (.str a) (R.map .str)=some (decide (a∈R)):=by
 intro R
 induction R with
 |nil=>rfl
 |cons b R ih=>
  show (some (decide (b=a))).bind (fun c=>(memD (.str a) (R.map .str)).bind fun d=>some (c || d))=_
  rw [ih]
  refine congrArg some ?_
  rw [qC1,qEu,decide_eq_true_iff,decide_eq_true_iff,decide_eq_true_iff,qA6]
  exact or_congr ⟨Eq.symm,Eq.symm⟩ qHr
theorem xor32 {a b:Nat}(ha:a<32)(hb:b<32):xorI a b=((a ^^^ b:Nat):Int):=
 (show ∀a b:Fin 32,xorI (a.val:Nat) (b.val:Nat)=((a.val ^^^ b.val:Nat):Int) by decide +kernel) ⟨a,ha⟩ ⟨b,hb⟩
noncomputable def bt (N C:List (List Nat))(v t:Nat):Bool:=if v=t then decide ([v]∈N) else decide ([v,t]∈C)
theorem numR_rev (b:Nat→Bool):∀(U W:List Nat),U.foldl (fun n t=>2*n+if b t=true then 1 else 0) (numR b W)=numR b (U.reverse++W)
 |[],_=>rfl
 |t::U,W=>by
  rw [qEt,qGa,qAe]
  exact numR_rev b U (t::W)
noncomputable abbrev tb3:Tg:=⟨false,false,true⟩
noncomputable abbrev ls (R:List (List Nat)):Slot:=some (.list (R.map .str),.val tb3)
noncomputable def lkY:PSs:=(.cons (.asg 5 (.bin .add (.bin .mul (.int 2) (.var 5)) (.ife (.cmp .eq (.var 4) (.var 6)) (.cmp .in_ (.var 4) (.var 1)) (.cmp .in_ (.bin .add (.var 4) (.var 6)) (.var 2))))) .nil)
noncomputable def lkB:PSs:=(.cons (.asg 5 (.bi .min (.cons (.var 5) (.cons (.bin .xor (.var 5) (.var 7)) .nil)))) .nil)
noncomputable def lkX:PSs:=(.cons (.asg 5 (.int 0))
   (.cons (.for_ 6 (.val (.var 0)) lkY)
   (.cons (.for_ 7 (.val (.var 3)) lkB)
   (.cons (.if_ (.val (.var 5)) (.cons (.app 3 (.var 5))
     .nil) .nil)
   .nil))))
section
variable {Φ:Fns}{q:Bool}{N C:List (List Nat)}{x0 s3 s7:Slot}
theorem lk_y (v t n:Nat)(s6:Slot)(h6:pinned s6=false)(hn:n<1000) :
  bodyF Φ q 6 tb3 lkY [x0,ls N,ls C,s3,vs [v],vi n,s6,s7] (.str [t])=some (.next,[x0,ls N,ls C,s3,vs [v],vi ((2*n+if bt N C v t=true then 1 else 0:Nat):Int),vs [t],s7]):=by
 have e0:bodyF Φ q 6 tb3 lkY [x0,ls N,ls C,s3,vs [v],vi n,s6,s7] (.str [t])=exSs Φ q [x0,ls N,ls C,s3,vs [v],vi n,vs [t],s7] lkY:=by
  unfold bodyF
  rw [sv_flat (s:=s6) rfl h6 rfl]
  rfl
 rw [e0]
 have v4:evE Φ q [x0,ls N,ls C,s3,vs [v],vi n,vs [t],s7] (.var 4)=some (Rs.val (.str [v]) Tg.z):=rfl
 have v6:evE Φ q [x0,ls N,ls C,s3,vs [v],vi n,vs [t],s7] (.var 6)=some (Rs.val (.str [t]) Tg.z):=rfl
 have v5:evE Φ q [x0,ls N,ls C,s3,vs [v],vi n,vs [t],s7] (.var 5)=some (Rs.val (.int n) Tg.z):=rfl
 have v1:evE Φ q [x0,ls N,ls C,s3,vs [v],vi n,vs [t],s7] (.var 1)=some (Rs.val (.list (N.map .str)) tb3):=rfl
 have v2:evE Φ q [x0,ls N,ls C,s3,vs [v],vi n,vs [t],s7] (.var 2)=some (Rs.val (.list (C.map .str)) tb3):=rfl
 have c:evT Φ q [x0,ls N,ls C,s3,vs [v],vi n,vs [t],s7] (.cmp .eq (.var 4) (.var 6))=some (decide ([v]=[t])):=rfl
 have hi:evE Φ q [x0,ls N,ls C,s3,vs [v],vi n,vs [t],s7] (.ife (.cmp .eq (.var 4) (.var 6)) (.cmp .in_ (.var 4) (.var 1)) (.cmp .in_ (.bin .add (.var 4) (.var 6)) (.var 2)))=some (Rs.flat (.bool (bt N C v t))):=by
  unfold bt
  by_cases h:v=t
  ·rw [if_pos h]
   rw [decide_eq_true (by rw [h])] at c
   rw [e_ift c]
   exact e_cmp v4 v1 (memS [v] N)
  ·rw [if_neg h]
   rw [decide_eq_false (fun e=>h (qCb e))] at c
   rw [e_iff c]
   have ha:evE Φ q [x0,ls N,ls C,s3,vs [v],vi n,vs [t],s7] (.bin .add (.var 4) (.var 6))=some (Rs.new (.str [v,t]) Tg.z):=by
    refine e_bin v4 v6 ?_
    show (if 1+1≤SZ then some (D.str [v,t]) else none)=_
    rw [if_pos (by unfold SZ;decide)]
   exact e_cmp ha v2 (memS [v,t] C)
 have hm:evE Φ q [x0,ls N,ls C,s3,vs [v],vi n,vs [t],s7] (.bin .mul (.int 2) (.var 5))=some (Rs.new (.int (2*(n:Int))) Tg.z):=
  e_mul (r1:=Rs.flat (.int 2)) (r2:=Rs.val (.int n) Tg.z) (by rw [q_E_int];rfl) v5 (by rw [qAw];exact⟨by decide,small_of (by exact qCd (n+qBb 999998)) (by lia)⟩)
 refine (x_seq (ρ':=[x0,ls N,ls C,s3,vs [v],vi ((2*n+if bt N C v t=true then 1 else 0:Nat):Int),vs [t],s7]) ?_).trans rfl
 refine x_asg (e_bin hm hi (d:=.int (2*(n:Int)+if bt N C v t=true then 1 else 0)) rfl) ?_
 have e:(2*(n:Int)+if bt N C v t=true then 1 else 0)=((2*n+if bt N C v t=true then 1 else 0:Nat):Int):=by
  by_cases h:bt N C v t=true
  ·rw [if_pos h,if_pos h];rfl
  ·rw [if_neg h,if_neg h];rfl
 rw [e]
 exact sv_flat (s:=vi n) rfl rfl rfl
theorem lk_ys (v:Nat):∀(U:List Nat) (n:Nat) (s6:Slot),pinned s6=false→n<2 ^ (10-U.length)→U.length≤5→
  ∃s6',pinned s6'=false∧forS (bodyF Φ q 6 tb3 lkY) (U.map fun t=>.str [t]) [x0,ls N,ls C,s3,vs [v],vi n,s6,s7] =
   some (.next,[x0,ls N,ls C,s3,vs [v],vi ((U.foldl (fun n t=>2*n+if bt N C v t=true then 1 else 0) n:Nat):Int),s6',s7])
 |[],n,s6,h6,_,_=>⟨s6,h6,rfl⟩
 |t::U,n,s6,h6,hn,hl=>by
  have hl':U.length≤4:=Nat.le_of_succ_le_succ hl
  have hp:2 ^ (10-(U.length+1))*2=2 ^ (10-U.length):=by rw [←qHp];congr 1;exact jQ [_,_,_] [cQ (eA xa (eU xb)) (eN 10),cR (eA xc xb) (eN 10)] (eU xa) xc jT jT (qAg (jL [_] [cL xa (eN 4)] (cL (eU xa) (eN 10)) jT hl')) (qAg (jL [_] [cL xa (eN 4)] (cL xa (eN 10)) jT hl'))
  have hn':n<2 ^ (10-(U.length+1)):=hn
  have h1000:n<1000:=qB3 hn' (qA9 (qDm (by decide) (show 10-(U.length+1)≤9 by lia)) (by decide))
  obtain⟨s6',p,e⟩:=lk_ys v U (2*n+if bt N C v t=true then 1 else 0) (vs [t]) rfl (by
   rw [←hp]
   by_cases h:bt N C v t=true
   ·rw [if_pos h];lia
   ·rw [if_neg h];lia) (qB4 hl')
  refine⟨s6',p,?_⟩
  rw [qAh,forS_c,lk_y v t n s6 h6 h1000]
  exact e
end
theorem red_fold (b:Nat):∀B:List Nat,red B b=B.reverse.foldl (fun b o=>minI b (b ^^^ o)) b
 |[]=>rfl
 |o::B=>by
  rw [qGa,List.foldl_append,←red_fold b B]
  rfl
theorem minI_lt {b c:Nat}(hb:b<32)(hc:c<32):minI b c<32:=by
 unfold minI
 by_cases h:c<b
 ·rw [if_pos h];exact hc
 ·rw [if_neg h];exact hb
theorem xor_lt {b c:Nat}(hb:b<32)(hc:c<32):b ^^^ c<32:=Nat.xor_lt_two_pow (n:=5) hb hc
section
variable {Φ:Fns}{q:Bool}{x0 x1 x2 s3 s4 s6:Slot}
theorem lk_b (b o:Nat)(s7:Slot)(h7:pinned s7=false)(hb:b<32)(ho:o<32) :
  bodyF Φ q 7 ⟨false,false,false⟩ lkB [x0,x1,x2,s3,s4,vi b,s6,s7] (.int o)=some (.next,[x0,x1,x2,s3,s4,vi (minI b (b ^^^ o):Nat),s6,vi o]):=by
 have e0:bodyF Φ q 7 ⟨false,false,false⟩ lkB [x0,x1,x2,s3,s4,vi b,s6,s7] (.int o)=exSs Φ q [x0,x1,x2,s3,s4,vi b,s6,vi o] lkB:=by
  unfold bodyF
  rw [sv_flat (s:=s7) rfl h7 rfl]
  rfl
 rw [e0]
 have v5:evE Φ q [x0,x1,x2,s3,s4,vi b,s6,vi o] (.var 5)=some (Rs.val (.int b) Tg.z):=rfl
 have v7:evE Φ q [x0,x1,x2,s3,s4,vi b,s6,vi o] (.var 7)=some (Rs.val (.int o) Tg.z):=rfl
 have hx:evE Φ q [x0,x1,x2,s3,s4,vi b,s6,vi o] (.bin .xor (.var 5) (.var 7))=some (Rs.new (.int ((b ^^^ o:Nat):Int)) Tg.z):=by
  refine e_bin v5 v7 ?_
  show some (D.int (xorI b o))=_
  rw [xor32 hb ho]
 have hm:evE Φ q [x0,x1,x2,s3,s4,vi b,s6,vi o] (.bi .min (.cons (.var 5) (.cons (.bin .xor (.var 5) (.var 7)) .nil)))=some (Rs.flat (.int (minI b (b ^^^ o):Nat))):=by
  refine e_bi (l_cons v5 (l_cons hx l_nil)) ?_
  show some (Rs.flat (.int (if ((b ^^^ o:Nat):Int)<(b:Int) then ((b ^^^ o:Nat):Int) else (b:Int))))=_
  unfold minI
  by_cases h:b ^^^ o<b
  ·rw [if_pos h,if_pos (qF9.mpr h)]
  ·rw [if_neg h,if_neg (fun z=>h (qF9.mp z))]
 exact (x_seq (x_asg hm (sv_flat (s:=vi b) rfl rfl rfl))).trans rfl
theorem lk_bs:∀(A:List Nat) (b:Nat) (s7:Slot),pinned s7=false→b<32→(∀o∈A,o<32)→
  ∃s7',pinned s7'=false∧forS (bodyF Φ q 7 ⟨false,false,false⟩ lkB) (A.map fun o:Nat=>.int (o:Int)) [x0,x1,x2,s3,s4,vi b,s6,s7] =
   some (.next,[x0,x1,x2,s3,s4,vi (A.foldl (fun b o=>minI b (b ^^^ o)) b:Nat),s6,s7'])
 |[],b,s7,h7,_,_=>⟨s7,h7,rfl⟩
 |o::A,b,s7,h7,hb,hA=>by
  have ho:=hA o (qA5 ..)
  obtain⟨s7',p,e⟩:=lk_bs A (minI b (b ^^^ o)) (vi o) rfl (minI_lt hb (xor_lt hb ho)) fun o h=>hA o (qA3 _ h)
  refine⟨s7',p,?_⟩
  rw [qAh,forS_c,lk_b b o s7 h7 hb ho]
  exact e
end
theorem red_lt {b:Nat}(hb:b<32):∀B:List Nat,(∀o∈B,o<32)→red B b<32
 |[],_=>hb
 |o::B,h=>minI_lt (red_lt hb B fun o h'=>h o (qA3 _ h')) (xor_lt (red_lt hb B fun o h'=>h o (qA3 _ h')) (h o (qA5 ..)))
noncomputable abbrev bI (B:List Nat):List D:=B.reverse.map fun o:Nat=>.int (o:Int)
section
variable {Φ:Fns}{q:Bool}{N C:List (List Nat)}{T:List Nat}
noncomputable def rowT (N C:List (List Nat))(T:List Nat)(v:Nat):Nat:=numR (bt N C v) T.reverse
noncomputable abbrev tS (T:List Nat):Slot:=some (.list (T.map fun v=>.str [v]),.val tb3)
theorem lk_x (v:Nat)(B:List Nat)(s4 s5 s6 s7:Slot)(h4:pinned s4=false)(h5:pinned s5=false)(h6:pinned s6=false)(h7:pinned s7=false)(hT:T.length≤5)(hB:∀o∈B,o<32)(hl:B.length<100) :
  ∃s6' s7',pinned s6'=false∧pinned s7'=false∧bodyF Φ q 4 tb3 lkX [tS T,ls N,ls C,ol (bI B),s4,s5,s6,s7] (.str [v]) =
   some (.next,[tS T,ls N,ls C,ol (bI (if red B (rowT N C T v)≠0 then red B (rowT N C T v)::B else B)),vs [v],vi (red B (rowT N C T v):Nat),s6',s7']):=by
 have hr:rowT N C T v<32:=qB3 (numR_lt _ _) (by rw [qDv];exact qDm (by decide) hT)
 have e0:bodyF Φ q 4 tb3 lkX [tS T,ls N,ls C,ol (bI B),s4,s5,s6,s7] (.str [v])=exSs Φ q [tS T,ls N,ls C,ol (bI B),vs [v],s5,s6,s7] lkX:=by
  unfold bodyF
  rw [sv_flat (s:=s4) rfl h4 rfl]
  rfl
 have e1:exS Φ q [tS T,ls N,ls C,ol (bI B),vs [v],s5,s6,s7] (.asg 5 (.int 0))=some (.next,[tS T,ls N,ls C,ol (bI B),vs [v],vi (0:Nat),s6,s7]):=x_asg (r:=Rs.flat (.int 0)) (by rw [q_E_int]) (sv_flat (s:=s5) rfl h5 rfl)
 obtain⟨s6',p6,f2⟩:=lk_ys (Φ:=Φ) (q:=q) (N:=N) (C:=C) (x0:=tS T) (s3:=ol (bI B)) (s7:=s7) v T 0 s6 h6 (qE1 (qCf (Nat.pow_pos (by decide)))) hT
 have e2:exS Φ q [tS T,ls N,ls C,ol (bI B),vs [v],vi (0:Nat),s6,s7] (.for_ 6 (.val (.var 0)) lkY)=some (.next,[tS T,ls N,ls C,ol (bI B),vs [v],vi (rowT N C T v:Nat),s6',s7]):=by
  refine x_for0 (its:=⟨T.map fun v=>.str [v],tb3,false⟩) rfl rfl rfl rfl (f2.trans ?_)
  rw [show T.foldl (fun n t=>2*n+if bt N C v t=true then 1 else 0) 0=rowT N C T v from (numR_rev (bt N C v) T []).trans (by rw [qAu];rfl)]
 obtain⟨s7',p7,f3⟩:=lk_bs (Φ:=Φ) (q:=q) (x0:=tS T) (x1:=ls N) (x2:=ls C) (s3:=pl (bI B)) (s4:=vs [v]) (s6:=s6') B.reverse (rowT N C T v) s7 h7 hr fun o h=>hB o (qDc.mp h)
 rw [←red_fold] at f3
 have e3:exS Φ q [tS T,ls N,ls C,ol (bI B),vs [v],vi (rowT N C T v:Nat),s6',s7] (.for_ 7 (.val (.var 3)) lkB)=some (.next,[tS T,ls N,ls C,ol (bI B),vs [v],vi (red B (rowT N C T v):Nat),s6',s7']):=
  (x_for1 (i:=3) (s:=ol (bI B)) (its:=⟨bI B,⟨false,false,false⟩,true⟩) rfl rfl rfl f3).trans rfl
 refine⟨s6',s7',p6,p7,?_⟩
 rw [e0,lkX,x_seq e1,x_seq e2,x_seq e3]
 have ht:evT Φ q [tS T,ls N,ls C,ol (bI B),vs [v],vi (red B (rowT N C T v):Nat),s6',s7'] (.val (.var 5))=some (decide (((red B (rowT N C T v):Nat):Int)≠0)):=rfl
 by_cases h:red B (rowT N C T v)=0
 ·rw [if_neg (fun z=>z h)]
  rw [decide_eq_false (by rw [h];decide)] at ht
  exact (x_seq (x_iff ht)).trans rfl
 ·rw [if_pos h]
  rw [decide_eq_true (show ((red B (rowT N C T v):Nat):Int)≠0 from fun z=>h (qHx z))] at ht
  refine (x_seq ((x_ift ht).trans ((x_seq (x_app (r:=Rs.val (.int (red B (rowT N C T v):Nat)) Tg.z) (b:=false) (b':=false) rfl rfl (by rw [qAa,qDv];unfold SZ;exact jL [_] [cT xa (eN 100)] (cL (eU xa) (eN 16777216)) jT hl) rfl)).trans rfl))).trans ?_
  unfold bI
  rw [qGa,qAt]
  rfl
theorem lk_xs (hT:T.length≤5):∀(U B:List Nat) (s4 s5 s6 s7:Slot),pinned s4=false→pinned s5=false→pinned s6=false→pinned s7=false→(∀o∈B,o<32)→B.length+U.length<100→
  ∃s4' s5' s6' s7',forS (bodyF Φ q 4 tb3 lkX) (U.map fun v=>.str [v]) [tS T,ls N,ls C,ol (bI B),s4,s5,s6,s7]=some (.next,[tS T,ls N,ls C,ol (bI (basis (U.map (rowT N C T)) B)),s4',s5',s6',s7'])
 |[],B,s4,s5,s6,s7,_,_,_,_,_,_=>⟨s4,s5,s6,s7,rfl⟩
 |v::U,B,s4,s5,s6,s7,h4,h5,h6,h7,hB,hl=>by
  rw [qAd] at hl
  have hr:rowT N C T v<32:=qB3 (numR_lt _ _) (by rw [qDv];exact qDm (by decide) hT)
  obtain⟨s6',s7',p6,p7,e⟩:=lk_x (Φ:=Φ) (q:=q) (N:=N) (C:=C) (T:=T) v B s4 s5 s6 s7 h4 h5 h6 h7 hT hB (jL [_,_] [cT (eA xa (eU xb)) (eN 100)] (cT xa (eN 100)) jT hl)
  have hq:(if red B (rowT N C T v)≠0 then red B (rowT N C T v)::B else B).length≤B.length+1∧∀o∈(if red B (rowT N C T v)≠0 then red B (rowT N C T v)::B else B),o<32:=by
   by_cases h:red B (rowT N C T v)≠0
   ·rw [if_pos h]
    refine⟨qA7 _,fun o ho=>?_⟩
    rcases qA6.mp ho with e|ho
    ·rw [e];exact red_lt hr B hB
    ·exact hB o ho
   ·rw [if_neg h];exact⟨qAj _,hB⟩
  obtain⟨t4,t5,t6,t7,ih⟩:=lk_xs hT U _ (vs [v]) (vi (red B (rowT N C T v):Nat)) s6' s7' rfl rfl p6 p7 hq.2 (by have:=hq.1;exact jL [_,_,_] [cT (eA xa (eU xb)) (eN 100),cL xc (eU xa)] (cT (eA xc xb) (eN 100)) jT hl hq.1)
  refine⟨t4,t5,t6,t7,?_⟩
  rw [qAh,forS_c,e]
  refine ih.trans ?_
  show _=some (Fl.next,[tS T,ls N,ls C,ol (bI (if red B (rowT N C T v)≠0 then basis (U.map (rowT N C T)) (red B (rowT N C T v)::B) else basis (U.map (rowT N C T)) B)),t4,t5,t6,t7])
  by_cases h:red B (rowT N C T v)≠0
  ·rw [if_pos h,if_pos h]
  ·rw [if_neg h,if_neg h]
theorem lack_ok (hT:T.length≤5):runF Φ q 3 8 p1_law_lack [.list (T.map fun v=>.str [v]),.list (N.map .str),.list (C.map .str)]=some (.int ((T.length:Int)-(basis (T.map (rowT N C T)) []).length)):=by
 obtain⟨s4,s5,s6,s7,h⟩:=lk_xs (Φ:=Φ) (q:=q) (N:=N) (C:=C) hT T [] none none none none rfl rfl rfl rfl (fun _ h=>nomatch h) (by rw [qCq];exact jL [_] [cL xa (eN 5)] (cT (eA (eN 0) xa) (eN 100)) jT hT)
 have e1:exS Φ q [tS T,ls N,ls C,none,none,none,none,none] (.asg 3 (.list .nil))=some (.next,[tS T,ls N,ls C,ol (bI []),none,none,none,none]):=rfl
 have e2:exS Φ q [tS T,ls N,ls C,ol (bI []),none,none,none,none] (.for_ 4 (.val (.var 0)) lkX)=some (.next,[tS T,ls N,ls C,ol (bI (basis (T.map (rowT N C T)) [])),s4,s5,s6,s7]):=
  x_for0 (its:=⟨T.map fun v=>.str [v],tb3,false⟩) rfl rfl rfl rfl h
 obtain⟨B,hB⟩:∃B,B=basis (T.map (rowT N C T)) []:=⟨_,rfl⟩
 rw [←hB] at e2⊢
 have l1:evE Φ q [tS T,ls N,ls C,ol (bI B),s4,s5,s6,s7] (.bi .len (.cons (.var 0) .nil))=some (Rs.flat (.int ((T.map fun v=>D.str [v]).length:Nat))):=ex_lenl (t:=tb3) (f:=false) rfl
 have l2:evE Φ q [tS T,ls N,ls C,ol (bI B),s4,s5,s6,s7] (.bi .len (.cons (.var 3) .nil))=some (Rs.flat (.int ((bI B).length:Nat))):=ex_lenl (t:=⟨true,false,false⟩) (f:=false) rfl
 rw [qAa] at l1
 rw [qAa,qDv] at l2
 refine run_ret (r:=Rs.new (.int ((T.length:Int)-B.length)) Tg.z) rfl ((x_seq e1).trans ((x_seq e2).trans (x_seqr (x_ret (e_bin l1 l2 rfl))))) rfl
end
noncomputable abbrev nI (S:List Nat):List D:=S.map fun s:Nat=>.int (s:Int)
theorem memI (a:Nat):∀S:List Nat,memD (.int a) (nI S)=some (S.contains a):=by
 intro S
 induction S with
 |nil=>rfl
 |cons b S ih=>
  show (some (decide ((b:Int)=a))).bind (fun c=>(memD (.int a) (nI S)).bind fun d=>some (c || d))=_
  rw [ih,List.contains_cons]
  refine congrArg (fun c=>some (c || S.contains a)) ?_
  rw [qC1,decide_eq_true_iff,beq_iff_eq]
  exact⟨fun h=>(qHx h).symm,fun h=>by rw [h]⟩
noncomputable def wyW:PSs:=(.cons (.aug 7 .add (.list (.cons (.var 9) (.cons (.idx (.var 3) (.var 9)) .nil))))
       (.cons (.asg 9 (.bin .mod (.bin .add (.idx (.var 3) (.var 9)) (.ife (.val (.bin .mod (.idx (.var 3) (.var 9)) (.int 2))) (.int 1) (.neg (.int 1)))) (.var 2)))
       .nil))
noncomputable def wyS:PSs:=(.cons (.if_ (.cmp .notin (.var 8) (.var 7)) (.cons (.aug 6 .add (.int 1))
     (.cons (.asg 9 (.var 8))
     (.cons (.while_ (.cmp .notin (.var 9) (.var 7)) wyW)
     .nil))) .nil)
   .nil)
theorem t_notin {Φ:Fns}{q:Bool}{ρ:Env'}{i j a:Nat}{S:List Nat}{vt:VT}(h1:ρ[i]?=some (vi a))(h2:ρ[j]?=some (some (.list (nI S),vt))):evT Φ q ρ (.cmp .notin (.var i) (.var j))=some (!S.contains a):=by
 refine t_cmp (e_var (d:=.int a) (vt:=.val Tg.z) h1) (e_var h2) ?_
 show (memD (.int a) (nI S)).map (!·)=_
 rw [memI];rfl
section
variable {Φ:Fns}{q:Bool}{x0 x1 s4 s5:Slot}{N:Nat} {τ:Nat→Nat}
theorem wy_step {w a s:Nat}{S:List Nat}(hs:s<N)(hN:0<N)(hN2:N<1000)(hS:S.length<10000) :
  exSs Φ q [x0,x1,vi N,ol (nI ((qAf N).map τ)),s4,s5,vi w,ol (nI S),vi a,vi s] wyW =
   some (.next,[x0,x1,vi N,ol (nI ((qAf N).map τ)),s4,s5,vi w,ol (nI (S++[s,τ s])),vi a,vi (sg N (τ s):Nat)]):=by
 have hg:(nI ((qAf N).map τ))[s]?=some (.int (τ s)):=by
  rw [qC4,qC4,qFn hs];rfl
 have i1:∀{S':List Nat},evE Φ q [x0,x1,vi N,ol (nI ((qAf N).map τ)),s4,s5,vi w,ol (nI S'),vi a,vi s] (.idx (.var 3) (.var 9))=some ⟨.int (τ s),Tg.z,false⟩:=
  e_idx_nat (ds:=nI ((qAf N).map τ)) (k:=s) (t:=⟨true,false,false⟩) (f:=false) (t2:=Tg.z) (f2:=false) rfl rfl hg
 have e1:exS Φ q [x0,x1,vi N,ol (nI ((qAf N).map τ)),s4,s5,vi w,ol (nI S),vi a,vi s] (.aug 7 .add (.list (.cons (.var 9) (.cons (.idx (.var 3) (.var 9)) .nil)))) =
   some (.next,[x0,x1,vi N,ol (nI ((qAf N).map τ)),s4,s5,vi w,ol (nI (S++[s,τ s])),vi a,vi s]):=by
  refine (x_augl (b:=false) (ds:=nI S) (es:=[.int s,.int (τ s)]) rfl (e_list (l_cons (x:=Rs.val (.int s) Tg.z) rfl (l_cons i1 l_nil))) rfl (by rw [qAa];unfold SZ;show S.length+2≤_;exact jL [_] [cT xa (eN 10000)] (cL (eA xa (eN 2)) (eN 16777216)) jT hS) rfl).trans ?_
  unfold nI
  rw [qAt]
  rfl
 have hm:evT Φ q [x0,x1,vi N,ol (nI ((qAf N).map τ)),s4,s5,vi w,ol (nI (S++[s,τ s])),vi a,vi s] (.val (.bin .mod (.idx (.var 3) (.var 9)) (.int 2)))=some (decide ((τ s:Int) % 2≠0)):=
  t_val (e_bin i1 (y:=Rs.flat (.int 2)) (d:=.int ((τ s:Int) % 2)) (by rw [q_E_int]) rfl) rfl
 have fin:∀(k:Int),evE Φ q [x0,x1,vi N,ol (nI ((qAf N).map τ)),s4,s5,vi w,ol (nI (S++[s,τ s])),vi a,vi s] (.ife (.val (.bin .mod (.idx (.var 3) (.var 9)) (.int 2))) (.int 1) (.neg (.int 1)))=some (Rs.flat (.int k))→
   ((τ s:Int)+k) % N=(sg N (τ s):Nat)→exS Φ q [x0,x1,vi N,ol (nI ((qAf N).map τ)),s4,s5,vi w,ol (nI (S++[s,τ s])),vi a,vi s] (.asg 9 (.bin .mod (.bin .add (.idx (.var 3) (.var 9)) (.ife (.val (.bin .mod (.idx (.var 3) (.var 9)) (.int 2))) (.int 1) (.neg (.int 1)))) (.var 2))) =
    some (.next,[x0,x1,vi N,ol (nI ((qAf N).map τ)),s4,s5,vi w,ol (nI (S++[s,τ s])),vi a,vi (sg N (τ s):Nat)]):=fun k h hk=>by
  have ha:evE Φ q [x0,x1,vi N,ol (nI ((qAf N).map τ)),s4,s5,vi w,ol (nI (S++[s,τ s])),vi a,vi s] (.bin .add (.idx (.var 3) (.var 9)) (.ife (.val (.bin .mod (.idx (.var 3) (.var 9)) (.int 2))) (.int 1) (.neg (.int 1))))=some (Rs.new (.int ((τ s:Int)+k)) Tg.z):=e_bin i1 h rfl
  refine x_asg (e_bin ha (y:=Rs.val (.int N) Tg.z) (d:=.int (sg N (τ s):Nat)) rfl ?_) (sv_flat (s:=vi s) rfl rfl rfl)
  show (if (0:Int)<(N:Int) then some (D.int (((τ s:Int)+k) % N)) else none)=_
  rw [if_pos (show (0:Int)<(N:Int) from qF9.mpr hN),hk]
 refine (x_seq e1).trans ((x_seq ?_).trans rfl)
 by_cases h:τ s % 2=1
 ·rw [decide_eq_true (by lia)] at hm
  refine fin 1 ((e_ift hm).trans (by rw [q_E_int])) ?_
  unfold sg
  rw [if_pos h,qGl]
  rfl
 ·rw [decide_eq_false (by lia)] at hm
  refine fin (-1) ((e_iff hm).trans (by rw [q_E_neg,q_E_int];rfl)) ?_
  unfold sg
  rw [if_neg h,qGl,←Int.add_emod_right]
  congr 1
  lia
theorem wy_walk {w a:Nat}(hN:0<N)(hN2:N<1000)(hτ:∀s,s<N→sg N (τ s)<N):∀(n:Nat) (S S':List Nat) (s:Nat),s<N→S.length+2*n<10000→walkO τ (sg N) n S s=some S'→
  ∃s',whileS (fun ρ=>evT Φ q ρ (.cmp .notin (.var 9) (.var 7))) (fun ρ=>exSs Φ q ρ wyW) n [x0,x1,vi N,ol (nI ((qAf N).map τ)),s4,s5,vi w,ol (nI S),vi a,vi s] =
   some (.next,[x0,x1,vi N,ol (nI ((qAf N).map τ)),s4,s5,vi w,ol (nI S'),vi a,vi (s':Nat)])
 |0,S,S',s,_,_,h=>nomatch h
 |n+1,S,S',s,hs,hl,h=>by
  have ht:evT Φ q [x0,x1,vi N,ol (nI ((qAf N).map τ)),s4,s5,vi w,ol (nI S),vi a,vi s] (.cmp .notin (.var 9) (.var 7))=some (!S.contains s):=t_notin rfl rfl
  rw [walkO_s] at h
  by_cases hc:S.contains s=true
  ·rw [if_pos hc] at h
   obtain rfl:=qA8 h
   rw [hc] at ht
   refine⟨s,?_⟩
   rw [whileS_c,ht];rfl
  ·rw [if_neg hc] at h
   rw [qFd] at hc
   rw [hc] at ht
   obtain⟨s',e⟩:=wy_walk (w:=w) (a:=a) hN hN2 hτ n (S++[s,τ s]) S' (sg N (τ s)) (hτ s hs) (by rw [qA1];show S.length+2+2*n<_;exact jL [_,_] [cT (eA xa (eM 2 (eU xb))) (eN 10000)] (cT (eA (eA xa (eN 2)) (eM 2 xb)) (eN 10000)) jT hl) h
   refine⟨s',?_⟩
   rw [whileS_c,ht]
   show (exSs Φ q _ wyW).bind (fun r=>_)=_
   rw [wy_step hs hN hN2 (jL [_,_] [cT (eA xa (eM 2 (eU xb))) (eN 10000)] (cT xa (eN 10000)) jT hl)]
   exact e
theorem walkO_len {σ:Nat→Nat}:∀(n:Nat) (S S':List Nat) (s:Nat),walkO τ σ n S s=some S'→S'.length≤S.length+2*n
 |0,_,_,_,h=>nomatch h
 |n+1,S,S',s,h=>by
  rw [walkO_s] at h
  by_cases hc:S.contains s=true
  ·rw [if_pos hc] at h
   rw [←qA8 h];exact qB5 _ _
  ·rw [if_neg hc] at h
   have:=walkO_len n _ S' _ h
   rw [qA1] at this
   exact qA9 this (by show S.length+2+2*n≤_;exact jL [_,_] [] (cL (eA (eA xa (eN 2)) (eM 2 xb)) (eA xa (eM 2 (eU xb)))) jT)
theorem wy_body {w a:Nat}{S S':List Nat}{w':Nat}{s8 s9:Slot}(h8:pinned s8=false)(h9:pinned s9=false)(ha:a<N)(hN2:N<1000)(hτ:∀s,s<N→sg N (τ s)<N)(hl:S.length<9000)(hw:w<1000)
  (h:(if S.contains a=true then some (S,w) else (walkO τ (sg N) 100 S a).bind fun S'=>some (S',w+1))=some (S',w')) :
  ∃s9',pinned s9'=false∧bodyF Φ q 8 Tg.z wyS [x0,x1,vi N,ol (nI ((qAf N).map τ)),s4,s5,vi w,ol (nI S),s8,s9] (.int a) =
   some (.next,[x0,x1,vi N,ol (nI ((qAf N).map τ)),s4,s5,vi w',ol (nI S'),vi a,s9']):=by
 have e0:bodyF Φ q 8 Tg.z wyS [x0,x1,vi N,ol (nI ((qAf N).map τ)),s4,s5,vi w,ol (nI S),s8,s9] (.int a)=exSs Φ q [x0,x1,vi N,ol (nI ((qAf N).map τ)),s4,s5,vi w,ol (nI S),vi a,s9] wyS:=by
  unfold bodyF
  rw [show Rs.val (.int a) Tg.z=Rs.val (.int a) Tg.z from rfl,sv_flat (s:=s8) rfl h8 rfl]
  rfl
 have ht:evT Φ q [x0,x1,vi N,ol (nI ((qAf N).map τ)),s4,s5,vi w,ol (nI S),vi a,s9] (.cmp .notin (.var 8) (.var 7))=some (!S.contains a):=t_notin rfl rfl
 by_cases hc:S.contains a=true
 ·rw [if_pos hc] at h
  obtain⟨rfl,rfl⟩:=qDr (qA8 h)
  rw [hc] at ht
  refine⟨s9,h9,?_⟩
  rw [e0]
  exact (x_seq (x_iff ht)).trans rfl
 ·rw [if_neg hc] at h
  rw [qFd] at hc
  rw [hc] at ht
  obtain⟨S1,hS1,h⟩:=bind_inv h
  obtain⟨rfl,rfl⟩:=qDr (qA8 h)
  obtain⟨s',e⟩:=wy_walk (Φ:=Φ) (q:=q) (x0:=x0) (x1:=x1) (s4:=s4) (s5:=s5) (w:=w+1) (a:=a) (qC9 (qBr _) ha) hN2 hτ 100 S S1 a ha (jL [_] [cT xa (eN 9000)] (cT (eA xa (eM 2 (eN 100))) (eN 10000)) jT hl) hS1
  refine⟨vi (s':Nat),rfl,?_⟩
  have e1:exS Φ q [x0,x1,vi N,ol (nI ((qAf N).map τ)),s4,s5,vi w,ol (nI S),vi a,s9] (.aug 6 .add (.int 1))=some (.next,[x0,x1,vi N,ol (nI ((qAf N).map τ)),s4,s5,vi ((w+1:Nat):Int),ol (nI S),vi a,s9]):=
   x_augi (i:=w) (j:=1) (d:=.int ((w:Int)+1)) (r:=Rs.flat (.int 1)) rfl (by rw [q_E_int]) rfl rfl (sv_flat (s:=vi w) rfl rfl rfl)
  have e2:exS Φ q [x0,x1,vi N,ol (nI ((qAf N).map τ)),s4,s5,vi ((w+1:Nat):Int),ol (nI S),vi a,s9] (.asg 9 (.var 8))=some (.next,[x0,x1,vi N,ol (nI ((qAf N).map τ)),s4,s5,vi ((w+1:Nat):Int),ol (nI S),vi a,vi a]):=
   x_asg (r:=Rs.val (.int a) Tg.z) rfl (sv_flat (s:=s9) rfl h9 rfl)
  have e3:exS Φ q [x0,x1,vi N,ol (nI ((qAf N).map τ)),s4,s5,vi ((w+1:Nat):Int),ol (nI S),vi a,vi a] (.while_ (.cmp .notin (.var 9) (.var 7)) wyW)=some (.next,[x0,x1,vi N,ol (nI ((qAf N).map τ)),s4,s5,vi ((w+1:Nat):Int),ol (nI S1),vi a,vi (s':Nat)]):=
   q_S_while.trans e
  rw [e0]
  exact (x_seq ((x_ift ht).trans ((x_seq e1).trans ((x_seq e2).trans ((x_seq e3).trans rfl))))).trans rfl
theorem wy_comps (hN2:N<1000)(hτ:∀s,s<N→sg N (τ s)<N):∀(l S S':List Nat) (w w':Nat) (s8 s9:Slot),pinned s8=false→pinned s9=false→(∀a∈l,a<N)→S.length+200*l.length<9000→w+l.length<1000→
  compsO τ (sg N) l S w=some (S',w')→
  ∃s8' s9',forS (bodyF Φ q 8 Tg.z wyS) (l.map fun a:Nat=>.int (a:Int)) [x0,x1,vi N,ol (nI ((qAf N).map τ)),s4,s5,vi w,ol (nI S),s8,s9] =
   some (.next,[x0,x1,vi N,ol (nI ((qAf N).map τ)),s4,s5,vi w',ol (nI S'),s8',s9'])
 |[],S,S',w,w',s8,s9,_,_,_,_,_,h=>by
  obtain⟨rfl,rfl⟩:=qDr (qA8 h)
  exact⟨s8,s9,rfl⟩
 |a::l,S,S',w,w',s8,s9,h8,h9,ha,hl,hw,h=>by
  rw [qAd] at hl hw
  obtain⟨S1,w1,hb,hr,hS1,hw1⟩:∃S1 w1,(if S.contains a=true then some (S,w) else (walkO τ (sg N) 100 S a).bind fun S'=>some (S',w+1))=some (S1,w1)∧compsO τ (sg N) l S1 w1=some (S',w')∧S1.length≤S.length+200∧w1≤w+1:=by
   rw [compsO_c] at h
   by_cases hc:S.contains a=true
   ·rw [if_pos hc] at h
    exact⟨S,w,if_pos hc,h,qB5 _ _,qAj _⟩
   ·rw [if_neg hc] at h
    rcases hx:walkO τ (sg N) 100 S a with _|S1
    ·rw [hx] at h;exact nos h
    ·rw [hx] at h
     exact⟨S1,w+1,(if_neg hc).trans rfl,h,walkO_len 100 S S1 a hx,qA7 _⟩
  obtain⟨s9',p9,e⟩:=wy_body (Φ:=Φ) (q:=q) (x0:=x0) (x1:=x1) (s4:=s4) (s5:=s5) h8 h9 (ha a (qA5 ..)) hN2 hτ (by exact jL [_,_] [cT (eA xa (eM 200 (eU xb))) (eN 9000)] (cT xa (eN 9000)) jT hl) (by exact jL [_,_] [cT (eA xa (eU xb)) (eN 1000)] (cT xa (eN 1000)) jT hw) hb
  obtain⟨t8,t9,ih⟩:=wy_comps hN2 hτ l S1 S' w1 w' (vi a) s9' rfl p9 (fun b hb=>ha b (qA3 _ hb)) (by exact jL [_,_,_] [cT (eA xa (eM 200 (eU xb))) (eN 9000),cL xc (eA xa (eN 200))] (cT (eA xc (eM 200 xb)) (eN 9000)) jT hl hS1) (by exact jL [_,_,_] [cT (eA xa (eU xb)) (eN 1000),cL xc (eU xa)] (cT (eA xc xb) (eN 1000)) jT hw hw1) hr
  refine⟨t8,t9,?_⟩
  rw [qAh]
  exact (for_next e).trans ih
end
theorem e_idxs {Φ q ρ}{e i:PE}{l:List Nat}{k:Nat}{t:Tg}{f:Bool}{t2:Tg}{f2:Bool}(h1:evE Φ q ρ e=some ⟨.str l,t,f⟩)(h2:evE Φ q ρ i=some ⟨.int k,t2,f2⟩)(h3:k<l.length) :
  evE Φ q ρ (.idx e i)=some (Rs.flat (.str [l.getD k 0])):=by
 rw [q_E_idx,h1];simp only [h2]
 show (if (0:Int)≤(k:Int)∧(k:Int)<(l.length:Nat) then (match l[(k:Int).toNat]? with|some c=>some (Rs.flat (.str [c]))|none=>none) else none)=_
 rw [if_pos ⟨Int.natCast_nonneg k,qF9.mpr h3⟩,qD2,qAb h3]
 show some (Rs.flat (.str [l[k]]))=_
 rw [qAo,qAb h3];rfl
noncomputable abbrev bS (G:List Bool):Slot:=some (.list (G.map .bool),.val tb3)
noncomputable def wyT:PSs:=(.cons (.asg 5 (.bin .sub (.bin .add (.meth .find (.var 0) (.cons (.idx (.var 0) (.var 4)) .nil)) (.meth .rfind (.var 0) (.cons (.idx (.var 0) (.var 4)) .nil))) (.var 4)))
   (.cons (.if_ (.cmp .ne (.idx (.var 1) (.var 4)) (.idx (.var 1) (.var 5))) (.cons (.aug 3 .add (.list (.cons (.bin .mul (.int 2) (.var 5)) (.cons (.bin .add (.bin .mul (.int 2) (.var 5)) (.int 1)) .nil))))
     .nil) (.cons (.if_ (.val (.idx (.var 1) (.var 4))) (.cons (.aug 3 .add (.list (.cons (.bin .add (.bin .mul (.int 2) (.var 5)) (.int 1)) (.cons (.bin .mul (.int 2) (.var 5)) .nil))))
       .nil) (.cons (.aug 3 .add (.list (.cons (.bin .add (.bin .mul (.int 2) (.var 4)) (.int 1)) (.cons (.bin .mul (.int 2) (.var 4)) .nil))))
       .nil))
     .nil))
   .nil))
section
variable {Φ:Fns}{q:Bool}{L:List Nat}{G:List Bool}{s2 s6 s7 s8 s9:Slot}{fst lst:Nat→Nat}
noncomputable abbrev gD (G:List Bool):Nat→Bool:=fun i=>G.getD i false
noncomputable abbrev lD (L:List Nat):Nat→Nat:=fun i=>L.getD i 0
theorem tu_two (g:Nat→Bool)(Lf fst lst:Nat→Nat)(p:Nat):tuX g Lf fst lst (2*p)=(if g p≠g (oth Lf fst lst p) then 2*oth Lf fst lst p else if g p=true then 2*oth Lf fst lst p+1 else 2*p+1)∧
  tuX g Lf fst lst (2*p+1)=(if g p≠g (oth Lf fst lst p) then 2*oth Lf fst lst p+1 else if g p=true then 2*oth Lf fst lst p else 2*p):=by
 exact⟨tuX_eq (b:=0) (by decide),tuX_eq (b:=1) (by decide)⟩
theorem wy_place {p:Nat}{s4 s5:Slot}(h4:pinned s4=false)(h5:pinned s5=false)(hp:p<L.length)(hG:G.length=L.length)(hl:L.length<100)(hf:findI L [L.getD p 0]=(fst (L.getD p 0):Nat))(hr:rfindI L [L.getD p 0]=(lst (L.getD p 0):Nat))
  (ho:p≤fst (L.getD p 0)+lst (L.getD p 0)) (ho2:oth (lD L) fst lst p<L.length) {acc:List Nat} (ha:acc.length<1000) :
  bodyF Φ q 4 Tg.z wyT [vs L,bS G,s2,ol (nI acc),s4,s5,s6,s7,s8,s9] (.int p) =
   some (.next,[vs L,bS G,s2,ol (nI (acc++[tuX (gD G) (lD L) fst lst (2*p),tuX (gD G) (lD L) fst lst (2*p+1)])),vi p,vi (oth (lD L) fst lst p:Nat),s6,s7,s8,s9]):=by
 obtain⟨o,hoe⟩:∃o,o=oth (lD L) fst lst p:=⟨_,rfl⟩
 have e0:bodyF Φ q 4 Tg.z wyT [vs L,bS G,s2,ol (nI acc),s4,s5,s6,s7,s8,s9] (.int p)=exSs Φ q [vs L,bS G,s2,ol (nI acc),vi p,s5,s6,s7,s8,s9] wyT:=by
  unfold bodyF
  rw [sv_flat (s:=s4) rfl h4 rfl]
  rfl
 have e1:exS Φ q [vs L,bS G,s2,ol (nI acc),vi p,s5,s6,s7,s8,s9] (.asg 5 (.bin .sub (.bin .add (.meth .find (.var 0) (.cons (.idx (.var 0) (.var 4)) .nil)) (.meth .rfind (.var 0) (.cons (.idx (.var 0) (.var 4)) .nil))) (.var 4))) =
   some (.next,[vs L,bS G,s2,ol (nI acc),vi p,vi o,s6,s7,s8,s9]):=by
  have i0:evE Φ q [vs L,bS G,s2,ol (nI acc),vi p,s5,s6,s7,s8,s9] (.idx (.var 0) (.var 4))=some (Rs.flat (.str [L.getD p 0])):=e_idxs (l:=L) (k:=p) (t:=Tg.z) (f:=false) (t2:=Tg.z) (f2:=false) rfl rfl hp
  have hfi:=e_find (Φ:=Φ) (q:=q) (ρ:=[vs L,bS G,s2,ol (nI acc),vi p,s5,s6,s7,s8,s9]) (e1:=.var 0) (a:=L) (t1:=Tg.z) (f1:=false) rfl i0
  have hri:=e_rfind (Φ:=Φ) (q:=q) (ρ:=[vs L,bS G,s2,ol (nI acc),vi p,s5,s6,s7,s8,s9]) (e1:=.var 0) (a:=L) (t1:=Tg.z) (f1:=false) rfl i0
  have hs:=e_bin (op:=.add) hfi hri (d:=.int (findI L [L.getD p 0]+rfindI L [L.getD p 0])) rfl
  refine x_asg (e_bin (op:=.sub) hs (y:=Rs.val (.int p) Tg.z) (d:=.int o) rfl ?_) (sv_flat (s:=s5) rfl h5 rfl)
  show some (D.int (findI L [L.getD p 0]+rfindI L [L.getD p 0]-p))=_
  rw [hf,hr,hoe]
  unfold oth
  refine congrArg (fun z=>some (D.int z)) ?_
  show ((fst (L.getD p 0):Int)+(lst (L.getD p 0):Int)-p)=((fst (L.getD p 0)+lst (L.getD p 0)-p:Nat):Int)
  rw [Int.ofNat_sub ho];rfl
 rw [←hoe] at ho2⊢
 obtain⟨t0,t1⟩:=tu_two (gD G) (lD L) fst lst p
 rw [←hoe] at t0 t1
 have gi:∀i,i<L.length→(G.map D.bool)[i]?=some (.bool (gD G i)):=fun i hi=>by
  rw [qC4,qAb (by rw [hG];exact hi)]
  show some (D.bool G[i])=some (D.bool (G.getD i false))
  rw [qAo,qAb (by rw [hG];exact hi)];rfl
 have g4:evE Φ q [vs L,bS G,s2,ol (nI acc),vi p,vi o,s6,s7,s8,s9] (.idx (.var 1) (.var 4))=some ⟨.bool (gD G p),Tg.z,false⟩:=e_idx_nat (ds:=G.map .bool) (k:=p) (t:=tb3) (f:=false) (t2:=Tg.z) (f2:=false) rfl rfl (gi p hp)
 have g5:evE Φ q [vs L,bS G,s2,ol (nI acc),vi p,vi o,s6,s7,s8,s9] (.idx (.var 1) (.var 5))=some ⟨.bool (gD G o),Tg.z,false⟩:=e_idx_nat (ds:=G.map .bool) (k:=o) (t:=tb3) (f:=false) (t2:=Tg.z) (f2:=false) rfl rfl (gi o ho2)
 have c1:evT Φ q [vs L,bS G,s2,ol (nI acc),vi p,vi o,s6,s7,s8,s9] (.cmp .ne (.idx (.var 1) (.var 4)) (.idx (.var 1) (.var 5)))=some (!(gD G p==gD G o)):=t_cmp g4 g5 rfl
 have c2:evT Φ q [vs L,bS G,s2,ol (nI acc),vi p,vi o,s6,s7,s8,s9] (.val (.idx (.var 1) (.var 4)))=some (gD G p):=t_val g4 rfl
 have m2:∀(v k:Nat),k<1000→evE Φ q [vs L,bS G,s2,ol (nI acc),vi p,vi o,s6,s7,s8,s9] (.var v)=some (Rs.val (.int k) Tg.z)→evE Φ q [vs L,bS G,s2,ol (nI acc),vi p,vi o,s6,s7,s8,s9] (.bin .mul (.int 2) (.var v))=some (Rs.new (.int ((2*k:Nat):Int)) Tg.z)∧
   evE Φ q [vs L,bS G,s2,ol (nI acc),vi p,vi o,s6,s7,s8,s9] (.bin .add (.bin .mul (.int 2) (.var v)) (.int 1))=some (Rs.new (.int ((2*k+1:Nat):Int)) Tg.z):=fun v k hk h=>by
  have a:evE Φ q [vs L,bS G,s2,ol (nI acc),vi p,vi o,s6,s7,s8,s9] (.bin .mul (.int 2) (.var v))=some (Rs.new (.int ((2*k:Nat):Int)) Tg.z):=
   e_mul (i:=2) (j:=(k:Int)) (r1:=Rs.flat (.int 2)) (r2:=Rs.val (.int k) Tg.z) (by rw [q_E_int];rfl) h (by rw [qAw];exact⟨by decide,small_of (by exact qCd (k+qBb 999998)) (by lia)⟩)
  exact⟨a,e_bin a (y:=Rs.flat (.int 1)) (by rw [q_E_int]) rfl⟩
 have add2:∀(e1 e2:PE) (a b:Nat),evE Φ q [vs L,bS G,s2,ol (nI acc),vi p,vi o,s6,s7,s8,s9] e1=some (Rs.new (.int (a:Int)) Tg.z)→evE Φ q [vs L,bS G,s2,ol (nI acc),vi p,vi o,s6,s7,s8,s9] e2=some (Rs.new (.int (b:Int)) Tg.z)→
   exSs Φ q [vs L,bS G,s2,ol (nI acc),vi p,vi o,s6,s7,s8,s9] (.cons (.aug 3 .add (.list (.cons e1 (.cons e2 .nil)))) .nil)=some (.next,[vs L,bS G,s2,ol (nI (acc++[a,b])),vi p,vi o,s6,s7,s8,s9]):=fun e1 e2 a b h1 h2=>by
  refine (x_seq ((x_augl (b:=false) (ds:=nI acc) (es:=[.int a,.int b]) rfl (e_list (l_cons h1 (l_cons h2 l_nil))) rfl (by rw [qAa];unfold SZ;show acc.length+2≤_;exact jL [_] [cT xa (eN 1000)] (cL (eA xa (eN 2)) (eN 16777216)) jT ha) rfl).trans ?_)).trans rfl
  unfold nI
  rw [qAt]
  rfl
 obtain⟨a5,b5⟩:=m2 5 o (jL [_,_] [cT xa (eN 100),cT xb xa] (cT xb (eN 1000)) jT hl ho2) rfl
 obtain⟨a4,b4⟩:=m2 4 p (by lia) rfl
 rw [e0]
 refine (x_seq e1).trans ((x_seq (ρ':=[vs L,bS G,s2,ol (nI (acc++[tuX (gD G) (lD L) fst lst (2*p),tuX (gD G) (lD L) fst lst (2*p+1)])),vi p,vi o,s6,s7,s8,s9]) ?_).trans rfl)
 by_cases h1:gD G p=gD G o
 ·rw [show (!(gD G p==gD G o))=false by rw [h1,beq_self_eq_true];rfl] at c1
  rw [if_neg (fun z=>z h1)] at t0 t1
  refine (x_iff c1).trans ?_
  by_cases h2:gD G p=true
  ·rw [h2] at c2
   rw [if_pos h2] at t0 t1
   rw [t0,t1]
   exact (x_seq ((x_ift c2).trans (add2 _ _ _ _ b5 a5))).trans rfl
  ·rw [qC5.mpr h2] at c2
   rw [if_neg h2] at t0 t1
   rw [t0,t1]
   exact (x_seq ((x_iff c2).trans (add2 _ _ _ _ b4 a4))).trans rfl
 ·rw [show (!(gD G p==gD G o))=true by rw [beq_eq_false_iff_ne.mpr h1];rfl] at c1
  rw [if_pos h1] at t0 t1
  rw [t0,t1]
  exact (x_ift c1).trans (add2 _ _ _ _ a5 b5)
theorem wy_places (hG:G.length=L.length)(hl:L.length<100)(hf:∀p,p<L.length→findI L [L.getD p 0]=(fst (L.getD p 0):Nat))(hr:∀p,p<L.length→rfindI L [L.getD p 0]=(lst (L.getD p 0):Nat))
  (ho:∀p,p<L.length→p≤fst (L.getD p 0)+lst (L.getD p 0)) (ho2:∀p,p<L.length→oth (lD L) fst lst p<L.length):∀(n p:Nat) (s4 s5:Slot),pinned s4=false→pinned s5=false→p+n=L.length→
  ∃s4' s5',forS (bodyF Φ q 4 Tg.z wyT) ((qAm p n).map fun k:Nat=>.int (k:Int)) [vs L,bS G,s2,ol (nI ((qAf (2*p)).map (tuX (gD G) (lD L) fst lst))),s4,s5,s6,s7,s8,s9] =
   some (.next,[vs L,bS G,s2,ol (nI ((qAf (2*L.length)).map (tuX (gD G) (lD L) fst lst))),s4',s5',s6,s7,s8,s9])
 |0,p,s4,s5,_,_,h=>⟨s4,s5,by rw [←h];rfl⟩
 |n+1,p,s4,s5,h4,h5,h=>by
  have hp:p<L.length:=jL [_,_,_] [cQ (eA xa (eU xb)) xc] (cT xa xc) jT h
  have e:=wy_place (Φ:=Φ) (q:=q) (s2:=s2) (s6:=s6) (s7:=s7) (s8:=s8) (s9:=s9) h4 h5 hp hG hl (hf p hp) (hr p hp) (ho p hp) (ho2 p hp) (acc:=(qAf (2*p)).map (tuX (gD G) (lD L) fst lst)) (by rw [qAa,qBp];exact jk [_,_,_] [cT xa (eN 100),cQ (eA xb (eU xc)) xa] (cT (eM 2 xb) (eN 1000)) [1,2,2] jT hl h)
  have hx:(qAf (2*p)).map (tuX (gD G) (lD L) fst lst)++[tuX (gD G) (lD L) fst lst (2*p),tuX (gD G) (lD L) fst lst (2*p+1)]=(qAf (2*(p+1))).map (tuX (gD G) (lD L) fst lst):=by
   rw [show 2*(p+1)=2*p+1+1 from rfl,qGy,qGy,qAt,qAt,qAe]
   rfl
  rw [hx] at e
  obtain⟨t4,t5,ih⟩:=wy_places hG hl hf hr ho ho2 n (p+1) (vi p) (vi (oth (lD L) fst lst p:Nat)) rfl rfl (jQ [_,_,_] [cQ (eA xa (eU xb)) xc] (eA (eU xa) xb) xc jT jT h)
  refine⟨t4,t5,?_⟩
  rw [qBt,qAh,forS_c,e]
  exact ih
theorem ways_ok (hG:G.length=L.length)(hl:L.length≤10)(h0:0<L.length)(hf:∀p,p<L.length→findI L [L.getD p 0]=(fst (L.getD p 0):Nat))(hr:∀p,p<L.length→rfindI L [L.getD p 0]=(lst (L.getD p 0):Nat))
  (ho:∀p,p<L.length→p≤fst (L.getD p 0)+lst (L.getD p 0)) (ho2:∀p,p<L.length→oth (lD L) fst lst p<L.length) (hτ:∀s,s<2*L.length→sg (2*L.length) (tuX (gD G) (lD L) fst lst s)<2*L.length) {S:List Nat} {w:Nat}
  (hc:compsO (tuX (gD G) (lD L) fst lst) (sg (2*L.length)) (qAf (2*L.length)) [] 0=some (S,w)):runF Φ q 2 10 p1_law_ways [.str L,.list (G.map .bool)]=some (.int w):=by
 have n1:evE Φ q [vs L,bS G,none,none,none,none,none,none,none,none] (.bi .len (.cons (.var 0) .nil))=some (Rs.flat (.int (L.length:Nat))):=ex_len (x:=L) (t:=Tg.z) (f:=false) rfl
 have e1:exS Φ q [vs L,bS G,none,none,none,none,none,none,none,none] (.asg 2 (.bin .mul (.int 2) (.bi .len (.cons (.var 0) .nil))))=some (.next,[vs L,bS G,vi ((2*L.length:Nat):Int),none,none,none,none,none,none,none]):=
  x_asg (e_mul (i:=2) (j:=(L.length:Int)) (r1:=Rs.flat (.int 2)) (r2:=Rs.flat (.int (L.length:Nat))) (by rw [q_E_int];rfl) n1 (by rw [qAw];exact⟨by decide,small_of (by exact qCd (qB8 L+qBb 999998)) (by lia)⟩)) (sv_flat (s:=none) rfl rfl rfl)
 have e2:exS Φ q [vs L,bS G,vi ((2*L.length:Nat):Int),none,none,none,none,none,none,none] (.asg 3 (.list .nil))=some (.next,[vs L,bS G,vi ((2*L.length:Nat):Int),ol (nI []),none,none,none,none,none,none]):=rfl
 have n2:evE Φ q [vs L,bS G,vi ((2*L.length:Nat):Int),ol (nI []),none,none,none,none,none,none] (.bi .len (.cons (.var 0) .nil))=some (Rs.flat (.int (L.length:Nat))):=ex_len (x:=L) (t:=Tg.z) (f:=false) rfl
 obtain⟨t4,t5,f3⟩:=wy_places (Φ:=Φ) (q:=q) (s2:=vi ((2*L.length:Nat):Int)) (s6:=none) (s7:=none) (s8:=none) (s9:=none) hG (by lia) hf hr ho ho2 L.length 0 none none rfl rfl (qB2 _)
 rw [←qCx] at f3
 have e3:exS Φ q [vs L,bS G,vi ((2*L.length:Nat):Int),ol (nI []),none,none,none,none,none,none] (.for_ 4 (.range1 (.bi .len (.cons (.var 0) .nil))) wyT) =
   some (.next,[vs L,bS G,vi ((2*L.length:Nat):Int),ol (nI ((qAf (2*L.length)).map (tuX (gD G) (lD L) fst lst))),t4,t5,none,none,none,none]):=x_for0 (i_range1 n2 (by lia)) rfl rfl rfl f3
 obtain⟨τL,hτL⟩:∃τL,τL=nI ((qAf (2*L.length)).map (tuX (gD G) (lD L) fst lst)):=⟨_,rfl⟩
 have e4:exS Φ q [vs L,bS G,vi ((2*L.length:Nat):Int),ol τL,t4,t5,none,none,none,none] (.asg 6 (.int 0))=some (.next,[vs L,bS G,vi ((2*L.length:Nat):Int),ol τL,t4,t5,vi (0:Nat),none,none,none]):=x_asg (r:=Rs.flat (.int 0)) (by rw [q_E_int]) (sv_flat (s:=none) rfl rfl rfl)
 have e5:exS Φ q [vs L,bS G,vi ((2*L.length:Nat):Int),ol τL,t4,t5,vi (0:Nat),none,none,none] (.asg 7 (.list .nil))=some (.next,[vs L,bS G,vi ((2*L.length:Nat):Int),ol τL,t4,t5,vi (0:Nat),ol (nI []),none,none]):=rfl
 obtain⟨t8,t9,f6⟩:=wy_comps (Φ:=Φ) (q:=q) (x0:=vs L) (x1:=bS G) (s4:=t4) (s5:=t5) (N:=2*L.length) (τ:=tuX (gD G) (lD L) fst lst) (by lia) hτ (qAf (2*L.length)) [] S 0 w none none rfl rfl (fun a h=>qC7.mp h) (by rw [qBp];show 0+_<_;lia) (by rw [qBp];lia) hc
 rw [←hτL] at e3 f6
 have e6:exS Φ q [vs L,bS G,vi ((2*L.length:Nat):Int),ol τL,t4,t5,vi (0:Nat),ol (nI []),none,none] (.for_ 8 (.range1 (.var 2)) wyS)=some (.next,[vs L,bS G,vi ((2*L.length:Nat):Int),ol τL,t4,t5,vi w,ol (nI S),t8,t9]):=
  x_for0 (i_range1 (n:=2*L.length) (t:=Tg.z) (f:=false) rfl (by lia)) rfl rfl rfl f6
 exact run_ret (r:=Rs.val (.int w) Tg.z) rfl ((x_seq e1).trans ((x_seq e2).trans ((x_seq e3).trans ((x_seq e4).trans ((x_seq e5).trans ((x_seq e6).trans (x_seqr (x_ret rfl)))))))) rfl
end
noncomputable def CK (ts:List (List Nat)):Bool:=ck (strip2 ts none) 0
theorem two_out (a b d:Nat)(h:a+b+d=2)(k:Nat→List Nat):((qAm 0 a).map k++(qAm (a+b) d).map k=(if b=0 then [k 0,k 1] else if b=2 then [] else if a=1 then [k 0] else [k 1]))∧
  (qAm a b).map k=(if b=0 then [] else if b=2 then [k 0,k 1] else if a=1 then [k 1] else [k 0]):=by
 have ha:a≤2:=jL [_,_,_] [cQ (eA (eA xa xb) xc) (eN 2)] (cL xa (eN 2)) jT h
 have hb:b≤2:=jL [_,_,_] [cQ (eA (eA xa xb) xc) (eN 2)] (cL xb (eN 2)) jT h
 rcases a with _|_|_|a
 ·rcases b with _|_|_|b
  ·obtain rfl:d=2:=jQ [_] [cQ (eA (eA (eN 0) (eN 0)) xa) (eN 2)] xa (eN 2) jT jT h
   exact⟨rfl,rfl⟩
  ·obtain rfl:d=1:=jQ [_] [cQ (eA (eA (eN 0) (eU (eN 0))) xa) (eN 2)] xa (eN 1) jT jT h
   exact⟨rfl,rfl⟩
  ·obtain rfl:d=0:=jq [_] [cQ (eA (eA (eN 0) (eU (eU (eN 0)))) xa) (eN 2)] xa (eN 0) [1,1] [1,0] jT jT h
   exact⟨rfl,rfl⟩
  ·lia
 ·rcases b with _|_|b
  ·obtain rfl:d=1:=jQ [_] [cQ (eA (eA (eU (eN 0)) (eN 0)) xa) (eN 2)] xa (eN 1) jT jT h
   exact⟨rfl,rfl⟩
  ·obtain rfl:d=0:=jq [_] [cQ (eA (eA (eU (eN 0)) (eU (eN 0))) xa) (eN 2)] xa (eN 0) [1,1] [1,0] jT jT h
   exact⟨rfl,rfl⟩
  ·lia
 ·rcases b with _|b
  ·obtain rfl:d=0:=jq [_] [cQ (eA (eA (eU (eU (eN 0))) (eN 0)) xa) (eN 2)] xa (eN 0) [1,1] [1,0] jT jT h
   exact⟨rfl,rfl⟩
  ·lia
 ·lia
section
variable {L:List Nat}{x y:Nat}{A B D:List Nat}
variable {a b d:Nat}{u:Nat→List Nat}{PA PB PD:List (List Nat)}
theorem between_ok (h:a+b+d=2)(C:Cut L a b d u k1 PA PB PD):CK (PB++[[92]])=decide (b≠1):=by
 have hq:[34]∉PB++[[92]]:=fun hm=>(qAc.mp hm).elim C.nB fun h=>nomatch h
 unfold CK
 rw [strip2_no _ hq,ck_filter,qCv,C.fB,(two_out a b d h k1).2]
 rcases b with _|_|_|b
 ·rfl
 ·by_cases ha:a=1
  ·rw [if_pos ha];rfl
  ·rw [if_neg ha];rfl
 ·rfl
 ·lia
theorem hidden_ok (h:a+b+d=2)(C:Cut L a b d u k2 PA PB PD):CK ([[40],[34],[41],[34],[93],[62],[41]]++(qAf L.length).map u)=decide (b=2):=by
 have e:[[40],[34],[41],[34],[93],[62],[41]]++(qAf L.length).map u=[[40]]++[34]::([[41]]++[34]::(([[93],[62],[41]]++PA)++[34]::(PB++[34]::PD))):=by
  rw [C.eq]
  show _=[[40],[34],[41],[34]]++(([[93],[62],[41]]++PA)++[34]::(PB++[34]::PD))
  rw [qAe]
  rfl
 have n1:[34]∉[[93],[62],[41]]++PA:=fun hm=>(qAc.mp hm).elim (fun h=>by revert h;decide) C.nA
 unfold CK
 rw [e,strip2_quote [[40]] [[41]] _ (by decide) (by decide),strip2_quote _ PB PD n1 C.nB,strip2_no PD C.nD,ck_filter,qCv,qCv,qCv,C.fA,C.fD]
 have e2:[[40]].filter isP++([[93],[62],[41]].filter isP++(qAm 0 a).map k2++(qAm (a+b) d).map k2)=[[40],[41]]++((qAm 0 a).map k2++(qAm (a+b) d).map k2):=by
  rw [qAe];rfl
 rw [e2,(two_out a b d h k2).1]
 rcases b with _|_|_|b
 ·rfl
 ·by_cases ha:a=1
  ·rw [if_pos ha];rfl
  ·rw [if_neg ha];rfl
 ·rfl
 ·lia
theorem filt_id {W:List (List Nat)}(hw:∀t∈W,isP t=true):W.filter isP=W:=List.filter_eq_self.mpr hw
theorem closes_ok (h:a+b+d=2)(C:Cut L a b d u k1 PA PB PD){W:List (List Nat)}(n:Nat)(hw:∀t∈W,isP t=true)(hW:∀z:Nat,ck W (z:Int)=decide (z=0)) :
  CK ((qAf L.length).map u++(W.take n++[34]::([[44],[91],[60]]++W.drop n)))=decide (b≠1):=by
 have nW:∀t∈W,t≠[34]:=fun t ht e=>by have:=hw t ht;rw [e] at this;cases this
 have n1:[34]∉PD++W.take n:=fun hm=>(qAc.mp hm).elim C.nD fun h=>nW _ (qEe h) rfl
 have n2:[34]∉[[44],[91],[60]]++W.drop n:=fun hm=>(qAc.mp hm).elim (fun h=>by revert h;decide) fun h=>nW _ (qDj h) rfl
 have e:(qAf L.length).map u++(W.take n++[34]::([[44],[91],[60]]++W.drop n))=PA++[34]::(PB++[34]::((PD++W.take n)++[34]::([[44],[91],[60]]++W.drop n))):=by
  rw [C.eq,qAe,qB7,qAe,qB7,qAe]
 unfold CK
 rw [e,strip2_quote PA PB _ C.nA C.nB,strip2_open _ _ n1 n2,ck_filter,qCv,qCv,qCv,C.fA,C.fD,filt_id fun t ht=>hw t (qEe ht)]
 have e2:([34]::([[44],[91],[60]]++W.drop n)).filter isP=W.drop n:=(show _=(W.drop n).filter isP from rfl).trans (filt_id fun t ht=>hw t (qDj ht))
 rw [e2,qAe,qAy,←qAe,(two_out a b d h k1).1]
 have h0:=hW 0
 have h1:=hW 1
 rcases b with _|_|_|b
 ·exact h0
 ·by_cases ha:a=1
  ·rw [if_pos ha];exact h1
  ·rw [if_neg ha];rfl
 ·exact h0
 ·lia
end
theorem inS_one (y:Nat)(l:List Nat):inS [y] l=l.contains y:=by
 rw [qC1,inS_iff,qGv]
 exact⟨fun h=>h.subset (qA5 ..),fun h=>by obtain⟨s,t,e⟩:=qHi h;exact⟨s,t,by rw [e,qAe];rfl⟩⟩
theorem repl_sw (t:List Nat)(a b:Nat):replL t [a] [b]=sw a b t:=repl_one t a [b]
noncomputable def mlB:PSs:=(.cons (.if_ (.cmp .eq (.idx (.var 0) (.var 5)) (.var 2)) (.cons (.app 4 (.str [34]))
     .nil) (.cons (.if_ (.cmp .eq (.idx (.var 0) (.var 5)) (.var 3)) (.cons (.app 4 (.ife (.cmp .in_ (.var 3) (.slice (.var 0) .no (.some (.var 5)))) (.str [41]) (.str [40])))
       .nil) (.cons (.app 4 (.bin .add (.str [92]) (.idx (.str [34,40,41,92]) (.bin .mod (.var 5) (.int 4)))))
       .nil))
     .nil))
   .nil)
section
variable {Φ:Fns}{q:Bool}{L N:List Nat}{x y:Nat}{s6 s7 s8:Slot}
theorem ml_place {p:Nat}{s5:Slot}(h5:pinned s5=false)(hp:p<L.length)(hl:L.length<1000){R:List (List Nat)}(hR:R.length<1000) :
  bodyF Φ q 5 Tg.z mlB [vs L,vs N,vs [x],vs [y],ol (R.map .str),s5,s6,s7,s8] (.int p)=some (.next,[vs L,vs N,vs [x],vs [y],ol ((R++[pt L x y p]).map .str),vi p,s6,s7,s8]):=by
 have e0:bodyF Φ q 5 Tg.z mlB [vs L,vs N,vs [x],vs [y],ol (R.map .str),s5,s6,s7,s8] (.int p)=exSs Φ q [vs L,vs N,vs [x],vs [y],ol (R.map .str),vi p,s6,s7,s8] mlB:=by
  unfold bodyF
  rw [sv_flat (s:=s5) rfl h5 rfl]
  rfl
 have i0:evE Φ q [vs L,vs N,vs [x],vs [y],ol (R.map .str),vi p,s6,s7,s8] (.idx (.var 0) (.var 5))=some ⟨.str [L.getD p 0],Tg.z,false⟩:=e_idxs (e_vs rfl) (e_vi rfl) hp
 have c1:evT Φ q [vs L,vs N,vs [x],vs [y],ol (R.map .str),vi p,s6,s7,s8] (.cmp .eq (.idx (.var 0) (.var 5)) (.var 2))=some (decide ([L.getD p 0]=[x])):=t_cmp i0 (e_vs (n:=[x]) rfl) rfl
 have c2:evT Φ q [vs L,vs N,vs [x],vs [y],ol (R.map .str),vi p,s6,s7,s8] (.cmp .eq (.idx (.var 0) (.var 5)) (.var 3))=some (decide ([L.getD p 0]=[y])):=t_cmp i0 (e_vs (n:=[y]) rfl) rfl
 have c3:evT Φ q [vs L,vs N,vs [x],vs [y],ol (R.map .str),vi p,s6,s7,s8] (.cmp .in_ (.var 3) (.slice (.var 0) .no (.some (.var 5))))=some ((L.take p).contains y):=by
  refine t_cmp (e_vs (n:=[y]) rfl) (e_sl (e_vs (n:=L) rfl) (by rw [q_O_no]) (evO_n (e_vi rfl) (jL [_,_] [cT xa xb,cT xb (eN 1000)] (cT xa (eN 1000000)) jT hp hl))) ?_
  show some (inS [y] (slL L none (some (p:Int)) none))=_
  rw [slL_to,inS_one]
 have app:∀(e:PE) (t:List Nat) (tg:Tg) (f:Bool),evE Φ q [vs L,vs N,vs [x],vs [y],ol (R.map .str),vi p,s6,s7,s8] e=some ⟨.str t,tg,f⟩→exSs Φ q [vs L,vs N,vs [x],vs [y],ol (R.map .str),vi p,s6,s7,s8] (.cons (.app 4 e) .nil)=some (.next,[vs L,vs N,vs [x],vs [y],ol ((R++[t]).map .str),vi p,s6,s7,s8]):=fun e t tg f h=>by
  refine (x_seq ((x_app (b:=false) (b':=false) h rfl (by rw [qAa];unfold SZ;lia) rfl).trans ?_)).trans rfl
  rw [qAt];rfl
 rw [e0]
 unfold pt
 by_cases h1:L.getD p 0=x
 ·rw [if_pos h1]
  rw [decide_eq_true (by rw [h1])] at c1
  exact (x_seq ((x_ift c1).trans (app _ _ _ _ (e_str [34])))).trans rfl
 ·rw [if_neg h1]
  rw [decide_eq_false (fun e=>h1 (qCb e))] at c1
  by_cases h2:L.getD p 0=y
  ·rw [if_pos h2]
   rw [decide_eq_true (by rw [h2])] at c2
   refine (x_seq ((x_iff c1).trans ((x_seq ((x_ift c2).trans (app _ (if (L.take p).contains y=true then [41] else [40]) Tg.z false ?_))).trans rfl))).trans rfl
   by_cases h3:(L.take p).contains y=true
   ·rw [if_pos h3]
    rw [h3] at c3
    exact (e_ift c3).trans (e_str [41])
   ·rw [if_neg h3]
    rw [qC5.mpr h3] at c3
    exact (e_iff c3).trans (e_str [40])
  ·rw [if_neg h2]
   rw [decide_eq_false (fun e=>h2 (qCb e))] at c2
   have m4:evE Φ q [vs L,vs N,vs [x],vs [y],ol (R.map .str),vi p,s6,s7,s8] (.bin .mod (.var 5) (.int 4))=some ⟨.int ((p % 4:Nat):Int),Tg.z,true⟩:=e_bin (e_vi (n:=p) rfl) (e_int 4) (d:=.int ((p % 4:Nat):Int)) rfl
   have i4:evE Φ q [vs L,vs N,vs [x],vs [y],ol (R.map .str),vi p,s6,s7,s8] (.idx (.str [34,40,41,92]) (.bin .mod (.var 5) (.int 4)))=some (Rs.flat (.str [e4 p])):=e_idxs (e_str [34,40,41,92]) m4 (qC6 _ (by decide))
   have a4:evE Φ q [vs L,vs N,vs [x],vs [y],ol (R.map .str),vi p,s6,s7,s8] (.bin .add (.str [92]) (.idx (.str [34,40,41,92]) (.bin .mod (.var 5) (.int 4))))=some (Rs.new (.str [92,e4 p]) Tg.z):=by
    refine e_bin (e_str [92]) i4 ?_
    show (if 1+1≤SZ then some (D.str [92,e4 p]) else none)=_
    rw [if_pos (by unfold SZ;decide)]
   exact (x_seq ((x_iff c1).trans ((x_seq ((x_iff c2).trans (app _ _ _ _ a4))).trans rfl))).trans rfl
theorem ml_places (hl:L.length<1000):∀(n p:Nat) (s5:Slot),pinned s5=false→p+n=L.length→
  ∃s5',forS (bodyF Φ q 5 Tg.z mlB) ((qAm p n).map fun k:Nat=>.int (k:Int)) [vs L,vs N,vs [x],vs [y],ol (((qAf p).map (pt L x y)).map .str),s5,s6,s7,s8] =
   some (.next,[vs L,vs N,vs [x],vs [y],ol (((qAf L.length).map (pt L x y)).map .str),s5',s6,s7,s8])
 |0,p,s5,_,h=>⟨s5,by rw [←h];rfl⟩
 |n+1,p,s5,h5,h=>by
  have hp:p<L.length:=jL [_,_,_] [cQ (eA xa (eU xb)) xc] (cT xa xc) jT h
  have e:=ml_place (Φ:=Φ) (q:=q) (N:=N) (x:=x) (y:=y) (s6:=s6) (s7:=s7) (s8:=s8) h5 hp hl (R:=(qAf p).map (pt L x y)) (by rw [qAa,qBp];exact jL [_,_,_] [cT xa (eN 1000),cQ (eA xb (eU xc)) xa] (cT xb (eN 1000)) jT hl h)
  rw [show (qAf p).map (pt L x y)++[pt L x y p]=(qAf (p+1)).map (pt L x y) by rw [qGy,qAt];rfl] at e
  obtain⟨t5,ih⟩:=ml_places hl n (p+1) (vi p) rfl (jQ [_,_,_] [cQ (eA xa (eU xb)) xc] (eA (eU xa) xb) xc jT jT h)
  refine⟨t5,?_⟩
  rw [qBt,qAh,forS_c,e]
  exact ih
end
theorem range_cut {m a b:Nat}(h:a+b≤m):((qAf m).drop a).take b=qAm a b:=by
 apply List.ext_getElem?
 intro i
 by_cases hi:i<b
 ·rw [qG7 hi,qEx,qFn (qB3 (qHc hi a) h),List.getElem?_range' hi]
  rw [qHq]
 ·rw [qE4 (by rw [qB6];exact qA9 (qCr ..) (qCj.mp hi)),qE4 (by rw [qFy];exact qCj.mp hi)]
theorem flat_le {α:Type}(R:List (List α))(B:Nat)(h:∀r∈R,r.length≤B):R.flatten.length≤R.length*B:=by
 induction R with
 |nil=>exact qBr _
 |cons a R ih=>
  have h1:=h a (qA5 ..)
  have h2:=ih fun r hr=>h r (qA3 _ hr)
  rw [qBe,qA1,qAd,qGx,qCo]
  exact qDy h2 h1
section
variable {Φ:Fns}{L:List Nat}{x y:Nat}{A B D:List Nat}
theorem mail_ok (H:Pair L x y A B D){W:List (List Nat)}(n:Nat)(hw:∀t∈W,isP t=true)(hwl:W.length≤1000)(hW:∀z:Nat,ck W (z:Int)=decide (z=0))
  (hc:∀ts:List (List Nat),(∀t∈ts,Tok t)→ts.flatten.length<1000000→Φ false 3 [.str ts.flatten]=some (.bool (CK ts)))
  (hc2:∀ts:List (List Nat),(∀t∈ts,Tok t)→[34]∉ts→ts.flatten.length<100000→Φ false 3 [.str (ts++[[92]]).flatten]=some (.bool (CK (ts++[[92]])))) :
  runF Φ false 4 9 p1_law_by_mail [.str L,.str (W.take n++[34]::([[44],[91],[60]]++W.drop n)).flatten,.str [x],.str [y]]=some (.list [.bool (decide (B.count y≠1)),.bool (decide (B.count y=2)),.bool (decide (B.count y≠1))]):=by
 have hl:=H.len
 have hL:L.length=A.length+1+B.length+1+D.length:=by rw [H.eq];exact len3
 refine hid fun G hG=>?_
 obtain⟨PA,PB,PD,C,q5⟩:=H.split (pt_of H)
 obtain⟨PA',PB',PD',C',_⟩:=H.split (trn_of H)
 have v1:=closes_ok H.two C n hw hW
 have v2:=hidden_ok H.two C'
 have v3:=between_ok H.two C
 obtain⟨NT,hNT⟩:∃NT,NT=W.take n++[34]::([[44],[91],[60]]++W.drop n):=⟨_,rfl⟩
 rw [←hNT] at v1 hG
 obtain⟨T,hT⟩:∃T,T=(qAf L.length).map (pt L x y):=⟨_,rfl⟩
 have tokT:∀t∈T,Tok t∧t.length≤2:=fun t ht=>by
  rw [hT] at ht
  obtain⟨i,_,rfl⟩:=qBf.mp ht
  exact pt_tok L x y i
 have tokN:∀t∈NT,Tok t∧t.length≤2:=fun t ht=>by
  have one:∀c:Nat,c≠92→Tok [c]∧[c].length≤2:=fun c hc=>⟨.inl ⟨c,hc,rfl⟩,qAj 1⟩
  have hwt:∀t∈W,Tok t∧t.length≤2:=fun t ht=>by
   have:=hw t ht
   unfold isP at this
   rcases Bool.or_eq_true_iff.mp this with e|e
   ·rw [eq_of_beq e];exact one 40 (by decide)
   ·rw [eq_of_beq e];exact one 41 (by decide)
  rw [hNT] at ht
  rcases qAc.mp ht with h|h
  ·exact hwt t (qEe h)
  ·rcases qA6.mp h with h|h
   ·rw [h];exact one 34 (by decide)
   ·rcases qAc.mp h with h|h
    ·rcases qA6.mp h with h|h
     ·rw [h];exact one 44 (by decide)
     ·rcases qA6.mp h with h|h
      ·rw [h];exact one 91 (by decide)
      ·rw [qAi.mp h];exact one 60 (by decide)
    ·exact hwt t (qDj h)
 have lT:T.length=L.length:=by rw [hT,qAa,qBp]
 have lN:NT.length≤1004:=by
  rw [hNT,qA1,qAd,qA1,qB6,qAn]
  have e:min n W.length+(W.length-n)=W.length:=by rw [←qB6,←qAn,←qA1,qAy]
  show min n W.length+(3+(W.length-n)+1)≤1004
  rw [qCo 3]
  show min n W.length+(W.length-n)+4≤1004
  rw [e]
  exact qDk hwl 4
 have fT:T.flatten.length≤200:=qA9 (flat_le T 2 fun t ht=>(tokT t ht).2) (by rw [lT];lia)
 have fN:NT.flatten.length≤2008:=qA9 (flat_le NT 2 fun t ht=>(tokN t ht).2) (by lia)
 obtain⟨t5,f2⟩:=ml_places (Φ:=Φ) (q:=false) (L:=L) (N:=NT.flatten) (x:=x) (y:=y) (s6:=none) (s7:=none) (s8:=none) (jL [_] [cL xa (eN 100)] (cT xa (eN 1000)) jT hl) L.length 0 none rfl (qB2 _)
 rw [←qCx,←hT] at f2
 have n1:evE Φ false [vs L,vs NT.flatten,vs [x],vs [y],ol [],none,none,none,none] (.bi .len (.cons (.var 0) .nil))=some (Rs.flat (.int (L.length:Nat))):=ex_len (x:=L) (t:=Tg.z) (f:=false) rfl
 have e2:exS Φ false [vs L,vs NT.flatten,vs [x],vs [y],ol [],none,none,none,none] (.for_ 5 (.range1 (.bi .len (.cons (.var 0) .nil))) mlB)=some (.next,[vs L,vs NT.flatten,vs [x],vs [y],ol (T.map .str),t5,none,none,none]):=
  x_for0 (i_range1 n1 (jL [_] [cL xa (eN 100)] (cT xa (eN 100000)) jT hl)) rfl rfl rfl f2
 have e3:exS Φ false [vs L,vs NT.flatten,vs [x],vs [y],ol (T.map .str),t5,none,none,none] (.asg 6 (.meth .join (.str []) (.cons (.var 4) .nil)))=some (.next,[vs L,vs NT.flatten,vs [x],vs [y],ol (T.map .str),t5,vs T.flatten,none,none]):=
  x_asg (ex_join (R:=T) rfl (by lia)) (sv_flat (s:=none) rfl rfl rfl)
 have sz:SZ=16777216:=rfl
 have rp:∀{o:PE} {X:List Nat} {t:Tg} {f:Bool} (a b:Nat),evE Φ false [vs L,vs NT.flatten,vs [x],vs [y],ol (T.map .str),t5,vs T.flatten,none,none] o=some ⟨.str X,t,f⟩→X.length≤200→a≠b→
   evE Φ false [vs L,vs NT.flatten,vs [x],vs [y],ol (T.map .str),t5,vs T.flatten,none,none] (.repl o [a] (.str [b]))=some (Rs.flat (.str (sw a b X))):=fun a b h hX hab=>by
  rw [←repl_sw]
  refine e_repls h (fun e=>hab (qCb e)) ?_ ?_
  ·rw [qF6];lia
  ·rw [repl_sw,sw_len];lia
 have e4:exS Φ false [vs L,vs NT.flatten,vs [x],vs [y],ol (T.map .str),t5,vs T.flatten,none,none] (.asg 7 (.repl (.repl (.repl (.var 6) [40] (.str [60])) [41] (.str [40])) [60] (.str [41]))) =
   some (.next,[vs L,vs NT.flatten,vs [x],vs [y],ol (T.map .str),t5,vs T.flatten,vs (trn T.flatten),none]):=
  x_asg (rp 60 41 (rp 41 40 (rp 40 60 (e_vs rfl) fT (by decide)) (by rw [sw_len];exact fT) (by decide)) (by rw [sw_len,sw_len];exact fT) (by decide)) (sv_flat (s:=none) rfl rfl rfl)
 have fP:PB.flatten.length≤200:=qA9 (flat_le PB 2 fun t ht=>by
  rw [q5] at ht
  obtain⟨i,_,rfl⟩:=qBf.mp ht
  exact (pt_tok L x y i).2) (by rw [q5,qAa,qFy];lia)
 have e5:exS Φ false [vs L,vs NT.flatten,vs [x],vs [y],ol (T.map .str),t5,vs T.flatten,vs (trn T.flatten),none] (.asg 8 (.meth .join (.str []) (.cons (.slice (.var 4) (.some (.bin .add (.meth .find (.var 0) (.cons (.var 2) .nil)) (.int 1))) (.some (.meth .rfind (.var 0) (.cons (.var 2) .nil)))) .nil))) =
   some (.next,[vs L,vs NT.flatten,vs [x],vs [y],ol (T.map .str),t5,vs T.flatten,vs (trn T.flatten),vs PB.flatten]):=by
  have a1:evE Φ false [vs L,vs NT.flatten,vs [x],vs [y],ol (T.map .str),t5,vs T.flatten,vs (trn T.flatten),none] (.bin .add (.meth .find (.var 0) (.cons (.var 2) .nil)) (.int 1))=some ⟨.int ((A.length+1:Nat):Int),Tg.z,true⟩:=
   e_addi (i:=(A.length:Nat)) ((e_find (e_vs rfl) (e_vs rfl)).trans (by rw [H.fst])) (e_int 1)
  have a2:evE Φ false [vs L,vs NT.flatten,vs [x],vs [y],ol (T.map .str),t5,vs T.flatten,vs (trn T.flatten),none] (.meth .rfind (.var 0) (.cons (.var 2) .nil))=some ⟨.int ((A.length+1+B.length:Nat):Int),Tg.z,false⟩:=
   (e_rfind (e_vs rfl) (e_vs rfl)).trans (by rw [H.lst])
  have a3:=e_sll (x:=T.map .str) (t:=⟨true,false,false⟩) (f:=false) (e:=.var 4) rfl (evO_n a1 (by lia)) (evO_n a2 (by lia))
  rw [slL_ab _ (by lia) (by rw [qAa,lT];lia),←qFi,←qFj,hT,←qFi,←qFj,show A.length+1+B.length-(A.length+1)=B.length from qCc ..,range_cut (by lia),←q5,←hT] at a3
  exact x_asg (e_meth (e_str []) (l_cons a3 l_nil) (join_nil (by lia) _ _)) (sv_flat (s:=none) rfl rfl rfl)
 have c1:evE Φ false [vs L,vs NT.flatten,vs [x],vs [y],ol (T.map .str),t5,vs T.flatten,vs (trn T.flatten),vs PB.flatten] (.call 3 (.cons (.bin .add (.var 6) (.var 1)) .nil))=some (Rs.new (.bool (decide (B.count y≠1))) Tg.z):=by
  refine e_call (l_cons (e_addss (e_vs (n:=T.flatten) rfl) (e_vs (n:=NT.flatten) rfl) (by lia)) l_nil) ?_
  show Φ false 3 [.str (T.flatten++NT.flatten)]=_
  rw [←qBl,hc (T++NT) (fun t ht=>(qAc.mp ht).elim (fun h=>(tokT t h).1) fun h=>(tokN t h).1) (by rw [qBl,qA1];lia),hT,v1]
 have c2:evE Φ false [vs L,vs NT.flatten,vs [x],vs [y],ol (T.map .str),t5,vs T.flatten,vs (trn T.flatten),vs PB.flatten] (.call 3 (.cons (.bin .add (.str [40,34,41,34,93,62,41]) (.var 7)) .nil))=some (Rs.new (.bool (decide (B.count y=2))) Tg.z):=by
  have lt:(trn T.flatten).length≤200:=by unfold trn;rw [sw_len,sw_len,sw_len];exact fT
  refine e_call (l_cons (e_addss (e_str [40,34,41,34,93,62,41]) (e_vs (n:=trn T.flatten) rfl) (by show 7+_≤_;lia)) l_nil) ?_
  show Φ false 3 [.str ([40,34,41,34,93,62,41]++trn T.flatten)]=_
  have et:trn T.flatten=((qAf L.length).map fun i=>trn (pt L x y i)).flatten:=by rw [trn_flat,hT,qBx];rfl
  have e7:([40,34,41,34,93,62,41]:List Nat)++trn T.flatten=([[40],[34],[41],[34],[93],[62],[41]]++(qAf L.length).map fun i=>trn (pt L x y i)).flatten:=by rw [et,qBl];rfl
  rw [e7,hc _ (fun t ht=>?_) (by rw [←e7,qA1];show 7+_<_;lia),v2]
  rcases qAc.mp ht with h|h
  ·have:∀t∈([[40],[34],[41],[34],[93],[62],[41]]:List (List Nat)),∃c,c≠92∧t=[c]:=by
    intro t ht
    simp only [qA6,qB0,or_false] at ht
    rcases ht with h|h|h|h|h|h|h<;>exact⟨_,by decide,h⟩
   exact .inl (this t h)
  ·obtain⟨i,_,rfl⟩:=qBf.mp h
   exact trn_tok L x y i
 have c3:evE Φ false [vs L,vs NT.flatten,vs [x],vs [y],ol (T.map .str),t5,vs T.flatten,vs (trn T.flatten),vs PB.flatten] (.call 3 (.cons (.bin .add (.var 8) (.str [92])) .nil))=some (Rs.new (.bool (decide (B.count y≠1))) Tg.z):=by
  refine e_call (l_cons (e_addss (e_vs (n:=PB.flatten) rfl) (e_str [92]) (by show _+1≤_;lia)) l_nil) ?_
  show Φ false 3 [.str (PB.flatten++[92])]=_
  have e8:PB.flatten++[92]=(PB++[[92]]).flatten:=by rw [qBl];rfl
  rw [e8,hc2 PB (fun t ht=>by
   rw [q5] at ht
   obtain⟨i,_,rfl⟩:=qBf.mp ht
   exact (pt_tok L x y i).1) C.nB (by lia),v3]
 refine hG (run_ret (r:=Rs.new (.list [.bool (decide (B.count y≠1)),.bool (decide (B.count y=2)),.bool (decide (B.count y≠1))]) Tg.z) rfl
  ((x_seq (ρ':=[vs L,vs NT.flatten,vs [x],vs [y],ol [],none,none,none,none]) rfl).trans ((x_seq e2).trans ((x_seq e3).trans ((x_seq e4).trans ((x_seq e5).trans (x_seqr (x_ret (e_list (l_cons c1 (l_cons c2 (l_cons c3 l_nil))))))))))) rfl)
end
noncomputable def G6:List Nat:=[579,29,1,399,66,8]
section
variable {Φ:Fns}{ρ:Env'}{ns:List Int}
theorem lw_given (hl:2<ρ.length)(h0:ρ[0]?=some (some (.list (ns.map .int),.val tb3))) :
  evE Φ false ρ (.comp (.bin .mod (.var 2) (.int 65536)) 2 (.val (.slice (.var 0) .no (.some (.int 10)))) .no)=some (Rs.new (.list (nI ((ns.take 10).map fun x=>(x % 65536).toNat))) Tg.z):=by
 have hs:evE Φ false ρ (.slice (.var 0) .no (.some (.int 10)))=some (Rs.new (.list ((ns.take 10).map .int)) tb3):=by
  rw [q_E_slice,e_var h0]
  show some (Rs.new (.list (slL (ns.map .int) none (some ((10:Nat):Int)) none)) tb3)=_
  rw [slL_to,qFj]
 have hi:evI Φ false ρ (.val (.slice (.var 0) .no (.some (.int 10))))=some ⟨(ns.take 10).map .int,tb3,false⟩:=by
  rw [q_I_val,hs];rfl
 unfold nI
 rw [qBx]
 refine e_comp hi (comp_map (i:=.int) (g:=(fun s:Nat=>D.int (s:Int))∘fun x:Int=>(x % 65536).toNat) fun x hx=>⟨Rs.new (.int (x % 65536)) Tg.z,compF_no ?_,?_,rfl⟩) ?_
 ·exact e_bin (x:=Rs.flat (.int x)) (y:=Rs.flat (.int 65536)) (e_var (d:=.int x) (vt:=.val Tg.z) (qA4 hl)) rfl rfl
 ·show D.int (x % 65536)=D.int (((x % 65536).toNat:Nat):Int)
  rw [qH7 (Int.emod_nonneg x (by decide))]
 ·rw [qAa,qB6];unfold SZ;exact jL [_] [cL xa (eN 10)] (cL xa (eN 16777216)) jT (qCr _ _)
theorem lw_rest {l:List D}(h1:ρ[1]?=some (ol l))(hlen:l.length≤100) :
  evE Φ false ρ (.slice (.list (.cons (.int 579) (.cons (.int 29) (.cons (.int 1) (.cons (.int 399) (.cons (.int 66) (.cons (.int 8) .nil))))))) (.some (.bi .len (.cons (.var 1) .nil))) .no)=some (Rs.new (.list (nI (G6.drop l.length))) Tg.z):=by
 have hlst:evE Φ false ρ (.list (.cons (.int 579) (.cons (.int 29) (.cons (.int 1) (.cons (.int 399) (.cons (.int 66) (.cons (.int 8) .nil)))))))=some (Rs.new (.list (nI G6)) Tg.z):=rfl
 have hn:evE Φ false ρ (.bi .len (.cons (.var 1) .nil))=some (Rs.flat (.int l.length)):=e_bi (l_cons (e_var h1) l_nil) rfl
 refine (e_sll hlst (evO_nat hn (by unfold I63;lia)) (by rw [q_O_no])).trans ?_
 rw [slL_from]
 unfold nI
 rw [qFi];rfl
end
noncomputable abbrev rD (row:List (Nat×Nat)):List D:=row.map fun e=>D.list [.int (e.1:Nat),.int (e.2:Nat)]
noncomputable def insR (gs:List Nat)(k:Nat)(row:List (Nat×Nat)):List (Nat×Nat):=row.take (gs.getD k 0 % (k+1))++(k / 2,gs.getD k 0 / (k+1))::row.drop (gs.getD k 0 % (k+1))
noncomputable def rowF (gs:List Nat):Nat→List (Nat×Nat)
 |0=>[]
 |k+1=>insR gs k (rowF gs k)
theorem insR_perm (gs:List Nat)(k:Nat)(row:List (Nat×Nat)):List.Perm (insR gs k row) ((k / 2,gs.getD k 0 / (k+1))::row):=by
 unfold insR
 refine List.perm_middle.trans ?_
 rw [qAy]
theorem rowF_len (gs:List Nat)(k:Nat):(rowF gs k).length=k:=by
 induction k with
 |zero=>rfl
 |succ k ih=>exact (insR_perm gs k _).length_eq.trans (congrArg qBb ih)
theorem rowF_mem (gs:List Nat)(hg:∀x∈gs,x<65536)(k:Nat):∀e∈rowF gs k,2*e.1<k∧e.2<65536:=by
 induction k with
 |zero=>exact fun _ h=>nomatch h
 |succ k ih=>
  intro e he
  rcases qA6.mp ((insR_perm gs k _).mem_iff.mp he) with h|h
  ·rw [h]
   refine⟨by show 2*(k / 2)<k+1;exact jL [_,_,_] [cQ (eA (eM 2 xa) xb) xc] (cT (eM 2 xa) (eU xc)) jT (qBc _ _),?_⟩
   refine qC9 (Nat.div_le_self _ _) ?_
   rw [qAo]
   rcases hx:gs[k]? with _|x
   ·decide
   ·exact hg x (qFf hx)
  ·exact⟨qD3 (ih e h).1,(ih e h).2⟩
theorem rowF_cnt (gs:List Nat)(k v:Nat):((rowF gs (k+1)).map (·.1)).count v=((rowF gs k).map (·.1)).count v+if k / 2=v then 1 else 0:=by
 show ((insR gs k (rowF gs k)).map (·.1)).count v=_
 rw [((insR_perm gs k (rowF gs k)).map (·.1)).count_eq v,qAh,qE7]
 by_cases h:k / 2=v
 ·rw [if_pos h,if_pos (by rw [h];exact beq_self_eq_true v)]
 ·rw [if_neg h,if_neg (fun z=>h (eq_of_beq z))]
theorem rowF_two (gs:List Nat)(n v:Nat):((rowF gs (2*n)).map (·.1)).count v=if v<n then 2 else 0:=by
 induction n with
 |zero=>rfl
 |succ n ih=>
  rw [show 2*(n+1)=2*n+1+1 from rfl,rowF_cnt,rowF_cnt,ih,show (2*n+1) / 2=n by exact jq [_,_,_] [cQ (eA (eM 2 xa) xb) (eU (eM 2 xc)),cT xb (eN 2)] xa xc [2,1,0] [2,1,1] jT jT (qBc _ _) (qC6 _ (qBi _)),show 2*n / 2=n by exact jq [_,_,_] [cQ (eA (eM 2 xa) xb) (eM 2 xc),cT xb (eN 2)] xa xc [2,1,0] [2,1,1] jT jT (qBc _ _) (qC6 _ (qBi _))]
  by_cases h:n=v
  ·rw [if_pos h,if_neg (by exact (fun e_=>jL [_,_] [cQ xa xb,cT xb xa] cF jT h e_)),if_pos (by exact jL [_,_] [cR xa xb] (cT xb (eU xa)) jT h)]
  ·rw [if_neg h]
   by_cases h2:v<n
   ·rw [if_pos h2,if_pos (qD3 h2)]
   ·rw [if_neg h2,if_neg (by lia)]
section
variable {Φ:Fns}{ρ:Env'}{gs:List Nat}
noncomputable def lwR:PSs:=(.cons (.ins 3 (.bin .mod (.idx (.var 1) (.var 4)) (.bin .add (.var 4) (.int 1))) (.list (.cons (.bin .fdiv (.var 4) (.int 2)) (.cons (.bin .fdiv (.idx (.var 1) (.var 4)) (.bin .add (.var 4) (.int 1))) .nil)))) .nil)
theorem lw_ins {k:Nat}{row:List (Nat×Nat)}{s4:Slot}(h1:ρ[1]?=some (ol (nI gs)))(h3:ρ[3]?=some (ol (rD row)))(h4:ρ[4]?=some s4)(hp:pinned s4=false)(hk:k<gs.length)(hk2:k<1000)(hr:row.length=k) :
  bodyF Φ false 4 Tg.z lwR ρ (.int k)=some (.next,(ρ.set 4 (vi k)).set 3 (ol (rD (insR gs k row)))):=by
 obtain⟨ρ',hρ'⟩:∃ρ',ρ'=ρ.set 4 (vi k):=⟨_,rfl⟩
 have h4l:4<ρ.length:=(qAk.mp h4).1
 have v4:ρ'[4]?=some (vi k):=by rw [hρ'];exact qA4 h4l
 have v1:ρ'[1]?=some (ol (nI gs)):=by rw [hρ',qB1 (by decide)];exact h1
 have v3:ρ'[3]?=some (ol (rD row)):=by rw [hρ',qB1 (by decide)];exact h3
 have e0:bodyF Φ false 4 Tg.z lwR ρ (.int k)=exSs Φ false ρ' lwR:=by
  unfold bodyF
  rw [sv_flat (s:=s4) h4 hp rfl,hρ']
  rfl
 have i1:evE Φ false ρ' (.idx (.var 1) (.var 4))=some ⟨.int ((gs.getD k 0:Nat):Int),Tg.z,false⟩:=by
  refine e_idx_nat (ds:=nI gs) (k:=k) (t:=⟨true,false,false⟩) (f:=false) (t2:=Tg.z) (f2:=false) (e_var v1) (e_vi v4) ?_
  rw [qC4,qAb hk,qAo,qAb hk];rfl
 have k1:evE Φ false ρ' (.bin .add (.var 4) (.int 1))=some ⟨.int ((k+1:Nat):Int),Tg.z,true⟩:=e_addi (e_vi v4) (e_int 1)
 have m1:evE Φ false ρ' (.bin .mod (.idx (.var 1) (.var 4)) (.bin .add (.var 4) (.int 1)))=some ⟨.int ((gs.getD k 0 % (k+1):Nat):Int),Tg.z,true⟩:=by
  refine (e_mod i1 k1 (qF9.mpr (qBi k))).trans ?_
  rw [←qGl]
 have d1:evE Φ false ρ' (.bin .fdiv (.var 4) (.int 2))=some ⟨.int ((k / 2:Nat):Int),Tg.z,true⟩:=e_fdiv (e_vi v4) (e_int 2) (by decide)
 have d2:evE Φ false ρ' (.bin .fdiv (.idx (.var 1) (.var 4)) (.bin .add (.var 4) (.int 1)))=some ⟨.int ((gs.getD k 0 / (k+1):Nat):Int),Tg.z,true⟩:=by
  refine (e_fdiv i1 k1 ⟨qF9.mpr (qBi k),by lia⟩).trans ?_
  rw [←Int.natCast_ediv]
 have hl:=e_list (l_cons d1 (l_cons d2 l_nil))
 have hi:exS Φ false ρ' (.ins 3 (.bin .mod (.idx (.var 1) (.var 4)) (.bin .add (.var 4) (.int 1))) (.list (.cons (.bin .fdiv (.var 4) (.int 2)) (.cons (.bin .fdiv (.idx (.var 1) (.var 4)) (.bin .add (.var 4) (.int 1))) .nil))))=some (.next,ρ'.set 3 (ol (rD (insR gs k row)))):=by
  rw [q_S_ins,m1,hl]
  simp only [v3]
  show (if (0:Int)≤((gs.getD k 0 % (k+1):Nat):Int)∧((gs.getD k 0 % (k+1):Nat):Int)≤((rD row).length:Nat)∧(rD row).length+1≤SZ then some (Fl.next,ρ'.set 3 (some (.list ((rD row).take ((gs.getD k 0 % (k+1):Nat):Int).toNat++D.list [.int ((k / 2:Nat):Int),.int ((gs.getD k 0 / (k+1):Nat):Int)]::(rD row).drop ((gs.getD k 0 % (k+1):Nat):Int).toNat),.own false))) else none)=_
  have hm:=qC6 (gs.getD k 0) (qBi k)
  rw [if_pos ⟨Int.natCast_nonneg _,qGr.mpr (by rw [qAa,hr];exact qG8 hm),by rw [qAa,hr];unfold SZ;exact jL [_] [cT xa (eN 1000)] (cL (eU xa) (eN 16777216)) jT hk2⟩,qD2]
  unfold insR rD
  rw [qAt,qAh,qFj,qFi]
 rw [e0]
 exact (x_seq hi).trans (by rw [hρ'];rfl)
theorem lw_inss (hl:gs.length<1000):∀(n k:Nat) (ρ:Env') (s4:Slot),ρ[1]?=some (ol (nI gs))→ρ[3]?=some (ol (rD (rowF gs k)))→ρ[4]?=some s4→pinned s4=false→k+n≤gs.length→
  ∃ρ' s4',forS (bodyF Φ false 4 Tg.z lwR) ((qAm k n).map fun k:Nat=>.int (k:Int)) ρ=some (.next,ρ')∧ρ'[3]?=some (ol (rD (rowF gs (k+n))))∧ρ'[4]?=some s4'∧pinned s4'=false∧ρ'.length=ρ.length∧∀i,i≠3→i≠4→ρ'[i]?=ρ[i]?
 |0,k,ρ,s4,h1,h3,h4,hp,h=>⟨ρ,s4,rfl,h3,h4,hp,rfl,fun _ _ _=>rfl⟩
 |n+1,k,ρ,s4,h1,h3,h4,hp,h=>by
  have h4l:4<ρ.length:=(qAk.mp h4).1
  have e:=lw_ins (Φ:=Φ) h1 h3 h4 hp (show k<gs.length by exact jL [_,_,_] [cL (eA xa (eU xb)) xc] (cT xa xc) jT h) (by exact jL [_,_,_] [cT xa (eN 1000),cL (eA xb (eU xc)) xa] (cT xb (eN 1000)) jT hl h) (rowF_len gs k)
  obtain⟨ρ1,hρ1⟩:∃ρ1,ρ1=(ρ.set 4 (vi k)).set 3 (ol (rD (insR gs k (rowF gs k)))):=⟨_,rfl⟩
  rw [←hρ1] at e
  have o:∀i,i≠3→i≠4→ρ1[i]?=ρ[i]?:=fun i a b=>by rw [hρ1,qB1 (qBz a),qB1 (qBz b)]
  have a3:ρ1[3]?=some (ol (rD (rowF gs (k+1)))):=by rw [hρ1,qA4 (by rw [qAv];exact qAq h4l)];rfl
  have a4:ρ1[4]?=some (vi k):=by rw [hρ1,qB1 (by decide),qA4 h4l]
  obtain⟨ρ',s4',f,b3,b4,bp,bl,bo⟩:=lw_inss hl n (k+1) ρ1 (vi k) ((o 1 (by decide) (by decide)).trans h1) a3 a4 rfl (jL [_,_,_] [cL (eA xa (eU xb)) xc] (cL (eA (eU xa) xb) xc) jT h)
  refine⟨ρ',s4',?_,?_,b4,bp,bl.trans (by rw [hρ1,qAv,qAv]),fun i a b=>(bo i a b).trans (o i a b)⟩
  ·rw [qBt,qAh,forS_c,e]
   exact f
  ·rw [b3,show k+1+n=k+(n+1) by exact jQ [_,_] [] (eA (eU xa) xb) (eA xa (eU xb)) jT jT]
end
section
variable {Φ:Fns}{ρ:Env'}
theorem pair_idx {v:Nat}{a b:Nat}{ρ:Env'}{t:Tg}(h:ρ[v]?=some (some (.list [.int (a:Nat),.int (b:Nat)],.val t))):evE Φ true ρ (.idx (.var v) (.int 0))=some (Rs.val (.int (a:Nat)) t.item)∧evE Φ true ρ (.idx (.var v) (.int 1))=some (Rs.val (.int (b:Nat)) t.item):=
 ⟨e_idx_nat (k:=0) (e_var h) (e_int 0) rfl,e_idx_nat (k:=1) (e_var h) (e_int 1) rfl⟩
theorem i_own {i:Nat}{l:List D}(h:ρ[i]?=some (ol l)):evI Φ false ρ (.val (.var i))=some ⟨l,⟨false,false,false⟩,true⟩:=i_var (b:=false) h
theorem lw_text {row:List (Nat×Nat)}(h3:ρ[3]?=some (ol (rD row)))(h7:7<ρ.length)(hr:∀e∈row,e.1<5∧e.2<100000)(hl:row.length≤100)(h5:∀q v f,v<5→f<100000→Φ q 5 [.int (v:Nat),.int (f:Nat)]=some (.str (spell v f))) :
  evE Φ false ρ (.meth .join (.str []) (.cons (.comp (.call 5 (.cons (.idx (.var 7) (.int 0)) (.cons (.idx (.var 7) (.int 1)) .nil))) 7 (.val (.var 3)) .no) .nil))=some (Rs.flat (.str (row.map fun e=>spell e.1 e.2).flatten)):=by
 have hc:evE Φ false ρ (.comp (.call 5 (.cons (.idx (.var 7) (.int 0)) (.cons (.idx (.var 7) (.int 1)) .nil))) 7 (.val (.var 3)) .no)=some (Rs.new (.list ((row.map fun e=>spell e.1 e.2).map .str)) Tg.z):=by
  rw [qBx]
  refine e_comp (i_own h3) (comp_map (i:=fun e:Nat×Nat=>D.list [.int (e.1:Nat),.int (e.2:Nat)]) (g:=D.str∘fun e=>spell e.1 e.2) fun e he=>⟨Rs.new (.str (spell e.1 e.2)) Tg.z,compF_no ?_,rfl,rfl⟩) ?_
  ·obtain⟨a,b⟩:=pair_idx (Φ:=Φ) (v:=7) (a:=e.1) (b:=e.2) (t:=⟨false,false,false⟩) (ρ:=ρ.set 7 (some (.list [.int (e.1:Nat),.int (e.2:Nat)],.val (eff (.list [.int (e.1:Nat),.int (e.2:Nat)]) ⟨false,false,false⟩)))) (qA4 h7)
   exact e_call (l_cons a (l_cons b l_nil)) (h5 true e.1 e.2 (hr e he).1 (hr e he).2)
  ·rw [qAa];unfold SZ;exact jL [_] [cL xa (eN 100)] (cL xa (eN 16777216)) jT hl
 refine e_meth (e_str []) (l_cons hc l_nil) (join_nil ?_ _ _)
 have hf:=flat_le (row.map fun e=>spell e.1 e.2) 2 fun r hr'=>?_
 ·rw [qAa] at hf
  exact qC9 hf (by lia)
 obtain⟨e,_,rfl⟩:=qBf.mp hr'
 unfold spell
 rw [qA1]
 split
 ·exact qA7 _
 ·exact qAj 1
theorem lw_read {row:List (Nat×Nat)}{L:List Nat}{G:List Bool}{s5 s6:Slot}(h3:ρ[3]?=some (ol (rD row)))(h5:ρ[5]?=some s5)(p5:pinned s5=false)(h6:ρ[6]?=some s6)(p6:pinned s6=false)(h7:7<ρ.length)(hr:∀e∈row,e.1<5∧e.2<100000)(hl:row.length≤100)
  (f5:∀q v f,v<5→f<100000→Φ q 5 [.int (v:Nat),.int (f:Nat)]=some (.str (spell v f))) (f6:Φ false 6 [.str (row.map fun e=>spell e.1 e.2).flatten]=some (.list [.str L,.list (G.map .bool)])) :
  exS Φ false ρ (.unpack [5,6] (.call 6 (.cons (.meth .join (.str []) (.cons (.comp (.call 5 (.cons (.idx (.var 7) (.int 0)) (.cons (.idx (.var 7) (.int 1)) .nil))) 7 (.val (.var 3)) .no) .nil)) .nil))) =
   some (.next,(ρ.set 5 (vs L)).set 6 (some (.list (G.map .bool),.val Tg.z))):=
 x_unpack2 (d1:=.str L) (d2:=.list (G.map .bool)) (e_call (l_cons (lw_text h3 h7 hr hl f5) l_nil) f6) rfl rfl (sv_flat h5 p5 rfl) (sv_list (s:=s6) (by rw [qB1 (by decide)];exact h6) p6)
theorem lw_plain {row:List (Nat×Nat)}(h3:ρ[3]?=some (ol (rD row)))(h5:ρ[5]?=some (vs (row.map fun e=>97+e.1)))(h7:7<ρ.length)(hr:∀e∈row,e.1<5∧e.2<100000)(hl:row.length≤100) :
  exS Φ false ρ (.if_ (.cmp .ne (.var 5) (.meth .join (.str []) (.cons (.comp (.bi .chr (.cons (.bin .add (.int 97) (.idx (.var 7) (.int 0))) .nil)) 7 (.val (.var 3)) .no) .nil))) (.cons (.ret (.bool false)) .nil) .nil)=some (.next,ρ):=by
 have hc:evE Φ false ρ (.comp (.bi .chr (.cons (.bin .add (.int 97) (.idx (.var 7) (.int 0))) .nil)) 7 (.val (.var 3)) .no)=some (Rs.new (.list ((row.map fun e=>[97+e.1]).map .str)) Tg.z):=by
  rw [qBx]
  refine e_comp (i_own h3) (comp_map (i:=fun e:Nat×Nat=>D.list [.int (e.1:Nat),.int (e.2:Nat)]) (g:=D.str∘fun e=>[97+e.1]) fun e he=>⟨Rs.flat (.str [97+e.1]),compF_no ?_,rfl,rfl⟩) ?_
  ·obtain⟨a,_⟩:=pair_idx (Φ:=Φ) (v:=7) (a:=e.1) (b:=e.2) (t:=⟨false,false,false⟩) (ρ:=ρ.set 7 (some (.list [.int (e.1:Nat),.int (e.2:Nat)],.val (eff (.list [.int (e.1:Nat),.int (e.2:Nat)]) ⟨false,false,false⟩)))) (qA4 h7)
   exact e_chr (n:=97+e.1) (t:=Tg.z) (f:=true) (e_addi (e_int 97) a) (by have:=(hr e he).1;exact jL [_] [cT xa (eN 5)] (cT (eA (eN 97) xa) (eN 1000000)) jT this)
  ·rw [qAa];unfold SZ;exact jL [_] [cL xa (eN 100)] (cL xa (eN 16777216)) jT hl
 have hj:evE Φ false ρ (.meth .join (.str []) (.cons (.comp (.bi .chr (.cons (.bin .add (.int 97) (.idx (.var 7) (.int 0))) .nil)) 7 (.val (.var 3)) .no) .nil))=some (Rs.flat (.str (row.map fun e=>97+e.1))):=by
  have ef:(row.map fun e=>[97+e.1]).flatten=row.map fun e=>97+e.1:=by
   clear h3 h5 hr hl hc
   induction row with
   |nil=>rfl
   |cons a r ih=>rw [qAh,qBe,ih];rfl
  rw [←ef]
  refine e_meth (e_str []) (l_cons hc l_nil) (join_nil ?_ _ _)
  rw [ef,qAa];exact jL [_] [cL xa (eN 100)] (cT xa (eN 2000000)) jT hl
 have ht:evT Φ false ρ (.cmp .ne (.var 5) (.meth .join (.str []) (.cons (.comp (.bi .chr (.cons (.bin .add (.int 97) (.idx (.var 7) (.int 0))) .nil)) 7 (.val (.var 3)) .no) .nil)))=some false:=by
  refine t_cmp (e_vs h5) hj ?_
  show some (!decide ((row.map fun e=>97+e.1)=(row.map fun e=>97+e.1)))=_
  rw [decide_eq_true rfl];rfl
 exact (x_iff ht).trans rfl
theorem lw_names {row:List (Nat×Nat)}{n:Nat}{s8:Slot}(h3:ρ[3]?=some (ol (rD row)))(h8:ρ[8]?=some s8)(p8:pinned s8=false)(hl:row.length=2*n)(hn:n<1000) :
  exS Φ false ρ (.asg 8 (.slice (.str [97,98,99,100,101]) .no (.some (.bin .fdiv (.bi .len (.cons (.var 3) .nil)) (.int 2)))))=some (.next,ρ.set 8 (vs ([97,98,99,100,101].take n))):=by
 have n3:evE Φ false ρ (.bi .len (.cons (.var 3) .nil))=some (Rs.flat (.int ((rD row).length:Nat))):=ex_lenl (e_var h3)
 rw [qAa,hl] at n3
 have d:evE Φ false ρ (.bin .fdiv (.bi .len (.cons (.var 3) .nil)) (.int 2))=some ⟨.int (n:Int),Tg.z,true⟩:=by
  refine (e_fdiv (i:=((2*n:Nat):Int)) n3 (e_int 2) (by decide)).trans ?_
  rw [show ((2*n:Nat):Int) / 2=n by lia]
 refine x_asg (e_sl (e_str [97,98,99,100,101]) (by rw [q_O_no]) (evO_n d (jL [_] [cT xa (eN 1000)] (cT xa (eN 1000000)) jT hn))) ?_
 rw [slL_to]
 exact sv_flat h8 p8 rfl
end
noncomputable abbrev wC (L:List Nat):List Nat:=(qAf L.length).map (dyk L)
noncomputable abbrev wT (L:List Nat):List (List Nat):=(wC L).map fun c=>[c]
theorem flat_one (l:List Nat):(l.map fun c=>[c]).flatten=l:=by
 induction l with
 |nil=>rfl
 |cons a r ih=>rw [qAh,qBe,ih];rfl
theorem nest_eq (L:List Nat)(n:Nat):((wT L).take n++[34]::([[44],[91],[60]]++(wT L).drop n)).flatten=(wC L).take n++[34,44,91,60]++(wC L).drop n:=by
 rw [qBl,qBe,qBl,←qFj,←qFi,flat_one,flat_one,qAe]
 rfl
section
variable {Φ:Fns}{ρ:Env'}{L:List Nat}
theorem lw_nest {s9:Slot}(h5:ρ[5]?=some (vs L))(h9:ρ[9]?=some s9)(p9:pinned s9=false)(h10:10<ρ.length)(hl:L.length≤100) :
  exS Φ false ρ (.asg 9 (.meth .join (.str []) (.cons (.comp (.ife (.cmp .in_ (.idx (.var 5) (.var 10)) (.slice (.var 5) .no (.some (.var 10)))) (.str [41]) (.str [40])) 10 (.range1 (.bi .len (.cons (.var 5) .nil))) .no) .nil)))=some (.next,ρ.set 9 (vs (wC L))):=by
 have n5:evE Φ false ρ (.bi .len (.cons (.var 5) .nil))=some (Rs.flat (.int (L.length:Nat))):=ex_len (e_vs h5)
 have hc:evE Φ false ρ (.comp (.ife (.cmp .in_ (.idx (.var 5) (.var 10)) (.slice (.var 5) .no (.some (.var 10)))) (.str [41]) (.str [40])) 10 (.range1 (.bi .len (.cons (.var 5) .nil))) .no)=some (Rs.new (.list ((wT L).map .str)) Tg.z):=by
  rw [qBx,qBx]
  refine e_comp (i_range1 n5 (jL [_] [cL xa (eN 100)] (cT xa (eN 100000)) jT hl)) (comp_map (g:=(D.str∘fun c=>[c])∘dyk L) fun k hk=>⟨⟨.str [dyk L k],Tg.z,false⟩,compF_no ?_,rfl,rfl⟩) ?_
  ·have hkl:=qC7.mp hk
   obtain⟨ρ',hρ'⟩:∃ρ':Env',ρ'=ρ.set 10 (some (.int k,.val (eff (.int k) Tg.z))):=⟨_,rfl⟩
   have v10:ρ'[10]?=some (vi k):=by rw [hρ'];exact qA4 h10
   have v5:ρ'[5]?=some (vs L):=by rw [hρ',qB1 (by decide)];exact h5
   show evE Φ true (ρ.set 10 (some (.int k,.val (eff (.int k) Tg.z)))) _=_
   rw [←hρ']
   have i5:evE Φ true ρ' (.idx (.var 5) (.var 10))=some (Rs.flat (.str [L.getD k 0])):=e_idxs (e_vs v5) (e_vi v10) hkl
   have c:evT Φ true ρ' (.cmp .in_ (.idx (.var 5) (.var 10)) (.slice (.var 5) .no (.some (.var 10))))=some ((L.take k).contains (L.getD k 0)):=by
    refine t_cmp i5 (e_sl (e_vs v5) (by rw [q_O_no]) (evO_n (e_vi v10) (jL [_,_] [cL xa (eN 100),cT xb xa] (cT xb (eN 1000000)) jT hl hkl))) ?_
    show some (inS [L.getD k 0] (slL L none (some (k:Int)) none))=_
    rw [slL_to,inS_one]
   unfold dyk
   by_cases h:(L.take k).contains (L.getD k 0)=true
   ·rw [if_pos h]
    rw [h] at c
    exact (e_ift c).trans (e_str [41])
   ·rw [if_neg h]
    rw [qC5.mpr h] at c
    exact (e_iff c).trans (e_str [40])
  ·rw [qAa,qBp];unfold SZ;exact jL [_] [cL xa (eN 100)] (cL xa (eN 16777216)) jT hl
 have hj:evE Φ false ρ (.meth .join (.str []) (.cons (.comp (.ife (.cmp .in_ (.idx (.var 5) (.var 10)) (.slice (.var 5) .no (.some (.var 10)))) (.str [41]) (.str [40])) 10 (.range1 (.bi .len (.cons (.var 5) .nil))) .no) .nil))=some (Rs.flat (.str (wC L))):=by
  have hf:=flat_one (wC L)
  have:=e_meth (e_str (q:=false) (Φ:=Φ) (ρ:=ρ) []) (l_cons hc l_nil) (join_nil (R:=wT L) (by rw [hf,qAa,qBp];exact jL [_] [cL xa (eN 100)] (cT xa (eN 2000000)) jT hl) _ _)
  rw [hf] at this
  exact this
 exact x_asg hj (sv_flat h9 p9 rfl)
theorem lw_nest2 {n:Nat}{N:List Nat}(h8:ρ[8]?=some (vs N))(hn:N.length=n)(h9:ρ[9]?=some (vs (wC L)))(hl:L.length≤100)(hnl:n≤100) :
  exS Φ false ρ (.asg 9 (.bin .add (.bin .add (.slice (.var 9) .no (.some (.bi .len (.cons (.var 8) .nil)))) (.str [34,44,91,60])) (.slice (.var 9) (.some (.bi .len (.cons (.var 8) .nil))) .no))) =
   some (.next,ρ.set 9 (vs ((wT L).take n++[34]::([[44],[91],[60]]++(wT L).drop n)).flatten)):=by
 have n8:evE Φ false ρ (.bi .len (.cons (.var 8) .nil))=some (Rs.flat (.int (N.length:Nat))):=ex_len (e_vs h8)
 rw [hn] at n8
 have a1:evE Φ false ρ (.slice (.var 9) .no (.some (.bi .len (.cons (.var 8) .nil))))=some (Rs.flat (.str ((wC L).take n))):=by
  rw [←slL_to]
  exact e_sl (e_vs h9) (by rw [q_O_no]) (evO_n n8 (jL [_] [cL xa (eN 100)] (cT xa (eN 1000000)) jT hnl))
 have a2:evE Φ false ρ (.slice (.var 9) (.some (.bi .len (.cons (.var 8) .nil))) .no)=some (Rs.flat (.str ((wC L).drop n))):=by
  rw [←slL_from]
  exact e_sl (e_vs h9) (evO_n n8 (jL [_] [cL xa (eN 100)] (cT xa (eN 1000000)) jT hnl)) (by rw [q_O_no])
 have hw:(wC L).length=L.length:=by rw [qAa,qBp]
 rw [nest_eq]
 refine x_asg (e_addss (e_addss a1 (e_str [34,44,91,60]) ?_) a2 ?_) (sv_flat h9 rfl rfl)
 ·rw [qB6];exact qA9 (qDk (qCr ..) 4) (qA9 (qDk hnl 4) (by decide))
 ·have e:((wC L).take n).length+((wC L).drop n).length=L.length:=by rw [←qA1,qAy,hw]
  rw [qA1,qCu,e];show _+4≤_;exact qA9 (qDk hl 4) (by decide)
theorem lw_nil {v:Nat}{s:Slot}(h:ρ[v]?=some s)(p:pinned s=false):exS Φ false ρ (.asg v (.list .nil))=some (.next,ρ.set v (ol [])):=
 x_asg (e_list l_nil) (sv_new h p)
end
end Mine
end

section
open PySem PyProof.Rows
namespace Mine
set_option maxRecDepth 100000
set_option genSizeOf false
set_option genInjectivity false
noncomputable abbrev oB (T:List Bool):Slot:=ol (T.map .bool)
noncomputable abbrev oS (C:List (List Nat)):Slot:=ol (C.map .str)
noncomputable def scrL:List Nat:=[2,16,17,18,19,20,21,22,23,24,25,26,27]
structure LW (L N nest:List Nat)(g6:Slot)(ρ:Env')(T1 T2:List Bool)(C1 C2:List (List Nat)):Prop where
 len:ρ.length=28
 a5:ρ[5]?=some (vs L)
 a6:ρ[6]?=some g6
 a8:ρ[8]?=some (vs N)
 a9:ρ[9]?=some (vs nest)
 a11:ρ[11]?=some (oB T1)
 a12:ρ[12]?=some (oB T2)
 a13:ρ[13]?=some (oS C1)
 a14:ρ[14]?=some (oS C2)
 scr:∀i∈scrL,∃s,ρ[i]?=some s∧pinned s=false
section
variable {L N nest:List Nat}{g6:Slot}{ρ:Env'}{T1 T2:List Bool}{C1 C2:List (List Nat)}
theorem set_ne {i j:Nat}{s:Slot}(h:i≠j):(ρ.set i s)[j]?=ρ[j]?:=qB1 h
theorem LW.scr' (H:LW L N nest g6 ρ T1 T2 C1 C2){i:Nat}(hi:i∈scrL){s:Slot}(hs:pinned s=false):LW L N nest g6 (ρ.set i s) T1 T2 C1 C2:=by
 have ne:∀j,j∉scrL→i≠j:=fun j hj e=>hj (e▸hi)
 have hl:i<ρ.length:=by obtain⟨s,h,_⟩:=H.scr i hi;exact (qAk.mp h).1
 refine⟨qAv.trans H.len,(set_ne (ne 5 (by decide))).trans H.a5,(set_ne (ne 6 (by decide))).trans H.a6,(set_ne (ne 8 (by decide))).trans H.a8,(set_ne (ne 9 (by decide))).trans H.a9,(set_ne (ne 11 (by decide))).trans H.a11,(set_ne (ne 12 (by decide))).trans H.a12,(set_ne (ne 13 (by decide))).trans H.a13,(set_ne (ne 14 (by decide))).trans H.a14,fun j hj=>?_⟩
 by_cases e:i=j
 ·subst e;exact⟨s,qA4 hl,hs⟩
 ·rw [set_ne e];exact H.scr j hj
theorem LW.keep (H:LW L N nest g6 ρ T1 T2 C1 C2){i:Nat}{s:Slot}(hi:i∉scrL)(h5:i≠5)(h6:i≠6)(h8:i≠8)(h9:i≠9){T1' T2':List Bool}{C1' C2':List (List Nat)}
  (b11:(ρ.set i s)[11]?=some (oB T1')) (b12:(ρ.set i s)[12]?=some (oB T2')) (b13:(ρ.set i s)[13]?=some (oS C1')) (b14:(ρ.set i s)[14]?=some (oS C2')):LW L N nest g6 (ρ.set i s) T1' T2' C1' C2':=
 ⟨qAv.trans H.len,(set_ne h5).trans H.a5,(set_ne h6).trans H.a6,(set_ne h8).trans H.a8,(set_ne h9).trans H.a9,b11,b12,b13,b14,fun j hj=>by rw [set_ne (show i≠j from fun e=>hi (by rw [e];exact hj))];exact H.scr j hj⟩
theorem LW.t1 (H:LW L N nest g6 ρ T1 T2 C1 C2)(T:List Bool):LW L N nest g6 (ρ.set 11 (oB T)) T T2 C1 C2:=
 H.keep (by decide) (by decide) (by decide) (by decide) (by decide) (qA4 (by rw [H.len];decide)) ((set_ne (by decide)).trans H.a12) ((set_ne (by decide)).trans H.a13) ((set_ne (by decide)).trans H.a14)
theorem LW.t2 (H:LW L N nest g6 ρ T1 T2 C1 C2)(T:List Bool):LW L N nest g6 (ρ.set 12 (oB T)) T1 T C1 C2:=
 H.keep (by decide) (by decide) (by decide) (by decide) (by decide) ((set_ne (by decide)).trans H.a11) (qA4 (by rw [H.len];decide)) ((set_ne (by decide)).trans H.a13) ((set_ne (by decide)).trans H.a14)
theorem LW.c1 (H:LW L N nest g6 ρ T1 T2 C1 C2)(C:List (List Nat)):LW L N nest g6 (ρ.set 13 (oS C)) T1 T2 C C2:=
 H.keep (by decide) (by decide) (by decide) (by decide) (by decide) ((set_ne (by decide)).trans H.a11) ((set_ne (by decide)).trans H.a12) (qA4 (by rw [H.len];decide)) ((set_ne (by decide)).trans H.a14)
theorem LW.c2 (H:LW L N nest g6 ρ T1 T2 C1 C2)(C:List (List Nat)):LW L N nest g6 (ρ.set 14 (oS C)) T1 T2 C1 C:=
 H.keep (by decide) (by decide) (by decide) (by decide) (by decide) ((set_ne (by decide)).trans H.a11) ((set_ne (by decide)).trans H.a12) ((set_ne (by decide)).trans H.a13) (qA4 (by rw [H.len];decide))
theorem LW.get (_:LW L N nest g6 ρ T1 T2 C1 C2){i j:Nat}{s t:Slot}(h:ρ[j]?=some t)(e:i≠j):(ρ.set i s)[j]?=some t:=(set_ne e).trans h
end

section
variable {Φ:Fns}{q:Bool}{ρ:Env'}
theorem x_unpack3 {ρ₁ ρ₂ ρ₃:Env'}{v1 v2 v3:Nat}{e:PE}{d1 d2 d3:D}{r:Rs}(h:evE Φ q ρ e=some r)(hr:r.d=.list [d1,d2,d3])(ht:r.t=Tg.z)(h1:setV ρ v1 (Rs.val d1 Tg.z)=some ρ₁)(h2:setV ρ₁ v2 (Rs.val d2 Tg.z)=some ρ₂)(h3:setV ρ₂ v3 (Rs.val d3 Tg.z)=some ρ₃) :
  exS Φ q ρ (.unpack [v1,v2,v3] e)=some (.next,ρ₃):=by
 rw [q_S_unpack,h]
 obtain⟨d,t,f⟩:=r
 obtain rfl:d=.list [d1,d2,d3]:=hr
 obtain rfl:t=Tg.z:=ht
 have e:setAll ρ [v1,v2,v3] [d1,d2,d3] Tg.z=(setV ρ v1 (Rs.val d1 Tg.z)).bind fun ρ₁=>(setV ρ₁ v2 (Rs.val d2 Tg.z)).bind fun ρ₂=>(setV ρ₂ v3 (Rs.val d3 Tg.z)).bind fun ρ₃=>some ρ₃:=by kernel_rfl
 rw [h1,qDb,h2,qDb,h3] at e
 show (match setAll ρ [v1,v2,v3] [d1,d2,d3] Tg.z with|some ρ'=>some (Fl.next,ρ')|none=>none)=_
 rw [e];rfl
theorem e_vb {i:Nat}{b:Bool}(h:ρ[i]?=some (vb b)):evE Φ q ρ (.var i)=some ⟨.bool b,Tg.z,false⟩:=e_var h
theorem add_b3 {v i j k:Nat}{a b c:Bool}{T:List Bool}(hv:ρ[v]?=some (oB T))(hi:ρ[i]?=some (vb a))(hj:ρ[j]?=some (vb b))(hk:ρ[k]?=some (vb c))(hl:T.length<1000) :
  exS Φ q ρ (.aug v .add (.list (.cons (.var i) (.cons (.var j) (.cons (.var k) .nil)))))=some (.next,ρ.set v (oB (T++[a,b,c]))):=by
 refine (x_augl (b:=false) (ds:=T.map .bool) (es:=[.bool a,.bool b,.bool c]) hv (e_list (l_cons (e_vb hi) (l_cons (e_vb hj) (l_cons (e_vb hk) l_nil)))) rfl (by rw [qAa];unfold SZ;show _+3≤_;exact jL [_] [cT xa (eN 1000)] (cL (eA xa (eN 3)) (eN 16777216)) jT hl) rfl).trans ?_
 unfold oB
 rw [qAt];rfl
theorem add_s2 {v i j:Nat}{x y:Nat}{C:List (List Nat)}(hv:ρ[v]?=some (oS C))(hi:ρ[i]?=some (vs [x]))(hj:ρ[j]?=some (vs [y]))(hl:C.length<1000) :
  exSs Φ q ρ (.cons (.aug v .add (.list (.cons (.bin .add (.var i) (.var j)) (.cons (.bin .add (.var j) (.var i)) .nil)))) .nil)=some (.next,ρ.set v (oS (C++[[x,y],[y,x]]))):=by
 have a1:=e_addss (e_vs (Φ:=Φ) (q:=q) hi) (e_vs hj) (show 2≤1000000 by decide)
 have a2:=e_addss (e_vs (Φ:=Φ) (q:=q) hj) (e_vs hi) (show 2≤1000000 by decide)
 refine (x_seq ((x_augl (b:=false) (ds:=C.map .str) (es:=[.str [x,y],.str [y,x]]) hv (e_list (l_cons a1 (l_cons a2 l_nil))) rfl (by rw [qAa];unfold SZ;show _+2≤_;exact jL [_] [cT xa (eN 1000)] (cL (eA xa (eN 2)) (eN 16777216)) jT hl) rfl).trans ?_)).trans rfl
 unfold oS
 rw [qAt];rfl
end
noncomputable def lwX:PSs:=(.cons (.unpack [18,19,20] (.call 7 (.cons (.var 5) (.cons (.var 9) (.cons (.var 2) (.cons (.var 15) .nil))))))
     (.cons (.unpack [21,22] (.call 8 (.cons (.var 5) (.cons (.var 2) (.cons (.var 15) .nil)))))
     (.cons (.aug 11 .add (.list (.cons (.var 19) (.cons (.var 20) (.cons (.var 21) .nil)))))
     (.cons (.aug 12 .add (.list (.cons (.var 22) (.cons (.var 18) (.cons (.var 21) .nil)))))
     (.cons (.if_ (.not (.val (.var 18))) (.cons (.aug 13 .add (.list (.cons (.bin .add (.var 2) (.var 15)) (.cons (.bin .add (.var 15) (.var 2)) .nil))))
       .nil) .nil)
     (.cons (.if_ (.val (.var 21)) (.cons (.aug 14 .add (.list (.cons (.bin .add (.var 2) (.var 15)) (.cons (.bin .add (.var 15) (.var 2)) .nil))))
       .nil) .nil)
     .nil))))))
noncomputable def tA (b:Nat):List Bool:=[decide (b=2),decide (b≠1),decide (b=1)]
noncomputable def cA (b x y:Nat):List (List Nat):=if b=1 then [[x,y],[y,x]] else []
section
variable {Φ:Fns}{L N nest:List Nat}{g6:Slot}{ρ:Env'}{T:List Bool}{C:List (List Nat)}
theorem lw_pair (H:LW L N nest g6 ρ T T C C){x y b:Nat}(h15:ρ[15]?=some (vs [y]))(hT:T.length<900)(hC:C.length<900)
  (f7:Φ false 7 [.str L,.str nest,.str [x],.str [y]]=some (.list [.bool (decide (b≠1)),.bool (decide (b=2)),.bool (decide (b≠1))])) (f8:Φ false 8 [.str L,.str [x],.str [y]]=some (.list [.bool (decide (b=1)),.bool (decide (b=2))])) :
  ∃ρ',bodyF Φ false 2 Tg.z lwX ρ (.str [x])=some (.next,ρ')∧LW L N nest g6 ρ' (T++tA b) (T++tA b) (C++cA b x y) (C++cA b x y)∧ρ'[15]?=some (vs [y]):=by
 obtain⟨s2,a2,p2⟩:=H.scr 2 (by decide)
 obtain⟨r0,hr0⟩:∃r0,r0=ρ.set 2 (vs [x]):=⟨_,rfl⟩
 have e0:bodyF Φ false 2 Tg.z lwX ρ (.str [x])=exSs Φ false r0 lwX:=by
  unfold bodyF
  rw [sv_flat (s:=s2) a2 p2 rfl,hr0]
  rfl
 have H0:LW L N nest g6 r0 T T C C:=hr0▸H.scr' (by decide) rfl
 have x0:r0[2]?=some (vs [x]):=by rw [hr0];exact qA4 (by rw [H.len];decide)
 have y0:r0[15]?=some (vs [y]):=by rw [hr0];exact H.get h15 (by decide)
 obtain⟨r1,hr1⟩:∃r1,r1=((r0.set 18 (vb (decide (b≠1)))).set 19 (vb (decide (b=2)))).set 20 (vb (decide (b≠1))):=⟨_,rfl⟩
 have H18:=H0.scr' (i:=18) (by decide) (s:=vb (decide (b≠1))) rfl
 have H19:=H18.scr' (i:=19) (by decide) (s:=vb (decide (b=2))) rfl
 have H1:LW L N nest g6 r1 T T C C:=hr1▸H19.scr' (i:=20) (by decide) (s:=vb (decide (b≠1))) rfl
 have e1:exS Φ false r0 (.unpack [18,19,20] (.call 7 (.cons (.var 5) (.cons (.var 9) (.cons (.var 2) (.cons (.var 15) .nil))))))=some (.next,r1):=by
  obtain⟨s18,b18,p18⟩:=H0.scr 18 (by decide)
  obtain⟨s19,b19,p19⟩:=H18.scr 19 (by decide)
  obtain⟨s20,b20,p20⟩:=H19.scr 20 (by decide)
  rw [hr1]
  exact x_unpack3 (e_call (l_cons (e_vs H0.a5) (l_cons (e_vs H0.a9) (l_cons (e_vs x0) (l_cons (e_vs y0) l_nil)))) f7) rfl rfl (sv_flat b18 p18 rfl) (sv_flat b19 p19 rfl) (sv_flat b20 p20 rfl)
 have k1:∀j,j≠18→j≠19→j≠20→r1[j]?=r0[j]?:=fun j a b c=>by rw [hr1,set_ne (qBz c),set_ne (qBz b),set_ne (qBz a)]
 have b18:r1[18]?=some (vb (decide (b≠1))):=by rw [hr1,set_ne (by decide),set_ne (by decide)];exact qA4 (by rw [H0.len];decide)
 have b19:r1[19]?=some (vb (decide (b=2))):=by rw [hr1,set_ne (by decide)];exact qA4 (by rw [H18.len];decide)
 have b20:r1[20]?=some (vb (decide (b≠1))):=by rw [hr1];exact qA4 (by rw [H19.len];decide)
 obtain⟨r2,hr2⟩:∃r2,r2=(r1.set 21 (vb (decide (b=1)))).set 22 (vb (decide (b=2))):=⟨_,rfl⟩
 have H21:=H1.scr' (i:=21) (by decide) (s:=vb (decide (b=1))) rfl
 have H2:LW L N nest g6 r2 T T C C:=hr2▸H21.scr' (i:=22) (by decide) (s:=vb (decide (b=2))) rfl
 have x1:r1[2]?=some (vs [x]):=(k1 2 (by decide) (by decide) (by decide)).trans x0
 have y1:r1[15]?=some (vs [y]):=(k1 15 (by decide) (by decide) (by decide)).trans y0
 have e2:exS Φ false r1 (.unpack [21,22] (.call 8 (.cons (.var 5) (.cons (.var 2) (.cons (.var 15) .nil)))))=some (.next,r2):=by
  obtain⟨s21,c21,p21⟩:=H1.scr 21 (by decide)
  obtain⟨s22,c22,p22⟩:=H21.scr 22 (by decide)
  rw [hr2]
  exact x_unpack2 (e_call (l_cons (e_vs H1.a5) (l_cons (e_vs x1) (l_cons (e_vs y1) l_nil))) f8) rfl rfl (sv_flat c21 p21 rfl) (sv_flat c22 p22 rfl)
 have k2:∀j,j≠21→j≠22→r2[j]?=r1[j]?:=fun j a b=>by rw [hr2,set_ne (qBz b),set_ne (qBz a)]
 have c18:=(k2 18 (by decide) (by decide)).trans b18
 have c19:=(k2 19 (by decide) (by decide)).trans b19
 have c20:=(k2 20 (by decide) (by decide)).trans b20
 have c21:r2[21]?=some (vb (decide (b=1))):=by rw [hr2,set_ne (by decide)];exact qA4 (by rw [H1.len];decide)
 have c22:r2[22]?=some (vb (decide (b=2))):=by rw [hr2];exact qA4 (by rw [H21.len];decide)
 have x2:=(k2 2 (by decide) (by decide)).trans x1
 have y2:=(k2 15 (by decide) (by decide)).trans y1
 have e3:=add_b3 (Φ:=Φ) (q:=false) H2.a11 c19 c20 c21 (jL [_] [cT xa (eN 900)] (cT xa (eN 1000)) jT hT)
 have H3:=H2.t1 (T++[decide (b=2),decide (b≠1),decide (b=1)])
 have e4:=add_b3 (Φ:=Φ) (q:=false) H3.a12 (H2.get c22 (by decide)) (H2.get c18 (by decide)) (H2.get c21 (by decide)) (jL [_] [cT xa (eN 900)] (cT xa (eN 1000)) jT hT)
 have H4:=H3.t2 (T++[decide (b=2),decide (b≠1),decide (b=1)])
 obtain⟨r4,hr4⟩:∃r4,r4=(r2.set 11 (oB (T++[decide (b=2),decide (b≠1),decide (b=1)]))).set 12 (oB (T++[decide (b=2),decide (b≠1),decide (b=1)])):=⟨_,rfl⟩
 rw [←hr4] at e4 H4
 have k4:∀j,j≠11→j≠12→r4[j]?=r2[j]?:=fun j a b=>by rw [hr4,set_ne (qBz b),set_ne (qBz a)]
 have d18:=(k4 18 (by decide) (by decide)).trans c18
 have d21:=(k4 21 (by decide) (by decide)).trans c21
 have x4:=(k4 2 (by decide) (by decide)).trans x2
 have y4:=(k4 15 (by decide) (by decide)).trans y2
 have t5:evT Φ false r4 (.not (.val (.var 18)))=some (!decide (b≠1)):=by
  have:=t_val (Φ:=Φ) (q:=false) (e_vb d18) rfl
  rw [q_T_not,this]
 rw [e0]
 by_cases hb:b=1
 ·have u5:evT Φ false r4 (.not (.val (.var 18)))=some true:=by rw [t5,decide_eq_false (fun z=>z hb)];rfl
  have e5:=(x_ift (o:=.nil) u5).trans (add_s2 H4.a13 x4 y4 (jL [_] [cT xa (eN 900)] (cT xa (eN 1000)) jT hC))
  have H5:=H4.c1 (C++[[x,y],[y,x]])
  have t6:evT Φ false (r4.set 13 (oS (C++[[x,y],[y,x]]))) (.val (.var 21))=some true:=(t_val (e_vb (H4.get d21 (by decide))) rfl).trans (by rw [decide_eq_true hb])
  have e6:=(x_ift (o:=.nil) t6).trans (add_s2 H5.a14 (H4.get x4 (by decide)) (H4.get y4 (by decide)) (jL [_] [cT xa (eN 900)] (cT xa (eN 1000)) jT hC))
  have H6:=H5.c2 (C++[[x,y],[y,x]])
  refine⟨_,(x_seq e1).trans ((x_seq e2).trans ((x_seq e3).trans ((x_seq e4).trans ((x_seq e5).trans ((x_seq e6).trans rfl))))),?_,?_⟩
  ·unfold cA tA
   rw [if_pos hb]
   exact H6
  ·exact H5.get (H4.get y4 (by decide)) (by decide)
 ·have u5:evT Φ false r4 (.not (.val (.var 18)))=some false:=by rw [t5,decide_eq_true hb];rfl
  have e5:exS Φ false r4 (.if_ (.not (.val (.var 18))) (.cons (.aug 13 .add (.list (.cons (.bin .add (.var 2) (.var 15)) (.cons (.bin .add (.var 15) (.var 2)) .nil)))) .nil) .nil)=some (.next,r4):=(x_iff u5).trans rfl
  have t6:evT Φ false r4 (.val (.var 21))=some false:=(t_val (e_vb d21) rfl).trans (by rw [decide_eq_false hb])
  have e6:exS Φ false r4 (.if_ (.val (.var 21)) (.cons (.aug 14 .add (.list (.cons (.bin .add (.var 2) (.var 15)) (.cons (.bin .add (.var 15) (.var 2)) .nil)))) .nil) .nil)=some (.next,r4):=(x_iff t6).trans rfl
  refine⟨_,(x_seq e1).trans ((x_seq e2).trans ((x_seq e3).trans ((x_seq e4).trans ((x_seq e5).trans ((x_seq e6).trans rfl))))),?_,y4⟩
  unfold cA tA
  rw [if_neg hb,qAu]
  exact H4
end
end Mine
end

section
open PySem PyProof.Rows
namespace Mine
set_option maxRecDepth 100000
theorem slL_m1 {α:Type}(l:List α){n:Nat}(h:l.length=n+1):slL l none (some (-1)) none=l.take n:=by
 rw [←slL_to]
 unfold slL
 rw [h]
 have e:(if (-1:Int)<0 then -1+((n+1:Nat):Int) else -1)=(if (n:Int)<0 then (n:Int)+((n+1:Nat):Int) else (n:Int)):=by
  rw [if_pos (by decide),if_neg (by lia)];lia
 refine congrArg (fun z=>List.filterMap (l[·]?) z) ?_
 exact congrArg (fun z=>sliceRange (if (1:Int) > 0 then 0 else ((n+1:Nat):Int)-1) (if (1:Int) > 0 then max 0 (min z ((n+1:Nat):Int)) else max (-1) (min z (((n+1:Nat):Int)-1))) 1) e
section
variable {Φ:Fns}{L N nest:List Nat}{g6:Slot}{ρ:Env'}{T:List Bool}{C:List (List Nat)}
theorem lw_pairs {y:Nat}{bc:Nat→Nat}:∀(xs:List Nat) (ρ:Env') (T:List Bool) (C:List (List Nat)),LW L N nest g6 ρ T T C C→ρ[15]?=some (vs [y])→T.length+3*xs.length<800→C.length+2*xs.length<800→
  (∀x∈xs,Φ false 7 [.str L,.str nest,.str [x],.str [y]]=some (.list [.bool (decide (bc x≠1)),.bool (decide (bc x=2)),.bool (decide (bc x≠1))])∧Φ false 8 [.str L,.str [x],.str [y]]=some (.list [.bool (decide (bc x=1)),.bool (decide (bc x=2))]))→
  ∃ρ',forS (bodyF Φ false 2 Tg.z lwX) (xs.map fun x=>.str [x]) ρ=some (.next,ρ')∧LW L N nest g6 ρ' (T++xs.flatMap fun x=>tA (bc x)) (T++xs.flatMap fun x=>tA (bc x)) (C++xs.flatMap fun x=>cA (bc x) x y) (C++xs.flatMap fun x=>cA (bc x) x y)∧ρ'[15]?=some (vs [y])
 |[],ρ,T,C,H,h15,_,_,_=>⟨ρ,rfl,by rw [List.flatMap_nil,List.flatMap_nil,qAu,qAu];exact H,h15⟩
 |x::xs,ρ,T,C,H,h15,hT,hC,hf=>by
  rw [qAd] at hT hC
  have f:=hf x (qA5 ..)
  obtain⟨r1,e1,H1,y1⟩:=lw_pair H (x:=x) (b:=bc x) h15 (jL [_,_] [cT (eA xa (eM 3 (eU xb))) (eN 800)] (cT xa (eN 900)) jT hT) (jL [_,_] [cT (eA xa (eM 2 (eU xb))) (eN 800)] (cT xa (eN 900)) jT hC) f.1 f.2
  have lc:(cA (bc x) x y).length≤2:=by
   unfold cA
   split
   ·exact qA7 _
   ·exact qBr _
  obtain⟨r2,e2,H2,y2⟩:=lw_pairs xs r1 _ _ H1 y1 (by rw [qA1];show T.length+3+_<_;exact jL [_,_] [cT (eA xa (eM 3 (eU xb))) (eN 800)] (cT (eA (eA xa (eN 3)) (eM 3 xb)) (eN 800)) jT hT) (by rw [qA1];exact jL [_,_,_] [cT (eA xa (eM 2 (eU xb))) (eN 800),cL xc (eN 2)] (cT (eA (eA xa xc) (eM 2 xb)) (eN 800)) jT hC lc) fun x hx=>hf x (qA3 _ hx)
  refine⟨r2,?_,?_,y2⟩
  ·rw [qAh,forS_c,e1];exact e2
  ·rw [qD4,qD4,←qAe,←qAe];exact H2
noncomputable def lwP:PSs:=(.cons (.aug 11 .add (.list (.cons (.call 4 (.cons (.var 15) (.cons (.var 17) .nil))) (.cons (.call 4 (.cons (.bin .add (.bin .add (.var 15) (.str [46,46,46])) (.var 15)) (.cons (.var 17) .nil))) .nil))))
     (.cons (.aug 12 .add (.list (.cons (.cmp .eq (.var 17) (.var 15)) (.cons (.bool false) .nil))))
     .nil))
theorem lw_part (H:LW L N nest g6 ρ T T C C){y:Nat}{p:List Nat}(h15:ρ[15]?=some (vs [y]))(hT:T.length<900)(f1:Φ false 4 [.str [y],.str p]=some (.bool (decide ([y]=p))))(f2:Φ false 4 [.str [y,46,46,46,y],.str p]=some (.bool false)) :
  ∃ρ',bodyF Φ false 17 Tg.z lwP ρ (.str p)=some (.next,ρ')∧LW L N nest g6 ρ' (T++[decide ([y]=p),false]) (T++[decide ([y]=p),false]) C C∧ρ'[15]?=some (vs [y]):=by
 obtain⟨s17,a17,p17⟩:=H.scr 17 (by decide)
 obtain⟨r0,hr0⟩:∃r0,r0=ρ.set 17 (vs p):=⟨_,rfl⟩
 have e0:bodyF Φ false 17 Tg.z lwP ρ (.str p)=exSs Φ false r0 lwP:=by
  unfold bodyF
  rw [sv_flat (s:=s17) a17 p17 rfl,hr0]
  rfl
 have H0:LW L N nest g6 r0 T T C C:=hr0▸H.scr' (by decide) rfl
 have x0:r0[17]?=some (vs p):=by rw [hr0];exact qA4 (by rw [H.len];decide)
 have y0:r0[15]?=some (vs [y]):=by rw [hr0];exact H.get h15 (by decide)
 have c1:=e_call (l_cons (e_vs (Φ:=Φ) (q:=false) y0) (l_cons (e_vs x0) l_nil)) f1
 have w:=e_addss (e_addss (e_vs (Φ:=Φ) (q:=false) y0) (e_str [46,46,46]) (show 1+3≤1000000 by decide)) (e_vs y0) (show 4+1≤1000000 by decide)
 have c2:=e_call (l_cons w (l_cons (e_vs x0) l_nil)) f2
 have e1:exS Φ false r0 (.aug 11 .add (.list (.cons (.call 4 (.cons (.var 15) (.cons (.var 17) .nil))) (.cons (.call 4 (.cons (.bin .add (.bin .add (.var 15) (.str [46,46,46])) (.var 15)) (.cons (.var 17) .nil))) .nil))))=some (.next,r0.set 11 (oB (T++[decide ([y]=p),false]))):=by
  refine (x_augl (b:=false) (ds:=T.map .bool) (es:=[.bool (decide ([y]=p)),.bool false]) H0.a11 (e_list (l_cons c1 (l_cons c2 l_nil))) rfl (by rw [qAa];unfold SZ;show _+2≤_;exact jL [_] [cT xa (eN 900)] (cL (eA xa (eN 2)) (eN 16777216)) jT hT) rfl).trans ?_
  unfold oB
  rw [qAt];rfl
 have H1:=H0.t1 (T++[decide ([y]=p),false])
 have c3:evE Φ false (r0.set 11 (oB (T++[decide ([y]=p),false]))) (.cmp .eq (.var 17) (.var 15))=some (Rs.flat (.bool (decide (p=[y])))):=e_cmp (e_vs (H0.get x0 (by decide))) (e_vs (H0.get y0 (by decide))) rfl
 rw [show decide (p=[y])=decide ([y]=p) from decide_eq_decide.mpr ⟨Eq.symm,Eq.symm⟩] at c3
 have e2:exS Φ false (r0.set 11 (oB (T++[decide ([y]=p),false]))) (.aug 12 .add (.list (.cons (.cmp .eq (.var 17) (.var 15)) (.cons (.bool false) .nil))))=some (.next,(r0.set 11 (oB (T++[decide ([y]=p),false]))).set 12 (oB (T++[decide ([y]=p),false]))):=by
  refine (x_augl (b:=false) (ds:=T.map .bool) (es:=[.bool (decide ([y]=p)),.bool false]) H1.a12 (e_list (l_cons c3 (l_cons (x:=Rs.flat (.bool false)) (by rw [q_E_bool]) l_nil))) rfl (by rw [qAa];unfold SZ;show _+2≤_;exact jL [_] [cT xa (eN 900)] (cL (eA xa (eN 2)) (eN 16777216)) jT hT) rfl).trans ?_
  unfold oB
  rw [qAt];rfl
 have H2:=H1.t2 (T++[decide ([y]=p),false])
 rw [e0]
 exact⟨_,(x_seq e1).trans ((x_seq e2).trans rfl),H2,H1.get (H0.get y0 (by decide)) (by decide)⟩
noncomputable def lwY:PSs:=(.cons (.asg 16 (.slice (.var 5) (.some (.meth .find (.var 5) (.cons (.var 15) .nil))) (.some (.bin .add (.meth .rfind (.var 5) (.cons (.var 15) .nil)) (.int 1)))))
   (.cons (.for_ 17 (.val (.list (.cons (.slice (.var 16) (.some (.int 1)) .no) (.cons (.slice (.var 16) .no (.some (.neg (.int 1)))) .nil)))) lwP)
   (.cons (.for_ 2 (.val (.slice (.var 8) .no (.some (.meth .find (.var 8) (.cons (.var 15) .nil))))) lwX)
   .nil)))
noncomputable def tY (y:Nat)(B:List Nat)(xs:List Nat)(bc:Nat→Nat):List Bool:=[decide ([y]=B++[y]),false,decide ([y]=y::B),false]++xs.flatMap fun x=>tA (bc x)
theorem lw_name {y z:Nat}{A B D xs ys:List Nat}{bc:Nat→Nat}(H:LW L N nest g6 ρ T T C C)(P:Pair L y z A B D){s15:Slot}(h15:ρ[15]?=some s15)(p15:pinned s15=false)(hN:N=xs++y::ys)(hxs:y∉xs)(hnl:N.length≤100)(hT:T.length+4+3*xs.length<700)(hC:C.length+2*xs.length<700)
  (f1:∀p,p=B++[y]∨p=y::B→Φ false 4 [.str [y],.str p]=some (.bool (decide ([y]=p)))∧Φ false 4 [.str [y,46,46,46,y],.str p]=some (.bool false))
  (hf:∀x∈xs,Φ false 7 [.str L,.str nest,.str [x],.str [y]]=some (.list [.bool (decide (bc x≠1)),.bool (decide (bc x=2)),.bool (decide (bc x≠1))])∧Φ false 8 [.str L,.str [x],.str [y]]=some (.list [.bool (decide (bc x=1)),.bool (decide (bc x=2))])) :
  ∃ρ',bodyF Φ false 15 Tg.z lwY ρ (.str [y])=some (.next,ρ')∧LW L N nest g6 ρ' (T++tY y B xs bc) (T++tY y B xs bc) (C++xs.flatMap fun x=>cA (bc x) x y) (C++xs.flatMap fun x=>cA (bc x) x y)∧ρ'[15]?=some (vs [y]):=by
 obtain⟨r0,hr0⟩:∃r0,r0=ρ.set 15 (vs [y]):=⟨_,rfl⟩
 have e0:bodyF Φ false 15 Tg.z lwY ρ (.str [y])=exSs Φ false r0 lwY:=by
  unfold bodyF
  rw [sv_flat (s:=s15) h15 p15 rfl,hr0]
  rfl
 have H0:LW L N nest g6 r0 T T C C:=hr0▸H.keep (by decide) (by decide) (by decide) (by decide) (by decide) ((set_ne (by decide)).trans H.a11) ((set_ne (by decide)).trans H.a12) ((set_ne (by decide)).trans H.a13) ((set_ne (by decide)).trans H.a14)
 have y0:r0[15]?=some (vs [y]):=by rw [hr0];exact qA4 (by rw [H.len];decide)
 obtain⟨s16,b16,p16⟩:=H0.scr 16 (by decide)
 have st:evE Φ false r0 (.slice (.var 5) (.some (.meth .find (.var 5) (.cons (.var 15) .nil))) (.some (.bin .add (.meth .rfind (.var 5) (.cons (.var 15) .nil)) (.int 1))))=some ⟨.str (y::(B++[y])),Tg.z,false⟩:=
  e_stretch P H0.a5 ((e_find (e_vs H0.a5) (e_vs y0)).trans (by rw [P.fst])) ((e_rfind (e_vs H0.a5) (e_vs y0)).trans (by rw [P.lst]))
 have e1:=x_asg st (sv_flat b16 p16 rfl)
 obtain⟨r1,hr1⟩:∃r1,r1=r0.set 16 (vs (y::(B++[y]))):=⟨_,rfl⟩
 have H1:LW L N nest g6 r1 T T C C:=hr1▸H0.scr' (by decide) rfl
 have x1:r1[16]?=some (vs (y::(B++[y]))):=by rw [hr1];exact qA4 (by rw [H0.len];decide)
 have y1:r1[15]?=some (vs [y]):=by rw [hr1];exact H0.get y0 (by decide)
 have c1:evE Φ false r1 (.slice (.var 16) (.some (.int 1)) .no)=some (Rs.flat (.str (B++[y]))):=by
  have h:=slL_from (y::(B++[y])) 1
  exact (e_sl (e_vs x1) (evO_n (i:=1) (e_int 1) (by decide)) (by rw [q_O_no])).trans (by rw [h];rfl)
 have c2:evE Φ false r1 (.slice (.var 16) .no (.some (.neg (.int 1))))=some (Rs.flat (.str (y::B))):=by
  have h:=slL_m1 (y::(B++[y])) (n:=B.length+1) (by rw [qAd,qA1];rfl)
  refine (e_sl (e_vs x1) (by rw [q_O_no]) (h:=some (-1)) rfl).trans ?_
  rw [h,qCk,qD8 rfl]
 have it:evI Φ false r1 (.val (.list (.cons (.slice (.var 16) (.some (.int 1)) .no) (.cons (.slice (.var 16) .no (.some (.neg (.int 1)))) .nil))))=some ⟨[.str (B++[y]),.str (y::B)],Tg.z,false⟩:=by
  rw [q_I_val,e_list (l_cons c1 (l_cons c2 l_nil))];rfl
 obtain⟨fa,fb⟩:=f1 (B++[y]) (.inl rfl)
 obtain⟨ga,gb⟩:=f1 (y::B) (.inr rfl)
 obtain⟨r2,e2,H2,y2⟩:=lw_part H1 (p:=B++[y]) y1 (jL [_,_] [cT (eA (eA xa (eN 4)) (eM 3 xb)) (eN 700)] (cT xa (eN 900)) jT hT) fa fb
 obtain⟨r3,e3,H3,y3⟩:=lw_part H2 (p:=y::B) y2 (by rw [qA1];show _+2<_;exact jL [_,_] [cT (eA (eA xa (eN 4)) (eM 3 xb)) (eN 700)] (cT (eA xa (eN 2)) (eN 900)) jT hT) ga gb
 have e4:exS Φ false r1 (.for_ 17 (.val (.list (.cons (.slice (.var 16) (.some (.int 1)) .no) (.cons (.slice (.var 16) .no (.some (.neg (.int 1)))) .nil)))) lwP)=some (.next,r3):=
  x_for0 it rfl rfl rfl (by rw [forS_c,e2];show forS _ _ r2=_;rw [forS_c,e3];rfl)
 have it2:evI Φ false r3 (.val (.slice (.var 8) .no (.some (.meth .find (.var 8) (.cons (.var 15) .nil)))))=some ⟨xs.map fun x=>.str [x],Tg.z,false⟩:=by
  have f:evE Φ false r3 (.meth .find (.var 8) (.cons (.var 15) .nil))=some ⟨.int (xs.length:Nat),Tg.z,false⟩:=(e_find (e_vs H3.a8) (e_vs y3)).trans (by rw [hN,find_split hxs])
  have hxl:xs.length<1000000:=by rw [hN,qA1] at hnl;exact jL [_,_] [cL (eA xa xb) (eN 100)] (cT xa (eN 1000000)) jT hnl
  have sl:evE Φ false r3 (.slice (.var 8) .no (.some (.meth .find (.var 8) (.cons (.var 15) .nil))))=some (Rs.flat (.str xs)):=by
   refine (e_sl (e_vs H3.a8) (by rw [q_O_no]) (evO_n f hxl)).trans ?_
   rw [slL_to,hN,qD8 rfl]
  rw [q_I_val,sl];rfl
 obtain⟨r4,e5,H4,y4⟩:=lw_pairs (Φ:=Φ) (y:=y) (bc:=bc) xs r3 _ C H3 y3 (by rw [qA1,qA1];show T.length+2+2+_<_;exact jL [_,_] [cT (eA (eA xa (eN 4)) (eM 3 xb)) (eN 700)] (cT (eA (eA (eA xa (eN 2)) (eN 2)) (eM 3 xb)) (eN 800)) jT hT) (jL [_,_] [cT (eA xa (eM 2 xb)) (eN 700)] (cT (eA xa (eM 2 xb)) (eN 800)) jT hC) hf
 have e6:exS Φ false r3 (.for_ 2 (.val (.slice (.var 8) .no (.some (.meth .find (.var 8) (.cons (.var 15) .nil))))) lwX)=some (.next,r4):=x_for0 it2 rfl rfl rfl e5
 rw [e0]
 rw [←hr1] at e1
 refine⟨r4,(x_seq e1).trans ((x_seq e4).trans ((x_seq e6).trans rfl)),?_,y4⟩
 unfold tY
 rw [qAe,qAe] at H4
 exact H4
end
theorem ellB_a {y:Nat}{B:List Nat}(h:y∉B):ellB [y] [] [y] (B++[y])=false:=by
 unfold ellB
 rcases B with _|⟨b,B⟩
 ·rw [decide_eq_false (show ¬([y].length+[y].length≤(([]:List Nat)++[y]).length) by show ¬2≤1;decide),qDh,qCn,qCn]
 ·have hb:(y==b)=false:=beq_eq_false_iff_ne.mpr fun e=>h (by rw [e];exact qA5 ..)
  rw [show [y].isPrefixOf ((b::B)++[y])=(y==b&&[].isPrefixOf (B++[y])) from rfl,hb,qDh,qDh]
theorem ellB_b {y:Nat}{B:List Nat}(h:y∉B):ellB [y] [] [y] (y::B)=false:=by
 unfold ellB
 rcases B with _|⟨b,B⟩
 ·rw [decide_eq_false (show ¬([y].length+[y].length≤[y].length) by show ¬2≤1;decide),qDh,qCn,qCn]
 ·have hs:[y].isSuffixOf (y::b::B)=false:=by
   rw [qC5]
   intro e
   obtain⟨s,e⟩:=qDa.mp e
   rcases s with _|⟨a,s⟩
   ·cases e
   ·have e2:=(qDw e).2
    exact h (by rw [←e2];exact qF7 _ (qA5 ..))
  rw [hs,qDh,qCn]
section
variable {Φ Φ':Fns}{L N nest:List Nat}{g6:Slot}{ρ:Env'}{T:List Bool}{C:List (List Nat)}
theorem parts_f (hΦ:∀w g,Φ false 4 [.str w,.str g]=runF Φ' false 2 6 ellT [.str w,.str g]){y:Nat}(hy:y≠46){B:List Nat}(hB:y∉B):∀p,p=B++[y]∨p=y::B→Φ false 4 [.str [y],.str p]=some (.bool (decide ([y]=p)))∧Φ false 4 [.str [y,46,46,46,y],.str p]=some (.bool false):=fun p hp=>by
 have gy:good [y]=true:=by
  show ((y != 46 || false)&&true)=true
  rw [qFh,qDs];exact bne_iff_ne.mpr hy
 refine⟨(hΦ _ _).trans (ell_good Φ' false [y] p gy),(hΦ _ _).trans ?_⟩
 have h:=ell_glue Φ' false [y] [] [y] p (fun x hx=>by
  simp only [qCs,qA6,qB0,or_false,or_self] at hx
  rw [hx];exact gy) (by show 5<SZ;unfold SZ;decide)
 refine (show runF Φ' false 2 6 ellT [.str [y,46,46,46,y],.str p]=_ from h).trans ?_
 rcases hp with hp|hp
 ·rw [hp,ellB_a hB]
 ·rw [hp,ellB_b hB]
noncomputable def crL (bc:Nat→Nat→Nat):List Nat→List Nat→List (List Nat)
 |_,[]=>[]
 |done,y::r=>(done.flatMap fun x=>cA (bc x y) x y)++crL bc (done++[y]) r
theorem cA_len (b x y:Nat):(cA b x y).length≤2:=by
 unfold cA
 split
 ·exact qA7 _
 ·exact qBr _
theorem flat_len {α:Type}(f:Nat→List α)(k:Nat)(h:∀x,(f x).length≤k)(xs:List Nat):(xs.flatMap f).length≤xs.length*k:=by
 induction xs with
 |nil=>exact qBr _
 |cons a r ih=>rw [qD4,qA1,qAd,qGx];have:=h a;exact jL [_,_,_,_] [cL xa xb,cL xc xd] (cL (eA xc xa) (eA xb xd)) jT ih this
theorem lw_all {bc:Nat→Nat→Nat}(hΦ:∀w g,Φ false 4 [.str w,.str g]=runF Φ' false 2 6 ellT [.str w,.str g])(hN:N.Nodup)(hn:N.length≤5)(hp:∀y∈N,∃z A B D,Pair L y z A B D)
  (hf:∀x∈N,∀y∈N,x≠y→Φ false 7 [.str L,.str nest,.str [x],.str [y]]=some (.list [.bool (decide (bc x y≠1)),.bool (decide (bc x y=2)),.bool (decide (bc x y≠1))])∧Φ false 8 [.str L,.str [x],.str [y]]=some (.list [.bool (decide (bc x y=1)),.bool (decide (bc x y=2))])) :
  ∀(rest done:List Nat) (ρ:Env') (T:List Bool) (C:List (List Nat)) (s15:Slot),LW L N nest g6 ρ T T C C→ρ[15]?=some s15→pinned s15=false→N=done++rest→T.length+20*rest.length<600→C.length+10*rest.length<600→
  ∃ρ' T',forS (bodyF Φ false 15 Tg.z lwY) (rest.map fun y=>.str [y]) ρ=some (.next,ρ')∧T'.length<600∧LW L N nest g6 ρ' T' T' (C++crL bc done rest) (C++crL bc done rest)
 |[],done,ρ,T,C,s15,H,_,_,_,hT,_=>⟨ρ,T,rfl,by rw [qCq] at hT;exact hT,by rw [crL,qAu];exact H⟩
 |y::rest,done,ρ,T,C,s15,H,h15,p15,hs,hT,hC=>by
  rw [qAd] at hT hC
  have hd:done.length≤4:=by rw [hs,qA1,qAd] at hn;exact jL [_,_] [cL (eA xa (eU xb)) (eN 5)] (cL xa (eN 4)) jT hn
  have hy:y∈N:=by rw [hs];exact qF7 _ (qA5 ..)
  have hyd:y∉done:=fun h=>by
   rw [hs,qE9] at hN
   exact hN.2.2 y h y (qA5 ..) rfl
  obtain⟨z,A,B,D,P⟩:=hp y hy
  obtain⟨r1,e1,H1,y1⟩:=lw_name (Φ:=Φ) (bc:=fun x=>bc x y) H P h15 p15 hs hyd (jL [_] [cL xa (eN 5)] (cL xa (eN 100)) jT hn) (jk [_,_,_] [cT (eA xa (eM 20 (eU xb))) (eN 600),cL xc (eN 4)] (cT (eA (eA xa (eN 4)) (eM 3 xc)) (eN 700)) [1,1,3] jT hT hd) (jk [_,_,_] [cT (eA xa (eM 10 (eU xb))) (eN 600),cL xc (eN 4)] (cT (eA xa (eM 2 xc)) (eN 700)) [1,1,2] jT hC hd) (parts_f hΦ P.nx P.hB) fun x hx=>hf x (by rw [hs];exact qBn _ hx) y hy fun e=>hyd (e▸hx)
  have l1:=flat_len (fun x=>tA (bc x y)) 3 (fun _=>qA7 _) done
  have l2:=flat_len (fun x=>cA (bc x y) x y) 2 (fun x=>cA_len _ _ _) done
  obtain⟨r2,T2,e2,h2,H2⟩:=lw_all hΦ hN hn hp hf rest (done++[y]) r1 _ _ (vs [y]) H1 y1 rfl (by rw [hs,qAe];rfl) (by
   rw [qA1]
   unfold tY
   rw [qA1]
   show T.length+(4+_)+_<_
   lia) (by rw [qA1];lia)
  refine⟨r2,T2,?_,h2,?_⟩
  ·rw [qAh,forS_c,e1];exact e2
  ·rw [crL,←qAe];exact H2
theorem lw_loop {bc:Nat→Nat→Nat}(hΦ:∀w g,Φ false 4 [.str w,.str g]=runF Φ' false 2 6 ellT [.str w,.str g])(hN:N.Nodup)(hn:N.length≤5)(hp:∀y∈N,∃z A B D,Pair L y z A B D)
  (hf:∀x∈N,∀y∈N,x≠y→Φ false 7 [.str L,.str nest,.str [x],.str [y]]=some (.list [.bool (decide (bc x y≠1)),.bool (decide (bc x y=2)),.bool (decide (bc x y≠1))])∧Φ false 8 [.str L,.str [x],.str [y]]=some (.list [.bool (decide (bc x y=1)),.bool (decide (bc x y=2))]))
  {s15:Slot} (H:LW L N nest g6 ρ [] [] [] []) (h15:ρ[15]?=some s15) (p15:pinned s15=false) :
  ∃ρ' T',exS Φ false ρ (.for_ 15 (.val (.var 8)) lwY)=some (.next,ρ')∧T'.length<600∧LW L N nest g6 ρ' T' T' (crL bc [] N) (crL bc [] N):=by
 obtain⟨r,T',e,h,H'⟩:=lw_all (Φ:=Φ) hΦ hN hn hp hf N [] ρ [] [] s15 H h15 p15 rfl (by show 0+_<_;exact jk [_] [cL xa (eN 5)] (cT (eA (eN 0) (eM 20 xa)) (eN 600)) [1,20] jT hn) (by show 0+_<_;exact jk [_] [cL xa (eN 5)] (cT (eA (eN 0) (eM 10 xa)) (eN 600)) [1,10] jT hn)
 have hpn:pinIt ρ (.val (.var 8))=some (ρ,none):=by
  rcases pin_cases ρ 8 with e|⟨ds,b,e1,_⟩
  ·exact e
  ·rw [H.a8] at e1;cases e1
 refine⟨r,T',x_for0 (its:=⟨N.map fun y=>.str [y],Tg.z,false⟩) ?_ hpn rfl rfl e,h,H'⟩
 rw [q_I_val,e_vs H.a8]
end
section
variable {Φ:Fns}{ρ:Env'}{T:List Bool}
theorem lw_flags (hl:23<ρ.length)(h11:ρ[11]?=some (oB T))(h12:ρ[12]?=some (oB T))(hT:T.length≤100000) :
  evT Φ false ρ (.or (.cmp .ne (.var 11) (.var 12)) (.val (.comp (.var 23) 23 (.val (.bin .add (.var 11) (.var 12))) (.some (.and (.cmp .isnot (.var 23) (.bool true)) (.cmp .isnot (.var 23) (.bool false)))))))=some false:=by
 have t1:evT Φ false ρ (.cmp .ne (.var 11) (.var 12))=some false:=by
  refine t_cmp (e_var h11) (e_var h12) ?_
  show (eqL (T.map .bool) (T.map .bool)).map (!·)=_
  rw [eqL_bools];rfl
 have a1:=e_addl (Φ:=Φ) (q:=false) (e_var h11) (e_var h12) (by rw [qAa];unfold SZ;exact jk [_] [cL xa (eN 100000)] (cL (eA xa xa) (eN 16777216)) [1,2] jT hT)
 rw [show T.map D.bool++T.map .bool=(T++T).map .bool from qAt.symm] at a1
 have hi:evI Φ false ρ (.val (.bin .add (.var 11) (.var 12)))=some ⟨(T++T).map .bool,Tg.z,false⟩:=by
  rw [q_I_val,a1];rfl
 rw [q_T_or,t1]
 refine t_val (x:=Rs.new (.list []) Tg.z) (e_comp hi (comp_none fun d hd=>?_) (qBr _)) rfl
 obtain⟨c,_,rfl⟩:=qBf.mp hd
 refine compF_not ?_
 have v20:evE Φ true (ρ.set 23 (some (.bool c,.val (eff (.bool c) Tg.z)))) (.var 23)=some ⟨.bool c,Tg.z,false⟩:=e_var (vt:=.val Tg.z) (qA4 hl)
 have t1:∀b,evT Φ true (ρ.set 23 (some (.bool c,.val (eff (.bool c) Tg.z)))) (.cmp .isnot (.var 23) (.bool b))=some (!(c==b)):=fun b=>t_cmp v20 (y:=Rs.flat (.bool b)) (by rw [q_E_bool]) rfl
 rw [q_T_and,t1,t1]
 rcases c with _|_<;>rfl
end
noncomputable abbrev gS (G:List Bool):Slot:=some (.list (G.map .bool),.val Tg.z)
noncomputable abbrev oN (T:List Nat):Slot:=ol (T.map fun v=>.str [v])
structure Ends (L N:List Nat)(G:List Bool)(fst lst:Nat→Nat):Prop where
 f:∀v∈N,findI L [v]=(fst v:Nat)
 r:∀v∈N,rfindI L [v]=(lst v:Nat)
 lf:∀v∈N,fst v<G.length
 ll:∀v∈N,lst v<G.length
section
variable {Φ:Fns}{q:Bool}{ρ:Env'}{L N:List Nat}{G:List Bool}{fst lst:Nat→Nat}
theorem g_idx {e:PE}{k:Nat}{t:Tg}{f:Bool}(h6:ρ[6]?=some (gS G))(h:evE Φ q ρ e=some ⟨.int k,t,f⟩)(hk:k<G.length):evE Φ q ρ (.idx (.var 6) e)=some (Rs.val (.bool (gD G k)) Tg.z):=by
 refine e_idx_nat (e_var h6) h ?_
 rw [qC4,qAb hk]
 unfold gD
 rw [qAo,qAb hk];rfl
theorem lw_ends (E:Ends L N G fst lst){v:Nat}(hv:v∈N)(h5:ρ[5]?=some (vs L))(h6:ρ[6]?=some (gS G))(h2:ρ[2]?=some (vs [v])) :
  evE Φ q ρ (.idx (.var 6) (.meth .find (.var 5) (.cons (.var 2) .nil)))=some (Rs.val (.bool (gD G (fst v))) Tg.z)∧evE Φ q ρ (.idx (.var 6) (.meth .rfind (.var 5) (.cons (.var 2) .nil)))=some (Rs.val (.bool (gD G (lst v))) Tg.z):=
 ⟨g_idx h6 ((e_find (e_vs h5) (e_vs h2)).trans (by rw [E.f v hv])) (E.lf v hv),g_idx h6 ((e_rfind (e_vs h5) (e_vs h2)).trans (by rw [E.r v hv])) (E.ll v hv)⟩
theorem lw_taken (E:Ends L N G fst lst)(h5:ρ[5]?=some (vs L))(h6:ρ[6]?=some (gS G))(h8:ρ[8]?=some (vs N))(h2:2<ρ.length)(hN:N.length≤100) :
  evE Φ false ρ (.comp (.var 2) 2 (.val (.var 8)) (.some (.or (.val (.idx (.var 6) (.meth .find (.var 5) (.cons (.var 2) .nil)))) (.val (.idx (.var 6) (.meth .rfind (.var 5) (.cons (.var 2) .nil)))))))=some (Rs.new (.list ((N.filter (tk (gD G) fst lst)).map fun v=>.str [v])) Tg.z):=by
 have hi:evI Φ false ρ (.val (.var 8))=some ⟨N.map fun c=>.str [c],Tg.z,false⟩:=by rw [q_I_val,e_vs h8]
 have hc:∀v∈N,evT Φ true (ρ.set 2 (some (.str [v],.val (eff (.str [v]) Tg.z)))) (.or (.val (.idx (.var 6) (.meth .find (.var 5) (.cons (.var 2) .nil)))) (.val (.idx (.var 6) (.meth .rfind (.var 5) (.cons (.var 2) .nil)))))=some (tk (gD G) fst lst v):=fun v hv=>by
  obtain⟨e1,e2⟩:=lw_ends (Φ:=Φ) (q:=true) (ρ:=ρ.set 2 (vs [v])) E hv ((set_ne (by decide)).trans h5) ((set_ne (by decide)).trans h6) (qA4 h2)
  have t1:=t_val e1 (c:=gD G (fst v)) rfl
  have t2:=t_val e2 (c:=gD G (lst v)) rfl
  show evT Φ true (ρ.set 2 (vs [v])) _=_
  rw [q_T_or,t1,t2]
  unfold tk
  cases gD G (fst v)<;>rfl
 refine e_comp hi (comp_filter (g:=fun v=>.str [v]) (fun v hv hp=>?_) fun v hv hp=>?_) ?_
 ·exact⟨_,compF_yes ((hc v hv).trans (by rw [hp])) (e_vs (qA4 h2)),rfl,rfl⟩
 ·exact compF_not ((hc v hv).trans (by rw [hp]))
 ·rw [qAa]
  have:=qE8 (tk (gD G) fst lst) N
  unfold SZ;exact jL [_,_] [cL xa (eN 100),cL xb xa] (cL xb (eN 16777216)) jT hN this
theorem lw_unlike (E:Ends L N G fst lst){T:List Nat}(hT:∀v∈T,v∈N)(h5:ρ[5]?=some (vs L))(h6:ρ[6]?=some (gS G))(h24:ρ[24]?=some (oN T))(h2:2<ρ.length)(hN:T.length≤100) :
  evE Φ false ρ (.comp (.var 2) 2 (.val (.var 24)) (.some (.cmp .ne (.idx (.var 6) (.meth .find (.var 5) (.cons (.var 2) .nil))) (.idx (.var 6) (.meth .rfind (.var 5) (.cons (.var 2) .nil))))))=some (Rs.new (.list ((T.filter (unl (gD G) fst lst)).map fun v=>.str [v])) Tg.z):=by
 have hc:∀v∈T,evT Φ true (ρ.set 2 (some (.str [v],.val (eff (.str [v]) ⟨false,false,false⟩)))) (.cmp .ne (.idx (.var 6) (.meth .find (.var 5) (.cons (.var 2) .nil))) (.idx (.var 6) (.meth .rfind (.var 5) (.cons (.var 2) .nil))))=some (unl (gD G) fst lst v):=fun v hv=>by
  obtain⟨e1,e2⟩:=lw_ends (Φ:=Φ) (q:=true) (ρ:=ρ.set 2 (vs [v])) E (hT v hv) ((set_ne (by decide)).trans h5) ((set_ne (by decide)).trans h6) (qA4 h2)
  exact t_cmp e1 e2 rfl
 refine e_comp (i_own h24) (comp_filter (g:=fun v=>.str [v]) (fun v hv hp=>?_) fun v hv hp=>?_) ?_
 ·exact⟨_,compF_yes ((hc v hv).trans (by rw [hp])) (e_vs (qA4 h2)),rfl,rfl⟩
 ·exact compF_not ((hc v hv).trans (by rw [hp]))
 ·rw [qAa]
  have:=qE8 (unl (gD G) fst lst) T
  unfold SZ;exact jL [_,_] [cL xa (eN 100),cL xb xa] (cL xb (eN 16777216)) jT hN this
noncomputable def sgl (T:List Nat):List (List Nat):=T.map fun v=>[v]
theorem lw_last {T U:List Nat}{C:List (List Nat)}{k:Int}(h24:ρ[24]?=some (oN T))(h25:ρ[25]?=some (oN U))(h13:ρ[13]?=some (oS C))(h14:ρ[14]?=some (oS C))(h26:ρ[26]?=some (vi (k+1)))(h27:27<ρ.length)
  (f:Φ true 10 [.list (T.map fun v=>.str [v]),.list ((sgl U).map .str),.list (C.map .str)]=some (.int k)) :
  evE Φ false ρ (.cmp .eq (.comp (.bin .add (.call 10 (.cons (.var 24) (.cons (.var 25) (.cons (.var 27) .nil)))) (.int 1)) 27 (.val (.list (.cons (.var 13) (.cons (.var 14) .nil)))) .no) (.list (.cons (.var 26) (.cons (.var 26) .nil))))=some (Rs.flat (.bool true)):=by
 obtain⟨t,hl⟩:∃t,evE Φ false ρ (.list (.cons (.var 13) (.cons (.var 14) .nil)))=some (Rs.new (.list [.list (C.map .str),.list (C.map .str)]) t):=⟨_,e_list (l_cons (e_var h13) (l_cons (e_var h14) l_nil))⟩
 have hi:evI Φ false ρ (.val (.list (.cons (.var 13) (.cons (.var 14) .nil))))=some ⟨[C,C].map fun c=>.list (c.map .str),(Rs.new (.list [.list (C.map .str),.list (C.map .str)]) t).t.item,(Rs.new (.list [.list (C.map .str),.list (C.map .str)]) t).t.top⟩:=by
  rw [q_I_val,hl];rfl
 have hc:evE Φ false ρ (.comp (.bin .add (.call 10 (.cons (.var 24) (.cons (.var 25) (.cons (.var 27) .nil)))) (.int 1)) 27 (.val (.list (.cons (.var 13) (.cons (.var 14) .nil)))) .no)=some (Rs.new (.list ([C,C].map fun _=>.int (k+1))) Tg.z):=by
  refine e_comp hi (comp_map (g:=fun _=>.int (k+1)) fun c hc=>⟨_,compF_no (e_addi (e_call (l_cons (e_var ((set_ne (by decide)).trans h24)) (l_cons (e_var ((set_ne (by decide)).trans h25)) (l_cons (e_var (qA4 h27)) l_nil))) ?_) (e_int 1)),rfl,rfl⟩) (by show 2≤SZ;unfold SZ;decide)
  have:c=C:=by rcases qA6.mp hc with h|h;exact h;exact qAi.mp h
  subst this
  refine qAz ?_ f
  unfold sgl
  rw [qBx];rfl
 refine e_cmp hc (e_list (l_cons (e_vi h26) (l_cons (e_vi h26) l_nil))) ?_
 show eqL [.int (k+1),.int (k+1)] [.int (k+1),.int (k+1)]=some true
 have:∀k:Int,eqL [.int k,.int k] [.int k,.int k]=some true:=fun k=>by
  show some (decide (k=k)&&(decide (k=k)&&true))=_
  rw [decide_eq_true rfl];rfl
 exact this _
end
theorem add_self {Φ:Fns}{f:Nat}{F:Bool→List Mine.D→Option Mine.D}{q:Bool}{as:List Mine.D}:Fns.add Φ f F q f as=F q as:=if_pos rfl
theorem add_ne {Φ:Fns}{f g:Nat}{F:Bool→List Mine.D→Option Mine.D}{q:Bool}{as:List Mine.D}(h:g≠f):Fns.add Φ f F q g as=Φ q g as:=if_neg h
theorem law_7' (as:List Mine.D):Ph10 false 7 as=runF Ph6 false 4 p1_law_by_mail_nm.length p1_law_by_mail as:=(add_ne (by decide)).trans ((add_ne (by decide)).trans ((add_ne (by decide)).trans add_self))
theorem law_9' (as:List Mine.D):Ph10 false 9 as=runF Ph8 false 2 p1_law_ways_nm.length p1_law_ways as:=(add_ne (by decide)).trans add_self
theorem ph6_3 (s:List Nat):Ph6 false 3 [.str s]=runF Ph2 false 1 4 ckT [.str s]:=rfl
theorem ph2_2 (s:List Nat):Ph2 false 2 [.str s]=runF Ph1 false 1 6 stT [.str s]:=rfl
theorem mail_c (ts:List (List Nat))(hT:∀t∈ts,Tok t)(hl:ts.flatten.length<1000000):Ph6 false 3 [.str ts.flatten]=some (.bool (CK ts)):=
 (ph6_3 _).trans (check_ok Ph2 ts hT ((ph2_2 _).trans (strip_ok Ph1 ts hT hl)))
theorem mail_c2 (ts:List (List Nat))(hT:∀t∈ts,Tok t)(hq:[34]∉ts)(hl:ts.flatten.length<100000):Ph6 false 3 [.str (ts++[[92]]).flatten]=some (.bool (CK (ts++[[92]]))):=by
 have hq2:[34]∉ts++[[92]]:=fun h=>by
  rcases qAc.mp h with h|h
  ·exact hq h
  ·exact absurd (qAi.mp h) (by decide)
 have e:=strip2_no _ hq2
 have e1:escL (ts++[[92]]).flatten=posT 0 (ts++[[92]]):=escG_tail ts 0 hT
 refine (ph6_3 _).trans (check_gen Ph2 (ts++[[92]]) (by rw [e];exact e1) ((ph2_2 _).trans (strip_gen Ph1 _ e1 ?_)))
 rw [qBl,qA1]
 show _+1<_
 exact jL [_] [cT xa (eN 100000)] (cT (eU xa) (eN 1000000)) jT hl
theorem law_4 (w g:List Nat):Ph10 false 4 [.str w,.str g]=runF Ph3 false 2 6 ellT [.str w,.str g]:=rfl
theorem law_5 (q:Bool)(v f:Nat)(hv:v<5)(hf:f<100000):Ph10 q 5 [.int (v:Nat),.int (f:Nat)]=some (.str (spell v f)):=spelled_ok Ph4 q v f hv hf
theorem law_6 (row:List (Nat×Nat))(hr:∀x∈row,x.1<5)(hl:row.length≤100):Ph10 false 6 [.str (row.map fun x=>spell x.1 x.2).flatten]=some (.list [.str (row.map fun x=>97+x.1),.list ((row.map fun x=>!decide (x.2 % 2=0)).map .bool)]):=
 read_row false row hr hl
section
variable {L:List Nat}{x y:Nat}{A B D:List Nat}
theorem law_7 (H:Pair L x y A B D){W:List (List Nat)}(n:Nat)(hw:∀t∈W,isP t=true)(hwl:W.length≤1000)(hW:∀z:Nat,ck W (z:Int)=decide (z=0)) :
  Ph10 false 7 [.str L,.str (W.take n++[34]::([[44],[91],[60]]++W.drop n)).flatten,.str [x],.str [y]]=some (.list [.bool (decide (B.count y≠1)),.bool (decide (B.count y=2)),.bool (decide (B.count y≠1))]):=
 (law_7' _).trans <| mail_ok (Φ:=Ph6) H n hw hwl hW mail_c mail_c2
theorem law_8 (H:Pair L x y A B D):Ph10 false 8 [.str L,.str [x],.str [y]]=some (.list [.bool (decide (B.count y=1)),.bool (decide (B.count y=2))]):=
 dots_ok (Φ:=Ph7) (Φ':=Ph3) (q:=false) H fun _ _=>rfl
end
theorem law_9 (L:List Nat)(G:List Bool):Ph10 false 9 [.str L,.list (G.map .bool)]=runF Ph8 false 2 10 p1_law_ways [.str L,.list (G.map .bool)]:=law_9' _
theorem law_10 {T:List Nat}(hT:T.length≤5)(N C:List (List Nat)):Ph10 true 10 [.list (T.map fun v=>.str [v]),.list (N.map .str),.list (C.map .str)]=some (.int ((T.length:Int)-(basis (T.map (rowT N C T)) []).length)):=
 lack_ok (Φ:=Ph9) (q:=true) hT
end Mine
end

section
open PySem PyProof.Rows
namespace Mine
set_option maxRecDepth 100000
set_option genSizeOf false
set_option genInjectivity false
theorem split2 {L:List Nat}{v:Nat}(h:L.count v=2):∃A B D,L=A++v::(B++v::D)∧v∉A∧v∉B∧v∉D:=by
 obtain⟨A,R,e,hA⟩:=qC0 (qCe.mp (show 0<L.count v by rw [h];decide))
 rw [e,qAx,qFg,qCt.mpr hA] at h
 have h1:R.count v=1:=jQ [_] [cQ (eA (eN 0) (eU xa)) (eN 2)] xa (eN 1) jT jT h
 obtain⟨B,D,e2,hB⟩:=qC0 (qCe.mp (show 0<R.count v by rw [h1];decide))
 rw [e2,qAx,qFg,qCt.mpr hB] at h1
 exact⟨A,B,D,by rw [e,e2],hA,hB,qCt.mp (jq [_] [cQ (eA (eN 0) (eU xa)) (eN 1)] xa (eN 0) [1,1] [1,0] jT jT h1)⟩
structure Rw (L N:List Nat):Prop where
 nd:N.Nodup
 mem:∀c∈L,c∈N
 two:∀v∈N,L.count v=2
 oth:∀v∈N,∃z∈N,z≠v
 len:L.length≤10
 pos:0<L.length
 dot:∀v∈N,v≠46
theorem cut1 {a r t:Nat}(h:a<r)(hn:a≠t):(if t<r then 1 else 0)=(if t<a+1 then 1 else 0)+(if a<t∧t<r then 1 else 0):=by
 by_cases h1:t<a+1
 ·rw [if_pos h1,if_pos (by exact jL [_,_,_] [cT xa xb,cT xc (eU xa)] (cT xc xb) jT h h1),if_neg (by exact (fun e_=>jL [_,_] [cT xa (eU xb),cT xb xa] cF jT h1 e_.1))]
 ·rw [if_neg h1,qB2]
  exact ite_cond_congr (propext ⟨fun z=>⟨jL [_,_] [cL (eU xa) xb] (cT xa xb) jT (qDx h1),z⟩,fun z=>z.2⟩)
theorem itb {p q:Prop} [Decidable p] [Decidable q]:(if p∧q then 1 else 0)=(decide p&&decide q).toNat:=by
 by_cases h:p
 ·by_cases k:q
  ·rw [if_pos ⟨h,k⟩,decide_eq_true h,decide_eq_true k];rfl
  ·rw [if_neg fun z=>k z.2,decide_eq_false k,qCn];rfl
 ·rw [if_neg fun z=>h z.1,decide_eq_false h];rfl
theorem xor1:∀p q:Bool,(p ^^ q)=decide (p.toNat+q.toNat=1):=by decide
theorem nlt {a b:Nat}(h:a≠b):decide (b<a)=!decide (a<b):=by
 rcases Nat.lt_or_gt_of_ne h with k|k
 ·rw [decide_eq_true k,decide_eq_false (qGt k)];rfl
 ·rw [decide_eq_true k,decide_eq_false (qGt k)];rfl
theorem sym4:∀a b c d:Bool,(a=false→b=true)→(a=true→c=true)→(d=true→b=true)→(a&&b).toNat+(c&&d).toNat=1→(!a&&c).toNat+(b&&!d).toNat=1:=by decide
noncomputable def fP (L:List Nat)(v:Nat):Nat:=(findI L [v]).toNat
noncomputable def rP (L:List Nat)(v:Nat):Nat:=(rfindI L [v]).toNat
noncomputable def bcF (L:List Nat)(x y:Nat):Nat:=((L.drop (fP L x+1)).take (rP L x-(fP L x+1))).count y
section
variable {L N:List Nat}(H:Rw L N)
include H
theorem Rw.pair {x y:Nat}(hx:x∈N)(hy:y∈N)(hxy:x≠y):∃A B D,Pair L x y A B D∧fP L x=A.length∧rP L x=A.length+1+B.length∧bcF L x y=B.count y:=by
 obtain⟨A,B,D,e,hA,hB,hD⟩:=split2 (H.two x hx)
 have h2:=H.two y hy
 rw [e,qAx,qE7,qAx,qE7,if_neg (fun z=>hxy (eq_of_beq z))] at h2
 have P:Pair L x y A B D:=⟨e,hA,hB,hD,hxy,jQ [_,_,_] [cQ (eA xa (eA (eA xb (eA xc (eN 0))) (eN 0))) (eN 2)] (eA (eA xa xb) xc) (eN 2) jT jT h2,by have:=H.len;exact jL [_] [cL xa (eN 10)] (cL xa (eN 100)) jT this,H.dot x hx,H.dot y hy⟩
 have a:fP L x=A.length:=by unfold fP;rw [P.fst];rfl
 have b:rP L x=A.length+1+B.length:=by unfold rP;rw [P.lst];rfl
 refine⟨A,B,D,P,a,b,?_⟩
 unfold bcF
 rw [a,b,show A.length+1+B.length-(A.length+1)=B.length by exact jQ [_,_,_] [cQ (eA xa (eU xb)) (eA (eU xb) xc)] xa xc jT jT (qAg (jL [_,_] [] (cL (eU xa) (eA (eU xa) xb)) jT)),e,show A++x::(B++x::D)=(A++[x])++(B++x::D) by rw [qAe];rfl,List.drop_left' (by rw [qA1];rfl),qD8 rfl]
theorem Rw.fr {x:Nat}(hx:x∈N):findI L [x]=(fP L x:Nat)∧rfindI L [x]=(rP L x:Nat)∧fP L x<rP L x∧rP L x<L.length∧∀i,i<L.length→(L.getD i 0=x↔i=fP L x∨i=rP L x):=by
 obtain⟨z,hz,hzx⟩:=H.oth x hx
 obtain⟨A,B,D,P,a,b,_⟩:=H.pair hx hz (qBz hzx)
 refine⟨by rw [a,P.fst],by rw [b,P.lst],by rw [a,b];exact jL [_,_] [] (cT xa (eA (eU xa) xb)) jT,?_,fun i hi=>by rw [a,b];exact P.at i hi⟩
 rw [b,P.eq,qA1,qAd,qA1,qAd]
 exact jL [_,_,_] [] (cT (eA (eU xa) xb) (eA xa (eU (eA xb (eU xc))))) jT
theorem Rw.dbl:Dbl L.length (lD L) (fP L) (rP L) N where
 mem _ hq:=H.mem _ (getD_mem hq)
 lt _ hv:=(H.fr hv).2.2.1
 lm _ hv:=(H.fr hv).2.2.2.1
 a1 _ hv:=((H.fr hv).2.2.2.2 _ (qBj (H.fr hv).2.2.1 (H.fr hv).2.2.2.1)).mpr (.inl rfl)
 a2 _ hv:=((H.fr hv).2.2.2.2 _ (H.fr hv).2.2.2.1).mpr (.inr rfl)
 only _ hq:=((H.fr (H.mem _ (getD_mem hq))).2.2.2.2 _ hq).mp rfl
theorem Rw.cnt {t:Nat}(ht:t∈N):∀i,i≤L.length→cy L t i=(if fP L t<i then 1 else 0)+(if rP L t<i then 1 else 0)
 |0,_=>rfl
 |i+1,hi=>by
  obtain⟨_,_,h1,h2,h3⟩:=H.fr ht
  rw [cy_succ L t hi,Rw.cnt ht i (qAq hi)]
  have h:=h3 i hi
  by_cases e:L.getD i 0=t
  ·rw [if_pos e]
   rcases h.mp e with e|e
   ·rw [if_neg (by exact (fun e_=>jL [_,_] [cQ xa xb,cT xb xa] cF jT e e_)),if_neg (by exact (fun e_=>jL [_,_,_] [cT xa xb,cQ xc xa,cT xb xc] cF jT h1 e e_)),if_pos (by exact jL [_,_] [cR xa xb] (cT xb (eU xa)) jT e),if_neg (by exact (fun e_=>jL [_,_,_] [cT xa xb,cQ xc xa,cT xb (eU xc)] cF jT h1 e e_))]
   ·rw [if_pos (by exact jL [_,_,_] [cT xa xb,cR xc xb] (cT xa xc) jT h1 e),if_neg (by exact (fun e_=>jL [_,_] [cQ xa xb,cT xb xa] cF jT e e_)),if_pos (by exact jL [_,_,_] [cT xa xb,cR xc xb] (cT xa (eU xc)) jT h1 e),if_pos (by exact jL [_,_] [cR xa xb] (cT xb (eU xa)) jT e)]
  ·rw [if_neg e]
   have h4:¬(i=fP L t∨i=rP L t):=fun z=>e (h.mpr z)
   have e1:(fP L t<i+1)↔fP L t<i:=by lia
   have e2:(rP L t<i+1)↔rP L t<i:=by lia
   rw [qDq,ite_cond_congr (propext e1),ite_cond_congr (propext e2)]
theorem Rw.bc {x y:Nat}(hx:x∈N)(hy:y∈N)(hxy:x≠y):bcF L x y=(decide (fP L x<fP L y)&&decide (fP L y<rP L x)).toNat+(decide (fP L x<rP L y)&&decide (rP L y<rP L x)).toNat∧fP L x≠fP L y∧fP L x≠rP L y∧rP L x≠fP L y∧rP L x≠rP L y:=by
 obtain⟨A,B,D,P,a,b,c⟩:=H.pair hx hy hxy
 obtain⟨_,c2,c3,c4,_,_⟩:=P.cyA
 obtain⟨_,_,h1,h2,h3⟩:=H.fr hx
 obtain⟨_,_,g1,g2,g3⟩:=H.fr hy
 have e1:=(h3 _ (qBj h1 h2)).mpr (.inl rfl)
 have e2:=(h3 _ h2).mpr (.inr rfl)
 have f1:=(g3 _ (qBj g1 g2)).mpr (.inl rfl)
 have f2:=(g3 _ g2).mpr (.inr rfl)
 have n1:fP L x≠fP L y:=fun e=>hxy (by rw [←e1,e,f1])
 have n2:fP L x≠rP L y:=fun e=>hxy (by rw [←e1,e,f2])
 have n3:rP L x≠fP L y:=fun e=>hxy (by rw [←e2,e,f1])
 have n4:rP L x≠rP L y:=fun e=>hxy (by rw [←e2,e,f2])
 refine⟨?_,n1,n2,n3,n4⟩
 rw [←a] at c3
 rw [←b] at c4
 rw [H.cnt hy _ (qBj h1 h2)] at c3
 rw [H.cnt hy _ (qAq h2),cut1 h1 n1,cut1 h1 n2,qH0,c3] at c4
 rw [c,←itb,←itb]
 exact (qHd c4).symm
theorem Rw.par {v t:Nat}(hv:v∈N)(ht:t∈N)(hvt:v≠t):par (fP L) (rP L) (fP L v+1) (rP L v-(fP L v+1)) t=decide (bcF L v t=1):=by
 obtain⟨e,_⟩:=H.bc hv ht hvt
 obtain⟨_,_,h,_⟩:=H.fr hv
 have i1:∀s,inR (fP L v+1) (rP L v-(fP L v+1)) s=(decide (fP L v<s)&&decide (s<rP L v)):=fun s=>by
  unfold inR
  rw [qDu h,Bool.decide_and];rfl
 unfold Mine.par
 rw [i1,i1,e]
 exact xor1 _ _
theorem Rw.sym {v t:Nat}(hv:v∈N)(ht:t∈N)(hvt:v≠t):bcF L v t=1→bcF L t v=1:=by
 obtain⟨e,n1,n2,n3,n4⟩:=H.bc hv ht hvt
 obtain⟨e',_⟩:=H.bc ht hv (qBz hvt)
 obtain⟨_,_,h,_⟩:=H.fr hv
 obtain⟨_,_,h',_⟩:=H.fr ht
 rw [e,e',nlt n1,nlt (qBz n4)]
 exact sym4 _ _ _ _ (fun z=>decide_eq_true (qC9 (qCj.mp (of_decide_eq_false z)) h)) (fun z=>decide_eq_true (qBj (of_decide_eq_true z) h')) fun z=>decide_eq_true (qBj h' (of_decide_eq_true z))
end
theorem cA_mem (b x z v t:Nat):[v,t]∈cA b x z↔b=1∧(v=x∧t=z∨v=z∧t=x):=by
 unfold cA
 by_cases h:b=1
 ·rw [if_pos h,qA6,qAi]
  constructor
  ·intro e
   rcases e with e|e
   ·exact⟨h,.inl ⟨(qDw e).1,(qDw (qDw e).2).1⟩⟩
   ·exact⟨h,.inr ⟨(qDw e).1,(qDw (qDw e).2).1⟩⟩
  ·rintro⟨_,⟨rfl,rfl⟩|⟨rfl,rfl⟩⟩
   ·exact .inl rfl
   ·exact .inr rfl
 ·rw [if_neg h]
  exact⟨fun e=>(nomatch e),fun e=>absurd e.1 h⟩
theorem crL_mem {bc:Nat→Nat→Nat}{v t:Nat}(hvt:v≠t)(hs:bc v t=1↔bc t v=1):∀(rest done:List Nat),v∈done++rest→t∈done++rest→([v,t]∈crL bc done rest↔bc v t=1∧(v∈rest∨t∈rest))
 |[],done,_,_=>⟨fun h=>(nomatch h),fun h=>(by rcases h.2 with h|h<;>cases h)⟩
 |z::r,done,hv,ht=>by
  have ih:=crL_mem hvt hs r (done++[z]) (by rw [qAe];exact hv) (by rw [qAe];exact ht)
  rw [crL,qAc,ih,List.mem_flatMap]
  constructor
  ·rintro (⟨x,hx,h⟩|⟨h1,h2⟩)
   ·obtain⟨h1,⟨e1,e2⟩|⟨e1,e2⟩⟩:=(cA_mem _ _ _ _ _).mp h
    ·exact⟨by rw [e1,e2];exact h1,.inr (by rw [e2];exact qA5 ..)⟩
    ·exact⟨hs.mpr (by rw [e1,e2];exact h1),.inl (by rw [e1];exact qA5 ..)⟩
   ·exact⟨h1,h2.imp (qA3 _) (qA3 _)⟩
  ·rintro⟨h1,h2⟩
   by_cases hr:v∈r∨t∈r
   ·exact .inr ⟨h1,hr⟩
   ·have nv:v∉r:=fun h=>hr (.inl h)
    have nt:t∉r:=fun h=>hr (.inr h)
    have hd:∀x,x∈done++z::r→x∉r→x≠z→x∈done:=fun x h a b=>by
     rcases qAc.mp h with h|h
     ·exact h
     ·rcases qA6.mp h with h|h
      ·exact absurd h b
      ·exact absurd h a
    by_cases e:v=z
    ·exact .inl ⟨t,hd t ht nt (fun z'=>hvt (e.trans z'.symm)),(cA_mem _ _ _ _ _).mpr ⟨by rw [←e];exact hs.mp h1,.inr ⟨e,rfl⟩⟩⟩
    ·have e2:t=z:=by
      rcases h2 with h|h
      ·exact absurd ((qA6.mp h).resolve_right nv) e
      ·exact (qA6.mp h).resolve_right nt
     exact .inl ⟨v,hd v hv nv e,(cA_mem _ _ _ _ _).mpr ⟨by rw [←e2];exact h1,.inl ⟨rfl,e2⟩⟩⟩
end Mine
end

section
open PySem PyProof.Rows
namespace Mine
set_option maxRecDepth 100000
theorem numR_congr {b c:Nat→Bool}:∀{U:List Nat},(∀t∈U,b t=c t)→numR b U=numR c U
 |[],_=>rfl
 |t::U,h=>by
  rw [numR,numR,numR_congr fun t ht=>h t (qA3 _ ht),h t (qA5 ..)]
theorem sgl_mem (v:Nat):∀U:List Nat,[v]∈sgl U↔v∈U
 |[]=>⟨fun e=>(nomatch e),fun e=>(nomatch e)⟩
 |a::U=>by
  show [v]∈[a]::sgl U↔_
  rw [qA6,qA6,sgl_mem v U]
  exact or_congr ⟨fun e=>(qDw e).1,fun e=>by rw [e]⟩ qHr
section
variable {L N:List Nat}(H:Rw L N)
include H
theorem Rw.bit (g:Nat→Bool)(T:List Nat)(hT:∀v∈T,v∈N){v t:Nat}(hv:v∈T)(ht:t∈T):bt (sgl (T.filter (unl g (fP L) (rP L)))) (crL (bcF L) [] N) v t=mbit g (fP L) (rP L) v t:=by
 unfold bt mbit
 by_cases e:v=t
 ·rw [if_pos e,if_pos e,qC1,decide_eq_true_iff,sgl_mem,qGz]
  exact⟨fun h=>h.2,fun h=>⟨hv,h⟩⟩
 ·rw [if_neg e,if_neg e,H.par (hT v hv) (hT t ht) e]
  refine decide_eq_decide.mpr ((crL_mem e ⟨H.sym (hT v hv) (hT t ht) e,H.sym (hT t ht) (hT v hv) (qBz e)⟩ N [] (hT v hv) (hT t ht)).trans ⟨fun h=>h.1,fun h=>⟨h,.inl (hT v hv)⟩⟩)
theorem Rw.law {G:List Bool}(hG:G.length=L.length)(hN:N.length≤5):∃k:Int,
  Ph10 false 9 [.str L,.list (G.map .bool)]=some (.int (k+1))∧
  Ph10 true 10 [.list ((N.filter (tk (gD G) (fP L) (rP L))).map fun v=>.str [v]),.list ((sgl ((N.filter (tk (gD G) (fP L) (rP L))).filter (unl (gD G) (fP L) (rP L)))).map .str),.list ((crL (bcF L) [] N).map .str)]=some (.int k):=by
 obtain⟨T,hT⟩:∃T,T=N.filter (tk (gD G) (fP L) (rP L)):=⟨_,rfl⟩
 rw [←hT]
 have mT:∀v,v∈T↔v∈N∧tk (gD G) (fP L) (rP L) v=true:=fun v=>by rw [hT];exact qGz
 have hTl:T.length≤5:=by rw [hT];exact qA9 (qE8 _ _) hN
 have hTn:T.Nodup:=by rw [hT];exact H.nd.filter _
 have D:=H.dbl
 have W2:=Mine.two D H.pos (gD G)
 have hl:=H.len
 obtain⟨S,w,lb,rp,hc,W,hall⟩:=comps_all W2 (jk [_] [cL xa (eN 10)] (cT (eM 2 xa) (eN 99)) [1,2] jT hl)
 refine⟨_,?_,law_10 hTl _ _⟩
 have hr:=rank_ok D H.nd H.pos (U:=T.reverse) (R:=T.map (rowT (sgl (T.filter (unl (gD G) (fP L) (rP L)))) (crL (bcF L) [] N) T)) (by rw [List.Nodup,List.pairwise_reverse];exact hTn.imp qBz) (fun v=>by rw [qDc];exact mT v) (fun r=>by
  rw [qBf]
  constructor
  ·rintro⟨v,hv,rfl⟩
   exact⟨v,qDc.mpr hv,numR_congr fun t ht=>H.bit _ T (fun v hv=>((mT v).mp hv).1) hv (qDc.mp ht)⟩
  ·rintro⟨v,hv,rfl⟩
   exact⟨v,qDc.mp hv,numR_congr fun t ht=>H.bit _ T (fun v hv=>((mT v).mp hv).1) (qDc.mp hv) (qDc.mp ht)⟩) W hall
 rw [qDv] at hr
 refine (law_9 L G).trans ((ways_ok hG H.len H.pos (fun p hp=>(H.fr (H.mem _ (getD_mem hp))).1) (fun p hp=>(H.fr (H.mem _ (getD_mem hp))).2.1) (fun p hp=>?_) (fun p hp=>(oth_ok D hp).1) (fun s hs=>W2.sl _ (W2.tl s hs)) hc).trans ?_)
 ·rcases D.only p hp with e|e
  ·exact qA9 (qEo e) (qB5 ..)
  ·exact qA9 (qEo e) (qBv ..)
 ·congr 2
  lia
end
noncomputable abbrev nmL (n:Nat):List Nat:=[97,98,99,100,101].take n
noncomputable abbrev rwL (row:List (Nat×Nat)):List Nat:=row.map fun e=>97+e.1
theorem nmL_eq {n:Nat}(h:n≤5):nmL n=qAm 97 n:=
 (by decide:∀n,n<6→nmL n=qAm 97 n) n (qCi h)
theorem nmL_mem {n:Nat}(h:n≤5){v:Nat}:v∈nmL n↔97≤v∧v<97+n:=by
 rw [nmL_eq h];exact qDo
theorem rwL_cnt (u:Nat):∀row:List (Nat×Nat),(rwL row).count (97+u)=(row.map (·.1)).count u
 |[]=>rfl
 |e::row=>by
  show ((97+e.1)::rwL row).count (97+u)=(e.1::row.map (·.1)).count u
  rw [qE7,qE7,rwL_cnt u row]
  by_cases h:e.1=u
  ·rw [if_pos (beq_iff_eq.mpr (congrArg (97+·) h)),if_pos (beq_iff_eq.mpr h)]
  ·rw [if_neg (fun z=>h (qHd (eq_of_beq z))),if_neg (fun z=>h (eq_of_beq z))]
theorem row_rw {gs:List Nat}{n:Nat}(hg:∀x∈gs,x<65536)(h2:2≤n)(h5:n≤5):Rw (rwL (rowF gs (2*n))) (nmL n) where
 nd:=by rw [nmL_eq h5];exact List.nodup_range'
 mem c hc:=by
  obtain⟨e,he,rfl⟩:=qBf.mp hc
  have:=(rowF_mem gs hg _ e he).1
  exact (nmL_mem h5).mpr ⟨qB5 ..,jk [_,_] [cT (eM 2 xa) (eM 2 xb)] (cT (eA (eN 97) xa) (eA (eN 97) xb)) [2,1] jT this⟩
 two v hv:=by
  obtain⟨a,b⟩:=(nmL_mem h5).mp hv
  obtain⟨u,rfl⟩:=Nat.exists_eq_add_of_le a
  rw [rwL_cnt,rowF_two,if_pos (by exact jL [_,_] [cT (eA (eN 97) xa) (eA (eN 97) xb)] (cT xa xb) jT b)]
 oth v _:=by
  by_cases e:v=97
  ·exact⟨98,(nmL_mem h5).mpr ⟨by decide,jL [_] [cL (eN 2) xa] (cT (eN 98) (eA (eN 97) xa)) jT h2⟩,by exact (fun e_=>jL [_] [cQ xa (eN 97),cQ (eN 98) xa] cF jT e e_)⟩
  ·exact⟨97,(nmL_mem h5).mpr ⟨by decide,jL [_] [cL (eN 2) xa] (cT (eN 97) (eA (eN 97) xa)) jT h2⟩,qBz e⟩
 len:=by rw [qAa,rowF_len];exact jk [_] [cL xa (eN 5)] (cL (eM 2 xa) (eN 10)) [1,2] jT h5
 pos:=by rw [qAa,rowF_len];exact jk [_] [cL (eN 2) xa] (cT (eN 0) (eM 2 xa)) [1,2] jT h2
 dot v hv:=by have:=((nmL_mem h5).mp hv).1;exact (fun e_=>jL [_] [cL (eN 97) xa,cQ xa (eN 46)] cF jT this e_)
theorem opn_nil:∀N:List Nat,opn [] N=0
 |[]=>rfl
 |_::r=>(qB2 _).trans (opn_nil r)
section
variable {L N:List Nat}(H:Rw L N)
include H
theorem Rw.other (y:Nat)(hy:y∈N):∃z A B D,Pair L y z A B D:=by
 obtain⟨z,hz,hzy⟩:=H.oth y hy
 obtain⟨A,B,D,P,_⟩:=H.pair hy hz (qBz hzy)
 exact⟨z,A,B,D,P⟩
theorem Rw.nest (z:Nat):ck (wT L) (z:Int)=decide (z=0):=by
 have h:=ck_dy L N H.nd H.mem H.two z L.length 0 (qB2 _)
 rw [qH5,opn_nil,qDq,←qCx] at h
 have e:wT L=(qAf L.length).map fun k=>[dyk L k]:=qBx
 rw [e];exact h
theorem Rw.tells (n:Nat)(x:Nat)(hx:x∈N)(y:Nat)(hy:y∈N)(hxy:x≠y) :
  Ph10 false 7 [.str L,.str ((wT L).take n++[34]::([[44],[91],[60]]++(wT L).drop n)).flatten,.str [x],.str [y]]=some (.list [.bool (decide (bcF L x y≠1)),.bool (decide (bcF L x y=2)),.bool (decide (bcF L x y≠1))])∧
  Ph10 false 8 [.str L,.str [x],.str [y]]=some (.list [.bool (decide (bcF L x y=1)),.bool (decide (bcF L x y=2))]):=by
 obtain⟨A,B,D,P,_,_,e⟩:=H.pair hx hy hxy
 rw [e]
 refine⟨law_7 P n (fun t ht=>?_) ?_ H.nest,law_8 P⟩
 ·obtain⟨c,hc,rfl⟩:=qBf.mp ht
  obtain⟨k,_,rfl⟩:=qBf.mp hc
  unfold dyk
  split
  ·rfl
  ·rfl
 ·rw [qAa,qAa,qBp];exact qA9 H.len (by decide)
theorem Rw.ends {G:List Bool}(hG:G.length=L.length):Ends L N G (fP L) (rP L) where
 f _ hv:=(H.fr hv).1
 r _ hv:=(H.fr hv).2.1
 lf _ hv:=by rw [hG];exact qBj (H.fr hv).2.2.1 (H.fr hv).2.2.2.1
 ll _ hv:=by rw [hG];exact (H.fr hv).2.2.2.1
end
noncomputable def lw14:PSs:=
 (.cons (.for_ 15 (.val (.var 8)) lwY)
 (.cons (.if_ (.or (.cmp .ne (.var 11) (.var 12)) (.val (.comp (.var 23) 23 (.val (.bin .add (.var 11) (.var 12))) (.some (.and (.cmp .isnot (.var 23) (.bool true)) (.cmp .isnot (.var 23) (.bool false))))))) (.cons (.ret (.bool false)) .nil) .nil)
 (.cons (.asg 24 (.comp (.var 2) 2 (.val (.var 8)) (.some (.or (.val (.idx (.var 6) (.meth .find (.var 5) (.cons (.var 2) .nil)))) (.val (.idx (.var 6) (.meth .rfind (.var 5) (.cons (.var 2) .nil))))))))
 (.cons (.asg 25 (.comp (.var 2) 2 (.val (.var 24)) (.some (.cmp .ne (.idx (.var 6) (.meth .find (.var 5) (.cons (.var 2) .nil))) (.idx (.var 6) (.meth .rfind (.var 5) (.cons (.var 2) .nil)))))))
 (.cons (.asg 26 (.call 9 (.cons (.var 5) (.cons (.var 6) .nil))))
 (.cons (.ret (.cmp .eq (.comp (.bin .add (.call 10 (.cons (.var 24) (.cons (.var 25) (.cons (.var 27) .nil)))) (.int 1)) 27 (.val (.list (.cons (.var 13) (.cons (.var 14) .nil)))) .no) (.list (.cons (.var 26) (.cons (.var 26) .nil)))))
 .nil))))))
noncomputable def lw5:PSs:=
 (.cons (.unpack [5,6] (.call 6 (.cons (.meth .join (.str []) (.cons (.comp (.call 5 (.cons (.idx (.var 7) (.int 0)) (.cons (.idx (.var 7) (.int 1)) .nil))) 7 (.val (.var 3)) .no) .nil)) .nil)))
 (.cons (.if_ (.cmp .ne (.var 5) (.meth .join (.str []) (.cons (.comp (.bi .chr (.cons (.bin .add (.int 97) (.idx (.var 7) (.int 0))) .nil)) 7 (.val (.var 3)) .no) .nil))) (.cons (.ret (.bool false)) .nil) .nil)
 (.cons (.asg 8 (.slice (.str [97,98,99,100,101]) .no (.some (.bin .fdiv (.bi .len (.cons (.var 3) .nil)) (.int 2)))))
 (.cons (.asg 9 (.meth .join (.str []) (.cons (.comp (.ife (.cmp .in_ (.idx (.var 5) (.var 10)) (.slice (.var 5) .no (.some (.var 10)))) (.str [41]) (.str [40])) 10 (.range1 (.bi .len (.cons (.var 5) .nil))) .no) .nil)))
 (.cons (.asg 9 (.bin .add (.bin .add (.slice (.var 9) .no (.some (.bi .len (.cons (.var 8) .nil)))) (.str [34,44,91,60])) (.slice (.var 9) (.some (.bi .len (.cons (.var 8) .nil))) .no)))
 (.cons (.asg 11 (.list .nil))
 (.cons (.asg 12 (.list .nil))
 (.cons (.asg 13 (.list .nil))
 (.cons (.asg 14 (.list .nil))
 lw14)))))))))
theorem law_is:p1law=(.cons (.asg 1 (.comp (.bin .mod (.var 2) (.int 65536)) 2 (.val (.slice (.var 0) .no (.some (.int 10)))) .no))
 (.cons (.aug 1 .add (.slice (.list (.cons (.int 579) (.cons (.int 29) (.cons (.int 1) (.cons (.int 399) (.cons (.int 66) (.cons (.int 8) .nil))))))) (.some (.bi .len (.cons (.var 1) .nil))) .no))
 (.cons (.asg 3 (.list .nil))
 (.cons (.for_ 4 (.range1 (.bin .mul (.bin .fdiv (.bi .len (.cons (.var 1) .nil)) (.int 2)) (.int 2))) (.cons (.ins 3 (.bin .mod (.idx (.var 1) (.var 4)) (.bin .add (.var 4) (.int 1))) (.list (.cons (.bin .fdiv (.var 4) (.int 2)) (.cons (.bin .fdiv (.idx (.var 1) (.var 4)) (.bin .add (.var 4) (.int 1))) .nil)))) .nil)) lw5)))):=rfl
theorem partC {L N nest:List Nat}{G:List Bool}{n:Nat}{ρ:Env'}(H:LW L N nest (gS G) ρ [] [] [] [])(R:Rw L N)(hG:G.length=L.length)(hN:N.length≤5)(hnest:nest=((wT L).take n++[34]::([[44],[91],[60]]++(wT L).drop n)).flatten)
  {s15:Slot} (h15:ρ[15]?=some s15) (p15:pinned s15=false):∃ρ',exSs Ph10 false ρ lw14=some (.ret (Rs.flat (.bool true)),ρ'):=by
 subst hnest
 obtain⟨r1,T',e1,hT,H1⟩:=lw_loop (Φ:=Ph10) (bc:=bcF L) law_4 R.nd hN R.other (R.tells n) H h15 p15
 have e2:exS Ph10 false r1 (.if_ (.or (.cmp .ne (.var 11) (.var 12)) (.val (.comp (.var 23) 23 (.val (.bin .add (.var 11) (.var 12))) (.some (.and (.cmp .isnot (.var 23) (.bool true)) (.cmp .isnot (.var 23) (.bool false))))))) (.cons (.ret (.bool false)) .nil) .nil)=some (.next,r1):=(x_iff (lw_flags (by rw [H1.len];decide) H1.a11 H1.a12 (jL [_] [cT xa (eN 600)] (cL xa (eN 100000)) jT hT))).trans rfl
 have E:=R.ends hG
 obtain⟨T,hTe⟩:∃T,T=N.filter (tk (gD G) (fP L) (rP L)):=⟨_,rfl⟩
 have hTN:∀v∈T,v∈N:=fun v hv=>by rw [hTe] at hv;exact (qGz.mp hv).1
 have hTl:T.length≤5:=by rw [hTe];exact qA9 (qE8 _ _) hN
 obtain⟨k,f9,f10⟩:=R.law hG hN
 rw [←hTe] at f10
 obtain⟨s24,b24,p24⟩:=H1.scr 24 (by decide)
 have e3:=lw_taken (Φ:=Ph10) E H1.a5 H1.a6 H1.a8 (by rw [H1.len];decide) (by lia)
 rw [←hTe] at e3
 have e3:=x_asg e3 (sv_new b24 p24)
 have H2:=H1.scr' (i:=24) (by decide) (s:=oN T) rfl
 have b24:(r1.set 24 (oN T))[24]?=some (oN T):=qA4 (by rw [H1.len];decide)
 obtain⟨r2,hr2⟩:∃r2,r2=r1.set 24 (oN T):=⟨_,rfl⟩
 rw [←hr2] at e3 H2 b24
 obtain⟨U,hU⟩:∃U,U=T.filter (unl (gD G) (fP L) (rP L)):=⟨_,rfl⟩
 obtain⟨s25,b25,p25⟩:=H2.scr 25 (by decide)
 have e4:=lw_unlike (Φ:=Ph10) E hTN H2.a5 H2.a6 b24 (by rw [H2.len];decide) (by lia)
 rw [←hU] at e4 f10
 have e4:=x_asg e4 (sv_new b25 p25)
 have H3:=H2.scr' (i:=25) (by decide) (s:=oN U) rfl
 have b25:(r2.set 25 (oN U))[25]?=some (oN U):=qA4 (by rw [H2.len];decide)
 have b24:=H2.get (i:=25) (s:=oN U) b24 (by decide)
 obtain⟨r3,hr3⟩:∃r3,r3=r2.set 25 (oN U):=⟨_,rfl⟩
 rw [←hr3] at e4 H3 b24 b25
 obtain⟨s26,b26,p26⟩:=H3.scr 26 (by decide)
 have e5:=x_asg (e_call (l_cons (e_vs H3.a5) (l_cons (e_var H3.a6) l_nil)) f9) (sv_flat b26 p26 rfl)
 have H4:=H3.scr' (i:=26) (by decide) (s:=vi (k+1)) rfl
 have b26:(r3.set 26 (vi (k+1)))[26]?=some (vi (k+1)):=qA4 (by rw [H3.len];decide)
 have e6:=x_ret (lw_last (H3.get (i:=26) (s:=vi (k+1)) b24 (by decide)) (H3.get (i:=26) (s:=vi (k+1)) b25 (by decide)) H4.a13 H4.a14 b26 (by rw [H4.len];decide) f10)
 exact⟨_,(x_seq e1).trans ((x_seq e2).trans ((x_seq e3).trans ((x_seq e4).trans ((x_seq e5).trans (x_seqr e6)))))⟩
theorem set_get {ρ:Env'}{i j:Nat}{s t:Slot}(h:ρ[j]?=some t)(e:i≠j):(ρ.set i s)[j]?=some t:=(set_ne e).trans h
theorem scr_in:∀i∈scrL,(i=2∨4<i)∧i<28∧5≠i∧6≠i∧8≠i∧9≠i∧11≠i∧12≠i∧13≠i∧14≠i:=by decide
theorem partB {gs:List Nat}{n:Nat}{ρ:Env'}(hg:∀x∈gs,x<65536)(h2:2≤n)(h5:n≤5)(hlen:ρ.length=28)(h3:ρ[3]?=some (ol (rD (rowF gs (2*n)))))(hz:∀i,(i=2∨4<i)→i<28→ρ[i]?=some none) :
  ∃ρ',exSs Ph10 false ρ lw5=some (.ret (Rs.flat (.bool true)),ρ'):=by
 have R:=row_rw hg h2 h5
 have hl:=rowF_len gs (2*n)
 have hr:∀e∈rowF gs (2*n),e.1<5∧e.2<100000:=fun e he=>by
  have:=rowF_mem gs hg _ e he
  lia
 obtain⟨row,hrow⟩:∃row,row=rowF gs (2*n):=⟨_,rfl⟩
 rw [←hrow] at h3 R hl hr
 obtain⟨G,hGe⟩:∃G,G=row.map fun x=>!decide (x.2 % 2=0):=⟨_,rfl⟩
 have hG:G.length=(rwL row).length:=by rw [hGe,qAa,qAa]
 have f6:=law_6 row (fun e he=>(hr e he).1) (jk [_,_] [cL xa (eN 5),cQ xb (eM 2 xa)] (cL xb (eN 100)) [1,2,1] jT h5 hl)
 rw [←hGe] at f6
 have hLl:(rwL row).length≤100:=qA9 R.len (by decide)
 have hnl:(nmL n).length=n:=by rw [nmL_eq h5,qFy]
 have e5:=lw_read (Φ:=Ph10) h3 (hz 5 (by decide) (by decide)) rfl (hz 6 (by decide) (by decide)) rfl (by rw [hlen];decide) hr (jk [_,_] [cL xa (eN 5),cQ xb (eM 2 xa)] (cL xb (eN 100)) [1,2,1] jT h5 hl) law_5 f6
 obtain⟨r5,hr5⟩:∃r5,r5=(ρ.set 5 (vs (rwL row))).set 6 (gS G):=⟨_,rfl⟩
 have l5:r5.length=28:=by rw [hr5,qAv,qAv,hlen]
 have k5:∀{j:Nat} {t:Slot},5≠j→6≠j→ρ[j]?=some t→r5[j]?=some t:=fun a b h=>by rw [hr5];exact set_get (set_get h a) b
 have a5:r5[5]?=some (vs (rwL row)):=by rw [hr5];exact set_get (qA4 (by rw [hlen];decide)) (by decide)
 have a6:r5[6]?=some (gS G):=by rw [hr5];exact qA4 (by rw [qAv,hlen];decide)
 have a3:=k5 (by decide) (by decide) h3
 rw [←hr5] at e5
 have e6:=lw_plain (Φ:=Ph10) a3 a5 (by rw [l5];decide) hr (jk [_,_] [cL xa (eN 5),cQ xb (eM 2 xa)] (cL xb (eN 100)) [1,2,1] jT h5 hl)
 have e7:=lw_names (Φ:=Ph10) a3 (k5 (by decide) (by decide) (hz 8 (by decide) (by decide))) rfl hl (jL [_] [cL xa (eN 5)] (cT xa (eN 1000)) jT h5)
 obtain⟨r7,hr7⟩:∃r7,r7=r5.set 8 (vs (nmL n)):=⟨_,rfl⟩
 have l7:r7.length=28:=by rw [hr7,qAv,l5]
 have k7:∀{j:Nat} {t:Slot},8≠j→r5[j]?=some t→r7[j]?=some t:=fun a h=>by rw [hr7];exact set_get h a
 have a8:r7[8]?=some (vs (nmL n)):=by rw [hr7];exact qA4 (by rw [l5];decide)
 rw [←hr7] at e7
 have a5:=k7 (by decide) a5
 have a6:=k7 (by decide) a6
 have e8:=lw_nest (Φ:=Ph10) a5 (k7 (by decide) (k5 (by decide) (by decide) (hz 9 (by decide) (by decide)))) rfl (by rw [l7];decide) hLl
 have b9:(r7.set 9 (vs (wC (rwL row))))[9]?=some (vs (wC (rwL row))):=qA4 (by rw [l7];decide)
 have e9:=lw_nest2 (Φ:=Ph10) (set_get a8 (by decide)) hnl b9 hLl (jL [_] [cL xa (eN 5)] (cL xa (eN 100)) jT h5)
 obtain⟨nest,hnest⟩:∃nest,nest=((wT (rwL row)).take n++[34]::([[44],[91],[60]]++(wT (rwL row)).drop n)).flatten:=⟨_,rfl⟩
 rw [←hnest] at e9
 obtain⟨r9,hr9⟩:∃r9,r9=(r7.set 9 (vs (wC (rwL row)))).set 9 (vs nest):=⟨_,rfl⟩
 have l9:r9.length=28:=by rw [hr9,qAv,qAv,l7]
 have k9:∀{j:Nat} {t:Slot},9≠j→r7[j]?=some t→r9[j]?=some t:=fun a h=>by rw [hr9];exact set_get (set_get h a) a
 have a9:r9[9]?=some (vs nest):=by rw [hr9];exact qA4 (by rw [qAv,l7];decide)
 rw [←hr9] at e9
 have a5:=k9 (by decide) a5
 have a6:=k9 (by decide) a6
 have a8:=k9 (by decide) a8
 have z9:∀i,(i=2∨4<i)→i<28→5≠i→6≠i→8≠i→9≠i→r9[i]?=some none:=fun i h1 h2 h5 h6 h8 h9=>k9 h9 (k7 h8 (k5 h5 h6 (hz i h1 h2)))
 have z:∀i,i=11∨i=12∨i=13∨i=14∨i=15→r9[i]?=some none:=fun i h=>by
  rcases h with rfl|rfl|rfl|rfl|rfl<;>exact z9 _ (by decide) (by decide) (by decide) (by decide) (by decide) (by decide)
 have e10:=lw_nil (Φ:=Ph10) (z 11 (by decide)) rfl
 have e11:=lw_nil (Φ:=Ph10) (set_get (i:=11) (s:=ol []) (z 12 (by decide)) (by decide)) rfl
 have e12:=lw_nil (Φ:=Ph10) (set_get (i:=12) (s:=ol []) (set_get (i:=11) (s:=ol []) (z 13 (by decide)) (by decide)) (by decide)) rfl
 have e13:=lw_nil (Φ:=Ph10) (set_get (i:=13) (s:=ol []) (set_get (i:=12) (s:=ol []) (set_get (i:=11) (s:=ol []) (z 14 (by decide)) (by decide)) (by decide)) (by decide)) rfl
 obtain⟨r13,hr13⟩:∃r13,r13=(((r9.set 11 (ol [])).set 12 (ol [])).set 13 (ol [])).set 14 (ol []):=⟨_,rfl⟩
 rw [←hr13] at e13
 have k13:∀{j:Nat} {t:Slot},11≠j→12≠j→13≠j→14≠j→r9[j]?=some t→r13[j]?=some t:=fun a b c d h=>by rw [hr13];exact set_get (set_get (set_get (set_get h a) b) c) d
 have H:LW (rwL row) (nmL n) nest (gS G) r13 [] [] [] []:=by
  refine⟨by rw [hr13,qAv,qAv,qAv,qAv,l9],k13 (by decide) (by decide) (by decide) (by decide) a5,k13 (by decide) (by decide) (by decide) (by decide) a6,k13 (by decide) (by decide) (by decide) (by decide) a8,k13 (by decide) (by decide) (by decide) (by decide) a9,?_,?_,?_,?_,fun i hi=>?_⟩
  ·rw [hr13];exact set_get (set_get (set_get (qA4 (by rw [l9];decide)) (by decide)) (by decide)) (by decide)
  ·rw [hr13];exact set_get (set_get (qA4 (by rw [qAv,l9];decide)) (by decide)) (by decide)
  ·rw [hr13];exact set_get (qA4 (by rw [qAv,qAv,l9];decide)) (by decide)
  ·rw [hr13];exact qA4 (by rw [qAv,qAv,qAv,l9];decide)
  ·obtain⟨c1,c2,c5,c6,c8,c9,c11,c12,c13,c14⟩:=scr_in i hi
   exact⟨none,k13 c11 c12 c13 c14 (z9 i c1 c2 c5 c6 c8 c9),rfl⟩
 obtain⟨ρ',h⟩:=partC H R hG (by rw [hnl];exact h5) hnest (k13 (by decide) (by decide) (by decide) (by decide) (z 15 (by decide))) rfl
 exact⟨ρ',(x_seq e5).trans ((x_seq e6).trans ((x_seq e7).trans ((x_seq e8).trans ((x_seq e9).trans ((x_seq e10).trans ((x_seq e11).trans ((x_seq e12).trans ((x_seq e13).trans h))))))))⟩
theorem plain:Plain:=by
 intro ns _
 have hz:SZ=16777216:=rfl
 obtain⟨r0,hr0⟩:∃r0:Env',r0=some (.list (ns.map .int),.val tb3)::qBh 27 none:=⟨_,rfl⟩
 have l0:r0.length=28:=by rw [hr0];rfl
 have a0:r0[0]?=some (some (.list (ns.map .int),.val tb3)):=by rw [hr0];rfl
 have z0:∀i,0≠i→i<28→r0[i]?=some none:=fun i h hi=>by
  rcases i with _|i
  ·exact absurd rfl h
  ·rw [hr0,qCz,qGg,if_pos (Nat.lt_of_succ_lt_succ hi)]
 obtain⟨g0,hg0⟩:∃g0:List Nat,g0=(ns.take 10).map fun x=>(x % 65536).toNat:=⟨_,rfl⟩
 have g0l:g0.length≤10:=by rw [hg0,qAa,qB6];exact qCr ..
 have e1:=lw_given (Φ:=Ph10) (by rw [l0];decide) a0
 rw [←hg0] at e1
 have e1:=x_asg e1 (sv_new (z0 1 (by decide) (by decide)) rfl)
 obtain⟨r1,hr1⟩:∃r1,r1=r0.set 1 (ol (nI g0)):=⟨_,rfl⟩
 have l1:r1.length=28:=by rw [hr1,qAv,l0]
 have a1:r1[1]?=some (ol (nI g0)):=by rw [hr1];exact qA4 (by rw [l0];decide)
 have z1:∀i,0≠i→1≠i→i<28→r1[i]?=some none:=fun i a b h=>by rw [hr1];exact set_get (z0 i a h) b
 rw [←hr1] at e1
 have e2:=lw_rest (Φ:=Ph10) a1 (by rw [qAa];exact jL [_] [cL xa (eN 10)] (cL xa (eN 100)) jT g0l)
 rw [qAa] at e2
 have e2:=x_augl (b:=false) (ds:=nI g0) (es:=nI (G6.drop g0.length)) a1 e2 rfl (by
  rw [qAa,qAa,qAn]
  have:G6.length=6:=rfl
  exact jL [_,_,_,_] [cR xa (eN 16777216),cL xb (eN 10),cQ xc (eN 6),cL xd xc] (cL (eA xb xd) xa) jT hz g0l this (Nat.sub_le _ _)) (allFlat_map _ (fun _=>rfl) _)
 obtain⟨gs,hgs⟩:∃gs,gs=g0++G6.drop g0.length:=⟨_,rfl⟩
 rw [show nI g0++nI (G6.drop g0.length)=nI gs by rw [hgs];exact qAt.symm] at e2
 have hgl:6≤gs.length∧gs.length≤10:=by
  rw [hgs,qA1,qAn]
  have:G6.length=6:=rfl
  lia
 have hg:∀x∈gs,x<65536:=fun x hx=>by
  rw [hgs] at hx
  rcases qAc.mp hx with h|h
  ·rw [hg0] at h
   obtain⟨y,_,rfl⟩:=qBf.mp h
   lia
  ·exact (by decide:∀x∈G6,x<65536) x (qDj h)
 obtain⟨r2,hr2⟩:∃r2,r2=r1.set 1 (ol (nI gs)):=⟨_,rfl⟩
 have l2:r2.length=28:=by rw [hr2,qAv,l1]
 have a1:r2[1]?=some (ol (nI gs)):=by rw [hr2];exact qA4 (by rw [l1];decide)
 have z2:∀i,0≠i→1≠i→i<28→r2[i]?=some none:=fun i a b h=>by rw [hr2];exact set_get (z1 i a b h) b
 rw [←hr2] at e2
 have e3:=lw_nil (Φ:=Ph10) (z2 3 (by decide) (by decide) (by decide)) rfl
 obtain⟨r3,hr3⟩:∃r3,r3=r2.set 3 (ol []):=⟨_,rfl⟩
 have l3:r3.length=28:=by rw [hr3,qAv,l2]
 have a3:r3[3]?=some (ol (rD (rowF gs 0))):=by rw [hr3];exact qA4 (by rw [l2];decide)
 have a1:r3[1]?=some (ol (nI gs)):=by rw [hr3];exact set_get a1 (by decide)
 have z3:∀i,0≠i→1≠i→3≠i→i<28→r3[i]?=some none:=fun i a b c h=>by rw [hr3];exact set_get (z2 i a b h) c
 rw [←hr3] at e3
 obtain⟨n,hn⟩:∃n,n=gs.length / 2:=⟨_,rfl⟩
 obtain⟨r4,s4,f,b3,_,_,l4,o4⟩:=lw_inss (Φ:=Ph10) (jL [_] [cL xa (eN 10)] (cT xa (eN 1000)) jT hgl.2) (2*n) 0 r3 none a1 a3 (z3 4 (by decide) (by decide) (by decide) (by decide)) rfl (jk [_,_,_,_] [cQ xa xb,cQ (eA (eM 2 xb) xc) xd] (cL (eA (eN 0) (eM 2 xa)) xd) [1,2,1] jT hn (qBc _ _))
 have hm:evE Ph10 false r3 (.bin .mul (.bin .fdiv (.bi .len (.cons (.var 1) .nil)) (.int 2)) (.int 2))=some ⟨.int ((2*n:Nat):Int),Tg.z,true⟩:=by
  have h:=ex_lenl (Φ:=Ph10) (q:=false) (e_var a1)
  rw [qAa] at h
  refine (e_muli (e_fdiv h (e_int 2) (by decide)) (e_int 2) (by lia) (by decide)).trans ?_
  rw [show (gs.length:Int) / 2*2=((2*n:Nat):Int) by lia]
 have e4:exS Ph10 false r3 (.for_ 4 (.range1 (.bin .mul (.bin .fdiv (.bi .len (.cons (.var 1) .nil)) (.int 2)) (.int 2))) lwR)=some (.next,r4):=
  x_for0 (i_range1 hm (jk [_,_,_,_] [cL xa (eN 10),cQ xb xc,cQ (eA (eM 2 xc) xd) xa] (cT (eM 2 xb) (eN 100000)) [1,1,2,1] jT hgl.2 hn (qBc _ _))) rfl rfl rfl (by rw [qCx];exact f)
 rw [qB2] at b3
 obtain⟨ρ',h⟩:=partB hg (jk [_,_,_,_] [cL (eN 6) xa,cR xb xc,cR (eA (eM 2 xc) xd) xa,cT xd (eN 2)] (cL (eN 2) xb) [2,1,2,1,1] jT hgl.1 hn (qBc _ _) (qC6 _ (qBi _))) (jk [_,_,_,_] [cL xa (eN 10),cQ xb xc,cQ (eA (eM 2 xc) xd) xa] (cL xb (eN 5)) [2,1,2,1] jT hgl.2 hn (qBc _ _)) (l4.trans l3) b3 fun i h hi=>(o4 i (by lia) (by lia)).trans (z3 i (by lia) (by lia) (by lia) hi)
 refine run_ret (r:=Rs.flat (.bool true)) (ρ':=ρ') rfl ?_ rfl
 have e0:[D.list (ns.map .int)].map (fun d=>some (d,VT.val (eff d ⟨false,false,true⟩)))++qBh (p1law_nm.length-[D.list (ns.map D.int)].length) none=r0:=by rw [hr0];rfl
 rw [e0,law_is]
 exact (x_seq e1).trans ((x_seq e2).trans ((x_seq e3).trans ((x_seq e4).trans h)))
end Mine
end

open PySem PySem.W PyProof.Rows PySem.Calls in
set_option maxRecDepth 100000 in
theorem Mine.law_said:Mine.lw.row.wellSaid=true:=by kernel_rfl

set_option maxRecDepth 100000 in
theorem PySem.Challenge.cw_to0056_01_holds : PySem.Challenge.rw_to0056_01.Holds :=
  Mine.law_t (Mine.holds_of_call Mine.law_said Mine.row_bare Mine.row_prom Mine.row_opens Mine.row_frees (Mine.call_plain Mine.plain))
