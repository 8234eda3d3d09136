import PyProof.Rows.All
import Wide.All
import OpenK.AllK
import Wide.FinOn
import KE.KSuper
import PyProof.CollectIter
import PyProof.SumAny
import PyProof.GenCompD
import PyProof.JoinWalk
import PyProof.StrLaws
import PyProof.Rows.SumAny
import PyProof.StrCalls2
import KE.KAnyBase
import PyProof.StrLawsTight
import PySem.Challenge.RW_wa0045_01
set_option maxHeartbeats 0
set_option maxRecDepth 100000
set_option Elab.async false
set_option autoImplicit false
set_option linter.all false
open PySem renaming wpAny_bind->Ua,wpAny_pure->Ub,wpAny_mono->Ud
open Nat renaming le_trans->Uc,le_refl->Ug,add_le_add->Uh,lt_of_le_of_lt->Uo,le_of_eq->Us,add_le_add_right->Uv,le_of_ble_eq_true->Uw,lt_trans->U5,le_of_succ_le->U6,le_add_right->U7,lt_of_lt_of_le->U9,zero_le->Tb,lt_succ_of_lt->Tf,lt_succ_self->Tg,not_lt->Th,le_antisymm->Tn,le_of_lt->Tq,le_succ->Tr,ne_of_lt->Ts,add_le_add_left->Tu,xor_assoc->T3,succ_le_succ->T7,le_of_lt_succ->Sb,min_eq_left->Se,not_lt_zero->Sk,min_le_right->Sq,mod_lt->Sr,lt_or_eq_of_le->Ss,mul_le_mul_right->Sw,eq_zero_or_pos->S2,le_add_left->S5,lt_of_succ_lt->S7,lt_irrefl->S8,le_of_not_lt->Ra,zero_add->Rf,min_le_left->Rg
open List renaming mem_append->Ue,getElem?_eq_getElem->Ui,mem_singleton->Uj,mem_of_getElem?->Uk,getElem?_map->Ul,range->Um,getElem?_eq_some_iff->Un,mem_map->Uq,mem_cons->Ur,length_map->Ut,getD_eq_getElem?_getD->Uu,nodup_append->Uy,size_toArray->Uz,mem_range->U0,nodup_cons->U3,mem_flatMap->U4,length_append->U8,mem_filter->Ta,map_map->Tc,length_cons->Td,replicate->Te,length_take->Ti,filter_cons->Tj,map_cons->To,map_congr_left->Tp,mem_cons_of_mem->Tt,map_append->Tv,take_of_length_le->Tw,mem_cons_self->Tx,nodup_nil->Tz,getElem_mem->T1,eq_of_mem_replicate->T4,length_filter_le->T5,filter_eq_nil_iff->T8,pairwise_lt_range->T9,getElem?_range->Sa,append_assoc->Sd,filter_append->Sf,pairwise_map->Sg,take_succ_eq_append_getElem->Sh,length_pos_iff->Si,append_nil->Sj,foldl_cons->Sm,range_succ->Sn,pairwise_iff_getElem->So,getElem?_eq_none_iff->Sp,all_eq_true->Su,length_range->Sx,length_nil->Sy,length_drop->Sz,lookup_cons->S0,take_length->S1,mem_or_eq_of_mem_set->S4,getElem?_of_mem->S6,not_mem_nil->Rc,sum_cons->Ri
open Option renaming some->Up,map_eq_some_iff->Ux,elim_some->Rb,map_some->Rh
open Bool renaming false_eq_true->U1,and_eq_true_iff->Sv,false_ne_true->S3,true_and->S9
open Int renaming natCast_nonneg->U2,toNat_natCast->T6,ofNat_le->Rd
namespace Mine
section
open Nat.Internal.Linear
theorem far (ctx:Context) (l r x y:Expr) (v:(ExprCnstr.toNormPoly ⟨false, .add x r, .add y l⟩).isValid=true) (h:l.denote ctx<=r.denote ctx):x.denote ctx<=y.denote ctx:=by
 have h2:x.denote ctx+r.denote ctx<=y.denote ctx+l.denote ctx:=of_eq_true (ExprCnstr.eq_true_of_isValid ctx _ v);omega
theorem far0 (ctx:Context) (x y:Expr) (v:(ExprCnstr.toNormPoly ⟨false,x,y⟩).isValid=true):x.denote ctx<=y.denote ctx:=of_eq_true (ExprCnstr.eq_true_of_isValid ctx _ v)
theorem farE (ctx:Context) (x y:Expr) (v:(ExprCnstr.toNormPoly ⟨true,x,y⟩).isValid=true):x.denote ctx=y.denote ctx:=of_eq_true (ExprCnstr.eq_true_of_isValid ctx _ v)
theorem leb {a m n:Nat} (h:a<=m) (e:Nat.ble m n=true):a<=n:=Uc h (Uw e)
theorem ltb {a m n:Nat} (h:a<=m) (e:Nat.blt m n=true):a < n:=Uo h (Uw e)
theorem lbe {a m n:Nat} (h:a < m) (e:Nat.ble m (n+1)=true):a<=n:=Sb (U9 h (Uw e))
theorem lbl {a m n:Nat} (h:a < m) (e:Nat.ble m n=true):a < n:=U9 h (Uw e)
namespace AR
noncomputable abbrev v0:Expr:=.var 0
noncomputable abbrev v1:Expr:=.var 1
noncomputable abbrev v2:Expr:=.var 2
noncomputable abbrev v3:Expr:=.var 3
noncomputable abbrev v4:Expr:=.var 4
noncomputable abbrev v5:Expr:=.var 5
noncomputable abbrev n0:Expr:=.num 0
noncomputable abbrev n1:Expr:=.num 1
noncomputable abbrev N:=Expr.num
noncomputable abbrev A:=Expr.add
noncomputable abbrev c1 (a:Nat):Context:=.leaf a
noncomputable abbrev c2 (a b:Nat):Context:=.branch 1 (.leaf a) (.leaf b)
noncomputable abbrev c3 (a b c:Nat):Context:=.branch 1 (.leaf a) (.branch 2 (.leaf b) (.leaf c))
noncomputable abbrev c4 (a b c d:Nat):Context:=.branch 2 (.branch 1 (.leaf a) (.leaf b)) (.branch 3 (.leaf c) (.leaf d))
end AR
open AR
theorem neg1 (n:Nat):(-1:Int)+((n:Int)+1)=(n:Int):=(congrArg (λz=>-1+z) (Int.add_comm (n:Int) 1)).trans (Int.neg_add_cancel_left 1 (n:Int))
theorem nt (a:Nat):((-1:Int)+(a:Int)).toNat=a - 1:=by
 cases a with
 | zero=>rfl
 | succ n=>exact congrArg Int.toNat (neg1 n)
theorem mdm (a k m q:Nat) (e:256=k*(m*q)):a % 256 / k % m=a / k % m:=by
 rw [e,Nat.mod_mul_right_div_self,Nat.mod_mul_right_mod]
theorem i63 {a:Nat} (h:a < 2 ^ 62):(a:Int) < 2 ^ 63:=Int.ofNat_lt.mpr (U5 h (Uw rfl):a < 9223372036854775808)
theorem midl {a b:Nat} (h:a < b):a<=(a+b) / 2:=(Nat.le_div_iff_mul_le (by decide)).mpr (by rw [Nat.mul_two]; exact Tu (Tq h) a)
theorem midr {a b:Nat} (h:a < b):(a+b) / 2 < b:=Nat.div_lt_of_lt_mul (by rw [Nat.two_mul]; exact Nat.add_lt_add_right h b)
theorem nasl (a b:Nat):((a+b:Nat):Int) - (a:Int)=(b:Int):=(congrArg (λz=>z - (a:Int)) (Int.add_comm (a:Int) (b:Int))).trans (Int.add_sub_cancel (b:Int) (a:Int))
theorem ngl {a:Nat} (h:0 < a):-(a:Int)<=-1:=Int.neg_le_neg (Rd.mpr h)
theorem ar1 {a b c:Nat}:a<=1001->b<=c->b+a<=c+1001:=λh0 h1=>(far (c3 b a c) (A v1 v0) (A (N 1001) v2) (A v0 v1) (A v2 (N 1001)) rfl (Uh h0 h1))
theorem ar2 {a:Nat}:a+32 < 32->¬a+32 < 32:=λh0=>(Nat.not_lt_of_le (far0 (c1 a) (N 32) (A v0 (N 32)) rfl))
theorem ar3 {a b:Nat}:1<=a->b=a+(0+1)->1<=b:=λh0 h1=>(far (c2 b a) (A v1 (A n0 n1)) v0 n1 v0 rfl (Us h1.symm))
theorem ar4 {a b c:Nat}:a<=b+2->c=a+(0+1)->c<=b+1+2:=λh0 h1=>(far (c3 c b a) (A v2 v0) (A (A v1 (N 2)) (A v2 (A n0 n1))) v0 (A (A v1 n1) (N 2)) rfl (Uh h0 (Us h1)))
theorem ar5 {a:Nat}:(max (0:Int) (min ((-1:Int)+(↑a:Int)) (↑a:Int))).toNat=a - 1:=by
 cases a with
 | zero=>rfl
 | succ n=>rw [show (-1:Int)+((n+1:Nat):Int)=(n:Int) from neg1 n,Int.min_eq_left (Rd.mpr (Tr n)),Int.max_eq_right (U2 n)]; rfl
theorem ar6 {a b c:Nat}:a < 64 ^ 4->b < 64 ^ 2->c < 64->a < 16777216/\b < 4096/\c < 64:=λh0 h1 h2=>⟨(far (c1 a) (A v0 n1) (N (64 ^ 4)) (A v0 n1) (N 16777216) rfl h0),⟨(far (c1 b) (A v0 n1) (N (64 ^ 2)) (A v0 n1) (N 4096) rfl h1),(far (c1 c) (A v0 n1) (N 64) (A v0 n1) (N 64) rfl h2)⟩⟩
theorem ar7 {a b:Nat}:a < b->a<=(a+b) / 2:=midl
theorem ar8 {a b:Nat}:a < b->(a+b) / 2 < b:=midr
theorem ar9 {a b c:Nat}:a<=10->b=a->c+1 < a->201+101*c<=2 ^ 18:=λh0 _ h2=>Uc (Tu (Nat.mul_le_mul_left 101 (U6 (Tq (U9 h2 h0)):c<=10)) 201) (Uw rfl)
theorem ar10 {a b c:Nat}:a < 2 ^ 62->b<=a->c < b->c < 2 ^ 62:=λh0 h1 h2=>(far (c3 c b a) (A (A v2 n1) (A v1 (A v0 n1))) (A (N (2 ^ 62)) (A v2 v1)) (A v0 n1) (N (2 ^ 62)) rfl (Uh h0 (Uh h1 h2)))
theorem ar11 {a:Nat}:a<=a+1+1:=(far0 (c1 a) v0 (A (A v0 n1) n1) rfl)
theorem ar12 {a b:Nat}:a<=1000->b=1->b+a<=(0+1)*1001:=λh0 h1=>(far (c2 b a) (A v1 v0) (A (N 1000) n1) (A v0 v1) (.mulR (A n0 n1) 1001) rfl (Uh h0 (Us h1)))
theorem ar13 {a b c:Nat}:a < b->a<=c->c < b->b - (c+1) < b - a:=λh0 h1 _=>Nat.sub_lt_sub_left h0 (Nat.lt_succ_of_le h1)
theorem ar14 {a b:Nat}:a < 32->b<=a->b<=1048576:=λh0 h1=>(far (c2 b a) (A (A v1 n1) v0) (A (N 32) v1) v0 (N 1048576) rfl (Uh h0 h1))
theorem ar15 {a b c:Nat}:a<=10->b=a->a=c+1->201+101*c<=1200:=λh0 _ h2=>Uc (Tu (Nat.mul_le_mul_left 101 (Nat.le_of_succ_le_succ (show c+1<=10 from h2 ▸ h0):c<=9)) 201) (Uw rfl)
theorem ar16 {a b:Nat}:a<=2 ^ 19->b<=a->b<=2 ^ 20:=λh0 h1=>(far (c2 b a) (A v1 v0) (A (N (2 ^ 19)) v1) v0 (N (2 ^ 20)) rfl (Uh h0 h1))
theorem ar17 {a:Nat}:a<=1000->a<=(0+1)*1001:=λh0=>(far (c1 a) v0 (N 1000) v0 (.mulR (A n0 n1) 1001) rfl h0)
theorem ar18 {a b:Nat}:a<=1000->b=1->b+a<=1001:=λh0 h1=>(far (c2 b a) (A v1 v0) (A (N 1000) n1) (A v0 v1) (N 1001) rfl (Uh h0 (Us h1)))
theorem ar19 {a b:Nat}:a < 2 ^ 62->a=b->b < 2 ^ 62:=λh0 h1=>(far (c2 b a) (A (A v1 n1) v0) (A (N (2 ^ 62)) v1) (A v0 n1) (N (2 ^ 62)) rfl (Uh h0 (Us h1.symm)))
theorem ar20 {a b:Nat}:a<=2 ^ 19->b<=a+1->b<=2 ^ 20:=λh0 h1=>(far (c2 b a) (A v1 v0) (A (N (2 ^ 19)) (A v1 n1)) v0 (N (2 ^ 20)) rfl (Uh h0 h1))
theorem ar21 {a b:Nat}:a<=1000->b=1->b+a<=2 ^ 24:=λh0 h1=>(far (c2 b a) (A v1 v0) (A (N 1000) n1) (A v0 v1) (N (2 ^ 24)) rfl (Uh h0 (Us h1)))
theorem ar22 {a:Int} {b:Nat}:a=(↑b:Int)->b<=2 ^ 20->(-9223372036854775808:Int)<=a/\a < (9223372036854775808:Int):=λe h=>⟨Int.le_trans (by decide) (e ▸ U2 b),e ▸ i63 (Uo h (Uw rfl))⟩
theorem ar23 {a:Nat}:a<=100->a<=1048575:=λh0=>(far (c1 a) v0 (N 100) v0 (N 1048575) rfl h0)
theorem ar24 {a b c:Nat}:a=b->b<=2 ^ 20->c < a->min c a < 2 ^ 20:=λh0 h1 h2=>(far (.branch 2 (.branch 1 (c1 (min c a)) (c1 c)) (.branch 3 (c1 a) (c1 b))) (A v2 (A v3 (A (A v1 n1) v0))) (A v3 (A (N (2 ^ 20)) (A v2 v1))) (A v0 n1) (N (2 ^ 20)) rfl (Uh (Us h0) (Uh h1 (Uh h2 (Rg _ _)))))
theorem ar25 {a:Nat}:a<=4->a - 1<=2 ^ 20:=λh0=>(far (.branch 1 (c1 (a - 1)) (c1 a)) (A v1 v0) (A (N 4) v1) v0 (N (2 ^ 20)) rfl (Uh h0 (Nat.sub_le _ _)))
theorem ar26 {a:Int} {b:Nat}:a=(↑b:Int)->¬a < (0:Int):=λh=>Int.not_lt.mpr (h ▸ U2 b)
theorem ar27 {a:Nat}:a<=1000->a < 2 ^ 62:=λh0=>(far (c1 a) v0 (N 1000) (A v0 n1) (N (2 ^ 62)) rfl h0)
theorem ar28 {a:Int} {b:Nat}:a=(↑b:Int)->a.toNat=b:=λh=>congrArg Int.toNat h
theorem ar29 {a b c:Nat}:a<=100->b < a->c<=b+2->c<=1048576:=λh0 h1 h2=>(far (c3 c b a) (A v2 (A (A v1 n1) v0)) (A (N 100) (A v2 (A v1 (N 2)))) v0 (N 1048576) rfl (Uh h0 (Uh h1 h2)))
theorem ar30 {a b c d:Nat}:a=b->b<=2 ^ 20->c < a->d<=min c a->d < 2 ^ 20:=λh0 h1 h2 h3=>(far (.branch 2 (.branch 1 (c1 d) (c1 (min c a))) (.branch 3 (c1 c) (.branch 4 (c1 a) (c1 b)))) (A v3 (A v4 (A (A v2 n1) (A v0 v1)))) (A v4 (A (N (2 ^ 20)) (A v3 (A v1 v2)))) (A v0 n1) (N (2 ^ 20)) rfl (Uh (Us h0) (Uh h1 (Uh h2 (Uh h3 (Rg _ _))))))
theorem ar31 {a:Nat}:a<=4->0 < a->((-1:Int)+(↑a:Int)).toNat=a - 1:=λ_ _=>nt a
theorem ar32 {a:Nat}:a<=2 ^ 19->a - 1 < a->-(↑a:Int)<=(-1:Int):=λ_ h=>ngl (Uo (Tb _) h)
theorem ar33 {a:Nat}:a<=4->0 < a->-(↑a:Int)<=(-1:Int):=λ_ h=>ngl h
theorem ar34 {a b:Nat}:a<=100->b < a->b+1<=200:=λh0 h1=>(far (c2 b a) (A v1 (A v0 n1)) (A (N 100) v1) (A v0 n1) (N 200) rfl (Uh h0 h1))
theorem ar35 {a:Nat}:a < 2 ^ 62->(↑a:Int) < (2:Int) ^ 63:=i63
theorem ar36 {a b c:Nat}:a<=100->b < a->c<=b+2->c<=199:=λh0 h1 h2=>(far (c3 c b a) (A v2 (A (A v1 n1) v0)) (A (N 100) (A v2 (A v1 (N 2)))) v0 (N 199) rfl (Uh h0 (Uh h1 h2)))
theorem ar37 {a:Int}:a.toNat < 2 ^ 20->a < (2:Int) ^ 63:=λh=>Int.lt_of_le_of_lt (Int.self_le_toNat a) (i63 (U5 h (Uw rfl)))
theorem ar38 {a b:Nat} {c:Int}:a=b->(0:Int)<=c->c.toNat < b->c < (↑b:Int):=λ_ h1 h2=>(Int.toNat_lt h1).mp h2
theorem ar39 {a b:Nat}:(↑(a+1+b):Int)=(↑(a+(b+1)):Int):=congrArg Nat.cast (farE (c2 a b) (A (A v0 n1) v1) (A v0 (A v1 n1)) rfl)
theorem ar40 {a b:Nat} {c:Int}:a<=2 ^ 20->b=a->-(↑a:Int)<=c->-(2:Int) ^ 63<=c:=λh _ h2=>Int.le_trans (Int.neg_le_neg (Int.le_of_lt (i63 (Uo h (Uw rfl))))) h2
theorem ar41 {a b c:Nat}:a<=100->b < a->c<=b+2->c<=200:=λh0 h1 h2=>(far (c3 c b a) (A v2 (A (A v1 n1) v0)) (A (N 100) (A v2 (A v1 (N 2)))) v0 (N 200) rfl (Uh h0 (Uh h1 h2)))
theorem ar42 {a b c d:Nat}:a<=4->b<=7->c=a->b+min d c < 2 ^ 20:=λh0 h1 h2=>(far (.branch 2 (.branch 1 (c1 b) (c1 (min d c))) (.branch 3 (c1 c) (c1 a))) (A v3 (A v0 (A v2 v1))) (A (N 4) (A (N 7) (A v3 v2))) (A (A v0 v1) n1) (N (2 ^ 20)) rfl (Uh h0 (Uh h1 (Uh (Us h2) (Sq _ _)))))
theorem ar43 {a:Nat}:a<=2 ^ 19->a - 1 < a->((-1:Int)+(↑a:Int)).toNat=a - 1:=λ_ _=>nt a
theorem ar44 {a b:Nat}:a < b->b+1 - (a+1) < b+1 - a:=λh=>Nat.sub_lt_sub_left (Tf h) (Tg a)
theorem ar45 {a:Nat}:(1:Int)+(↑a:Int)*(1:Int)=(↑(a+1):Int):=by rw [Int.mul_one,Int.add_comm]; rfl
theorem ar46 {a:Nat}:a < 2 ^ 62->¬(↑a:Int) ≥ (2:Int) ^ 63:=λh=>Int.not_le.mpr (i63 h)
theorem ar47 {a:Nat}:1<=a->a<=200->a<=1048576:=λh0 h1=>(far (c1 a) v0 (N 200) v0 (N 1048576) rfl h1)
theorem ar48 {a b c:Nat}:a<=2 ^ 19->b<=a->b<=2 ^ 20->c<=2 ^ 20->c+b<=2 ^ 24:=λh0 h1 h2 h3=>(far (c2 c b) (A v1 v0) (A (N (2 ^ 20)) (N (2 ^ 20))) (A v0 v1) (N (2 ^ 24)) rfl (Uh h2 h3))
theorem ar49 {a:Nat}:1<=a->a<=200->-(↑a:Int)<=(-1:Int):=λh _=>ngl h
theorem ar50 {a:Nat}:1<=a->a<=200->((-1:Int)+(↑a:Int)).toNat=a - 1:=λ_ _=>nt a
theorem ar51 {a b:Nat}:a - b=0->b<=a->b=a:=λh0 h1=>Tn h1 (Nat.le_of_sub_eq_zero h0)
theorem ar52 {a b c:Nat}:a<=32*21/\b<=32->c<=a+b*2->c<=1000:=λh0 h1=>(far (c3 c a b) (A v1 (A v2 (A v2 v0))) (A (.mulR (N 32) 21) (A (N 32) (A (N 32) (A v1 (.mulR v2 2))))) v0 (N 1000) rfl (Uh h0.1 (Uh h0.2 (Uh h0.2 h1))))
theorem ar53 {a b:Nat}:a<=200200->b<=1001->a+b<=2 ^ 24:=λh0 h1=>(far (c2 a b) (A v0 v1) (A (N 200200) (N 1001)) (A v0 v1) (N (2 ^ 24)) rfl (Uh h0 h1))
theorem ar54 {a:Nat} {b:Int}:a<=2 ^ 20->b=(↑a:Int)->(↑a:Int) < (2:Int) ^ 63:=λh _=>i63 (Uo h (Uw rfl))
theorem ar55 {a b:Nat}:a+b<=2 ^ 19->a<=2 ^ 19:=λh0=>(far (c2 a b) (A v0 v1) (N (2 ^ 19)) v0 (N (2 ^ 19)) rfl h0)
theorem ar56 {a b c:Nat}:a < 60->b<=c->c < a->b+1 < 64:=λh0 h1 h2=>(far (c3 b c a) (A (A v2 n1) (A v0 (A v1 n1))) (A (N 60) (A v1 v2)) (A (A v0 n1) n1) (N 64) rfl (Uh h0 (Uh h1 h2)))
theorem ar57 {a b c:Nat}:a - b=c+1->b < a->a - (b+1)=c:=λh _=>congrArg Nat.pred h
theorem ar58 {a b c:Nat}:a<=b->c<=a+1->c<=b+1:=λh0 h1=>(far (c3 c b a) (A v2 v0) (A v1 (A v2 n1)) v0 (A v1 n1) rfl (Uh h0 h1))
theorem ar59 {a b:Nat}:a<=2 ^ 19->b=a+1->0 < a->a<=2 ^ 20:=λh0 h1 h2=>(far (c1 a) v0 (N (2 ^ 19)) v0 (N (2 ^ 20)) rfl h0)
theorem ar60 {a b:Nat}:a<=16->b < a->min b a<=1048576:=λh0 h1=>(far (.branch 1 (c1 (min b a)) (c1 a)) (A v1 v0) (A (N 16) v1) v0 (N 1048576) rfl (Uh h0 (Sq _ _)))
theorem ar61 {a b c:Nat}:a<=2 ^ 16->b<=c->c < a->b<=1048576:=λh0 h1 h2=>(far (c3 b c a) (A v2 (A v0 (A v1 n1))) (A (N (2 ^ 16)) (A v1 v2)) v0 (N 1048576) rfl (Uh h0 (Uh h1 h2)))
theorem ar62 {a b:Nat}:a<=16->b < a->min b a<=16:=λh0 h1=>(far (.branch 1 (c1 (min b a)) (c1 a)) (A v1 v0) (A (N 16) v1) v0 (N 16) rfl (Uh h0 (Sq _ _)))
theorem ar63 {a b:Int}:a<=b/\a≠b->a≠b->a < b:=λh _=>Int.lt_iff_le_and_ne.mpr h
theorem ar64 {a:Nat}:a<=16->a < 60:=λh0=>(far (c1 a) v0 (N 16) (A v0 n1) (N 60) rfl h0)
theorem ar65 {a b:Nat}:(0:Int)+(↑(a+(b+1)):Int)*(1:Int)=(0:Int)+(↑(a+1+b):Int)*(1:Int):=congrArg (λn:Nat=>0+(n:Int)*1) (farE (c2 a b) (A v0 (A v1 n1)) (A (A v0 n1) v1) rfl)
theorem ar66 {a b:Nat} {c:Int}:a<=2 ^ 19->b=a+1->0 < a->c=(↑a:Int)->1<=b:=λh0 h1 h2 h3=>(far (c2 b a) (A v1 n1) v0 n1 v0 rfl (Us h1.symm))
theorem ar67 {a:Nat}:(↑a:Int)+(↑0:Int)*(-1:Int)=(↑a:Int):=Int.add_zero _
theorem ar68 {a b:Nat} {c:Int}:a<=2 ^ 19->b=a+1->0 < a->c=(↑a:Int)->(↑a:Int) < (2:Int) ^ 63:=λh _ _ _=>i63 (Uo h (Uw rfl))
theorem ar69 {a b:Nat}:a<=17->b < a->b < 2 ^ 62:=λh0 h1=>(far (c2 b a) (A v1 (A v0 n1)) (A (N 17) v1) (A v0 n1) (N (2 ^ 62)) rfl (Uh h0 h1))
theorem ar70 {a b c d:Nat}:a=b->c=b+1->d=a+1->d=b+1:=λh0 h1 h2=>(Tn (far (c3 d b a) (A v2 v0) (A v1 (A v2 n1)) v0 (A v1 n1) rfl (Uh (Us h0) (Us h2))) (far (c3 b d a) (A v0 (A v2 n1)) (A v2 v1) (A v0 n1) v1 rfl (Uh (Us h0.symm) (Us h2.symm))))
theorem ar71 {a:Nat}:a=16->a<=1048576:=λh0=>(far (c1 a) v0 (N 16) v0 (N 1048576) rfl (Us h0))
theorem ar72 {a b:Nat} {c:Int}:a<=2 ^ 19->b=a+1->0 < a->c=(↑a:Int)->b<=2 ^ 20:=λh0 h1 h2 h3=>(far (c2 b a) (A v1 v0) (A (N (2 ^ 19)) (A v1 n1)) v0 (N (2 ^ 20)) rfl (Uh h0 (Us h1)))
theorem ar73 {a b c d:Nat}:a+1 < 64->b=a->c=a+1->d=a+1->c < 64:=λh0 h1 h2 h3=>(far (c2 c a) (A (A (A v1 n1) n1) v0) (A (N 64) (A v1 n1)) (A v0 n1) (N 64) rfl (Uh h0 (Us h2)))
theorem ar74 {a b:Nat}:a=b+1->b<=a:=λh0=>(far (c2 b a) (A v0 n1) v1 v0 v1 rfl (Us h0.symm))
theorem ar75 {a b:Nat}:a<=2 ^ 20->a=b->b<=2 ^ 20:=λh0 h1=>(far (c2 b a) (A v1 v0) (A (N (2 ^ 20)) v1) v0 (N (2 ^ 20)) rfl (Uh h0 (Us h1.symm)))
theorem ar76 {a b:Nat} {c:Int}:a<=2 ^ 19->b=a+1->0 < a->c=(↑a:Int)->a<=2 ^ 20:=λh0 h1 h2 h3=>(far (c1 a) v0 (N (2 ^ 19)) v0 (N (2 ^ 20)) rfl h0)
theorem ar78 {a b c:Nat}:¬a < b->b=c->c<=a:=λh0 h1=>(far (c3 c a b) (A v2 v0) (A v1 v2) v0 v1 rfl (Uh (Ra h0) (Us h1.symm)))
theorem ar79 {a b:Nat}:a+b<=2 ^ 20->a+(b+0)+2*0<=16777216:=λh0=>(far (c2 a b) (A v0 v1) (N (2 ^ 20)) (A (A v0 (A v1 n0)) (.mulR (N 2) 0)) (N 16777216) rfl h0)
theorem ar80 {a b c:Nat}:a=b->a<=c->b<=c:=λh0 h1=>(far (c3 b c a) (A v0 v2) (A v2 v1) v0 v1 rfl (Uh (Us h0.symm) h1))
theorem ar81 {a:Nat}:¬(63:Int) < (↑a:Int)->a<=100:=λh=>Uc (Rd.mp (Int.not_lt.mp h)) (Uw rfl)
theorem ar82 {a b:Nat}:¬(↑a:Int) < (0:Int)->(max (0:Int) (min (↑a:Int) (↑b:Int))).toNat=min a b:=λ_=>by
 cases Nat.le_total a b with
 | inl h=>rw [Int.min_eq_left (Rd.mpr h),Int.max_eq_right (U2 _),Se h]; rfl
 | inr h=>rw [Int.min_eq_right (Rd.mpr h),Int.max_eq_right (U2 _),Nat.min_eq_right h]; rfl
theorem ar83 {a b c:Nat}:a<=2 ^ 20->b=a->a+c*0<=16777216:=λh0 h1=>(far (c2 a c) v0 (N (2 ^ 20)) (A v0 (.mulR v1 0)) (N 16777216) rfl h0)
theorem ar85 {a b:Nat}:a+1<=b->a+1 - 1 < b:=λh=>h
theorem ar86 {a:Nat}:a<=1->¬a > 1:=λh0=>(Nat.not_lt_of_le (far (c1 a) v0 n1 v0 n1 rfl h0))
theorem ar87 {a b c:Nat}:a<=b->c=b->a<=c:=λh0 h1=>(far (c3 a c b) (A v0 v2) (A v2 v1) v0 v1 rfl (Uh h0 (Us h1.symm)))
theorem ar88 {a b c:Nat}:a=b->c < b->c < a:=λh0 h1=>(far (c3 c a b) (A v2 (A v0 n1)) (A v1 v2) (A v0 n1) v1 rfl (Uh (Us h0.symm) h1))
theorem ar89 {a:Int}:a+(↑0:Int)<=a:=Int.le_of_eq (Int.add_zero _)
theorem ar91 {a b c:Nat}:a+(b+1) < c->a+b < c:=λh0=>(far (c3 a b c) (A (A v0 (A v1 n1)) n1) v2 (A (A v0 v1) n1) v2 rfl h0)
theorem ar92 {a b:Nat}:(↑a:Int)=(↑b:Int)->a=b:=λh=>Int.ofNat_inj.mp h
theorem ar93 {a b:Nat}:a < b->(↑a:Int) < (↑b:Int):=by omega
theorem ar94 {a b c:Nat}:a<=b->b=c - 1->0 < c->a+1<=c:=λh0 h1 h2=>Nat.add_le_of_le_sub h2 (h1 ▸ h0)
theorem ar95 {a b:Nat}:a=0->a<=b:=λh0=>(far (c2 a b) v0 n0 v0 v1 rfl (Us h0))
theorem ar96 {a b:Nat}:a=0->a<=b+1:=λh0=>(far (c2 a b) v0 n0 v0 (A v1 n1) rfl (Us h0))
theorem ar97 {a b:Nat} {c:Int}:a < b->(↑a:Int)<=c->c - (↑a:Int) < (1:Int)->c=(↑a:Int):=by omega
theorem ar98 {a b c:Nat}:a<=2 ^ 16->b<=c->c < a->c % 2=0->b<=1048576:=λh0 h1 h2 h3=>(far (c3 b c a) (A v2 (A v0 (A v1 n1))) (A (N (2 ^ 16)) (A v1 v2)) v0 (N 1048576) rfl (Uh h0 (Uh h1 h2)))
theorem ar99 {a b c d:Nat} {e f g h:Int}:a < b->c < b->a < c->a < d->c < d->e=f - (↑a:Int)->g=h - (↑c:Int)->a+(c - a)=c:=λ_ _ h _ _ _ _=>Nat.add_sub_of_le (Tq h)
theorem ar100 {a b:Nat}:a < b->(↑a:Int)<=(↑b:Int):=by omega
theorem ar101 {a b:Nat}:a ≥ b->a < b->a=b:=λh0 h1=>(Tn (far (c2 a b) (A v0 n1) v1 v0 v1 rfl h1) (far (c2 b a) v0 v1 v0 v1 rfl h0))
theorem ar102 {a b:Nat}:(↑(a+b):Int) - (↑a:Int)=(↑b:Int):=nasl a b
theorem ar103 {a b c d:Nat} {e f g h:Int}:a < b->c < b->a < c->a < d->c < d->e=f - (↑a:Int)->g=h - (↑c:Int)->f+(↑(c - a):Int)<=h->f - (↑a:Int)<=h - (↑c:Int):=by omega
theorem ar104 {a b:Nat}:a=b->b+0=a:=λh0=>(Tn (far (c2 b a) v0 v1 (A v0 n0) v1 rfl (Us h0.symm)) (far (c2 a b) v0 v1 v0 (A v1 n0) rfl (Us h0)))
theorem ar105 {a b c:Nat}:a=b->a < c->(↑b:Int) < (↑c:Int):=λe h=>Int.ofNat_lt.mpr (e ▸ h)
theorem ar106 {a b:Nat}:a=b->(↑b:Int)<=(↑a:Int):=λe=>Int.le_of_eq (congrArg Nat.cast e.symm)
theorem ar107 {a b:Nat}:a+b<=2 ^ 22->a<=2 ^ 24:=λh0=>(far (c2 a b) (A v0 v1) (N (2 ^ 22)) v0 (N (2 ^ 24)) rfl h0)
theorem ar108 {a b:Nat}:a+b<=2 ^ 22->¬a+b > 2 ^ 24:=λh0=>(Nat.not_lt_of_le (far (c2 a b) (A v0 v1) (N (2 ^ 22)) (A v0 v1) (N (2 ^ 24)) rfl h0))
theorem ar109 {a b:Nat}:a<=b->(Max.max (↑a:Int) (↑b:Int)).toNat=b:=λh=>congrArg Int.toNat (Int.max_eq_right (Rd.mpr h))
theorem ar110 {a b c:Nat}:a<=b->b+c<=2 ^ 22->(Max.max (↑a:Int) (↑b:Int)).toNat=b->Min.min a b - 0+c+(Min.min b b - b)<=2 ^ 24+1:=λ_ h _=>Uc (Uh (Uv (Sq a b) c) (Us (by rw [Nat.min_self,Nat.sub_self]):_<=0)) (Uc h (Uw rfl))
theorem ar111 {a:Nat}:a=6->1 < a:=λh0=>(far (c1 a) (N 6) v0 (A n1 n1) v0 rfl (Us h0.symm))
theorem ar112 {a:Nat}:a<=1000->a<=16777216+1:=λh0=>(far (c1 a) v0 (N 1000) v0 (A (N 16777216) n1) rfl h0)
theorem ar113 {a b c d e f g h:Nat}:a+2*b=c+d->e+2*f=g+h->2*a+e+2*(2*b+f)=2*c+g+(2*d+h):=λh0 h1=>(Tn (far (.branch 4 (c4 a e b f) (.branch 6 (.branch 5 (c1 c) (c1 g)) (.branch 7 (c1 d) (c1 h)))) (A (A v0 (.mulL 2 v2)) (A (A v0 (.mulL 2 v2)) (A v1 (.mulL 2 v3)))) (A (A v4 (.var 6)) (A (A v4 (.var 6)) (A v5 (.var 7)))) (A (A (.mulL 2 v0) v1) (.mulL 2 (A (.mulL 2 v2) v3))) (A (A (.mulL 2 v4) v5) (A (.mulL 2 (.var 6)) (.var 7))) rfl (Uh (Us h0) (Uh (Us h0) (Us h1)))) (far (.branch 4 (c4 c g d h) (.branch 6 (.branch 5 (c1 a) (c1 e)) (.branch 7 (c1 b) (c1 f)))) (A (A v0 v2) (A (A v0 v2) (A v1 v3))) (A (A v4 (.mulL 2 (.var 6))) (A (A v4 (.mulL 2 (.var 6))) (A v5 (.mulL 2 (.var 7))))) (A (A (.mulL 2 v0) v1) (A (.mulL 2 v2) v3)) (A (A (.mulL 2 v4) v5) (.mulL 2 (A (.mulL 2 (.var 6)) (.var 7)))) rfl (Uh (Us h0.symm) (Uh (Us h0.symm) (Us h1.symm)))))
theorem ar114 {a b c d:Nat}:a+b=c+d->(↑c:Int)+(↑d:Int) - (↑b:Int)=(↑a:Int):=λh=>Int.sub_eq_iff_eq_add.mpr (congrArg Nat.cast h.symm)
theorem ar115 {a b c d e:Nat}:a+b=c+d->e+2*b=c+d->(↑a:Int) - (↑b:Int)=(↑e:Int):=λh1 h2=>Int.sub_eq_iff_eq_add.mpr (congrArg Nat.cast (Nat.add_right_cancel (m:=b) ((h1.trans h2.symm).trans (by rw [Nat.two_mul,Nat.add_assoc]))))
theorem ar116 {a:Nat}:0 < a->a < 1073741824->(↑a:Int)≠(0:Int):=λh _=>Int.ne_of_gt (Int.ofNat_lt.mpr h)
theorem ar117 {a:Nat}:0 < a->(↑a:Int)≠(0:Int):=λh=>Int.ne_of_gt (Int.ofNat_lt.mpr h)
theorem ar118 {a:Nat}:¬a=0->(↑a:Int)≠(0:Int):=λh e=>h (Int.ofNat_inj.mp e)
theorem ar119 {a:Nat}:(0:Int)+(↑a:Int)*(1:Int)=(↑a:Int):=(Int.zero_add _).trans (Int.mul_one _)
theorem ar120 {a:Nat}:3 < 0+1+1+1+1+1+a:=(far0 (c1 a) (A (N 3) n1) (A (A (A (A (A (A n0 n1) n1) n1) n1) n1) v0) rfl)
theorem ar121 {a b c:Nat}:a+(b+(1+c))=a+b+1+c:=(farE (c3 a b c) (A v0 (A v1 (A n1 v2))) (A (A (A v0 v1) n1) v2) rfl)
theorem ar122 {a b c:Nat}:a≠0->0 < b+(c+a):=λh0=>(far (c3 b c a) (A n0 n1) v2 (A n0 n1) (A v0 (A v1 v2)) rfl (Nat.pos_of_ne_zero h0))
theorem ar123 {a b c:Nat}:a < b+c/\0 < b->0 < b+0:=λh0=>(far (c1 b) (A n0 n1) v0 (A n0 n1) (A v0 n0) rfl h0.2)
theorem ar124 {a b c d:Nat}:a<=2 ^ 20->b<=2 ^ 20->c=a->d=b->a+b<=2 ^ 22:=λh0 h1 h2 h3=>(far (c2 a b) (A v0 v1) (A (N (2 ^ 20)) (N (2 ^ 20))) (A v0 v1) (N (2 ^ 22)) rfl (Uh h0 h1))
theorem ar125 {a b:Nat}:0 < a->b=0->¬a=0:=λh0 _=>Nat.ne_of_gt h0
theorem ar126 {a b c d:Nat}:a+b+c<=a+b+(c+d):=(far0 (c4 a b c d) (A (A v0 v1) v2) (A (A v0 v1) (A v2 v3)) rfl)
theorem ar127 {a b:Nat}:a < 2 ^ 62->b=a->(↑b:Int) < (9223372036854775808:Int):=λh e=>i63 (e ▸ h)
theorem ar128 {a b:Nat}:a - b<=0->b<=a->b=a:=λh0 h1=>Tn h1 (Nat.le_of_sub_eq_zero (Nat.le_zero.mp h0))
theorem ar129 {a b c d e:Nat}:a+b+c+d+e=a+(c+d)+(e+b):=(farE (.branch 2 (c2 a b) (.branch 3 (c1 c) (.branch 4 (c1 d) (c1 e)))) (A (A (A (A v0 v1) v2) v3) v4) (A (A v0 (A v2 v3)) (A v4 v1)) rfl)
theorem ar130 {a b:Nat}:a<=2 ^ 20->b=a->(↑a:Int) < (2:Int) ^ 63:=λh _=>i63 (Uo h (Uw rfl))
theorem ar132 {a b c:Nat}:a<=b->(c+a) / 2 < a->(c+a) / 2 < b:=λh0 h1=>(far (.branch 1 (c1 ((c+a) / 2)) (.branch 2 (c1 b) (c1 a))) (A v2 (A v0 n1)) (A v1 v2) (A v0 n1) v1 rfl (Uh h0 h1))
theorem ar133 {a b:Nat}:a<=3->b<=a+2->b<=5:=λh0 h1=>(far (c2 b a) (A v1 v0) (A (N 3) (A v1 (N 2))) v0 (N 5) rfl (Uh h0 h1))
theorem ar134 {a b c:Nat}:a - b<=c+1->b < a->(b+a) / 2 < a->a - ((b+a) / 2+1)<=c:=λh1 h2 _=>Uc (Nat.sub_le_sub_left (T7 (midl h2)) a) (Nat.sub_le_sub_right h1 1)
theorem ar135 {a:Nat}:6<=6*(a+1):=(far0 (c1 a) (N 6) (.mulL 6 (A v0 n1)) rfl)
theorem ar136 {a b:Nat}:a+(b+1)=a+1+b:=(farE (c2 a b) (A v0 (A v1 n1)) (A (A v0 n1) v1) rfl)
theorem ar137 {a b:Nat}:(a+b) / 2 < b->(a+b) / 2+1<=b:=λh0=>(far (.branch 1 (c1 ((a+b) / 2)) (c1 b)) (A v0 n1) v1 (A v0 n1) v1 rfl h0)
theorem ar138 {a b c:Nat}:a < (b+c) / 2+1->a ≥ (b+c) / 2->a=(b+c) / 2:=λh0 h1=>(Tn (far (.branch 1 (c1 a) (c1 ((b+c) / 2))) (A v0 n1) (A v1 n1) v0 v1 rfl h0) (far (.branch 1 (c1 ((b+c) / 2)) (c1 a)) v0 v1 v0 v1 rfl h1))
theorem ar139 {a:Nat}:a / 3480 % 3 < 3->a / 3480 % 3*4<=100:=λh0=>(far (c1 ((a / 3480) % 3)) (A (A v0 n1) (A (A v0 n1) (A (A v0 n1) (A v0 n1)))) (A (N 3) (A (N 3) (A (N 3) (N 3)))) (.mulR v0 4) (N 100) rfl (Uh h0 (Uh h0 (Uh h0 h0))))
theorem ar140 {a b c d:Nat}:a<=3->1<=b->b<=a+2->c<=d->d<=5*4004->c+b*1<=2 ^ 20:=λh0 h1 h2 h3 h4=>(far (c4 c b d a) (A v3 (A v1 (A v0 v2))) (A (N 3) (A (A v3 (N 2)) (A v2 (.mulR (N 5) 4004)))) (A v0 (.mulR v1 1)) (N (2 ^ 20)) rfl (Uh h0 (Uh h2 (Uh h3 h4))))
theorem ar141 {a b c:Nat}:a - b<=c+1->b < a->b<=(b+a) / 2->(b+a) / 2 - b<=c:=λh1 h2 h3=>Sb (U9 (Nat.sub_lt_sub_right h3 (midr h2)) h1)
theorem ar142 {a b:Nat}:(↑(a+b):Int) - (↑a:Int) > (0:Int)↔0 < b:=by omega
theorem ar143 {a b c:Nat}:a<=b->(c+a) / 2 < a->(c+a) / 2<=b:=λh0 h1=>(far (.branch 1 (c1 ((c+a) / 2)) (.branch 2 (c1 b) (c1 a))) (A v2 (A v0 n1)) (A v1 v2) v0 v1 rfl (Uh h0 h1))
theorem ar144 {a b:Nat}:a<=8->0 < a->b<=a->6*(0+min b a)<=48:=λh _ _=>Uc (Nat.mul_le_mul_left 6 (by rw [Rf]; exact Uc (Sq b a) h)) (Uw rfl)
theorem ar145 {a b:Nat}:a < b+1->a<=b:=λh0=>(far (c2 a b) (A v0 n1) (A v1 n1) v0 v1 rfl h0)
theorem ar146 {a b c:Nat}:a < b->c<=b->a+1 < c->a+1 < b:=λh0 h1 h2=>(far (c3 a b c) (A v2 (A (A v0 n1) n1)) (A v1 v2) (A (A v0 n1) n1) v1 rfl (Uh h1 h2))
theorem ar147 {a b c d:Nat}:a < b+1->b < a->c=d+1:=λh0 h1=>absurd h0 (Th.mpr h1)
theorem ar148 {a b:Nat}:a<=8->0 < a->b<=a->b - 1+1 < a->b < a:=λ_ _ _ h=>Uo (Nat.le_add_of_sub_le (Ug (b - 1))) h
theorem ar149 {a b:Nat}:a<=1->b<=2 ^ 20->b+a<=2 ^ 24:=λh0 h1=>(far (c2 b a) (A v1 v0) (A n1 (N (2 ^ 20))) (A v0 v1) (N (2 ^ 24)) rfl (Uh h0 h1))
theorem ar150 {a b c:Nat}:a=b+c->a+1=b+1+(c+0):=λh0=>(Tn (far (c3 a b c) v0 (A v1 v2) (A v0 n1) (A (A v1 n1) (A v2 n0)) rfl (Us h0)) (far (c3 b c a) (A v0 v1) v2 (A (A v0 n1) (A v1 n0)) (A v2 n1) rfl (Us h0.symm)))
theorem ar151 {a b c:Nat}:a=b+c->a+1=b+(c+1):=λh0=>(Tn (far (c3 a b c) v0 (A v1 v2) (A v0 n1) (A v1 (A v2 n1)) rfl (Us h0)) (far (c3 b c a) (A v0 v1) v2 (A v0 (A v1 n1)) (A v2 n1) rfl (Us h0.symm)))
theorem ar152 {a b:Nat}:(↑a:Int)<=(↑b:Int)->a<=b:=by omega
theorem ar153 {a b:Nat}:1<=a->a<=b->¬a - 1+1 < b->a=b:=λh0 h1 h2=>Tn h1 (Ra (Nat.sub_add_cancel h0 ▸ h2))
theorem ar154 {a:Nat}:(↑(a+1):Int) - (↑a:Int)=(1:Int):=nasl a 1
theorem ar155 {a b c d:Nat}:a<=b->c < d->c < min a b->c < b:=λh0 h1 h2=>(far (.branch 1 (c1 c) (.branch 2 (c1 b) (c1 (min a b)))) (A (A v0 n1) v2) (A v2 v1) (A v0 n1) v1 rfl (Uh h2 (Sq _ _)))
theorem ar156 {a b c d:Nat}:a<=b->c < d->c < min a b->c < a:=λh0 h1 h2=>(far (.branch 1 (c1 c) (.branch 2 (c1 a) (c1 (min a b)))) (A (A v0 n1) v2) (A v2 v1) (A v0 n1) v1 rfl (Uh h2 (Rg _ _)))
theorem ar157 {a:Nat}:a < 4->a=0\/a=1\/a=2\/a=3:=λh=>(by decide:∀ a < 4,a=0\/a=1\/a=2\/a=3) a h
theorem ar158 {a b:Nat}:a<=2 ^ 20->b<=2 ^ 20->b+a < 2 ^ 62:=λh0 h1=>(far (c2 b a) (A v1 v0) (A (N (2 ^ 20)) (N (2 ^ 20))) (A (A v0 v1) n1) (N (2 ^ 62)) rfl (Uh h0 h1))
theorem ar159 {a b:Nat}:(↑a:Int)+(↑b:Int)*(1:Int)=(↑(a+b):Int):=congrArg (λz=>(a:Int)+z) (Int.mul_one (b:Int))
theorem ar160 {a b:Nat}:a<=28->b=32->a+4<=b:=λh0 h1=>(far (c2 a b) (A v0 (N 32)) (A (N 28) v1) (A v0 (N 4)) v1 rfl (Uh h0 (Us h1.symm)))
theorem ar162 {a:Nat}:a < 22->10+a<=1000000:=λh0=>(far (c1 a) (A v0 n1) (N 22) (A (N 10) v0) (N 1000000) rfl h0)
theorem ar163 {a b c d:Nat}:a<=b->c+d<=a->c<=b/\d<=b:=λh0 h1=>⟨(far (c4 c b d a) (A v3 (A v0 v2)) (A v1 v3) v0 v1 rfl (Uh h0 h1)),(far (c4 d b c a) (A v3 (A v2 v0)) (A v1 v3) v0 v1 rfl (Uh h0 h1))⟩
theorem ar164 {a:Nat}:a<=2 ^ 20->((0:Int)<=(-1:Int)+((↑a:Int)+(1:Int))/\(-1:Int)+((↑a:Int)+(1:Int)) < (↑a:Int)+(1:Int))/\((-1:Int)+((↑a:Int)+(1:Int))).toNat=a:=λ_=>by rw [neg1]; exact ⟨⟨U2 a,Int.lt_succ _⟩,rfl⟩
theorem ar165 {a:Nat}:a < 22->a+10 < 33:=λh0=>(far (c1 a) (A v0 n1) (N 22) (A (A v0 (N 10)) n1) (N 33) rfl h0)
theorem ar166 {a:Nat}:a+29 < 29->¬a+29 < 29:=λh0=>(Nat.not_lt_of_le (far0 (c1 a) (N 29) (A v0 (N 29)) rfl))
theorem ar167 {a:Nat}:a+128=a+64*2:=(farE (c1 a) (A v0 (N 128)) (A v0 (.mulR (N 64) 2)) rfl)
theorem ar168 {a b c:Nat}:a+b+c=a+(c+b):=(farE (c3 a b c) (A (A v0 v1) v2) (A v0 (A v2 v1)) rfl)
theorem ar169 {a:Nat}:a % 256 / 1 % 1=a / 1 % 1:=(Tn (far (.branch 1 (c1 (((a % 256) / 1) % 1)) (c1 ((a / 1) % 1))) (A v0 n1) n1 v0 v1 rfl (Sr _ (by decide))) (far (.branch 1 (c1 ((a / 1) % 1)) (c1 (((a % 256) / 1) % 1))) (A v0 n1) n1 v0 v1 rfl (Sr _ (by decide))))
theorem ar170 {a:Nat}:a % 256 / 1 % 2=a / 1 % 2:=mdm a 1 2 128 rfl
theorem ar171 {a:Nat}:a % 256 / 2 % 4=a / 2 % 4:=mdm a 2 4 32 rfl
theorem ar172 {a:Nat}:a % 256 / 8 % 8=a / 8 % 8:=mdm a 8 8 4 rfl
theorem ar173 {a b:Nat}:a < b->(↑(a+1):Int)<=(↑(b+1):Int):=λh=>Rd.mpr (T7 (Tq h))
theorem ar174 {a:Nat}:a % 256 / 64 % 4=a / 64 % 4:=mdm a 64 4 1 rfl
theorem ar175 {a b:Nat}:min a b+(b - a+1)=b+1:=by
 cases Nat.le_total a b with
 | inl h=>rw [Se h, <- Nat.add_assoc,Nat.add_sub_cancel' h]
 | inr h=>rw [Nat.min_eq_right h,Nat.sub_eq_zero_of_le h]
theorem ar176 {a b:Nat}:a<=b->¬b < a:=λh0=>(Nat.not_lt_of_le (far (c2 a b) v0 v1 v0 v1 rfl h0))
end
section
noncomputable def cntL (ns:List Int) (x:Int):Nat:=(ns.filter λn=>decide (n < x)).length
noncomputable def cntR (ns:List Int) (x:Int):Nat:=(ns.filter λn=>decide (n<=x)).length
theorem cnt_split (p:Int->Bool) (ns:List Int) (k:Nat) (hk:k<=ns.length) (h1:∀ i < k,∀ n,ns[i]?=some n->p n=true) (h2:∀ i,k<=i->∀ n,ns[i]?=some n->p n=false):(ns.filter p).length=k:=by
 have e:ns.filter p=(ns.take k).filter p++(ns.drop k).filter p:=by rw [<- Sf,List.take_append_drop]
 have a1:(ns.take k).filter p=ns.take k:=List.filter_eq_self.mpr λn hn=>by
  obtain ⟨i,hi⟩:=S6 hn;rw [List.getElem?_take] at hi
  split at hi
  ·exact h1 i (by assumption) n hi
  ·cases hi
 have a2:(ns.drop k).filter p=[]:=T8.mpr λn hn=>by
  obtain ⟨i,hi⟩:=S6 hn;rw [List.getElem?_drop] at hi;simp [h2 (k+i) (by exact U7 k i) n hi]
 rw [e,a1,a2,Sj,Ti,Se hk]
theorem sorted_le {ns:List Int} (hs:ns.Pairwise (·<=·)) {i j:Nat} {a b:Int} (hij:i<=j) (ha:ns[i]?=some a) (hb:ns[j]?=some b):a<=b:=by
 obtain ⟨hi,rfl⟩:=Un.mp ha;obtain ⟨hj,rfl⟩:=Un.mp hb;rcases Ss hij with h | h
 ·exact So.mp hs i j hi hj h
 ·subst h; exact Int.le_refl _
structure Bis (p:Int->Bool) (ns:List Int) (lo hi:Nat):Prop where
 le:lo<=hi
 len:hi<=ns.length
 l:∀ i < lo,∀ n,ns[i]?=some n->p n=true
 r:∀ i,hi<=i->∀ n,ns[i]?=some n->p n=false
theorem Bis.start (p:Int->Bool) (ns:List Int):Bis p ns 0 ns.length:=⟨Tb _,Ug _,λi hi=>absurd hi (Sk _),λi hi n h=>by
 rw [List.getElem?_eq_none hi] at h; cases h⟩
theorem Bis.stop {p:Int->Bool} {ns:List Int} {lo hi:Nat} (h:Bis p ns lo hi) (e:hi<=lo):(ns.filter p).length=lo:=by
 obtain rfl:=Tn h.le e;exact cnt_split p ns _ h.len h.l h.r
theorem Bis.up {p:Int->Bool} {ns:List Int} {lo hi mid:Nat} {y:Int} (h:Bis p ns lo hi) (hm:lo<=mid) (hm':mid < hi) (hy:ns[mid]?=some y) (hp:p y=true) (mono:∀ a b,a<=b->p b=true->p a=true) (hs:ns.Pairwise (·<=·)):Bis p ns (mid+1) hi :=
 ⟨hm',h.len,λi hi' n hn=>mono n y (sorted_le hs (Sb hi') hn hy) hp,h.r⟩
theorem Bis.down {p:Int->Bool} {ns:List Int} {lo hi mid:Nat} {y:Int} (h:Bis p ns lo hi) (hm:lo<=mid) (hm':mid < hi) (hy:ns[mid]?=some y) (hp:p y=false) (mono:∀ a b,a<=b->p b=true->p a=true) (hs:ns.Pairwise (·<=·)):Bis p ns lo mid :=
 ⟨hm,Uc (Tq hm') h.len,h.l,λi hi' n hn=>by
  cases q:p n with
  | false=>rfl
  | true=>rw [mono y n (sorted_le hs hi' hy hn) q] at hp; cases hp⟩
end
section
noncomputable def ins {α:Type} (l:List α) (k:Nat) (x:α):List α:=l.take k++x :: l.drop k
theorem Xr {α:Type} (l:List α) (k:Nat) (x:α):(ins l k x).length=l.length+1:=by
 unfold ins;simp only [U8,Td,Ti,Sz];exact ar175
theorem cntL_le (ns:List Int) (x:Int):cntL ns x<=ns.length:=T5 _ _
theorem cntR_le (ns:List Int) (x:Int):cntR ns x<=ns.length:=T5 _ _
theorem XQ (p:Int->Bool) (mono:∀ a b,a<=b->p b=true->p a=true):∀ (ns:List Int),ns.Pairwise (·<=·)->ns.take (ns.filter p).length=ns.filter p/\∀ n ∈ ns.drop (ns.filter p).length,p n=false
 | [],_=>by simp
 | a :: r,h=>by
  obtain ⟨h1,h2⟩:=List.pairwise_cons.mp h;obtain ⟨i1,i2⟩:=XQ p mono r h2
  cases q:p a with
  | true=>simp [q,i1]; exact i2
  | false =>
   have:r.filter p=[]:=T8.mpr λn hn e=>by
    rw [mono a n (h1 n hn) e] at q; cases q
   simp only [Tj,q,U1,if_false,this,Sy,List.take_zero,List.drop_zero,true_and];intro n hn;rcases Ur.mp hn with rfl | hn
   ·exact q
   ·exact T8.mp this n hn |> λz=>by simpa using z
theorem Z08 (ns:List Int) (x:Int) (h:ns.Pairwise (·<=·)) (p:Int->Bool) (hp:∀ n,p n=true->n<=x) (hq:∀ n,p n=false->x<=n) (mono:∀ a b,a<=b->p b=true->p a=true):(ins ns (ns.filter p).length x).Pairwise (·<=·):=by
 obtain ⟨h1,h2⟩:=XQ p mono ns h;unfold ins;refine List.pairwise_append.mpr ⟨h.sublist (List.take_sublist _ _),List.pairwise_cons.mpr ⟨λn hn=>hq n (h2 n hn),h.sublist (List.drop_sublist _ _)⟩,λa ha b hb=>?_⟩;rw [h1] at ha;have ha':=hp a (Ta.mp ha).2;rcases Ur.mp hb with rfl | hb
 ·exact ha'
 ·exact Int.le_trans ha' (hq b (h2 b hb))
theorem VD {ns:List Int} {x:Int} (h:ns.Pairwise (·<=·)):(ins ns (cntL ns x) x).Pairwise (·<=·) :=
 Z08 ns x h _ (λn q=>by simp at q; exact Int.le_of_lt q) (λn q=>by simp at q; omega) λa b h1 h2=>by simp at *; exact Int.lt_of_le_of_lt h1 h2
theorem VG {ns:List Int} {x:Int} (h:ns.Pairwise (·<=·)):(ins ns (cntR ns x) x).Pairwise (·<=·) :=
 Z08 ns x h _ (λn q=>by simp at q; omega) (λn q=>by simp at q; exact Int.le_of_lt q) λa b h1 h2=>by simp at *; exact Int.le_trans h1 h2
end
section
noncomputable def ZO (ms:List Int):List Int:=(Um ms.length).map λi=>ms.getD i 0 - (i:Int)
theorem getD_some {ms:List Int} {i:Nat} {x:Int} (h:ms[i]?=some x):ms.getD i 0=x:=by rw [Uu,h]; rfl
theorem Xl {ms:List Int} {i:Nat} {x:Int} (h:ms[i]?=some x):(ZO ms)[i]?=some (x - (i:Int)):=by
 have hi:i < ms.length:=(Un.mp h).1;unfold ZO;rw [Ul,Sa hi,Rh,getD_some h]
theorem Xp {ms:List Int} (hs:ms.Pairwise (· < ·)):∀ (k i:Nat) (x y:Int),ms[i]?=some x->ms[i+k]?=some y->x+(k:Int)<=y
 | 0,i,x,y,hx,hy=>by rw [Nat.add_zero,hx] at hy; cases hy; exact ar89
 | k+1,i,x,y,hx,hy=>by
  have hlt:i+(k+1) < ms.length:=(Un.mp hy).1;have hk:ms[i+k]?=some ms[i+k]:=Ui (by omega);have h1:=Xp hs k i x _ hx hk;have h2:=So.mp hs (i+k) (i+(k+1)) (by exact ar91 hlt) hlt (by exact Nat.lt_add_one (i+k));have h3:ms[i+(k+1)]=y:=(Un.mp hy).2;omega
theorem Wz {ms:List Int} (hs:ms.Pairwise (· < ·)):(ZO ms).Pairwise (·<=·):=by
 rw [So];intro i j hi hj hij;have li:i < ms.length:=by simpa [ZO] using hi
 have lj:j < ms.length:=by simpa [ZO] using hj
 have e1:=Xl (Ui li);have e2:=Xl (Ui lj);rw [Ui hi] at e1;rw [Ui hj] at e2;have f1:=Up.inj e1;have f2:=Up.inj e2;have g:=Xp hs (j - i) i _ _ (Ui li) (by rw [show i+(j - i)=j by exact ar99 hi hj hij li lj f1 f2]; exact Ui lj);rw [f1,f2];exact ar103 hi hj hij li lj f1 f2 g
noncomputable def IsMex (l:Int->Prop) (n:Nat):Prop:=¬ l (n:Int)/\∀ j < n,l (j:Int)
theorem IsMex.unique {l:Int->Prop} {n m:Nat} (h:IsMex l n) (h':IsMex l m):n=m:=by
 rcases Nat.lt_trichotomy n m with q | q | q
 ·exact absurd (h'.2 n q) h.1
 ·exact q
 ·exact absurd (h.2 m q) h'.1
theorem mex_cnt {ms:List Int} (hs:ms.Pairwise (· < ·)) (h0:∀ z ∈ ms,0<=z):IsMex (· ∈ ms) (cntL (ZO ms) 1):=by
 have hd:=Wz hs;obtain ⟨t1,t2⟩:=XQ (λn=>decide (n < 1)) (λa b h k=>by simp at k ⊢; exact Int.lt_of_le_of_lt h k) (ZO ms) hd
 have hge:∀ (i:Nat) (x:Int),ms[i]?=some x->(i:Int)<=x:=λi x h=>by
  have hl:i < ms.length:=(Un.mp h).1;have e0:ms[0]?=some ms[0]:=Ui (by omega);have:=Xp hs i 0 _ x e0 (by rw [Rf]; exact h);have:=h0 ms[0] (T1 _);omega
 have hlen:(ZO ms).length=ms.length:=by simp [ZO]
 have hcl:cntL (ZO ms) 1<=ms.length:=hlen ▸ cntL_le _ _
 have small:∀ i < cntL (ZO ms) 1,ms[i]?=some (i:Int):=λi hi=>by
  have hl:i < ms.length:=by exact U9 hi hcl
  have e:=Ui hl;have hm:(ZO ms)[i]?=some (ms[i] - (i:Int)):=Xl e;have hmem:ms[i] - (i:Int) ∈ (ZO ms).take (cntL (ZO ms) 1):=Uk (i:=i) (by rw [List.getElem?_take,if_pos hi]; exact hm);have:ms[i] - (i:Int) ∈ (ZO ms).filter λn=>decide (n < 1):=by rw [<- t1]; exact hmem
  have:=(Ta.mp this).2;have hg:=hge i _ e;rw [e]
  congr 1
  simp at this;exact ar97 hl hg this
 refine ⟨λhn=>?_,λj hj=>Uk (small j hj)⟩;obtain ⟨k,hk⟩:=S6 hn;have hg:=hge k _ hk;rcases Nat.lt_trichotomy k (cntL (ZO ms) 1) with q | q | q
 ·have:=small k q;rw [hk] at this;have:=Up.inj this;omega
 ·have hm:=Xl hk;have hmem:(cntL (ZO ms) 1:Int) - (k:Int) ∈ (ZO ms).drop (cntL (ZO ms) 1):=Uk (i:=0) (by rw [List.getElem?_drop,show cntL (ZO ms) 1+0=k by exact ar104 q]; exact hm);have:=t2 _ hmem;simp at this;omega
 ·omega
noncomputable def onceL (l:List Nat):List Int:=((Um (l.foldl Nat.max 0+1)).filter λn=>l.contains n).map λn:Nat=>(n:Int)
theorem WC:∀ (l:List Nat) (a:Nat),a<=l.foldl Nat.max a/\∀ x ∈ l,x<=l.foldl Nat.max a
 | [],a=>⟨Ug _,λx h=>nomatch h⟩
 | y :: l,a=>by
  obtain ⟨h1,h2⟩:=WC l (Nat.max a y);refine ⟨Uc (Nat.le_max_left _ _) h1,λx hx=>?_⟩;rcases Ur.mp hx with rfl | hx
  ·exact Uc (Nat.le_max_right _ _) h1
  ·exact h2 x hx
theorem V7 (l:List Nat) (z:Int):z ∈ onceL l↔z ∈ l.map λn:Nat=>(n:Int):=by
 unfold onceL;constructor
 ·intro h;obtain ⟨n,hn,rfl⟩:=Uq.mp h;have:=(Ta.mp hn).2;exact Uq.mpr ⟨n,by simpa using this,rfl⟩
 ·intro h;obtain ⟨n,hn,rfl⟩:=Uq.mp h;refine Uq.mpr ⟨n,Ta.mpr ⟨?_,by simpa using hn⟩,rfl⟩;have:=(WC l 0).2 n hn;rw [U0]; exact Nat.lt_succ_of_le this
theorem onceL_rises (l:List Nat):(onceL l).Pairwise (· < ·):=by
 unfold onceL;rw [Sg];exact (List.Pairwise.filter _ T9).imp λh=>by exact ar93 h
noncomputable def mexN (l:List Nat):Nat:=cntL (ZO (onceL l)) 1
theorem mexN_is (l:List Nat):IsMex (λz=>z ∈ l.map λn:Nat=>(n:Int)) (mexN l):=by
 have h:=mex_cnt (onceL_rises l) λz hz=>by
  obtain ⟨n,_,rfl⟩:=Uq.mp ((V7 l z).mp hz);exact U2 n
 exact ⟨λq=>h.1 ((V7 l _).mpr q),λj hj=>(V7 l _).mp (h.2 j hj)⟩
theorem mexN_of {l:List Nat} {ms:List Int} (hs:ms.Pairwise (· < ·)) (hm:∀ z,z ∈ ms↔z ∈ l.map λn:Nat=>(n:Int)):cntL (ZO ms) 1=mexN l:=by
 have h0:∀ z ∈ ms,0<=z:=λz hz=>by
  obtain ⟨n,_,rfl⟩:=Uq.mp ((hm z).mp hz);exact U2 n
 have h:=mex_cnt hs h0;exact IsMex.unique ⟨λq=>h.1 ((hm _).mpr q),λj hj=>(hm _).mp (h.2 j hj)⟩ (mexN_is l)
theorem mexN_not (l:List Nat):mexN l ∉ l:=λh=>(mexN_is l).1 (Uq.mpr ⟨_,h,rfl⟩)
theorem mexN_lt (l:List Nat) {j:Nat} (h:j < mexN l):j ∈ l:=by
 obtain ⟨n,hn,e⟩:=Uq.mp ((mexN_is l).2 j h);have:n=j:=by exact ar92 e
 exact this ▸ hn
noncomputable def Yw (order barred ws:List Nat) (i word:Nat):List Nat:=((order.take i).filter λother=>barred.contains (word^^^other)).map λother=>ws.getD other 0
noncomputable def Zc (order barred:List Nat):Nat->List Nat
 | 0=>Te 16 0
 | i+1=>match order[i]? with
  | some word=>(Zc order barred i).set word (mexN (Yw order barred (Zc order barred i) i word))
  | none=>Zc order barred i
theorem Yo (order barred:List Nat):∀ i,(Zc order barred i).length=16
 | 0=>by simp [Zc]
 | i+1=>by
  unfold Zc
  split
  ·rw [List.length_set]; exact Yo order barred i
  ·exact Yo order barred i
theorem mexN_le (l:List Nat):mexN l<=l.length:=by
 have h:(Um (mexN l)).length<=l.length:=by
  have key:∀ (k:Nat) (l:List Nat),(∀ j < k,j ∈ l)->k<=l.length:=by
   intro k
   induction k with
   | zero=>intro l _; exact Tb _
   | succ k ih =>
    intro l h;have hk:=h k (Tg k);have h2:=ih (l.erase k) λj hj=>(List.mem_erase_of_ne (Ts hj)).mpr (h j (Tf hj));have h3:=List.length_erase_of_mem hk;have h4:0 < l.length:=List.length_pos_of_mem hk;exact ar94 h2 h3 h4
  rw [Sx];exact key _ l λj hj=>mexN_lt l hj
 simpa using h
theorem Ws (order barred:List Nat):∀ i,∀ x ∈ Zc order barred i,x<=order.length
 | 0,x,h=>by simp [Zc] at h; exact ar95 h
 | i+1,x,h=>by
  unfold Zc at h
  split at h
  ·rcases S4 h with h | rfl
   ·exact Ws order barred i x h
   ·refine Uc (mexN_le _) ?_;unfold Yw;rw [Ut];exact Uc (T5 _ _) (by rw [Ti]; exact Sq i (List.length order))
  ·exact Ws order barred i x h
theorem rises_len {ms:List Int} (hs:ms.Pairwise (· < ·)) {b:Nat} (h:∀ z ∈ ms,0<=z/\z<=(b:Int)):ms.length<=b+1:=by
 rcases S2 ms.length with h0 | h0
 ·exact ar96 h0
 ·have e0:ms[0]?=some ms[0]:=Ui h0;have e1:ms[ms.length - 1]?=some ms[ms.length - 1]:=Ui (by omega);have g:=Xp hs (ms.length - 1) 0 _ _ e0 (by rw [Rf]; exact e1);have a:=h _ (T1 (show 0 < ms.length from h0));have b:=h _ (T1 (show ms.length - 1 < ms.length by exact Nat.sub_one_lt_of_lt h0));omega
end
section
noncomputable def dig (n m:Nat):List Nat:=(Um m).map λi=>n / 64 ^ (m - 1 - i) % 64
noncomputable def ZA (ds:List Nat):List Nat:=ds.dropLast.map (·+64)++[ds.getLastD 0+128]
noncomputable def Xb (v x:Nat):Nat:=v*2 ^ 6 ||| (x &&& 63)
noncomputable def XR (os:List Nat):Nat:=os.foldl Xb 0
theorem WN (n m:Nat):(dig n m).length=m:=by simp [dig]
theorem dig_lt {n m d:Nat} (h:d ∈ dig n m):d < 64:=by
 obtain ⟨i,_,rfl⟩:=Uq.mp h;exact Sr _ (by decide)
theorem or64 {a b:Nat} (hb:b < 64):a*2 ^ 6 ||| b=a*64+b:=by
 rw [Nat.mul_comm, <- Nat.two_pow_add_eq_or_of_lt hb]
theorem vStep_low {v d:Nat} (hd:d < 64):Xb v (d+64)=v*64+d/\Xb v (d+128)=v*64+d:=by
 have h:∀ x,x &&& 63=x % 64:=λx=>Nat.and_two_pow_sub_one_eq_mod x 6;unfold Xb;rw [h,h,Nat.add_mod_right,Nat.mod_eq_of_lt hd,show d+128=d+64*2 by exact ar167,Nat.add_mul_mod_self_left,Nat.mod_eq_of_lt hd,or64 hd];exact ⟨rfl,rfl⟩
theorem vFold_row:∀ (ds:List Nat) (v:Nat),(∀ d ∈ ds,d < 64)->ds≠[]->(ZA ds).foldl Xb v=ds.foldl (λv d=>v*64+d) v
 | [d],v,h,_=>(vStep_low (h d (.head _))).2
 | d :: e :: r,v,h,_=>by
  have:=vFold_row (e :: r) (v*64+d) (λx hx=>h x (.tail _ hx)) (by simp);rw [Sm, <- this];show List.foldl Xb (Xb v (d+64)) (ZA (e :: r))=_;rw [(vStep_low (h d (.head _))).1]
theorem dig_fold (n m v:Nat):(dig n m).foldl (λv d=>v*64+d) v=v*64 ^ m+n % 64 ^ m:=by
 induction m generalizing v with
 | zero=>simp [dig,Nat.mod_one]
 | succ m ih =>
  have e:dig n (m+1)=n / 64 ^ m % 64 :: dig n m:=by
   unfold dig;rw [List.range_succ_eq_map,To,Tc]
   congr 1
   refine Tp λi hi=>?_;have:=U0.mp hi;show n / 64 ^ (m+1 - 1 - (i+1)) % 64=_;rw [show m+1 - 1 - (i+1)=m - 1 - i by exact Nat.add_sub_sub_add_right m 1 i 1]
  rw [e,Sm,ih,Nat.pow_succ,Nat.mod_mul,Nat.add_mul];rw [Nat.mul_assoc,Nat.mul_comm 64,Nat.mul_comm (n / 64 ^ m % 64)];exact ar168
theorem V5 {n m:Nat} (hm:0 < m) (hn:n < 64 ^ m):XR (ZA (dig n m))=n:=by
 unfold XR;rw [vFold_row _ _ (λd h=>dig_lt h) (by intro h; have:=WN n m; rw [h] at this; simp at this; omega),dig_fold];simp [Nat.mod_eq_of_lt hn]
theorem Wl {ds:List Nat} (h:ds≠[]):(ZA ds).length=ds.length:=by
 have:0 < ds.length:=Si.mpr h;simp [ZA]; exact Nat.sub_add_cancel this
theorem octRow_go {ds:List Nat} (h:∀ d ∈ ds,d < 64) (j x:Nat) (hx:(ZA ds)[j]?=some x):x &&& 64≠0↔j+1 < (ZA ds).length:=by
 have key:∀ d < 64,(d+64) &&& 64≠0/\(d+128) &&& 64=0:=by decide +kernel
 unfold ZA at hx ⊢;rw [U8,Ut,List.length_singleton]
 by_cases hj:j < ds.dropLast.length
 ·rw [List.getElem?_append_left (by simpa using hj),Ul] at hx;obtain ⟨d,hd,rfl⟩:=Ux.mp hx;have:=(key d (h d (List.dropLast_subset _ (Uk hd)))).1;simp at hj ⊢;exact ⟨λ_=>by omega,λ_=>this⟩
 ·rw [List.getElem?_append_right (by simpa using hj)] at hx;have hl:=(Un.mp hx).1;simp at hl hj;have e:j - (ds.dropLast.map (·+64)).length=0:=by simp; omega
  rw [e] at hx;simp at hx;subst hx
  have h2:ds.getLast?.getD 0 < 64:=by
   cases q:ds.getLast? with
   | none=>simp
   | some y=>exact h y (List.mem_of_getLast? q)
  have:=(key _ h2).2;simp [this];omega
end
section
theorem xor_small:∀ v < 16,∀ a < 16,∀ c < 16,v < a^^^c->v^^^c < a\/v^^^a < c:=by decide +kernel
theorem xcl (a b:Nat):a^^^(a^^^b)=b:=by rw [<- T3,Nat.xor_self,Nat.zero_xor]
theorem WA (a b:Nat):a^^^(b^^^a)=b:=by rw [Nat.xor_comm b a,xcl]
theorem xor_mid (a b c:Nat):(a^^^b)^^^(b^^^c)=a^^^c:=by rw [T3,xcl]
theorem WH (a b c:Nat):(a^^^b)^^^(a^^^c)=b^^^c:=by rw [Nat.xor_comm a b,xor_mid]
structure Game (T:Nat->Prop) (g:Nat->Nat):Prop where
 lt:∀ k < 16,g k < 16
 no:∀ k < 16,∀ j < k,T (k^^^j)->g j≠g k
 all:∀ k < 16,∀ v < g k,∃ j < k,T (k^^^j)/\g j=v
theorem two_a:∀ p < 4,∀ m < 2 ^ p,2 ^ p<=2 ^ p^^^m/\2 ^ p^^^m < 16:=by decide +kernel
theorem two_b:∀ p < 4,∀ m < 2 ^ p,∀ j < m,2 ^ p^^^j < 2 ^ p^^^m:=by decide +kernel
theorem two_c:∀ p < 4,∀ m < 2 ^ p,∀ j < 16,j < 2 ^ p^^^m->j < 2 ^ p\/2 ^ p^^^j < m:=by decide +kernel
theorem top_facts:∀ p < 4,∀ a < 2 ^ (p+1),a < 2 ^ p\/2 ^ p^^^a < 2 ^ p:=by decide +kernel
theorem Game.lin_step {T:Nat->Prop} {g:Nat->Nat} (G:Game T g) {p:Nat} (hp:p < 4) (ih:∀ a < 2 ^ p,∀ b < 2 ^ p,g (a^^^b)=g a^^^g b) (m:Nat) (hm:m < 2 ^ p):g (2 ^ p^^^m)=g (2 ^ p)^^^g m:=by
 induction m using Nat.strongRecOn with
 | _ m im =>
  have hP:∀ p < 4,2 ^ p < 16:=by decide
  have hP:=hP p hp;obtain ⟨f1,f2⟩:=two_a p hp m hm;have f3:∀ j < 2 ^ p,m^^^j < 2 ^ p:=λj hj=>Nat.xor_lt_two_pow hm hj;have f4:=two_b p hp m hm;have f5:=two_c p hp m hm;have hm16:m < 16:=U5 hm hP;generalize 2 ^ p=P at *;rcases Nat.lt_trichotomy (g (P^^^m)) (g P^^^g m) with q | q | q
  ·exfalso;rcases xor_small _ (G.lt _ f2) _ (G.lt _ hP) _ (G.lt _ hm16) q with r | r
   ·obtain ⟨j,h1,h2,h3⟩:=G.all P hP _ r;refine G.no (P^^^m) f2 (m^^^j) (U9 (f3 j h1) f1) (by rw [xor_mid]; exact h2) ?_;rw [ih m hm j h1,h3,WA]
   ·obtain ⟨j,h1,h2,h3⟩:=G.all m hm16 _ r;refine G.no (P^^^m) f2 (P^^^j) (f4 j h1) (by rw [WH]; exact h2) ?_;rw [im j h1 (U5 h1 hm),h3,WA]
  ·exact q
  ·exfalso;obtain ⟨j,h1,h2,h3⟩:=G.all _ f2 _ q;rcases f5 j (U5 h1 f2) h1 with r | r
   ·refine G.no P hP (m^^^j) (f3 j r) (by rw [<- T3]; exact h2) ?_;rw [ih m hm j r,h3,WA]
   ·refine G.no m hm16 (P^^^j) r (by rw [<- T3,Nat.xor_comm m P]; exact h2) ?_;have e:=im (P^^^j) r (U5 r hm);rw [xcl,h3] at e;have:=congrArg (g P^^^·) e
    rwa [xcl,xcl,eq_comm] at this
theorem Game.zero {T:Nat->Prop} {g:Nat->Nat} (G:Game T g):g 0=0:=by
 rcases S2 (g 0) with q | q
 ·exact q
 ·obtain ⟨j,h,_⟩:=G.all 0 (by decide) 0 q;exact absurd h (Sk j)
theorem Game.lin_to {T:Nat->Prop} {g:Nat->Nat} (G:Game T g):∀ p≤4,∀ a < 2 ^ p,∀ b < 2 ^ p,g (a^^^b)=g a^^^g b
 | 0,_,a,ha,b,hb=>by
  obtain rfl:a=0:=Nat.lt_one_iff.mp ha;obtain rfl:b=0:=Nat.lt_one_iff.mp hb;show g 0=g 0^^^g 0;rw [G.zero]; rfl
 | p+1,hp,a,ha,b,hb=>by
  have ih:=Game.lin_to G p (U6 hp);have st:=G.lin_step hp ih
  have up:∀ a < 2 ^ (p+1),∃ a' < 2 ^ p,(a=a'/\g a=g a')\/(a=2 ^ p^^^a'/\g a=g (2 ^ p)^^^g a'):=λa ha=>by
   rcases top_facts p hp a ha with q | q
   ·exact ⟨a,q, .inl ⟨rfl,rfl⟩⟩
   ·refine ⟨2 ^ p^^^a,q, .inr ⟨by rw [xcl],?_⟩⟩;rw [<- st _ q,xcl]
  obtain ⟨a',ka,ra⟩:=up a ha;obtain ⟨b',kb,rb⟩:=up b hb;have h0:=ih a' ka b' kb;have h1:a'^^^b' < 2 ^ p:=Nat.xor_lt_two_pow ka kb;have h2:=st _ h1;rcases ra with ⟨rfl,ea⟩ | ⟨rfl,ea⟩ <;> rcases rb with ⟨rfl,eb⟩ | ⟨rfl,eb⟩
  ·exact h0
  ·rw [eb, <- T3,Nat.xor_comm a,T3,h2,h0, <- T3, <- T3,Nat.xor_comm (g (2 ^ p))]
  ·rw [ea,T3,h2,h0,T3]
  ·rw [ea,eb,WH,WH,h0]
theorem Game.lin {T:Nat->Prop} {g:Nat->Nat} (G:Game T g) {a b:Nat} (ha:a < 16) (hb:b < 16):g (a^^^b)=g a^^^g b:=G.lin_to 4 (Ug _) a ha b hb
end
section
structure Lin (X:Nat->Nat):Prop where
 add:∀ a < 16,∀ b < 16,X (a^^^b)=X a^^^X b
 perm:((Um 16).map X).Perm (Um 16)
theorem Lin.lt {X:Nat->Nat} (h:Lin X) {k:Nat} (hk:k < 16):X k < 16 :=
 U0.mp (h.perm.mem_iff.mp (Uq.mpr ⟨k,U0.mpr hk,rfl⟩))
theorem Lin.onto {X:Nat->Nat} (h:Lin X) {x:Nat} (hx:x < 16):∃ k < 16,X k=x:=by
 obtain ⟨k,h1,h2⟩:=Uq.mp (h.perm.mem_iff.mpr (U0.mpr hx));exact ⟨k,U0.mp h1,h2⟩
theorem Lin.inj {X:Nat->Nat} (h:Lin X) {j k:Nat} (hjk:j < k) (hk:k < 16):X j≠X k:=by
 have hn:((Um 16).map X).Nodup:=h.perm.nodup_iff.mpr List.nodup_range;have:=Sg.mp hn;have:=So.mp this j k (by simp; exact U5 hjk hk) (by simpa using hk) hjk;simpa using this
theorem VR {X:Nat->Nat} {i:Nat} (hi:i < 16):((Um 16).map X)[i]?=some (X i):=by
 rw [Ul,Sa hi]; rfl
theorem ord_take {X:Nat->Nat} {i:Nat} (hi:i<=16):((Um 16).map X).take i=(Um i).map X:=by
 rw [<- List.map_take,List.take_range,Se hi]
theorem mem_ahead {X:Nat->Nat} {brd ws:List Nat} {k v:Nat} (hk:k<=16):v ∈ Yw ((Um 16).map X) brd ws k (X k)↔∃ j < k,brd.contains (X k^^^X j)=true/\ws.getD (X j) 0=v:=by
 unfold Yw;rw [ord_take hk];constructor
 ·intro h;obtain ⟨y,h1,h2⟩:=Uq.mp h;obtain ⟨h3,h4⟩:=Ta.mp h1;obtain ⟨j,h5,rfl⟩:=Uq.mp h3;exact ⟨j,U0.mp h5,h4,h2⟩
 ·rintro ⟨j,h1,h2,h3⟩;exact Uq.mpr ⟨X j,Ta.mpr ⟨Uq.mpr ⟨j,U0.mpr h1,rfl⟩,h2⟩,h3⟩
noncomputable def mexAt (X:Nat->Nat) (brd:List Nat) (k:Nat):Nat:=mexN (Yw ((Um 16).map X) brd (Zc ((Um 16).map X) brd k) k (X k))
theorem Vb {X:Nat->Nat} (hX:Lin X) (brd:List Nat):∀ i≤16,∀ k < i,(Zc ((Um 16).map X) brd i).getD (X k) 0=mexAt X brd k
 | 0,_,k,hk=>absurd hk (Sk k)
 | i+1,hi,k,hk=>by
  have e:Zc ((Um 16).map X) brd (i+1)=(Zc ((Um 16).map X) brd i).set (X i) (mexAt X brd i):=by
   rw [Zc,VR hi]; rfl
  rw [e,Uu];rcases Ss (Sb hk) with q | rfl
  ·rw [List.getElem?_set_ne (Ne.symm (hX.inj q hi)), <- Uu];exact Vb hX brd i (U6 hi) k q
  ·rw [List.getElem?_set_self (by rw [Yo]; exact hX.lt hi)]; rfl
theorem game_of {X:Nat->Nat} (hX:Lin X) (brd:List Nat):Game (λt=>brd.contains (X t)=true) (λk=>(Zc ((Um 16).map X) brd 16).getD (X k) 0):=by
 have w:=Vb hX brd 16 (Ug _)
 have w':∀ k < 16,∀ j < k,(Zc ((Um 16).map X) brd k).getD (X j) 0=(Zc ((Um 16).map X) brd 16).getD (X j) 0:=λk hk j hj=>by
  rw [w j (U5 hj hk),Vb hX brd k (Tq hk) j hj]
 refine ⟨λk hk=>?_,λk hk j hj ht e=>?_,λk hk v hv=>?_⟩
 ·rw [w k hk];refine Uo (mexN_le _) (Uo ?_ hk);unfold Yw;rw [Ut];refine Uc (T5 _ _) ?_;rw [Ti]; exact Rg _ _
 ·rw [w k hk] at e;refine mexN_not _ ((mem_ahead (Tq hk)).mpr ⟨j,hj,?_,(w' k hk j hj).trans e⟩);rw [<- hX.add k hk j (U5 hj hk)]; exact ht
 ·rw [w k hk] at hv;obtain ⟨j,h1,h2,h3⟩:=(mem_ahead (Tq hk)).mp (mexN_lt _ hv);refine ⟨j,h1,?_,(w' k hk j h1).symm.trans h3⟩;rw [hX.add k hk j (U5 h1 hk)]; exact h2
end
section
open PySem PySem.W PyProof.Rows
inductive Ex1 {α:Type} (p q:α->Prop):Prop where
 | mk (a:α) (h:p a) (k:q a)
inductive Ex2 {α β:Type} (p q:α->β->Prop):Prop where
 | mk (a:α) (b:β) (h:p a b) (k:q a b)
noncomputable abbrev FM:=Addr->Option Obj
noncomputable def FM.le (F G:FM):Prop:=∀ a o,F a=some o->G a=some o
theorem FM.le.refl (F:FM):F.le F:=λ_ _ e=>e
theorem FM.le.trans {F G H:FM} (x:F.le G) (y:G.le H):F.le H:=λa o e=>y a o (x a o e)
inductive AV where
 | none
 | bool (b:Bool)
 | int (i:Int)
 | str (x:Str)
 | tup (xs:List AV)
 | lst (xs:List AV)
 | raw (v:Value)
 | pred (T:FM->Value->Prop)
mutual
inductive RV (F:FM):Value->AV->Prop where
 | none:RV F .none .none
 | bool (b:Bool):RV F (.bool b) (.bool b)
 | int (i:Int) (t:Tok):RV F (.int i t) (.int i)
 | str (x:Str) (t:Tok):RV F (.str x t) (.str x)
 | raw (v:Value):RV F v (.raw v)
 | pred (T:FM->Value->Prop) (v:Value) (h:∀ G:FM,F.le G->T G v):RV F v (.pred T)
 | tup (a:Addr) (vs:List Value) (xs:List AV) (n:Nat) (h:F a=some { cls:=.type "tuple", data:=.seq vs.toArray n }) (r:RVs F vs xs):RV F (.ref a) (.tup xs)
 | lst (a:Addr) (vs:List Value) (xs:List AV) (n:Nat) (h:F a=some { cls:=.type "list", data:=.seq vs.toArray n }) (r:RVs F vs xs):RV F (.ref a) (.lst xs)
inductive RVs (F:FM):List Value->List AV->Prop where
 | nil:RVs F [] []
 | cons {v:Value} {a:AV} {vs:List Value} {as:List AV} (h:RV F v a) (r:RVs F vs as):RVs F (v :: vs) (a :: as)
end
theorem RV.mono {F G:FM} (k:F.le G) {v:Value} {a:AV} (h:RV F v a):RV G v a :=
 RV.rec (motive_1:=λv a _=>RV G v a) (motive_2:=λvs as _=>RVs G vs as) .none .bool .int .str .raw (λT v h=>.pred T v λH kH=>h H (k.trans kH)) (λa vs xs n h _ r=>.tup a vs xs n (k _ _ h) r)
  (λa vs xs n h _ r=>.lst a vs xs n (k _ _ h) r) .nil (λ_ _ h r=>.cons h r) h
theorem RVs.ind {F:FM} {P:List Value->List AV->Prop} (h0:P [] []) (h1:∀ {v a vs as},RV F v a->RVs F vs as->P vs as->P (v :: vs) (a :: as)) {vs:List Value} {as:List AV} (h:RVs F vs as):P vs as :=
 RVs.rec (motive_1:=λ_ _ _=>True) (motive_2:=λvs as _=>P vs as) trivial (λ_=>trivial) (λ_ _=>trivial) (λ_ _=>trivial) (λ_=>trivial) (λ_ _ _=>trivial) (λ_ _ _ _ _ _ _=>trivial)
  (λ_ _ _ _ _ _ _=>trivial) h0 (λh r _ q=>h1 h r q) h
theorem RVs.mono {F G:FM} (k:F.le G) {vs:List Value} {as:List AV} (h:RVs F vs as):RVs G vs as:=h.ind .nil λh _ r=>.cons (h.mono k) r
theorem RV.isRaw {F:FM} {v w:Value} (r:RV F v (.raw w)):v=w:=by cases r; rfl
theorem RV.isInt {F:FM} {v:Value} {i:Int} (r:RV F v (.int i)):∃ t,v=.int i t:=by cases r; exact ⟨_,rfl⟩
theorem RV.isStr {F:FM} {v:Value} {x:Str} (r:RV F v (.str x)):∃ t,v=.str x t:=by cases r; exact ⟨_,rfl⟩
theorem RV.isBool {F:FM} {v:Value} {b:Bool} (r:RV F v (.bool b)):v=.bool b:=by cases r; rfl
theorem RV.isNone {F:FM} {v:Value} (r:RV F v .none):v=.none:=by cases r; rfl
theorem Z6 {α:Type} {a:α} {P:Prop} (h:none=some a):P:=nomatch h
theorem no_sn {α:Type} {a:α} {P:Prop} (h:some a=none):P:=nomatch h
theorem no_tf {P:Prop} (h:true=false):P:=nomatch h
theorem no_ft {P:Prop} (h:false=true):P:=nomatch h
theorem pair_in {α β:Type} {a a':α} {b b':β} (h:(a,b)=(a',b')):a=a'/\b=b':=Prod.mk.inj h
theorem RVs.length {F:FM} {vs:List Value} {as:List AV} (h:RVs F vs as):vs.length=as.length:=h.ind (P:=λvs as=>vs.length=as.length) rfl λ_ _ r=>congrArg (·+1) r
theorem RVs.get {F:FM} {vs:List Value} {as:List AV} (h:RVs F vs as):∀ {i:Nat} {a:AV},as[i]?=some a->∃ v,vs[i]?=some v/\RV F v a :=
 h.ind (P:=λvs as=>∀ {i:Nat} {a:AV},as[i]?=some a->∃ v,vs[i]?=some v/\RV F v a) (λe=>Z6 (List.getElem?_nil.symm.trans e)) λh _ r i a e=>by
  cases i with
  | zero=>exact ⟨_,rfl,Up.inj e ▸ h⟩
  | succ i=>exact r e
theorem RVs.append {F:FM} {vs ws:List Value} {as bs:List AV} (x:RVs F vs as) (y:RVs F ws bs):RVs F (vs++ws) (as++bs):=x.ind (P:=λvs as=>RVs F (vs++ws) (as++bs)) y λh _ r=>.cons h r
theorem RVs.one {F:FM} {v:Value} {a:AV} (h:RV F v a):RVs F [v] [a]:=.cons h .nil
structure Base where
 h₁:Heap
 n:Nat
 tabs:List Addr
 tq:Addr->Str
 os:OsState
 K:Frag
 mg:Str->Option Value
 mb:Str->Option Value
structure Base.OK (B:Base):Prop where
 kin:B.K.In B.h₁
 ktab:∀ a ∈ B.tabs,B.K.lookup a=none
 g:B.h₁.Ns mainGlobals B.mg
 b:B.h₁.Ns builtinsNs B.mb
 bi:∀ x:Str,x ≠ "__name__" -> B.mb x=bootBuiltins x
 lim:B.h₁.NoLimit
 size:B.h₁.objs.size=B.n
 t0:∀ P ∈ B.tabs,4<=P/\P < B.n/\∃ c,B.h₁.TableAt c P #[]
 bat:∀ P ∈ B.tabs,B.h₁.BuiltinsAt B.mg P
noncomputable def TabOK (h:Heap) (P:Addr):Prop:=∃ vs:Array Value,h.get? P=some (X.tableObj vs)
structure Inv (B:Base) (s:Shared):Prop where
 ok:B.OK
 keep:∀ b o,B.h₁.get? b=some o->b ∉ B.tabs->s.heap.get? b=some o
 tb:∀ P ∈ B.tabs,TabOK s.heap P
 os:s.os=B.os
 gens:AllBare s.gens
noncomputable def CodeO (o:Obj) (q:Str):Prop:=∃ vs t,o.data=.fields vs/\vs[1]?=some (.str q t)
noncomputable def TabF (B:Base) (F:FM) (h:Heap):Prop:=∀ P ∈ B.tabs,∃ vs:Array Value,h.get? P=some (X.tableObj vs)/\TriplesOk vs.toList/\∀ pos cv,codeAmong pos vs.toList=some cv->∃ c o,cv=.ref c/\F c=some o/\CodeO o (B.tq P)
theorem TabF.keeps {B:Base} {F F':FM} {h h':Heap} (x:TabF B F h) (k:∀ P ∈ B.tabs,∀ o,h.get? P=some o->h'.get? P=some o) (kF:F.le F'):TabF B F' h':=λP hP =>
 let ⟨vs,e,t,r⟩:=x P hP
 ⟨vs,k P hP _ e,t,λpos cv q=>by obtain ⟨c,o,e1,e2,e3⟩:=r pos cv q; exact ⟨c,o,e1,kF _ _ e2,e3⟩⟩
noncomputable def Kp (B:Base) (ms:List Addr) (h h':Heap):Prop:=∀ b o,h.get? b=some o->b ∉ B.tabs->b ∉ ms->h'.get? b=some o
inductive AO where
 | list (xs:List AV)
 | obj (C d:Addr) (as:List (Str × AV))
 | acc (C d:Addr) (xs:List AV) (as:List (Str × AV))
 | any (T:FM->Obj->Prop)
noncomputable def AO.places (a:Addr):AO->List Addr
 | .list _=>[a]
 | .obj _ d _=>[a,d]
 | .acc _ d _ _=>[a,d]
 | .any _=>[a]
noncomputable def Yv (F:FM) (h:Heap) (d:Addr) (as:List (Str × AV)):Prop:=∃ es n,h.get? d=some (dictOf es n)/\(es.length<=as.length/\∀ e ∈ es,∃ x t,e.key=.str x t/\(as.lookup x).isSome=true)/\∀ x a,as.lookup x=some a->∃ v,getL x es=some (some v)/\RV F v a
noncomputable def MR (F:FM) (h:Heap) (a:Addr):AO->Prop
 | .list xs=>∃ vs n,h.get? a=some { cls:=.type "list", data:=.seq vs.toArray n }/\RVs F vs xs
 | .obj C d as=>h.get? a=some (instObj C d)/\Yv F h d as
 | .acc C d xs as=>(∃ vs n,h.get? a=some { cls:=.ref C,dict:=some d,data:=.seq vs.toArray n }/\RVs F vs xs)/\Yv F h d as
 | .any T=>∃ o,h.get? a=some o/\∀ G:FM,F.le G->T G o
structure Ent where
 he:Heap
 F0:FM
 muts:List Addr
noncomputable def Z1 (mem:List (Addr × AO)):List Addr:=mem.flatMap λp=>p.2.places p.1
noncomputable def own (env:Env):List Addr:=(env.cells.filter λp=>env.kindOf p.1 == some .cell).map (·.2)
noncomputable def fp (env:Env) (mem:List (Addr × AO)):List Addr:=env.locals :: (own env++Z1 mem)
theorem Y9 {env:Env} {x:Str} {c:Addr} (hk:env.kindOf x=some .cell) (h:(x,c) ∈ env.cells):c ∈ own env :=
 Uq.mpr ⟨(x,c),Ta.mpr ⟨h,by simp -iota [hk]⟩,rfl⟩
noncomputable abbrev Loc:=List (Str × AV)
structure XE (B:Base) (env:Env) (F:FM) (loc:Loc) (h:Heap):Prop where
 kind:env.scope.kind=.function
 glob:env.globals=mainGlobals
 blt:env.builtins=builtinsNs
 ns:∃ m,h.Ns env.locals m/\∀ x av,env.kindOf x=some .local->loc.lookup x=some av->∃ v,m x=some v/\RV F v av
 cl:∀ x av,env.kindOf x=some .cell->loc.lookup x=some av->∃ c v,env.cells.lookup x=some c/\h.IsCell c (some v)/\RV F v av
 fz:∀ x av,env.kindOf x=some .free->loc.lookup x=some av->∃ c v o,env.cells.lookup x=some c/\(F c=some o\/B.K.lookup c=some o)/\o.data=.cell (some v)/\RV F v av
 ex:∀ c ∈ own env,∃ v₀,h.IsCell c v₀
structure Rel (B:Base) (E:Ent) (F:FM) (env:Env) (loc:Loc) (tmp:List (Value × AV)) (mem:List (Addr × AO)) (s:Shared):Prop where
 inv:Inv B s
 keep:Kp B E.muts E.he s.heap
 sub:E.F0.le F
 le:F.le s.heap.get?
 fresh:∀ a o,F a=some o->E.F0 a=some o\/E.he.get? a=none
 fr:XE B env F loc s.heap
 tv:∀ p ∈ tmp,RV F p.1 p.2
 mr:∀ p ∈ mem,MR F s.heap p.1 p.2
 nd:(fp env mem).Nodup
 off:∀ a ∈ fp env mem,F a=none/\B.n<=a/\(E.he.get? a=none\/a ∈ E.muts)
 offT:∀ a o,F a=some o->a ∉ B.tabs
 mex:∀ a ∈ E.muts,∃ o,s.heap.get? a=some o
 tf:TabF B F s.heap
structure AOK (d u:Nat) (A:Around):Prop where
 hd:A.handled=none
 dp:A.depth<=d
 un:A.units<=u
variable {prog:Program} {w:World} {B:Base}
inductive AF where
 | next | brk | cont
 | ret (a:AV)
inductive RF (F:FM):Flow->AF->Prop where
 | next:RF F .next .next
 | brk:RF F .brk .brk
 | cont:RF F .cont .cont
 | ret {v:Value} {a:AV} (h:RV F v a):RF F (.ret v) (.ret a)
theorem RF.isNext {F:FM} {v:Flow} (r:RF F v .next):v=.next:=by cases r; rfl
theorem RF.isRet {F:FM} {v:Flow} {a:AV} (r:RF F v (.ret a)):∃ w,v=.ret w/\RV F w a:=by cases r; exact ⟨_,rfl, ‹_›⟩
noncomputable abbrev FF:Value->Shared->Prop:=λ_ _=>False
section
variable (B:Base) (E:Ent) (F:FM) (env:Env) (loc:Loc) (tmp:List (Value × AV))
inductive PoE (Q:AV->List (Addr × AO)->Prop) (v:Value) (s':Shared):Prop where
 | mk (av:AV) (mem':List (Addr × AO)) (F':FM) (k:F.le F') (R:Rel B E F' env loc ((v,av) :: tmp) mem' s') (q:Q av mem')
inductive PoS (Q:AF->Loc->List (Addr × AO)->Prop) (f:Flow) (s':Shared):Prop where
 | mk (af:AF) (loc':Loc) (mem':List (Addr × AO)) (F':FM) (k:F.le F') (r:RF F' f af) (R:Rel B E F' env loc' tmp mem' s') (q:Q af loc' mem')
inductive PoT (Q:Bool->List (Addr × AO)->Prop) (b:Bool) (s':Shared):Prop where
 | mk (mem':List (Addr × AO)) (F':FM) (k:F.le F') (R:Rel B E F' env loc tmp mem' s') (q:Q b mem')
inductive PoL (Q:List AV->List (Addr × AO)->Prop) (vs:List Value) (s':Shared):Prop where
 | mk (as:List AV) (mem':List (Addr × AO)) (F':FM) (k:F.le F') (r:RVs F' vs as) (R:Rel B E F' env loc tmp mem' s') (q:Q as mem')
inductive PoV (mem':List (Addr × AO)) (c:AV) (v:Value) (s':Shared):Prop where
 | mk (F':FM) (k:F.le F') (r:RV F' v c) (R:Rel B E F' env loc tmp mem' s')
inductive PoB (mem':List (Addr × AO)) (b:Bool) (t:Bool) (s':Shared):Prop where
 | mk (e:t=b) (F':FM) (k:F.le F') (R:Rel B E F' env loc tmp mem' s')
inductive PoC (Q:AV->List (Addr × AO)->Prop) (v:Value) (s':Shared):Prop where
 | mk (av:AV) (mem':List (Addr × AO)) (F':FM) (k:F.le F') (r:RV F' v av) (R:Rel B E F' env loc tmp mem' s') (q:Q av mem')
end
theorem PoE.up {B:Base} {E:Ent} {F F1:FM} {env:Env} {loc:Loc} {tmp:List (Value × AV)} {Q:AV->List (Addr × AO)->Prop} {v:Value} {s:Shared} (k₁:F.le F1):PoE B E F1 env loc tmp Q v s->PoE B E F env loc tmp Q v s
 | .mk a m F' k R q=>.mk a m F' (k₁.trans k) R q
theorem PoS.up {B:Base} {E:Ent} {F F1:FM} {env:Env} {tmp:List (Value × AV)} {Q:AF->Loc->List (Addr × AO)->Prop} {v:Flow} {s:Shared} (k₁:F.le F1):PoS B E F1 env tmp Q v s->PoS B E F env tmp Q v s
 | .mk a l m F' k r R q=>.mk a l m F' (k₁.trans k) r R q
theorem PoC.up {B:Base} {E:Ent} {F F1:FM} {env:Env} {loc:Loc} {tmp:List (Value × AV)} {Q:AV->List (Addr × AO)->Prop} {v:Value} {s:Shared} (k₁:F.le F1):PoC B E F1 env loc tmp Q v s->PoC B E F env loc tmp Q v s
 | .mk a m F' k r R q=>.mk a m F' (k₁.trans k) r R q
noncomputable def WE (prog:Program) (w:World) (B:Base) (d u:Nat) (env:Env) (loc:Loc) (mem:List (Addr × AO)) (e:Expr) (Q:AV->List (Addr × AO)->Prop):Prop :=
 ∀ A E F tmp s,AOK d u A->Rel B E F env loc tmp mem s ->
  wpAny (model prog w) A (eval e env) (PoE B E F env loc tmp Q) FF s
noncomputable def WS (prog:Program) (w:World) (B:Base) (d u:Nat) (env:Env) (loc:Loc) (mem:List (Addr × AO)) (st:Stmt) (Q:AF->Loc->List (Addr × AO)->Prop):Prop :=
 ∀ A E F tmp s,AOK d u A->Rel B E F env loc tmp mem s ->
  wpAny (model prog w) A (exec st env) (PoS B E F env tmp Q) FF s
noncomputable def WB (prog:Program) (w:World) (B:Base) (d u:Nat) (env:Env) (loc:Loc) (mem:List (Addr × AO)) (sts:List Stmt) (Q:AF->Loc->List (Addr × AO)->Prop):Prop :=
 ∀ A E F tmp s,AOK d u A->Rel B E F env loc tmp mem s ->
  wpAny (model prog w) A (execs sts env) (PoS B E F env tmp Q) FF s
noncomputable def WT (prog:Program) (w:World) (B:Base) (d u:Nat) (env:Env) (loc:Loc) (mem:List (Addr × AO)) (e:Expr) (Q:Bool->List (Addr × AO)->Prop):Prop :=
 ∀ A E F tmp s,AOK d u A->Rel B E F env loc tmp mem s ->
  wpAny (model prog w) A (isTrue e env (eval e env)) (PoT B E F env loc tmp Q) FF s
section
variable {E:Ent} {F F':FM} {env:Env} {loc loc':Loc} {tmp tmp':List (Value × AV)} {mem:List (Addr × AO)} {s:Shared} {h':Heap} {tk:Nat}
theorem Yv.keeps {h:Heap} {d:Addr} {as:List (Str × AV)} (x:Yv F h d as) (k:∀ b o,h.get? b=some o->h'.get? b=some o) (kF:F.le F'):Yv F' h' d as :=
 let ⟨es,n,e,hk,r⟩:=x; ⟨es,n,k _ _ e,hk,λy a q=>by obtain ⟨v,e1,e2⟩:=r y a q; exact ⟨v,e1,e2.mono kF⟩⟩
theorem MR.keeps {h:Heap} {a:Addr} {o:AO} (x:MR F h a o) (k:∀ b o,h.get? b=some o->h'.get? b=some o) (kF:F.le F'):MR F' h' a o:=by
 cases o with
 | list xs=>obtain ⟨vs,n,e,r⟩:=x; exact ⟨vs,n,k _ _ e,r.mono kF⟩
 | obj C d as=>exact ⟨k _ _ x.1,x.2.keeps k kF⟩
 | acc C d xs as=>obtain ⟨⟨vs,n,e,r⟩,y⟩:=x; exact ⟨⟨vs,n,k _ _ e,r.mono kF⟩,y.keeps k kF⟩
 | any T=>obtain ⟨o,e,r⟩:=x; exact ⟨o,k _ _ e,λG kG=>r G (kF.trans kG)⟩
theorem XE.keeps {B:Base} {h:Heap} (x:XE B env F loc h) (k:∀ b o,h.get? b=some o->h'.get? b=some o) (kF:F.le F'):XE B env F' loc h' where
 kind:=x.kind
 glob:=x.glob
 blt:=x.blt
 ns:=by obtain ⟨m,e,r⟩:=x.ns; exact ⟨m,e.keeps k,λy av hk hl=>by obtain ⟨v,e1,e2⟩:=r y av hk hl; exact ⟨v,e1,e2.mono kF⟩⟩
 cl:=λy av hk hl=>by obtain ⟨c,v,e1,e2,e3⟩:=x.cl y av hk hl; exact ⟨c,v,e1,e2.keeps k,e3.mono kF⟩
 fz:=λy av hk hl=>by obtain ⟨c,v,o,e1,e2,e3,e4⟩:=x.fz y av hk hl; exact ⟨c,v,o,e1,e2.imp_left (kF _ _),e3,e4.mono kF⟩
 ex:=λp hp=>by obtain ⟨v,e⟩:=x.ex p hp; exact ⟨v,e.keeps k⟩
theorem Inv.keeps (x:Inv B s) (k:∀ b o,s.heap.get? b=some o->h'.get? b=some o):Inv B { s with heap:=h',toks:=tk } :=
 ⟨x.ok,λb o e hb=>k _ _ (x.keep b o e hb),λP hP=>by obtain ⟨vs,e⟩:=x.tb P hP; exact ⟨vs,k _ _ e⟩,x.os,x.gens⟩
theorem Rel.ext (R:Rel B E F env loc tmp mem s) (k:∀ b o,s.heap.get? b=some o->h'.get? b=some o):Rel B E F env loc tmp mem { s with heap:=h',toks:=tk } where
 inv:=R.inv.keeps k
 keep:=λb o e h1 h2=>k _ _ (R.keep b o e h1 h2)
 sub:=R.sub
 le:=λa o e=>k _ _ (R.le a o e)
 fresh:=R.fresh
 fr:=R.fr.keeps k (.refl _)
 tv:=R.tv
 mr:=λp hp=>(R.mr p hp).keeps k (.refl _)
 nd:=R.nd
 off:=R.off
 offT:=R.offT
 mex:=λa ha=>by obtain ⟨o,e⟩:=R.mex a ha; exact ⟨o,k _ _ e⟩
 tf:=R.tf.keeps (λP _ o e=>k _ _ e) (.refl _)
theorem Rel.toks (R:Rel B E F env loc tmp mem s):Rel B E F env loc tmp mem { s with toks:=tk }:=R.ext λ_ _ e=>e
theorem Rel.tmps (R:Rel B E F env loc tmp mem s) (h:∀ p ∈ tmp',RV F p.1 p.2):Rel B E F env loc tmp' mem s :=
 { R with tv:=h }
theorem Rel.push (R:Rel B E F env loc tmp mem s) {v:Value} {a:AV} (h:RV F v a):Rel B E F env loc ((v,a) :: tmp) mem s :=
 { R with tv:=λp hp=>by rcases Ur.mp hp with rfl | hp; exact h; exact R.tv p hp }
theorem Rel.pop {x:Value × AV} (R:Rel B E F env loc (x :: tmp) mem s):Rel B E F env loc tmp mem s :=
 { R with tv:=λp hp=>R.tv p (.tail _ hp) }
theorem Rel.top {v:Value} {a:AV} (R:Rel B E F env loc ((v,a) :: tmp) mem s):RV F v a:=R.tv _ (.head _)
noncomputable def FM.set (F:FM) (a:Addr) (o:Obj):FM:=λb=>if b=a then some o else F b
theorem FM.set_same {F:FM} {a:Addr} {o:Obj}:F.set a o a=some o:=if_pos rfl
theorem FM.set_le {F:FM} {a:Addr} {o:Obj} (h:F a=none):F.le (F.set a o):=λb o' e=>by
 unfold FM.set
 by_cases q:b=a
 ·subst q; rw [h] at e; cases e
 ·rw [if_neg q]; exact e
theorem ZP (R:Rel B E F env loc tmp mem s) {a:Addr} (ha:s.heap.get? a=none) (hm:a ∉ E.muts) (ht:a ∉ B.tabs):E.he.get? a=none:=by
 cases q:E.he.get? a with
 | none=>rfl
 | some o=>rw [R.keep a o q ht hm] at ha; cases ha
theorem Xa {h:Heap} {a:Addr} {o:AO} (x:MR F h a o):∀ b ∈ o.places a,∃ ob,h.get? b=some ob:=by
 cases o with
 | list xs =>
  obtain ⟨vs,n,e,_⟩:=x;intro b hb;simp [AO.places] at hb; subst hb; exact ⟨_,e⟩
 | obj C d as =>
  obtain ⟨e,es,n,e2,_⟩:=x;intro b hb;simp [AO.places] at hb;rcases hb with rfl | rfl
  ·exact ⟨_,e⟩
  ·exact ⟨_,e2⟩
 | acc C d xs as =>
  obtain ⟨⟨vs,n,e,_⟩,es,n2,e2,_⟩:=x;intro b hb;simp [AO.places] at hb;rcases hb with rfl | rfl
  ·exact ⟨_,e⟩
  ·exact ⟨_,e2⟩
 | any T =>
  obtain ⟨ob,e,_⟩:=x;intro b hb;simp [AO.places] at hb; subst hb; exact ⟨_,e⟩
theorem Rel.exAt (R:Rel B E F env loc tmp mem s):∀ a ∈ fp env mem,∃ o,s.heap.get? a=some o:=by
 intro a ha;unfold fp at ha;rcases Ur.mp ha with rfl | ha
 ·obtain ⟨m,⟨o,_,_,e,_⟩,_⟩:=R.fr.ns; exact ⟨o,e⟩
 rcases Ue.mp ha with ha | ha
 ·obtain ⟨v,o,e,_⟩:=R.fr.ex a ha; exact ⟨o,e⟩
 ·obtain ⟨p,hp,hb⟩:=U4.mp ha;exact Xa (R.mr p hp) a hb
theorem Zy (h:Heap):h.get? h.objs.size=none:=by
 cases q:h.get? h.objs.size with
 | none=>rfl
 | some o'=>exact absurd (Heap.lt_size q) (S8 _)
theorem Rel.size_le (R:Rel B E F env loc tmp mem s):B.n<=s.heap.objs.size:=by
 obtain ⟨o,e⟩:=R.exAt env.locals (.head _);have:=(R.off env.locals (.head _)).2.1;exact Uc this (Tq (Heap.lt_size e))
theorem Rel.alloc (R:Rel B E F env loc tmp mem s) (o:Obj) (hf:o.isFreed=false) :
  F.le (F.set s.heap.objs.size o)/\Rel B E (F.set s.heap.objs.size o) env loc tmp mem { s with heap:=s.heap.push o }:=by
 have new:=Zy s.heap
 have hF:F s.heap.objs.size=none:=by
  cases q:F s.heap.objs.size with
  | none=>rfl
  | some o'=>have:=R.le _ _ q; rw [new] at this; cases this
 have kF:=FM.set_le (o:=o) hF;have k:∀ b o',s.heap.get? b=some o'->(s.heap.push o).get? b=some o':=λb o' e=>Heap.get?_push_of_some o e
 have nt:s.heap.objs.size ∉ B.tabs:=λhP=>by
  obtain ⟨vs,e⟩:=R.inv.tb _ hP;rw [new] at e; cases e
 have nm:s.heap.objs.size ∉ E.muts:=λhP=>by
  obtain ⟨vs,e⟩:=R.mex _ hP;rw [new] at e; cases e
 have he:=ZP R new nm nt;refine ⟨kF,?_⟩;have R':=R.ext (tk:=s.toks) k
 exact {
  inv:=R'.inv
  keep:=R'.keep
  sub:=R.sub.trans kF
  le:=λa o' e=>by
   unfold FM.set at e
   by_cases q:a=s.heap.objs.size
   ·rw [if_pos q] at e; cases e; rw [q]; exact Heap.get?_push_size _ hf
   ·rw [if_neg q] at e; exact k _ _ (R.le a o' e)
  fresh:=λa o' e=>by
   unfold FM.set at e
   by_cases q:a=s.heap.objs.size
   ·exact .inr (q ▸ he)
   ·rw [if_neg q] at e; exact R.fresh a o' e
  fr:=R.fr.keeps k kF
  tv:=λp hp=>(R.tv p hp).mono kF
  mr:=λp hp=>(R.mr p hp).keeps k kF
  nd:=R.nd
  off:=λa ha=>by
   obtain ⟨h1,h2,h3⟩:=R.off a ha;refine ⟨?_,h2,h3⟩;unfold FM.set;rw [if_neg ?_]; exact h1;rintro rfl;obtain ⟨o',e⟩:=R.exAt _ ha;rw [new] at e; cases e
  offT:=λa o' e=>by
   unfold FM.set at e
   by_cases q:a=s.heap.objs.size
   ·exact q ▸ nt
   ·rw [if_neg q] at e; exact R.offT a o' e
  mex:=R'.mex
  tf:=R.tf.keeps (λP _ o e=>k _ _ e) kF }
theorem Rel.changed (R:Rel B E F env loc tmp mem s) {ps:List Addr} (hps:∀ a ∈ ps,a ∈ fp env mem) (hs:∀ b,b ∉ ps->h'.get? b=s.heap.get? b) (hx:∀ a ∈ ps,∃ o,h'.get? a=some o) :
  Inv B { s with heap:=h',toks:=tk }/\Kp B E.muts E.he h'/\F.le h'.get?/\(∀ a ∈ E.muts,∃ o,h'.get? a=some o)/\TabF B F h':=by
 have lowB:∀ b o,B.h₁.get? b=some o->b ∉ ps:=λb o e hb=>by
  have h2:=(R.off b (hps b hb)).2.1;have h3:=Heap.lt_size e;rw [R.inv.ok.size] at h3;exact Th.mpr h2 h3
 have lowT:∀ P ∈ B.tabs,P ∉ ps:=λP hP hb=>by
  exact Th.mpr (R.off P (hps P hb)).2.1 (R.inv.ok.t0 P hP).2.1
 refine ⟨⟨R.inv.ok,λb o e hb=>(hs b (lowB b o e)).trans (R.inv.keep b o e hb),λP hP=>?_,R.inv.os,R.inv.gens⟩,λb o e h1 h2=>?_,λa o e=>?_,λa ha=>?_,R.tf.keeps (λP hP o e=>(hs P (lowT P hP)).trans e) (.refl _)⟩
 ·obtain ⟨vs,e⟩:=R.inv.tb P hP;exact ⟨vs,(hs P (lowT P hP)).trans e⟩
 ·refine (hs b λhb=>?_).trans (R.keep b o e h1 h2);rcases (R.off b (hps b hb)).2.2 with q | q
  ·rw [q] at e; cases e
  ·exact h2 q
 ·refine (hs a λha=>?_).trans (R.le a o e);rw [(R.off a (hps a ha)).1] at e; cases e
 ·by_cases q:a ∈ ps
  ·exact hx a q
  ·obtain ⟨o,e⟩:=R.mex a ha;exact ⟨o,(hs a q).trans e⟩
theorem Yv.at' {h:Heap} {d:Addr} {as:List (Str × AV)} (x:Yv F h d as) (k:h'.get? d=h.get? d):Yv F h' d as :=
 let ⟨es,n,e,r⟩:=x; ⟨es,n,k.trans e,r⟩
theorem MR.at' {h:Heap} {a:Addr} {o:AO} (x:MR F h a o) (k:∀ b ∈ o.places a,h'.get? b=h.get? b):MR F h' a o:=by
 cases o with
 | list xs=>obtain ⟨vs,n,e,r⟩:=x; exact ⟨vs,n,(k _ (by simp [AO.places])).trans e,r⟩
 | obj C d as=>exact ⟨(k _ (by simp [AO.places])).trans x.1,x.2.at' (k _ (by simp [AO.places]))⟩
 | acc C d xs as=>obtain ⟨⟨vs,n,e,r⟩,y⟩:=x; exact ⟨⟨vs,n,(k _ (by simp [AO.places])).trans e,r⟩,y.at' (k _ (by simp [AO.places]))⟩
 | any T=>obtain ⟨o,e,r⟩:=x; exact ⟨o,(k _ (by simp [AO.places])).trans e,r⟩
theorem Z7 {α:Type} {x:Str} {c:α}:∀ {l:List (Str × α)},l.lookup x=some c->(x,c) ∈ l
 | q :: r,h=>by
  rw [S0] at h
  by_cases hq:x=q.1
  ·subst hq; simp at h; subst h; exact .head _
  ·have:(x == q.1)=false:=beq_eq_false_iff_ne.mpr hq;rw [this] at h; exact .tail _ (Z7 h)
noncomputable def setL (x:Str) (av:AV):Loc->Loc
 | []=>[(x,av)]
 | p :: r=>if p.1 == x then (x,av) :: r else p :: setL x av r
theorem ZH (x:Str) (av:AV) (loc:Loc) (y:Str):(setL x av loc).lookup y=if y=x then some av else loc.lookup y:=by
 induction loc with
 | nil =>
  by_cases h:y=x
  ·subst h; simp [setL]
  ·have:(y == x)=false:=beq_eq_false_iff_ne.mpr h;simp [setL,List.lookup,this,h]
 | cons p r ih =>
  obtain ⟨z,b⟩:=p;unfold setL
  by_cases hz:z=x
  ·subst hz;simp -iota only [beq_self_eq_true,if_true,S0]
   by_cases h:y=z
   ·subst h; simp
   ·have:(y == z)=false:=beq_eq_false_iff_ne.mpr h;simp [this,h]
  ·have hz':(z == x)=false:=beq_eq_false_iff_ne.mpr hz;simp -iota only [hz',U1,if_false,S0]
   by_cases h:y=z
   ·subst h;have:y≠x:=hz;simp [this]
   ·have:(y == z)=false:=beq_eq_false_iff_ne.mpr h;simp only [this,ih]
theorem ZE (R:Rel B E F env loc tmp mem s):env.locals ∉ own env/\env.locals ∉ Z1 mem:=by
 have:=R.nd;unfold fp at this;rw [U3,Ue] at this;exact ⟨λh=>this.1 (.inl h),λh=>this.1 (.inr h)⟩
theorem YJ (R:Rel B E F env loc tmp mem s):∀ c ∈ own env,c ∉ Z1 mem:=by
 have:=R.nd;unfold fp at this;have:=(U3.mp this).2;exact λc hc hm=>(Uy.mp this).2.2 c hc c hm rfl
theorem Rel.setLocal (R:Rel B E F env loc tmp mem s) {x:Str} {v:Value} {av:AV} (hk:env.kindOf x=some .local) (hv:RV F v av)
  (hs:Heap.SameBut env.locals s.heap h')
  {m:Str->Option Value} (hm:∀ x av,env.kindOf x=some .local->loc.lookup x=some av->∃ v,m x=some v/\RV F v av)
  (hn:h'.Ns env.locals (λy=>if y=x then some v else m y)) :
  Rel B E F env (setL x av loc) tmp mem { s with heap:=h',toks:=tk }:=by
 have hps:∀ a ∈ [env.locals],a ∈ fp env mem:=λa ha=>by rw [Uj.mp ha]; exact .head _
 have hb:∀ b,b ∉ [env.locals]->h'.get? b=s.heap.get? b:=λb hb=>hs.2 b λe=>hb (Uj.mpr e);obtain ⟨o,_,_,eo,_⟩:=id hn;obtain ⟨c1,c2,c3,c4,c5⟩:=R.changed (tk:=tk) hps hb (λa ha=>by rw [Uj.mp ha]; exact ⟨o,eo⟩);have n1:=ZE R;have cne:∀ c,c ∈ own env->c≠env.locals:=λc hy e=>n1.1 (e ▸ hy);refine ⟨c1,c2,R.sub,c3,R.fresh,⟨R.fr.kind,R.fr.glob,R.fr.blt,⟨_,hn,λy b hy hl=>?_⟩,λy b hy hl=>?_,λy b hy hl=>?_,λp hp=>?_⟩,R.tv,λp hp=>?_,R.nd,R.off,R.offT,c4,c5⟩
 ·rw [ZH] at hl
  by_cases e:y=x
  ·subst e;simp -iota only [if_true] at hl ⊢
   cases hl
   exact ⟨v,rfl,hv⟩
  ·rw [if_neg e] at hl;simp -iota only [if_neg e];exact hm y b hy hl
 ·rw [ZH] at hl;have e:y≠x:=by rintro rfl; rw [hk] at hy; cases hy
  rw [if_neg e] at hl;obtain ⟨c,u,e1,e2,e3⟩:=R.fr.cl y b hy hl;exact ⟨c,u,e1,e2.sameBut hs (cne c (Y9 hy (Z7 e1))),e3⟩
 ·rw [ZH] at hl;have e:y≠x:=by rintro rfl; rw [hk] at hy; cases hy
  rw [if_neg e] at hl;exact R.fr.fz y b hy hl
 ·obtain ⟨v₀,e⟩:=R.fr.ex p hp;exact ⟨v₀,e.sameBut hs (cne p hp)⟩
 ·refine (R.mr p hp).at' λb hb'=>hb b λe=>?_;rw [Uj.mp e] at hb';exact n1.2 (U4.mpr ⟨p,hp,hb'⟩)
theorem VV {env:Env} (hn:(own env).Nodup) {x y:Str} {c:Addr} (hy:env.kindOf y=some .cell) (hx:env.kindOf x=some .cell) (h:(y,c) ∈ env.cells) (h':(x,c) ∈ env.cells):y=x:=by
 have key:∀ l:List (Str × Addr),(l.map (·.2)).Nodup->(y,c) ∈ l->(x,c) ∈ l->y=x:=by
  intro l
  induction l with
  | nil=>intro _ h; cases h
  | cons p r ih =>
   intro hn h h';rw [To,U3] at hn;rcases Ur.mp h with e | h <;> rcases Ur.mp h' with e' | h'
   ·rw [<- e'] at e; exact (Prod.mk.inj e).1
   ·exact absurd (Uq.mpr ⟨_,h',by rw [<- e]⟩) hn.1
   ·exact absurd (Uq.mpr ⟨_,h,by rw [<- e']⟩) hn.1
   ·exact ih hn.2 h h'
 exact key _ hn (Ta.mpr ⟨h,by simp -iota [hy]⟩) (Ta.mpr ⟨h',by simp -iota [hx]⟩)
theorem Rel.setCell (R:Rel B E F env loc tmp mem s) {x:Str} {v:Value} {av:AV} {c:Addr} (hk:env.kindOf x=some .cell) (hc:env.cells.lookup x=some c) (hv:RV F v av)
  (hs:Heap.SameBut c s.heap h') (hn:h'.IsCell c (some v)) :
  Rel B E F env (setL x av loc) tmp mem { s with heap:=h',toks:=tk }:=by
 have hcm:c ∈ own env:=Y9 hk (Z7 hc)
 have hci:∀ y,env.kindOf y=some .cell->env.cells.lookup y=some c->y=x:=λy hy h=>by
  have n0:=R.nd;unfold fp at n0;have n1:=(Uy.mp (U3.mp n0).2).1;exact VV n1 hy hk (Z7 h) (Z7 hc)
 have hps:∀ a ∈ [c],a ∈ fp env mem:=λa ha=>by
  rw [Uj.mp ha];exact .tail _ (Ue.mpr (.inl hcm))
 have hb:∀ b,b ∉ [c]->h'.get? b=s.heap.get? b:=λb hb=>hs.2 b λe=>hb (Uj.mpr e);obtain ⟨o,eo,od⟩:=id hn;obtain ⟨c1,c2,c3,c4,c5⟩:=R.changed (tk:=tk) hps hb (λa ha=>by rw [Uj.mp ha]; exact ⟨o,eo⟩);have n1:=ZE R;have n2:=YJ R;obtain ⟨m,hn0,r⟩:=R.fr.ns;refine ⟨c1,c2,R.sub,c3,R.fresh,⟨R.fr.kind,R.fr.glob,R.fr.blt,⟨m,hn0.sameBut hs (λe=>n1.1 (e ▸ hcm)),λy b hy hl=>?_⟩,λy b hy hl=>?_,λy b hy hl=>?_,λp hp=>?_⟩,R.tv,λp hp=>?_,R.nd,R.off,R.offT,c4,c5⟩
 ·rw [ZH] at hl;have e:y≠x:=by rintro rfl; rw [hk] at hy; cases hy
  rw [if_neg e] at hl;exact r y b hy hl
 ·rw [ZH] at hl
  by_cases e:y=x
  ·subst e;simp -iota only [if_true] at hl
   cases hl
   exact ⟨c,v,hc,hn,hv⟩
  ·rw [if_neg e] at hl;obtain ⟨c',u,e1,e2,e3⟩:=R.fr.cl y b hy hl;exact ⟨c',u,e1,e2.sameBut hs (λq=>e (hci y hy (q ▸ e1))),e3⟩
 ·rw [ZH] at hl;have e:y≠x:=by rintro rfl; rw [hk] at hy; cases hy
  rw [if_neg e] at hl;exact R.fr.fz y b hy hl
 ·obtain ⟨v₀,e⟩:=R.fr.ex p hp
  by_cases q:p=c
  ·exact ⟨some v,q ▸ hn⟩
  ·exact ⟨v₀,e.sameBut hs q⟩
 ·refine (R.mr p hp).at' λb hb'=>hb b λe=>?_;rw [Uj.mp e] at hb';exact n2 c hcm (U4.mpr ⟨p,hp,hb'⟩)
theorem Vi {mem:List (Addr × AO)} (h:(Z1 mem).Nodup) {i j:Nat} {p q:Addr × AO} (hi:mem[i]?=some p) (hj:mem[j]?=some q) (hij:i≠j):∀ b ∈ p.2.places p.1,b ∉ q.2.places q.1:=by
 induction mem generalizing i j with
 | nil=>simp -iota at hi
 | cons x r ih =>
  have h':(x.2.places x.1++Z1 r).Nodup:=by
   have:Z1 (x :: r)=x.2.places x.1++Z1 r:=by simp -iota [Z1]
   rw [this] at h; exact h
  have n1:=Uy.mp h';have memr:∀ {k:Nat} {y:Addr × AO},r[k]?=some y->∀ b ∈ y.2.places y.1,b ∈ Z1 r:=λhk b hb=>U4.mpr ⟨_,Uk hk,hb⟩
  cases i with
  | zero =>
   cases j with
   | zero=>exact absurd rfl hij
   | succ j =>
    simp -iota at hi hj;subst hi;intro b hb hb';exact n1.2.2 b hb b (memr hj b hb') rfl
  | succ i =>
   cases j with
   | zero =>
    simp -iota at hi hj;subst hj;intro b hb hb';exact n1.2.2 b hb' b (memr hi b hb) rfl
   | succ j =>
    simp -iota at hi hj;exact ih n1.2.1 hi hj λe=>hij (congrArg (·+1) e)
theorem placesOf_set {mem:List (Addr × AO)} {i:Nat} {a:Addr} {ao ao':AO} (hi:mem[i]?=some (a,ao)) (hp:ao'.places a=ao.places a):Z1 (mem.set i (a,ao'))=Z1 mem:=by
 induction mem generalizing i with
 | nil=>simp -iota at hi
 | cons x r ih =>
  cases i with
  | zero=>simp -iota at hi; subst hi; simp -iota [Z1,hp]
  | succ i =>
   simp -iota at hi;have:=ih hi;simp -iota only [Z1] at this;simp -iota [Z1,this]
theorem Rel.setMem (R:Rel B E F env loc tmp mem s) {i:Nat} {a:Addr} {ao ao':AO} (hi:mem[i]?=some (a,ao)) (hp:ao'.places a=ao.places a)
  (hs:∀ b,b ∉ ao.places a->h'.get? b=s.heap.get? b) (hm:MR F h' a ao'):Rel B E F env loc tmp (mem.set i (a,ao')) { s with heap:=h',toks:=tk }:=by
 have hmem:=Uk hi;have hin:∀ b ∈ ao.places a,b ∈ Z1 mem:=λb hb=>U4.mpr ⟨_,hmem,hb⟩;have hps:∀ b ∈ ao.places a,b ∈ fp env mem:=λb hb=>.tail _ (Ue.mpr (.inr (hin b hb)));obtain ⟨c1,c2,c3,c4,c5⟩:=R.changed (tk:=tk) hps hs (λb hb=>Xa hm b (hp ▸ hb));have n1:=ZE R;have n2:=YJ R
 have n3:(Z1 mem).Nodup:=by
  have:=R.nd;unfold fp at this;exact (Uy.mp (U3.mp this).2).2.1
 have efp:fp env (mem.set i (a,ao'))=fp env mem:=by unfold fp; rw [placesOf_set hi hp]
 obtain ⟨m,⟨o,es,ep,eo,r1⟩,r⟩:=R.fr.ns;have eL:h'.get? env.locals=s.heap.get? env.locals:=hs _ λq=>n1.2 (hin _ q);have eC:∀ c ∈ own env,h'.get? c=s.heap.get? c:=λc hc=>hs _ λq=>n2 c hc (hin _ q);have isC:∀ c v,c ∈ own env->s.heap.IsCell c v->h'.IsCell c v:=λc v hc hq1=>by obtain ⟨o,e,d⟩:=hq1; exact ⟨o,(eC c hc).trans e,d⟩
 refine ⟨c1,c2,R.sub,c3,R.fresh,⟨R.fr.kind,R.fr.glob,R.fr.blt,⟨m,⟨o,es,ep,eL.trans eo,r1⟩,r⟩,λy b hy hl=>?_,R.fr.fz,λp hp'=>?_⟩,R.tv,λp hp'=>?_,efp ▸ R.nd,λb hb=>R.off b (efp ▸ hb),R.offT,c4,c5⟩
 ·obtain ⟨c,u,e1,e2,e3⟩:=R.fr.cl y b hy hl;exact ⟨c,u,e1,isC c _ (Y9 hy (Z7 e1)) e2,e3⟩
 ·obtain ⟨v₀,e⟩:=R.fr.ex p hp';exact ⟨v₀,isC _ _ hp' e⟩
 ·obtain ⟨j,hj⟩:=S6 hp';rw [List.getElem?_set] at hj
  by_cases hij:i=j
  ·subst hij;simp -iota only [if_true] at hj
   split at hj
   ·cases hj; exact hm
   ·cases hj
  ·rw [if_neg hij] at hj;exact (R.mr p (Uk hj)).at' λb hb=>hs b λq=>Vi n3 hi hj hij b q hb
theorem Rel.less (R:Rel B E F env loc tmp mem s) (h:∀ x a,loc'.lookup x=some a->loc.lookup x=some a):Rel B E F env loc' tmp mem s :=
 { R with fr:={ R.fr with
   ns:=by obtain ⟨m,e,r⟩:=R.fr.ns; exact ⟨m,e,λx a hk hl=>r x a hk (h x a hl)⟩
   cl:=λx a hk hl=>R.fr.cl x a hk (h x a hl)
   fz:=λx a hk hl=>R.fr.fz x a hk (h x a hl) } }
end
end
section
open PySem PySem.W PySem.W.X PyProof.Rows
abbrev pw:Program:=PySem.Challenge.pw_wa0045_01
abbrev rw0:OpenLaw:=PySem.Challenge.rw_wa0045_01
noncomputable def vw:Program:=PySem.W.view pw [0,2,3,4,11,12,13,14,16,17,18,19,20,21,22,23,24,25,26,27]
noncomputable def lo:List Str:=[Str.ofString "COMPILER_FLAG_NAMES", Str.ofString "insort_right", Str.ofString "bisect_right", Str.ofString "insort_left", Str.ofString "bisect_left", Str.ofString "_Accumulator"]
abbrev S (x:String):Str:=Str.ofString x
noncomputable def vs (x:String) (t:Nat):Value:=.str (S x) t
noncomputable def ds (P:Params) (x:String) (t:Nat) (v:Value):DictEntry:=⟨PyData.keyHash P (S x), .str (S x) t,v⟩
noncomputable def dO (es:List DictEntry) (n:Nat):Obj:=⟨.type "dict", none, .dict es.toArray n, #[]⟩
noncomputable def defOf1:Stmt->Option (Arguments × List Stmt × Scope)
 | .FunctionDef _ ps b _ _ _ sc _ _ _=>some (ps,b,sc)
 | _=>none
noncomputable def clsBody:Stmt->List Stmt
 | .ClassDef _ _ _ b _ _ _ _ _ _ _=>b
 | _=>[]
noncomputable def pathOf:List (Nat × Nat × Nat):=[(29,3,0),(36,4,0),(45,6,0),(54,7,0),(63,8,0),(72,9,0),(86,13,1),(93,13,2),(107,13,4),(114,13,5),(142,13,9),(166,14,1),(173,14,2),(181,14,3),(189,14,4),(196,14,5),(203,14,6),(211,14,7),(218,14,8),(226,14,9),(238,16,0),(243,17,0),(250,18,0),(257,19,0),(264,20,0),(271,21,0),(278,22,0),(283,23,0),(288,24,0),(295,25,0),(302,26,0),(307,27,0)]
noncomputable def defAt (a:Addr):Option (Arguments × List Stmt × Scope):=(pathOf.lookup a).bind λp=>(pw.main.body[p.1]?).bind λst=>match p.2 with
 | 0=>defOf1 st
 | k+1=>(clsBody st)[k]?.bind defOf1
noncomputable def fO (a:Addr) (name qual:String) (clo:List (String × Addr)) (dV kV md:Value) (cd:Addr) (ct:Value):Obj :=
 match defAt a with
 | some (ps,b,sc)=>⟨.type "function", none, .func { name:=S name,qualname:=S qual,params:=ps,body:=.stmts b,scope:=sc,globals:=mainGlobals,closure:=clo.map λp=>(S p.1,p.2),defaults:=dV,kwdefaults:=kV,pyModule:=md,code:=.ref cd,closureTuple:=ct,builtins:=builtinsNs }, #[]⟩
 | none=>⟨.none,none, .plain, #[]⟩
noncomputable def KA (P:Params):Frag:=[
 (2,⟨.none,none, .dict #[] 0, #[]⟩),
 (3,dO [ds P "__name__" 165 (vs "law_wa0045_01" 512),ds P "__doc__" 166 (.none),ds P "__package__" 167 (.none),ds P "__loader__" 168 (.builtin "__main__.__loader__#opaque"),ds P "__spec__" 169 (.none),ds P "__annotations__" 170 (.ref 6),ds P "__builtins__" 171 (.ref 4),ds P "__file__" 173 (vs "/claim/cut.py" 172),ds P "__cached__" 174 (.none),ds P "_wall" 193 (.ref 21),ds P "COMPILER_FLAG_NAMES" 226 (.ref 22),ds P "pretty_flags" 236 (.ref 29),ds P "_parse_varint" 245 (.ref 36),ds P "insort_right" 260 (.ref 45),ds P "bisect_right" 274 (.ref 54),ds P "insort_left" 287 (.ref 63),ds P "bisect_left" 301 (.ref 72),ds P "NL" 305 (vs "\n" 304),ds P "EMPTYSTRING" 307 (vs "" 306),ds P "_ValueFormatter" 415 (.ref 145),ds P "_Accumulator" 511 (.ref 229),ds P "_law_read" 519 (.ref 238),ds P "_law_marks" 525 (.ref 243),ds P "_law_folded" 537 (.ref 250),ds P "_law_rows" 549 (.ref 257),ds P "_law_basis" 560 (.ref 264),ds P "_law_sum" 569 (.ref 271),ds P "_law_found" 577 (.ref 278),ds P "_law_kept" 583 (.ref 283),ds P "_law_worths" 589 (.ref 288),ds P "_law_classes" 601 (.ref 295),ds P "_law_times" 610 (.ref 302),ds P "law" 616 (.ref 307)] 33),
 (22,dO [⟨1, .int (1) 196,vs "OPTIMIZED" 197⟩,⟨2, .int (2) 198,vs "NEWLOCALS" 199⟩,⟨4, .int (4) 200,vs "VARARGS" 201⟩,⟨8, .int (8) 202,vs "VARKEYWORDS" 203⟩,⟨16, .int (16) 204,vs "NESTED" 205⟩,⟨32, .int (32) 206,vs "GENERATOR" 207⟩,⟨64, .int (64) 208,vs "NOFREE" 209⟩,⟨128, .int (128) 210,vs "COROUTINE" 211⟩,⟨256, .int (256) 212,vs "ITERABLE_COROUTINE" 213⟩,⟨512, .int (512) 214,vs "ASYNC_GENERATOR" 215⟩] 10),
 (28,⟨.type "code", none, .fields #[vs "pretty_flags" 227,vs "pretty_flags" 228,vs "/claim/cut.py" 229, .int (6) 0, .int (1) 0, .int (0) 0, .int (0) 0, .int (3) 0, .ref 23, .bool true, .int (181) 0, .ref 24, .none, .ref 25, .ref 26, .ref 27, .int (234) 0, .int (6) 0,vs "/claim/cut.py" 235], #[]⟩),
 (29,fO 29 "pretty_flags" "pretty_flags" [] (.none) (.none) (vs "cpy313.dis" 194) 28 (.none)),
 (35,⟨.type "code", none, .fields #[vs "_parse_varint" 237,vs "_parse_varint" 238,vs "/claim/cut.py" 239, .int (18) 0, .int (1) 0, .int (0) 0, .int (0) 0, .int (3) 0, .ref 30, .bool true, .int (181) 0, .ref 31, .none, .ref 32, .ref 33, .ref 34, .int (243) 0, .int (18) 0,vs "/claim/cut.py" 244], #[]⟩),
 (36,fO 36 "_parse_varint" "_parse_varint" [] (.none) (.none) (vs "cpy313.dis" 194) 35 (.none)),
 (37,⟨.type "tuple", none, .seq #[.int (0) 248, .none] 0, #[]⟩),
 (38,dO [ds P "key" 249 (.none)] 1),
 (44,⟨.type "code", none, .fields #[vs "insort_right" 250,vs "insort_right" 251,vs "/claim/cut.py" 252, .int (27) 0, .int (4) 0, .int (0) 0, .int (1) 0, .int (3) 0, .ref 39, .bool true, .int (181) 0, .ref 40, .none, .ref 41, .ref 42, .ref 43, .int (258) 0, .int (27) 0,vs "/claim/cut.py" 259], #[]⟩),
 (45,fO 45 "insort_right" "insort_right" [] (.ref 37) (.ref 38) (vs "cpy313.bisect" 246) 44 (.none)),
 (46,⟨.type "tuple", none, .seq #[.int (0) 261, .none] 0, #[]⟩),
 (47,dO [ds P "key" 262 (.none)] 1),
 (53,⟨.type "code", none, .fields #[vs "bisect_right" 263,vs "bisect_right" 264,vs "/claim/cut.py" 265, .int (33) 0, .int (4) 0, .int (0) 0, .int (1) 0, .int (3) 0, .ref 48, .bool true, .int (181) 0, .ref 49, .none, .ref 50, .ref 51, .ref 52, .int (272) 0, .int (33) 0,vs "/claim/cut.py" 273], #[]⟩),
 (54,fO 54 "bisect_right" "bisect_right" [] (.ref 46) (.ref 47) (vs "cpy313.bisect" 246) 53 (.none)),
 (55,⟨.type "tuple", none, .seq #[.int (0) 275, .none] 0, #[]⟩),
 (56,dO [ds P "key" 276 (.none)] 1),
 (62,⟨.type "code", none, .fields #[vs "insort_left" 277,vs "insort_left" 278,vs "/claim/cut.py" 279, .int (53) 0, .int (4) 0, .int (0) 0, .int (1) 0, .int (3) 0, .ref 57, .bool true, .int (181) 0, .ref 58, .none, .ref 59, .ref 60, .ref 61, .int (285) 0, .int (53) 0,vs "/claim/cut.py" 286], #[]⟩),
 (63,fO 63 "insort_left" "insort_left" [] (.ref 55) (.ref 56) (vs "cpy313.bisect" 246) 62 (.none)),
 (64,⟨.type "tuple", none, .seq #[.int (0) 288, .none] 0, #[]⟩),
 (65,dO [ds P "key" 289 (.none)] 1),
 (71,⟨.type "code", none, .fields #[vs "bisect_left" 290,vs "bisect_left" 291,vs "/claim/cut.py" 292, .int (59) 0, .int (4) 0, .int (0) 0, .int (1) 0, .int (3) 0, .ref 66, .bool true, .int (181) 0, .ref 67, .none, .ref 68, .ref 69, .ref 70, .int (299) 0, .int (59) 0,vs "/claim/cut.py" 300], #[]⟩),
 (72,fO 72 "bisect_left" "bisect_left" [] (.ref 64) (.ref 65) (vs "cpy313.bisect" 246) 71 (.none)),
 (85,⟨.type "code", none, .fields #[vs "__init__" 320,vs "_ValueFormatter.__init__" 321,vs "/claim/cut.py" 322, .int (84) 0, .int (5) 0, .int (0) 0, .int (0) 0, .int (3) 0, .ref 80, .bool true, .int (181) 0, .ref 81, .none, .ref 82, .ref 83, .ref 84, .int (328) 0, .int (84) 0,vs "/claim/cut.py" 329], #[]⟩),
 (86,fO 86 "__init__" "_ValueFormatter.__init__" [] (.none) (.none) (vs "cpy313.email.header" 302) 85 (.none)),
 (92,⟨.type "code", none, .fields #[vs "_str" 331,vs "_ValueFormatter._str" 332,vs "/claim/cut.py" 333, .int (92) 0, .int (2) 0, .int (0) 0, .int (0) 0, .int (3) 0, .ref 87, .bool true, .int (181) 0, .ref 88, .none, .ref 89, .ref 90, .ref 91, .int (336) 0, .int (92) 0,vs "/claim/cut.py" 337], #[]⟩),
 (93,fO 93 "_str" "_ValueFormatter._str" [] (.none) (.none) (vs "cpy313.email.header" 302) 92 (.none)),
 (106,⟨.type "code", none, .fields #[vs "newline" 346,vs "_ValueFormatter.newline" 347,vs "/claim/cut.py" 348, .int (99) 0, .int (1) 0, .int (0) 0, .int (0) 0, .int (3) 0, .ref 101, .bool true, .int (181) 0, .ref 102, .none, .ref 103, .ref 104, .ref 105, .int (351) 0, .int (99) 0,vs "/claim/cut.py" 352], #[]⟩),
 (107,fO 107 "newline" "_ValueFormatter.newline" [] (.none) (.none) (vs "cpy313.email.header" 302) 106 (.none)),
 (113,⟨.type "code", none, .fields #[vs "add_transition" 354,vs "_ValueFormatter.add_transition" 355,vs "/claim/cut.py" 356, .int (110) 0, .int (1) 0, .int (0) 0, .int (0) 0, .int (3) 0, .ref 108, .bool true, .int (181) 0, .ref 109, .none, .ref 110, .ref 111, .ref 112, .int (358) 0, .int (110) 0,vs "/claim/cut.py" 359], #[]⟩),
 (114,fO 114 "add_transition" "_ValueFormatter.add_transition" [] (.none) (.none) (vs "cpy313.email.header" 302) 113 (.none)),
 (141,⟨.type "code", none, .fields #[vs "_append_chunk" 388,vs "_ValueFormatter._append_chunk" 389,vs "/claim/cut.py" 390, .int (122) 0, .int (3) 0, .int (0) 0, .int (0) 0, .int (3) 0, .ref 136, .bool true, .int (181) 0, .ref 137, .none, .ref 138, .ref 139, .ref 140, .int (399) 0, .int (122) 0,vs "/claim/cut.py" 400], #[]⟩),
 (142,fO 142 "_append_chunk" "_ValueFormatter._append_chunk" [] (.none) (.none) (vs "cpy313.email.header" 302) 141 (.none)),
 (144,dO [ds P "__module__" 315 (vs "cpy313.email.header" 302),ds P "__firstlineno__" 319 (.int (82) 318),ds P "__init__" 330 (.ref 86),ds P "_str" 338 (.ref 93),ds P "__str__" 345 (.ref 100),ds P "newline" 353 (.ref 107),ds P "add_transition" 360 (.ref 114),ds P "feed" 370 (.ref 121),ds P "_maxlengths" 377 (.ref 128),ds P "_ascii_split" 387 (.ref 135),ds P "_append_chunk" 401 (.ref 142),ds P "__static_attributes__" 408 (.ref 143),ds P "__dict__" 410 (.ref 146),ds P "__weakref__" 412 (.ref 147),ds P "__doc__" 413 (.none)] 4),
 (145,⟨.type "type", none, .cls { name:=S "_ValueFormatter", bases:=[.type "object"],mro:=[.ref 145, .type "object"],ns:=144,qualname:=S "_ValueFormatter" }, #[none,none,some (vs "_ValueFormatter" 308),some (vs "_ValueFormatter" 316),some (.builtin "object.__new__"),some (.bool true)]⟩),
 (153,⟨.type "cell", none, .cell (some (.ref 229)), #[]⟩),
 (158,⟨.type "tuple", none, .seq #[.int (0) 428] 0, #[]⟩),
 (165,⟨.type "code", none, .fields #[vs "__init__" 429,vs "_Accumulator.__init__" 430,vs "/claim/cut.py" 431, .int (150) 0, .int (2) 0, .int (0) 0, .int (0) 0, .int (3) 0, .ref 160, .bool true, .int (181) 0, .ref 161, .none, .ref 162, .ref 163, .ref 164, .int (435) 0, .int (150) 0,vs "/claim/cut.py" 436], #[]⟩),
 (166,fO 166 "__init__" "_Accumulator.__init__" [("__class__", 153)] (.ref 158) (.none) (vs "cpy313.email.header" 302) 165 (.ref 159)),
 (172,⟨.type "code", none, .fields #[vs "push" 438,vs "_Accumulator.push" 439,vs "/claim/cut.py" 440, .int (154) 0, .int (3) 0, .int (0) 0, .int (0) 0, .int (3) 0, .ref 167, .bool true, .int (181) 0, .ref 168, .none, .ref 169, .ref 170, .ref 171, .int (444) 0, .int (154) 0,vs "/claim/cut.py" 445], #[]⟩),
 (173,fO 173 "push" "_Accumulator.push" [] (.none) (.none) (vs "cpy313.email.header" 302) 172 (.none)),
 (174,⟨.type "tuple", none, .seq #[.int (0) 447] 0, #[]⟩),
 (180,⟨.type "code", none, .fields #[vs "pop_from" 448,vs "_Accumulator.pop_from" 449,vs "/claim/cut.py" 450, .int (157) 0, .int (2) 0, .int (0) 0, .int (0) 0, .int (3) 0, .ref 175, .bool true, .int (181) 0, .ref 176, .none, .ref 177, .ref 178, .ref 179, .int (454) 0, .int (157) 0,vs "/claim/cut.py" 455], #[]⟩),
 (181,fO 181 "pop_from" "_Accumulator.pop_from" [] (.ref 174) (.none) (vs "cpy313.email.header" 302) 180 (.none)),
 (188,⟨.type "code", none, .fields #[vs "pop" 457,vs "_Accumulator.pop" 458,vs "/claim/cut.py" 459, .int (162) 0, .int (1) 0, .int (0) 0, .int (0) 0, .int (3) 0, .ref 183, .bool true, .int (181) 0, .ref 184, .none, .ref 185, .ref 186, .ref 187, .int (462) 0, .int (162) 0,vs "/claim/cut.py" 463], #[]⟩),
 (189,fO 189 "pop" "_Accumulator.pop" [("__class__", 153)] (.none) (.none) (vs "cpy313.email.header" 302) 188 (.ref 182)),
 (191,⟨.none,none, .fields #[], #[]⟩),
 (195,⟨.type "code", none, .fields #[vs "__len__" 465,vs "_Accumulator.__len__" 466,vs "/claim/cut.py" 467, .int (167) 0, .int (1) 0, .int (0) 0, .int (0) 0, .int (3) 0, .ref 190, .bool true, .int (181) 0, .ref 191, .none, .ref 192, .ref 193, .ref 194, .int (469) 0, .int (167) 0,vs "/claim/cut.py" 470], #[]⟩),
 (196,fO 196 "__len__" "_Accumulator.__len__" [] (.none) (.none) (vs "cpy313.email.header" 302) 195 (.none)),
 (198,⟨.none,none, .fields #[], #[]⟩),
 (202,⟨.type "code", none, .fields #[vs "__str__" 472,vs "_Accumulator.__str__" 473,vs "/claim/cut.py" 474, .int (170) 0, .int (1) 0, .int (0) 0, .int (0) 0, .int (3) 0, .ref 197, .bool true, .int (181) 0, .ref 198, .none, .ref 199, .ref 200, .ref 201, .int (476) 0, .int (170) 0,vs "/claim/cut.py" 477], #[]⟩),
 (203,fO 203 "__str__" "_Accumulator.__str__" [] (.none) (.none) (vs "cpy313.email.header" 302) 202 (.none)),
 (204,⟨.type "tuple", none, .seq #[.none] 0, #[]⟩),
 (210,⟨.type "code", none, .fields #[vs "reset" 479,vs "_Accumulator.reset" 480,vs "/claim/cut.py" 481, .int (173) 0, .int (2) 0, .int (0) 0, .int (0) 0, .int (3) 0, .ref 205, .bool true, .int (181) 0, .ref 206, .none, .ref 207, .ref 208, .ref 209, .int (484) 0, .int (173) 0,vs "/claim/cut.py" 485], #[]⟩),
 (211,fO 211 "reset" "_Accumulator.reset" [] (.ref 204) (.none) (vs "cpy313.email.header" 302) 210 (.none)),
 (217,⟨.type "code", none, .fields #[vs "is_onlyws" 487,vs "_Accumulator.is_onlyws" 488,vs "/claim/cut.py" 489, .int (179) 0, .int (1) 0, .int (0) 0, .int (0) 0, .int (3) 0, .ref 212, .bool true, .int (181) 0, .ref 213, .none, .ref 214, .ref 215, .ref 216, .int (491) 0, .int (179) 0,vs "/claim/cut.py" 492], #[]⟩),
 (218,fO 218 "is_onlyws" "_Accumulator.is_onlyws" [] (.none) (.none) (vs "cpy313.email.header" 302) 217 (.none)),
 (225,⟨.type "code", none, .fields #[vs "part_count" 494,vs "_Accumulator.part_count" 495,vs "/claim/cut.py" 496, .int (182) 0, .int (1) 0, .int (0) 0, .int (0) 0, .int (3) 0, .ref 220, .bool true, .int (181) 0, .ref 221, .none, .ref 222, .ref 223, .ref 224, .int (499) 0, .int (182) 0,vs "/claim/cut.py" 500], #[]⟩),
 (226,fO 226 "part_count" "_Accumulator.part_count" [("__class__", 153)] (.none) (.none) (vs "cpy313.email.header" 302) 225 (.ref 219)),
 (228,dO [ds P "__module__" 423 (vs "cpy313.email.header" 302),ds P "__firstlineno__" 427 (.int (148) 426),ds P "__init__" 437 (.ref 166),ds P "push" 446 (.ref 173),ds P "pop_from" 456 (.ref 181),ds P "pop" 464 (.ref 189),ds P "__len__" 471 (.ref 196),ds P "__str__" 478 (.ref 203),ds P "reset" 486 (.ref 211),ds P "is_onlyws" 493 (.ref 218),ds P "part_count" 501 (.ref 226),ds P "__static_attributes__" 503 (.ref 227),ds P "__dict__" 506 (.ref 230),ds P "__weakref__" 508 (.ref 231),ds P "__doc__" 509 (.none)] 5),
 (229,⟨.type "type", none, .cls { name:=S "_Accumulator", bases:=[.type "list"],mro:=[.ref 229, .type "list", .type "object"],ns:=228,qualname:=S "_Accumulator" }, #[some (.ref 150),none,some (vs "_Accumulator" 416),some (vs "_Accumulator" 424),some (.builtin "list.__new__"),some (.bool true)]⟩),
 (237,⟨.type "code", none, .fields #[vs "_law_read" 514,vs "_law_read" 515,vs "/claim/cut.py" 516, .int (185) 0, .int (1) 0, .int (0) 0, .int (0) 0, .int (3) 0, .ref 234, .bool true, .int (181) 0, .ref 235, .none, .none, .none, .ref 236, .int (517) 0, .int (185) 0,vs "/claim/cut.py" 518], #[]⟩),
 (238,fO 238 "_law_read" "_law_read" [] (.none) (.none) (vs "law_wa0045_01" 512) 237 (.none)),
 (242,⟨.type "code", none, .fields #[vs "_law_marks" 520,vs "_law_marks" 521,vs "/claim/cut.py" 522, .int (194) 0, .int (1) 0, .int (0) 0, .int (0) 0, .int (3) 0, .ref 239, .bool true, .int (181) 0, .ref 240, .none, .none, .none, .ref 241, .int (523) 0, .int (194) 0,vs "/claim/cut.py" 524], #[]⟩),
 (243,fO 243 "_law_marks" "_law_marks" [] (.none) (.none) (vs "law_wa0045_01" 512) 242 (.none)),
 (249,⟨.type "code", none, .fields #[vs "_law_folded" 526,vs "_law_folded" 527,vs "/claim/cut.py" 528, .int (198) 0, .int (3) 0, .int (0) 0, .int (0) 0, .int (3) 0, .ref 244, .bool true, .int (181) 0, .ref 245, .none, .ref 246, .ref 247, .ref 248, .int (535) 0, .int (198) 0,vs "/claim/cut.py" 536], #[]⟩),
 (250,fO 250 "_law_folded" "_law_folded" [] (.none) (.none) (vs "law_wa0045_01" 512) 249 (.none)),
 (256,⟨.type "code", none, .fields #[vs "_law_rows" 538,vs "_law_rows" 539,vs "/claim/cut.py" 540, .int (208) 0, .int (3) 0, .int (0) 0, .int (0) 0, .int (3) 0, .ref 251, .bool true, .int (181) 0, .ref 252, .none, .ref 253, .ref 254, .ref 255, .int (547) 0, .int (208) 0,vs "/claim/cut.py" 548], #[]⟩),
 (257,fO 257 "_law_rows" "_law_rows" [] (.none) (.none) (vs "law_wa0045_01" 512) 256 (.none)),
 (263,⟨.type "code", none, .fields #[vs "_law_basis" 550,vs "_law_basis" 551,vs "/claim/cut.py" 552, .int (219) 0, .int (1) 0, .int (0) 0, .int (0) 0, .int (3) 0, .ref 258, .bool true, .int (181) 0, .ref 259, .none, .ref 260, .ref 261, .ref 262, .int (558) 0, .int (219) 0,vs "/claim/cut.py" 559], #[]⟩),
 (264,fO 264 "_law_basis" "_law_basis" [] (.none) (.none) (vs "law_wa0045_01" 512) 263 (.none)),
 (270,⟨.type "code", none, .fields #[vs "_law_sum" 561,vs "_law_sum" 562,vs "/claim/cut.py" 563, .int (226) 0, .int (1) 0, .int (0) 0, .int (0) 0, .int (3) 0, .ref 265, .bool true, .int (181) 0, .ref 266, .none, .ref 267, .ref 268, .ref 269, .int (567) 0, .int (226) 0,vs "/claim/cut.py" 568], #[]⟩),
 (271,fO 271 "_law_sum" "_law_sum" [] (.none) (.none) (vs "law_wa0045_01" 512) 270 (.none)),
 (277,⟨.type "code", none, .fields #[vs "_law_found" 570,vs "_law_found" 571,vs "/claim/cut.py" 572, .int (231) 0, .int (2) 0, .int (0) 0, .int (0) 0, .int (3) 0, .ref 272, .bool true, .int (181) 0, .ref 273, .none, .ref 274, .ref 275, .ref 276, .int (575) 0, .int (231) 0,vs "/claim/cut.py" 576], #[]⟩),
 (278,fO 278 "_law_found" "_law_found" [] (.none) (.none) (vs "law_wa0045_01" 512) 277 (.none)),
 (282,⟨.type "code", none, .fields #[vs "_law_kept" 578,vs "_law_kept" 579,vs "/claim/cut.py" 580, .int (233) 0, .int (2) 0, .int (0) 0, .int (0) 0, .int (3) 0, .ref 279, .bool true, .int (181) 0, .ref 280, .none, .none, .none, .ref 281, .int (581) 0, .int (233) 0,vs "/claim/cut.py" 582], #[]⟩),
 (283,fO 283 "_law_kept" "_law_kept" [] (.none) (.none) (vs "law_wa0045_01" 512) 282 (.none)),
 (285,⟨.none,none, .fields #[], #[]⟩),
 (287,⟨.type "code", none, .fields #[vs "_law_worths" 584,vs "_law_worths" 585,vs "/claim/cut.py" 586, .int (240) 0, .int (2) 0, .int (0) 0, .int (0) 0, .int (3) 0, .ref 284, .bool true, .int (181) 0, .ref 285, .none, .none, .none, .ref 286, .int (587) 0, .int (240) 0,vs "/claim/cut.py" 588], #[]⟩),
 (288,fO 288 "_law_worths" "_law_worths" [] (.none) (.none) (vs "law_wa0045_01" 512) 287 (.none)),
 (290,⟨.none,none, .fields #[], #[]⟩),
 (294,⟨.type "code", none, .fields #[vs "_law_classes" 590,vs "_law_classes" 591,vs "/claim/cut.py" 592, .int (246) 0, .int (2) 0, .int (0) 0, .int (0) 0, .int (3) 0, .ref 289, .bool true, .int (181) 0, .ref 290, .none, .ref 291, .ref 292, .ref 293, .int (599) 0, .int (246) 0,vs "/claim/cut.py" 600], #[]⟩),
 (295,fO 295 "_law_classes" "_law_classes" [] (.none) (.none) (vs "law_wa0045_01" 512) 294 (.none)),
 (297,⟨.none,none, .fields #[], #[]⟩),
 (301,⟨.type "code", none, .fields #[vs "_law_times" 602,vs "_law_times" 603,vs "/claim/cut.py" 604, .int (252) 0, .int (2) 0, .int (0) 0, .int (0) 0, .int (3) 0, .ref 296, .bool true, .int (181) 0, .ref 297, .none, .ref 298, .ref 299, .ref 300, .int (608) 0, .int (252) 0,vs "/claim/cut.py" 609], #[]⟩),
 (302,fO 302 "_law_times" "_law_times" [] (.none) (.none) (vs "law_wa0045_01" 512) 301 (.none)),
 (306,⟨.type "code", none, .fields #[vs "law" 611,vs "law" 612,vs "/claim/cut.py" 613, .int (255) 0, .int (1) 0, .int (0) 0, .int (0) 0, .int (3) 0, .ref 303, .bool true, .int (181) 0, .ref 304, .none, .none, .none, .ref 305, .int (614) 0, .int (255) 0,vs "/claim/cut.py" 615], #[]⟩),
 (307,fO 307 "law" "law" [] (.none) (.none) (vs "law_wa0045_01" 512) 306 (.none))]
noncomputable def asA:List Addr:=[2,3,22,28,29,35,36,37,38,44,45,46,47,53,54,55,56,62,63,64,65,71,72,85,86,92,93,106,107,113,114,141,142,144,145,153,158,165,166,172,173,174,180,181,188,189,191,195,196,198,202,203,204,210,211,217,218,225,226,228,229,237,238,242,243,249,250,256,257,263,264,270,271,277,278,282,283,285,287,288,290,294,295,297,301,302,306,307]
theorem asA_eq (P:Params):asA=(KA P).map (·.1):=by rfl
noncomputable def stage (w:World) (N:Nat) (s₀:Shared):Option Shared :=
 match s₀.heap.isNs mainGlobals && s₀.gens.size == 0 with
 | true=>(PySem.W.Fast.tw14082659384304107361 PySem.W.Fast.tw14364793385576792824 pw w s₀.heap.objs.size (PySem.W.Fast.tw8920871248978507458 s₀.heap mainGlobals "__annotations__") N s₀ (topStub pw)).bind λs₁=>match staticsOk (importedModules pw.main.body) s₀.heap s₁.heap && namesBound pw s₁.heap && gensDone s₁ && laidKept s₀.heap s₁.heap with
   | true=>some s₁
   | false=>none
 | false=>none
theorem stage_eq (w:World) (N:Nat) (s:Shared):topFrom treeTable pw w N s=stage w N s:=by
 unfold topFrom stage;rw [PySem.W.Fast.te14364793385576792824,PySem.W.Fast.te14082659384304107361,PySem.W.Fast.te8920871248978507458]
 cases s.heap.isNs mainGlobals && s.gens.size == 0
 ·rfl
 ·rfl
noncomputable def XtA (s:Shared):Bool:=xlAt vw [] s && recOk (RowW.records rw0.row.toRowW) s
noncomputable def seenT (s:Shared):=PySem.W.Fast.tw4187177175401517315 vw lo (importedModules pw.main.body) XtA true s
noncomputable def s0 (w:World) (os:OsState):Shared:=⟨boot_heap w.params,Array.mk [],boot_drawn,boot_toks,os⟩
abbrev RunOk (w:World):Prop:=(λos=>(stage w 3730 (s0 w os)).map (λs=>(seenT s,obsZ asA s)))=λ_=>some (openGood vw lo,valZ KA 308 617 w)
theorem run_f (w:World):RunOk (w.withFollow "special-get-raises" false):=by kernel_rfl
theorem run_t (w:World):RunOk (w.withFollow "special-get-raises" true):=by kernel_rfl
theorem left:LeftO pw vw lo XtA (obsZ asA) (valZ KA 308 617) 3730:=λw=>by
 obtain ⟨s,hs,e⟩:=Ux.mp (boot_open (p:=pw) (N:=3730) (by kernel_rfl) (by rfl) (λs=>by rfl) w);unfold openEnds;rw [hs];show Option.map _ (topFrom treeTable pw w 3730 s)=_;rw [stage_eq];obtain ⟨h,g,d,k,os⟩:=s;simp only [Prod.mk.injEq] at e;obtain ⟨rfl,rfl,rfl,rfl⟩:=e;have:=congrFun (byRow2 "special-get-raises" (P:=RunOk) run_f run_t w) os;rw [<- this];unfold seenT;rw [PySem.W.Fast.te4187177175401517315];rfl
end
section
open PySem PySem.W PyProof.Rows
noncomputable def ZJ:List Addr:=[191,198,285,290,297]
noncomputable def KZ (w:World):Frag:=(KA w.params).filter λp=>!ZJ.contains p.1
noncomputable def theTq:Addr->Str:=λa=>if a=285 then "_law_worths.<locals>.<lambda>" else if a=290 then "_law_classes.<locals>.<lambda>" else if a=297 then "_law_times.<locals>.<lambda>" else if a=191 then "_Accumulator.__len__.<locals>.<genexpr>" else "_Accumulator.__str__.<locals>.<genexpr>"
structure WK (B:Base):Prop where
 tabs:B.tabs=ZJ
 tq:B.tq=theTq
noncomputable def WW (prog:Program) (w:World) (B:Base):Prop:=∀ (A:Around) (F:FM) (s:Shared) (v:Value) (xs:List Int),AOK 301 4 A->A.frames=some []->xs.length<=100->Inv B s->B.n<=s.heap.objs.size->F.le s.heap.get? ->
 (∀ a o,F a=some o->a ∉ B.tabs)->TabF B F s.heap->RV F v (.lst (xs.map .int))->wpAny (model prog w) A (call (.ref 307) [v]) (λr s'=>r=.bool true/\Inv B s') FF s
theorem ctx_some:Nonempty (World × Base):=⟨⟨λ_ _=>0,⟨λ_=>0,λ_=>0,λt=>t,λ_=>0,λ_ _=>0,λ_=>true,λ_=>0, .refcount, .text,λ_=>0,λ_=>none,λ_=>false,λ_ _ _=>true,λ_ _ _=>true,true,λ_=>false,λ_=>none,λ_=>none,λ_ _ _=>0,λ_ _=>none,λ_=>none,λ_=>(0,false,⟨#[]⟩),λ_=>none,λd=>d,λ_=>false⟩⟩,⟨default,0, [],λ_=>⟨#[]⟩,default, [],λ_=>none,λ_=>none⟩⟩
noncomputable def ctx:World × Base:=@Classical.epsilon _ ctx_some λp=>p.2.K=KZ p.1/\WK p.2/\¬ WW pw p.1 p.2
@[irreducible] noncomputable def prog:Program:=pw
noncomputable def w:World:=ctx.1
@[irreducible] noncomputable def B:Base:={ ctx.2 with K:=KZ w,tabs:=ZJ,tq:=theTq }
theorem hP:prog=pw:=by unfold prog; rfl
theorem hB:B.K=KZ w:=by unfold B; rfl
theorem hT:WK B:=by unfold B; exact ⟨rfl,rfl⟩
theorem ends_all (h:WW prog w B) (p:Program) (w':World) (B':Base) (e:p=pw) (e2:B'.K=KZ w') (e3:WK B'):WW p w' B':=by
 refine Classical.byContradiction λhn=>?_;subst e;obtain ⟨h1,h2,h3⟩:=@Classical.epsilon_spec _ (λp:World × Base=>p.2.K=KZ p.1/\WK p.2/\¬ WW pw p.1 p.2) ⟨(w',B'),e2,e3,hn⟩;refine h3 ?_
 have e4:B=ctx.2:=by
  unfold B;show _=ctx.2;rw [show KZ w=ctx.2.K from h1.symm, <- h2.tabs, <- h2.tq];rfl
 rw [hP,e4] at h;exact h
noncomputable def eps {α:Sort _} (ne:Nonempty α) (P:α->Prop):α:=@Classical.epsilon α ne λx=>¬ P x
theorem eps_all {α:Sort _} {ne:Nonempty α} (P:α->Prop) (h:P (eps ne P)) (x:α):P x :=
 Classical.byContradiction λhn=>@Classical.epsilon_spec α (λx=>¬ P x) ⟨x,hn⟩ h
theorem neP {α β:Type _}:Nonempty α->Nonempty β->Nonempty (α × β)
 | ⟨a⟩,⟨b⟩=>⟨(a,b)⟩
theorem neA:Nonempty Around:=⟨callerA⟩
theorem neDr:Nonempty Drawn:=⟨⟨0,0,0,0⟩⟩
theorem neS:Nonempty Shared:=⟨⟨default, #[],⟨0,0,0,0⟩,0,default⟩⟩
theorem neW:Nonempty AV:=⟨.none⟩
theorem neN:Nonempty Ent:=⟨⟨default,λ_=>none, []⟩⟩
theorem neNt:Nonempty Nat:=⟨0⟩
theorem neI {α:Type _} [Inhabited α]:Nonempty α:=⟨default⟩
theorem neL {α:Type _}:Nonempty (List α):=⟨[]⟩
theorem neAr {α:Type _}:Nonempty (Array α):=⟨#[]⟩
theorem neR {α β:Type _}:Nonempty (α->β->Prop):=⟨λ_ _=>True⟩
theorem neFM:Nonempty FM:=⟨λ_=>none⟩
end
section
open PySem PySem.W PyProof.Rows PySem.Calls
section
variable {d u:Nat} {env:Env} {loc:Loc} {mem:List (Addr × AO)} {E:Ent} {F:FM} {tmp:List (Value × AV)} {s:Shared}
theorem tabs_ne (R:Inv B s) {a:Addr} (ha:a < 4):a ∉ B.tabs:=λh=>by
 have:=(R.ok.t0 a h).1;exact absurd ha (Th.mpr this)
theorem nsKeeps (R:Inv B s) {a:Addr} {m:Str->Option Value} (h:B.h₁.Ns a m) (ha:a < 4):s.heap.Ns a m :=
 let ⟨o,es,ep,e,r⟩:=h; ⟨o,es,ep,R.keep _ _ e (tabs_ne R ha),r⟩
theorem Inv.g (R:Inv B s):s.heap.Ns mainGlobals B.mg:=nsKeeps R R.ok.g (by decide)
theorem Inv.b (R:Inv B s):s.heap.Ns builtinsNs B.mb:=nsKeeps R R.ok.b (by decide)
theorem Inv.lim (R:Inv B s):s.heap.NoLimit:=by obtain ⟨mc,h,e⟩:=R.ok.lim; exact ⟨mc,nsKeeps R h (by decide),e⟩
theorem Inv.kin (R:Inv B s):B.K.In s.heap:=λa o e=>R.keep a o (R.ok.kin a o e) λh=>by rw [R.ok.ktab a h] at e; exact Z6 e
noncomputable abbrev PE:=AV->List (Addr × AO)->Prop
noncomputable abbrev PF:=AF->Loc->List (Addr × AO)->Prop
noncomputable abbrev PB:=Bool->List (Addr × AO)->Prop
theorem WE.mono {e:Expr} {Q Q':PE} (h:WE prog w B d u env loc mem e Q) (k:∀ a m,Q a m->Q' a m):WE prog w B d u env loc mem e Q' :=
 λA E F tmp s hA R=>Ud (h A E F tmp s hA R) (λ_ _ hq1=>by obtain ⟨a,m,F',h1,h2,h3⟩:=hq1; exact ⟨a,m,F',h1,h2,k _ _ h3⟩) λ_ _ x=>x
theorem WB.mono {e:List Stmt} {Q Q':PF} (h:WB prog w B d u env loc mem e Q) (k:∀ a l m,Q a l m->Q' a l m):WB prog w B d u env loc mem e Q' :=
 λA E F tmp s hA R=>Ud (h A E F tmp s hA R) (λ_ _ hq1=>by obtain ⟨a,l,m,F',h1,h2,h3,h4⟩:=hq1; exact ⟨a,l,m,F',h1,h2,h3,k _ _ _ h4⟩) λ_ _ x=>x
theorem WS.mono {e:Stmt} {Q Q':PF} (h:WS prog w B d u env loc mem e Q) (k:∀ a l m,Q a l m->Q' a l m):WS prog w B d u env loc mem e Q' :=
 λA E F tmp s hA R=>Ud (h A E F tmp s hA R) (λ_ _ hq1=>by obtain ⟨a,l,m,F',h1,h2,h3,h4⟩:=hq1; exact ⟨a,l,m,F',h1,h2,h3,k _ _ _ h4⟩) λ_ _ x=>x
theorem WT.mono {e:Expr} {Q Q':PB} (h:WT prog w B d u env loc mem e Q) (k:∀ a m,Q a m->Q' a m):WT prog w B d u env loc mem e Q' :=
 λA E F tmp s hA R=>Ud (h A E F tmp s hA R) (λ_ _ hq1=>by obtain ⟨m,F',h1,h2,h3⟩:=hq1; exact ⟨m,F',h1,h2,k _ _ h3⟩) λ_ _ x=>x
theorem e_int {i:Int} {k:Nat} {pos:Pos} {Q:PE} (h:Q (.int i) mem):WE prog w B d u env loc mem (.Constant (.int i) k pos) Q :=
 λ_ _ F _ _ _ R=>wpAny_Constant_int ⟨_,_,F, .refl F,R.toks.push (.int i _),h⟩
theorem e_none {k:Nat} {pos:Pos} {Q:PE} (h:Q .none mem):WE prog w B d u env loc mem (.Constant .none k pos) Q :=
 λ_ _ F _ _ _ R=>wpAny_Constant_none ⟨_,_,F, .refl F,R.push .none,h⟩
theorem e_bool {b:Bool} {k:Nat} {pos:Pos} {Q:PE} (h:Q (.bool b) mem):WE prog w B d u env loc mem (.Constant (.bool b) k pos) Q :=
 λ_ _ F _ _ _ R=>wpAny_Constant_bool ⟨_,_,F, .refl F,R.push (.bool b),h⟩
theorem e_str {x:Str} {k:Nat} {pos:Pos} {Q:PE} (h:Q (.str x) mem):WE prog w B d u env loc mem (.Constant (.str x) k pos) Q :=
 λ_ _ F _ _ _ R=>wpAny_Constant_str ⟨_,_,F, .refl F,R.toks.push (.str x _),h⟩
theorem isCell_of (R:Inv B s) (hF:F.le s.heap.get?) {c:Addr} {o:Obj} {v:Option Value} (h:F c=some o\/B.K.lookup c=some o) (e:o.data=.cell v):s.heap.IsCell c v :=
 ⟨o,h.elim (hF _ _) (R.kin _ _),e⟩
theorem XD {x:Str} {a:AV} {A:Around} {Q:Value->Shared->Prop} {Er:Value->Shared->Prop} (R:Rel B E F env loc tmp mem s)
  (hk:env.kindOf x=some .local\/env.kindOf x=some .cell\/(env.kindOf x=some .free/\(x == ("__classdict__" : Str))=false)) (hl:loc.lookup x=some a)
  (h:∀ v,RV F v a->Q v s):wpAny (model prog w) A (loadName env x) Q Er s:=by
 rcases hk with hk | hk | ⟨hk,hc⟩
 ·obtain ⟨m,hn,r⟩:=R.fr.ns;obtain ⟨v,e1,e2⟩:=r x a hk hl;exact wpAny_loadName_local R.fr.kind hk hn e1 (h v e2)
 ·obtain ⟨c,v,e1,e2,e3⟩:=R.fr.cl x a hk hl;exact wpAny_loadName_cell R.fr.kind hk e1 e2 (h v e3)
 ·obtain ⟨c,v,o,e1,e2,e3,e4⟩:=R.fr.fz x a hk hl;exact wpAny_loadName_free R.fr.kind hk e1 (isCell_of R.inv R.le e2 e3) (h v e4) hc
theorem e_loc {x:Str} {pos:Pos} {a:AV} {Q:PE} (hk:env.kindOf x=some .local) (hl:loc.lookup x=some a) (h:Q a mem)
  (hd:(x == ("__debug__" : Str))=false:=by decide):WE prog w B d u env loc mem (.Name x pos) Q :=
 λ_ _ F _ _ _ R=>wpAny_Name (XD R (.inl hk) hl λ_ e=>⟨_,_,F, .refl F,R.push e,h⟩) hd
theorem e_cell {x:Str} {pos:Pos} {a:AV} {Q:PE} (hk:env.kindOf x=some .cell) (hl:loc.lookup x=some a) (h:Q a mem)
  (hd:(x == ("__debug__" : Str))=false:=by decide):WE prog w B d u env loc mem (.Name x pos) Q :=
 λ_ _ F _ _ _ R=>wpAny_Name (XD R (.inr (.inl hk)) hl λ_ e=>⟨_,_,F, .refl F,R.push e,h⟩) hd
theorem e_free {x:Str} {pos:Pos} {a:AV} {Q:PE} (hk:env.kindOf x=some .free) (hl:loc.lookup x=some a) (h:Q a mem)
  (hd:(x == ("__debug__" : Str))=false:=by decide) (hc:(x == ("__classdict__" : Str))=false:=by decide):WE prog w B d u env loc mem (.Name x pos) Q :=
 λ_ _ F _ _ _ R=>wpAny_Name (XD R (.inr (.inr ⟨hk,hc⟩)) hl λ_ e=>⟨_,_,F, .refl F,R.push e,h⟩) hd
theorem e_glob {x:Str} {pos:Pos} {v:Value} {Q:PE} (hk:env.kindOf x=some .globalImplicit) (hv:nsIn B.K mainGlobals x=some (some v)) (h:Q (.raw v) mem)
  (hd:(x == ("__debug__" : Str))=false:=by decide):WE prog w B d u env loc mem (.Name x pos) Q :=
 λ_ _ F _ _ _ R=>Name_function_global R.fr.kind hk (loadGlobal_global (by rw [R.fr.glob]; exact R.inv.g) (mg_of R.inv.ok.kin R.inv.ok.g hv) ⟨_,_,F, .refl F,R.push (.raw v),h⟩) hd
theorem e_globS {x:Str} {pos:Pos} {v:Str} {tk:Tok} {Q:PE} (hk:env.kindOf x=some .globalImplicit) (hv:nsIn B.K mainGlobals x=some (some (.str v tk))) (h:Q (.str v) mem)
  (hd:(x == ("__debug__" : Str))=false:=by decide):WE prog w B d u env loc mem (.Name x pos) Q :=
 λ_ _ F _ _ _ R=>Name_function_global R.fr.kind hk (loadGlobal_global (by rw [R.fr.glob]; exact R.inv.g) (mg_of R.inv.ok.kin R.inv.ok.g hv) ⟨_,_,F, .refl F,R.push (.str v tk),h⟩) hd
theorem e_builtin {x:Str} {pos:Pos} {v:Value} {Q:PE} (hk:env.kindOf x=some .globalImplicit) (hv:nsIn B.K mainGlobals x=some none) (hb:bootBuiltins x=some v)
  (hn:x ≠ "__name__") (h:Q (.raw v) mem) (hd:(x == ("__debug__" : Str))=false:=by decide):WE prog w B d u env loc mem (.Name x pos) Q :=
 λ_ _ F _ _ _ R=>Name_function_global R.fr.kind hk (loadGlobal_builtin (by rw [R.fr.glob]; exact R.inv.g) (mg_none_of R.inv.ok.kin R.inv.ok.g hv) (by rw [R.fr.blt]; exact R.inv.b)
  ((R.inv.ok.bi x hn).trans hb) ⟨_,_,F, .refl F,R.push (.raw v),h⟩) hd
noncomputable def VO1 (prog:Program) (w:World) (B:Base) (d u:Nat) (f:Value->Sem Value) (a c:AV):Prop :=
 ∀ A E F env loc tmp mem s va,AOK d u A->RV F va a->Rel B E F env loc tmp mem s ->
  wpAny (model prog w) A (f va) (PoV B E F env loc tmp mem c) FF s
noncomputable def VO2 (prog:Program) (w:World) (B:Base) (d u:Nat) (f:Value->Value->Sem Value) (a b c:AV):Prop :=
 ∀ A E F env loc tmp mem s va vb,AOK d u A->RV F va a->RV F vb b->Rel B E F env loc tmp mem s ->
  wpAny (model prog w) A (f va vb) (PoV B E F env loc tmp mem c) FF s
noncomputable def VM1 (prog:Program) (w:World) (B:Base) (d u:Nat) (f:Value->Sem Value) (mem:List (Addr × AO)) (a c:AV) (mem':List (Addr × AO)):Prop :=
 ∀ A E F env loc tmp s va,AOK d u A->RV F va a->Rel B E F env loc tmp mem s ->
  wpAny (model prog w) A (f va) (PoV B E F env loc tmp mem' c) FF s
noncomputable def VM2 (prog:Program) (w:World) (B:Base) (d u:Nat) (f:Value->Value->Sem Value) (mem:List (Addr × AO)) (a b c:AV) (mem':List (Addr × AO)):Prop :=
 ∀ A E F env loc tmp s va vb,AOK d u A->RV F va a->RV F vb b->Rel B E F env loc tmp mem s ->
  wpAny (model prog w) A (f va vb) (PoV B E F env loc tmp mem' c) FF s
theorem VO1.m {f:Value->Sem Value} {a c:AV} (h:VO1 prog w B d u f a c):VM1 prog w B d u f mem a c mem:=λA E F env loc tmp s va h1 h2 h3=>h A E F env loc tmp mem s va h1 h2 h3
theorem VO2.m {f:Value->Value->Sem Value} {a b c:AV} (h:VO2 prog w B d u f a b c):VM2 prog w B d u f mem a b c mem:=λA E F env loc tmp s va vb h1 h2 h3 h4=>h A E F env loc tmp mem s va vb h1 h2 h3 h4
noncomputable def VT (prog:Program) (w:World) (B:Base) (d u:Nat) (mem:List (Addr × AO)) (a:AV) (b:Bool):Prop :=
 ∀ A E F env loc tmp s va,AOK d u A->RV F va a->Rel B E F env loc tmp mem s ->
  wpAny (model prog w) A (truthy va) (PoB B E F env loc tmp mem b) FF s
theorem VO {T:Type} {l r:Expr} {op:Value->Value->Sem T} {tm:Sem T} {A:Around} {K:T->Shared->Prop}
  (hx:∀ {s:Shared} {K:T->Shared->Prop},wpAny (model prog w) A (eval l env) (λva s₁=>wpAny (model prog w) A (eval r env) (λvb s2=>wpAny (model prog w) A (op va vb) K FF s2) FF s₁) FF s ->
   wpAny (model prog w) A tm K FF s)
  {QL:AV->List (Addr × AO)->AV->List (Addr × AO)->Prop} (hA:AOK d u A) (R:Rel B E F env loc tmp mem s)
  (h:WE prog w B d u env loc mem l λa mem1=>WE prog w B d u env loc mem1 r λb mem2=>QL a mem1 b mem2)
  (k:∀ a m b mem2 F2 va vb s2,QL a m b mem2->F.le F2->RV F2 va a->RV F2 vb b->Rel B E F2 env loc tmp mem2 s2->wpAny (model prog w) A (op va vb) K FF s2) :
  wpAny (model prog w) A tm K FF s:=by
 refine hx (Ud (h A E F tmp s hA R) (λva s₁ h₁=>?_) λ_ _ x=>x);obtain ⟨a,mem1,F1,k₁,R1,h₁⟩:=h₁;refine Ud (h₁ A E F1 _ s₁ hA R1) (λvb s2 h₂=>?_) λ_ _ x=>x;obtain ⟨b,mem2,F2,k₂,R₂,q⟩:=h₂;exact k a mem1 b mem2 F2 va vb s2 q (k₁.trans k₂) R₂.pop.top R₂.top R₂.pop.pop
theorem e_binopM {l r:Expr} {op:Operator} {pos:Pos} {Q:PE}
  (h:WE prog w B d u env loc mem l λa mem1=>WE prog w B d u env loc mem1 r λb mem2=>Ex2 (VM2 prog w B d u (binaryOp op) mem2 a b) Q) :
  WE prog w B d u env loc mem (.BinOp l op r pos) Q:=λA E F tmp s hA R =>
 VO (op:=binaryOp op) (λh=>wpAny_BinOp h) hA R h λa _ b mem2 F2 va vb s2 ⟨c,mem3,hc,q⟩ k ra rb R₂ =>
  Ud (hc A E F2 env loc tmp s2 va vb hA ra rb R₂) (λv s3 hq1=>by obtain ⟨F3,k3,e,R3⟩:=hq1; exact ⟨c,mem3,F3,k.trans k3,R3.push e,q⟩) λ_ _ x=>x
theorem e_binop {l r:Expr} {op:Operator} {pos:Pos} {Q:PE}
  (h:WE prog w B d u env loc mem l λa mem1=>WE prog w B d u env loc mem1 r λb mem2=>Ex1 (VO2 prog w B d u (binaryOp op) a b) λc=>Q c mem2) :
  WE prog w B d u env loc mem (.BinOp l op r pos) Q :=
 e_binopM (WE.mono h λ_ _ h=>WE.mono h λ_ m hq1=>by obtain ⟨c,hc,q⟩:=hq1; exact ⟨c,m,hc.m,q⟩)
theorem e_compare {l r:Expr} {op:CmpOp} {pos:Pos} {Q:PE} (hm:behindInMarks op r=false)
  (h:WE prog w B d u env loc mem l λa mem1=>WE prog w B d u env loc mem1 r λb mem2=>Ex1 (VO2 prog w B d u (compareOp op) a b) λc=>Q c mem2) :
  WE prog w B d u env loc mem (.Compare l [op] [r] pos) Q:=λA E F tmp s hA R =>
 VO (op:=compareOp op) (λh=>wpAny_Compare1 h hm) hA R h λa _ b mem2 F2 va vb s2 ⟨c,hc,q⟩ k ra rb R₂ =>
  Ud (hc A E F2 env loc tmp mem2 s2 va vb hA ra rb R₂) (λv s3 hq1=>by obtain ⟨F3,k3,e,R3⟩:=hq1; exact ⟨c,mem2,F3,k.trans k3,R3.push e,q⟩) λ_ _ x=>x
theorem e_unop {x:Expr} {op:UnaryOp} {pos:Pos} {Q:PE}
  (h:WE prog w B d u env loc mem x λa mem1=>Ex1 (VO1 prog w B d u (unaryOp op) a) λc=>Q c mem1) :
  WE prog w B d u env loc mem (.UnaryOp op x pos) Q:=λA E F tmp s hA R=>by
 refine wpAny_UnaryOp (Ud (h A E F tmp s hA R) (λva s₁ h₁=>?_) λ_ _ x=>x);obtain ⟨a,mem1,F1,k₁,R1,c,hc,q⟩:=h₁;refine Ud (hc A E F1 env loc tmp mem1 s₁ va hA R1.top R1.pop) (λv s3 h₃=>?_) λ_ _ x=>x;obtain ⟨F3,k3,e,R3⟩:=h₃;exact ⟨c,mem1,F3,k₁.trans k3,R3.push e,q⟩
theorem t_compare {l r:Expr} {op:CmpOp} {pos:Pos} {Q:PB} (hm:behindInMarks op r=false)
  (h:WE prog w B d u env loc mem l λa mem1=>WE prog w B d u env loc mem1 r λb mem2=>Ex1 (λc=>VO2 prog w B d u (compareOp op) a b (.bool c)) λc=>Q c mem2) :
  WT prog w B d u env loc mem (.Compare l [op] [r] pos) Q:=λA E F tmp s hA R=>by
 refine wpAny_isTrue_Compare1 (Ud (h A E F tmp s hA R) (λva s₁ h₁=>?_) λ_ _ x=>x) hm;obtain ⟨a,mem1,F1,k₁,R1,h₁⟩:=h₁;refine Ud (h₁ A E F1 _ s₁ hA R1) (λvb s2 h₂=>?_) λ_ _ x=>x;obtain ⟨b,mem2,F2,k₂,R₂,c,hc,q⟩:=h₂;refine Ud (hc A E F2 env loc tmp mem2 s2 va vb hA R₂.pop.top R₂.top R₂.pop.pop) (λv s3 h₃=>?_) λ_ _ x=>x;obtain ⟨F3,k3,e,R3⟩:=h₃;obtain rfl:=e.isBool;exact wpAny_truthy_bool ⟨mem2,F3,(k₁.trans k₂).trans k3,R3,q⟩
theorem t_not {x:Expr} {pos:Pos} {Q:PB} (h:WT prog w B d u env loc mem x λb mem1=>Q (!b) mem1):WT prog w B d u env loc mem (.UnaryOp .Not x pos) Q :=
 λA E F tmp s hA R=>wpAny_isTrue_Not (Ud (h A E F tmp s hA R) (λ_ _ hq1=>by obtain ⟨m,F',k,R,q⟩:=hq1; exact ⟨m,F',k,R,q⟩) λ_ _ x=>x)
theorem Y0 {e:Expr} {Q:PB} (h:WE prog w B d u env loc mem e λa mem1=>Ex1 (VT prog w B d u mem1 a) λb=>Q b mem1)
  (he:∀ whole,isTrue e env whole=(do let v <- whole; standAt e.pos; holding [v] (truthy v))):WT prog w B d u env loc mem e Q:=λA E F tmp s hA R=>by
 refine wpAny_isTrue_value (Ud (h A E F tmp s hA R) (λva s₁ h₁=>?_) λ_ _ x=>x) (he _);obtain ⟨a,mem1,F1,k₁,R1,b,hc,q⟩:=h₁;refine Ud (hc A E F1 env loc tmp s₁ va hA R1.top R1.pop) (λv s3 h₃=>?_) λ_ _ x=>x;obtain ⟨rfl,F3,k3,R3⟩:=h₃;exact ⟨mem1,F3,k₁.trans k3,R3,q⟩
theorem t_and {x y:Expr} {pos:Pos} {Q:PB} (h:WT prog w B d u env loc mem x λb mem1=>if b then WT prog w B d u env loc mem1 y Q else Q false mem1) :
  WT prog w B d u env loc mem (.BoolOp .And [x,y] pos) Q:=λA E F tmp s hA R=>by
 refine wpAny_isTrue_BoolOp (wpAny_allTrue_And_cons (Ud (h A E F tmp s hA R) (λb s₁ h₁=>?_) λ_ _ x=>x));obtain ⟨mem1,F1,k₁,R1,h₁⟩:=h₁
 cases b with
 | false=>exact ⟨mem1,F1,k₁,R1,h₁⟩
 | true =>
  refine wpAny_allTrue_And_cons (Ud (h₁ A E F1 tmp s₁ hA R1) (λb s2 h₂=>?_) λ_ _ x=>x);obtain ⟨mem2,F2,k₂,R₂,h₂⟩:=h₂
  cases b with
  | false=>exact ⟨mem2,F2,k₁.trans k₂,R₂,h₂⟩
  | true=>exact wpAny_allTrue_And_nil ⟨mem2,F2,k₁.trans k₂,R₂,h₂⟩
theorem t_or {x y:Expr} {pos:Pos} {Q:PB} (h:WT prog w B d u env loc mem x λb mem1=>if b then Q true mem1 else WT prog w B d u env loc mem1 y Q) :
  WT prog w B d u env loc mem (.BoolOp .Or [x,y] pos) Q:=λA E F tmp s hA R=>by
 refine wpAny_isTrue_BoolOp (wpAny_allTrue_Or_cons (Ud (h A E F tmp s hA R) (λb s₁ h₁=>?_) λ_ _ x=>x));obtain ⟨mem1,F1,k₁,R1,h₁⟩:=h₁
 cases b with
 | true=>exact ⟨mem1,F1,k₁,R1,h₁⟩
 | false =>
  refine wpAny_allTrue_Or_cons (Ud (h₁ A E F1 tmp s₁ hA R1) (λb s2 h₂=>?_) λ_ _ x=>x);obtain ⟨mem2,F2,k₂,R₂,h₂⟩:=h₂
  cases b with
  | true=>exact ⟨mem2,F2,k₁.trans k₂,R₂,h₂⟩
  | false=>exact wpAny_allTrue_Or_nil ⟨mem2,F2,k₁.trans k₂,R₂,h₂⟩
theorem e_ifexp {t x y:Expr} {pos:Pos} {Q:PE} (h:WT prog w B d u env loc mem t λb mem1=>if b then WE prog w B d u env loc mem1 x Q else WE prog w B d u env loc mem1 y Q) :
  WE prog w B d u env loc mem (.IfExp t x y pos) Q:=λA E F tmp s hA R=>by
 refine wpAny_IfExp (Ud (h A E F tmp s hA R) (λb s₁ h₁=>?_) λ_ _ x=>x);obtain ⟨mem1,F1,k₁,R1,h₁⟩:=h₁
 cases b with
 | true=>exact Ud (h₁ A E F1 tmp s₁ hA R1) (λ_ _ x=>x.up k₁) λ_ _ x=>x
 | false=>exact Ud (h₁ A E F1 tmp s₁ hA R1) (λ_ _ x=>x.up k₁) λ_ _ x=>x
theorem b_nil {Q:PF} (h:Q .next loc mem):WB prog w B d u env loc mem [] Q:=λ_ _ F _ _ _ R=>wpAny_execs_nil ⟨_,_,_,F, .refl F, .next,R,h⟩
noncomputable def SeqP (N:Loc->List (Addr × AO)->Prop) (Q:PF):PF:=λf l m=>match f with | .next=>N l m | f=>Q f l m
theorem seq_next {N:Loc->List (Addr × AO)->Prop} {Q:PF} {l:Loc} {m:List (Addr × AO)} (h:N l m):SeqP N Q .next l m:=h
theorem seq_ret {N:Loc->List (Addr × AO)->Prop} {Q:PF} {l:Loc} {m:List (Addr × AO)} {a:AV} (h:Q (.ret a) l m):SeqP N Q (.ret a) l m:=h
theorem seq_brk {N:Loc->List (Addr × AO)->Prop} {Q:PF} {l:Loc} {m:List (Addr × AO)} (h:Q .brk l m):SeqP N Q .brk l m:=h
theorem seq_cont {N:Loc->List (Addr × AO)->Prop} {Q:PF} {l:Loc} {m:List (Addr × AO)} (h:Q .cont l m):SeqP N Q .cont l m:=h
noncomputable def LoopP (N:Loc->List (Addr × AO)->Prop) (Q:PF):PF:=λf l m=>match f with | .next | .cont=>N l m | .brk=>Q .next l m | .ret a=>Q (.ret a) l m
theorem loop_next {N:Loc->List (Addr × AO)->Prop} {Q:PF} {l:Loc} {m:List (Addr × AO)} (h:N l m):LoopP N Q .next l m:=h
theorem loop_cont {N:Loc->List (Addr × AO)->Prop} {Q:PF} {l:Loc} {m:List (Addr × AO)} (h:N l m):LoopP N Q .cont l m:=h
theorem loop_brk {N:Loc->List (Addr × AO)->Prop} {Q:PF} {l:Loc} {m:List (Addr × AO)} (h:Q .next l m):LoopP N Q .brk l m:=h
theorem loop_ret {N:Loc->List (Addr × AO)->Prop} {Q:PF} {l:Loc} {m:List (Addr × AO)} {a:AV} (h:Q (.ret a) l m):LoopP N Q (.ret a) l m:=h
theorem b_cons {st:Stmt} {r:List Stmt} {Q:PF}
  (h:WS prog w B d u env loc mem st (SeqP (λloc1 mem1=>WB prog w B d u env loc1 mem1 r Q) Q)):WB prog w B d u env loc mem (st :: r) Q:=λA E F tmp s hA R=>by
 refine wpAny_execs_cons (Ud (h A E F tmp s hA R) (λf s₁ h₁=>?_) λ_ _ x=>x);obtain ⟨af,loc1,mem1,F1,k₁,rf,R1,h₁⟩:=h₁
 cases rf with
 | next=>exact Ud (h₁ A E F1 tmp s₁ hA R1) (λ_ _ x=>x.up k₁) λ_ _ x=>x
 | brk=>exact ⟨_,loc1,mem1,F1,k₁, .brk,R1,h₁⟩
 | cont=>exact ⟨_,loc1,mem1,F1,k₁, .cont,R1,h₁⟩
 | ret hv=>exact ⟨_,loc1,mem1,F1,k₁, .ret hv,R1,h₁⟩
theorem s_pass {pos:Pos} {Q:PF} (h:Q .next loc mem):WS prog w B d u env loc mem (.Pass pos) Q:=λ_ _ F _ _ _ R=>wpAny_Pass ⟨_,_,_,F, .refl F, .next,R,h⟩
theorem s_break {pos:Pos} {Q:PF} (h:Q .brk loc mem):WS prog w B d u env loc mem (.Break pos) Q:=λ_ _ F _ _ _ R=>wpAny_Break ⟨_,_,_,F, .refl F, .brk,R,h⟩
theorem s_continue {pos:Pos} {Q:PF} (h:Q .cont loc mem):WS prog w B d u env loc mem (.Continue pos) Q:=λ_ _ F _ _ _ R=>wpAny_Continue ⟨_,_,_,F, .refl F, .cont,R,h⟩
theorem s_return {e:Expr} {pos:Pos} {Q:PF} (h:WE prog w B d u env loc mem e λa mem1=>Q (.ret a) loc mem1):WS prog w B d u env loc mem (.Return (some e) pos) Q:=λA E F tmp s hA R=>by
 refine wpAny_Return_some (Ud (h A E F tmp s hA R) (λv s₁ h₁=>?_) λ_ _ x=>x);obtain ⟨a,mem1,F1,k₁,R1,q⟩:=h₁;exact ⟨_,loc,mem1,F1,k₁, .ret R1.top,R1.pop,q⟩
theorem s_return0 {pos:Pos} {Q:PF} (h:Q (.ret .none) loc mem):WS prog w B d u env loc mem (.Return none pos) Q:=λ_ _ F _ _ _ R=>wpAny_Return_none ⟨_,_,_,F, .refl F, .ret .none,R,h⟩
theorem s_if {t:Expr} {x y:List Stmt} {pos:Pos} {Q:PF} (h:WT prog w B d u env loc mem t λb mem1=>if b then WB prog w B d u env loc mem1 x Q else WB prog w B d u env loc mem1 y Q) :
  WS prog w B d u env loc mem (.If t x y pos) Q:=λA E F tmp s hA R=>by
 refine wpAny_If (Ud (h A E F tmp s hA R) (λb s₁ h₁=>?_) λ_ _ x=>x);obtain ⟨mem1,F1,k₁,R1,h₁⟩:=h₁
 cases b with
 | true=>exact Ud (h₁ A E F1 tmp s₁ hA R1) (λ_ _ x=>x.up k₁) λ_ _ x=>x
 | false=>exact Ud (h₁ A E F1 tmp s₁ hA R1) (λ_ _ x=>x.up k₁) λ_ _ x=>x
noncomputable def Zj (env:Env) (x:Str):Prop:=env.kindOf x=some .local\/(env.kindOf x=some .cell/\(env.cells.lookup x).isSome=true)
theorem Zu {x:Str} {v:Value} {a:AV} {A:Around} (R:Rel B E F env loc tmp mem s) (hv:RV F v a) (hx:Zj env x) {Er:Value->Shared->Prop} :
  wpAny (model prog w) A (storeName env x v) (λ_ s'=>Rel B E F env (setL x a loc) tmp mem s') Er s:=by
 rcases hx with hk | ⟨hk,hc⟩
 ·obtain ⟨m,hn,r⟩:=R.fr.ns;refine wpAny_storeName_local hk hn (λh' hn' hs'=>R.setLocal hk hv hs' r hn') ?_;rw [R.fr.kind]; rfl
 ·obtain ⟨c,hc⟩:=Option.isSome_iff_exists.mp hc;obtain ⟨v₀,hv₀⟩:=R.fr.ex c (Y9 hk (Z7 hc));exact wpAny_storeName_cell R.fr.kind hk hc hv₀ λh' hn' hs'=>R.setCell (tk:=s.toks) hk hc hv hs' hn'
theorem st_loc {x:Str} (h:env.kindOf x=some .local):Zj env x:=.inl h
theorem st_cell {x:Str} (h:env.kindOf x=some .cell) (h':(env.cells.lookup x).isSome=true):Zj env x:=.inr ⟨h,h'⟩
theorem s_assign {x:Str} {p:Pos} {e:Expr} {pos:Pos} {Q:PF} (hx:Zj env x) (h:WE prog w B d u env loc mem e λa mem1=>Q .next (setL x a loc) mem1)
  (hs:swapsWith e (some (.Name x p)) pos.line env=pure false):WS prog w B d u env loc mem (.Assign [.Name x p] e pos) Q:=λA E F tmp s hA R=>by
 refine wpAny_Assign_Name (Ud (h A E F tmp s hA R) (λv s₁ h₁=>?_) λ_ _ x=>x) hs;obtain ⟨a,mem1,F1,k₁,R1,q⟩:=h₁;exact Ud (Zu R1.pop R1.top hx) (λ_ s2 R₂=>⟨_,_,_,F1,k₁, .next,R₂,q⟩) λ_ _ x=>x
theorem s_augM {x:Str} {p:Pos} {op:Operator} {e:Expr} {pos:Pos} {a:AV} {Q:PF} (hx:Zj env x) (hl:loc.lookup x=some a)
  (h:WE prog w B d u env loc mem e λb mem1=>Ex2 (VM2 prog w B d u (inplaceOp op) mem1 a b) λc mem2=>Q .next (setL x c loc) mem2) :
  WS prog w B d u env loc mem (.AugAssign (.Name x p) op e pos) Q:=λA E F tmp s hA R=>by
 refine wpAny_AugAssign_Name (XD R (hx.imp id λy=>.inl y.1) hl λv₀ e₀=>?_);refine Ud (h A E F _ s hA (R.push e₀)) (λv s₁ h₁=>?_) λ_ _ x=>x;obtain ⟨b,mem1,F1,k₁,R1,c,mem2,hc,q⟩:=h₁;refine Ud (hc A E F1 env loc tmp s₁ v₀ v hA R1.pop.top R1.top R1.pop.pop) (λr s2 h₂=>?_) λ_ _ x=>x;obtain ⟨F2,k₂,e₂,R₂⟩:=h₂;exact Ud (Zu R₂ e₂ hx) (λ_ s3 R3=>⟨_,_,_,F2,k₁.trans k₂, .next,R3,q⟩) λ_ _ x=>x
theorem s_aug {x:Str} {p:Pos} {op:Operator} {e:Expr} {pos:Pos} {a:AV} {Q:PF} (hx:Zj env x) (hl:loc.lookup x=some a)
  (h:WE prog w B d u env loc mem e λb mem1=>Ex1 (VO2 prog w B d u (inplaceOp op) a b) λc=>Q .next (setL x c loc) mem1) :
  WS prog w B d u env loc mem (.AugAssign (.Name x p) op e pos) Q :=
 s_augM hx hl (WE.mono h λ_ m hq1=>by obtain ⟨c,hc,q⟩:=hq1; exact ⟨c,m,hc.m,q⟩)
theorem b_less {loc':Loc} {sts:List Stmt} {Q:PF} (hl:∀ x a,loc'.lookup x=some a->loc.lookup x=some a) (h:WB prog w B d u env loc' mem sts Q):WB prog w B d u env loc mem sts Q :=
 λA E F tmp s hA R=>h A E F tmp s hA (R.less hl)
end
end
section
open PySem PySem.W PyProof.Rows PySem.Calls
section
variable {d u:Nat} {i j:Int}
theorem vo_add:VO2 prog w B d u (binaryOp .Add) (.int i) (.int j) (.int (i+j)):=λ_ _ F _ _ _ _ _ _ _ _ ha hb R=>by obtain ⟨_,rfl⟩:=ha.isInt; obtain ⟨_,rfl⟩:=hb.isInt; exact add_int ⟨F, .refl F, .int _ _,R.toks⟩
theorem vo_iadd:VO2 prog w B d u (inplaceOp .Add) (.int i) (.int j) (.int (i+j)):=λ_ _ F _ _ _ _ _ _ _ _ ha hb R=>by obtain ⟨_,rfl⟩:=ha.isInt; obtain ⟨_,rfl⟩:=hb.isInt; exact iadd_int ⟨F, .refl F, .int _ _,R.toks⟩
theorem vo_sub:VO2 prog w B d u (binaryOp .Sub) (.int i) (.int j) (.int (i - j)):=λ_ _ F _ _ _ _ _ _ _ _ ha hb R=>by obtain ⟨_,rfl⟩:=ha.isInt; obtain ⟨_,rfl⟩:=hb.isInt; exact sub_int ⟨F, .refl F, .int _ _,R.toks⟩
theorem vo_fdiv (hj:j≠0) (hs:j.natAbs < 1073741824):VO2 prog w B d u (binaryOp .FloorDiv) (.int i) (.int j) (.int (i.fdiv j)):=λ_ _ F _ _ _ _ _ _ _ _ ha hb R=>by
 obtain ⟨_,rfl⟩:=ha.isInt; obtain ⟨_,rfl⟩:=hb.isInt; exact floordiv_int hj ⟨F, .refl F, .int _ _,R.toks⟩ (Or.inl (PyProof.noPylong_small hs))
theorem vo_fmod (hj:j≠0):VO2 prog w B d u (binaryOp .Mod) (.int i) (.int j) (.int (i.fmod j)):=λ_ _ F _ _ _ _ _ _ _ _ ha hb R=>by
 obtain ⟨_,rfl⟩:=ha.isInt; obtain ⟨_,rfl⟩:=hb.isInt; exact mod_int' hj ⟨F, .refl F, .int _ _,R.toks⟩
theorem vo_shl (hn:0<=j) (hn2:j<=1000000) (ha:i.natAbs < 2 ^ 64):VO2 prog w B d u (binaryOp .LShift) (.int i) (.int j) (.int (i*2 ^ j.toNat)):=λ_ _ F _ _ _ _ _ _ _ _ h1 hb R=>by
 obtain ⟨_,rfl⟩:=h1.isInt; obtain ⟨_,rfl⟩:=hb.isInt; exact lshift_int_small hn hn2 ha ⟨F, .refl F, .int _ _,R.toks⟩
theorem vo_ishl (hn:0<=j) (hn2:j<=1000000) (ha:i.natAbs < 2 ^ 64):VO2 prog w B d u (inplaceOp .LShift) (.int i) (.int j) (.int (i*2 ^ j.toNat)):=λ_ _ F _ _ _ _ _ _ _ _ h1 hb R=>by
 obtain ⟨_,rfl⟩:=h1.isInt; obtain ⟨_,rfl⟩:=hb.isInt; exact ilshift_int_small hn hn2 ha ⟨F, .refl F, .int _ _,R.toks⟩
theorem vo_shr (hn:0<=j):VO2 prog w B d u (binaryOp .RShift) (.int i) (.int j) (.int (i.fdiv (2 ^ j.toNat))):=λ_ _ F _ _ _ _ _ _ _ _ h1 hb R=>by
 obtain ⟨_,rfl⟩:=h1.isInt; obtain ⟨_,rfl⟩:=hb.isInt; exact rshift_int hn ⟨F, .refl F, .int _ _,R.toks⟩
theorem vo_and:VO2 prog w B d u (binaryOp .BitAnd) (.int i) (.int j) (.int (Builtin.bitAnd i j)):=λ_ _ F _ _ _ _ _ _ _ _ h1 hb R=>by
 obtain ⟨_,rfl⟩:=h1.isInt; obtain ⟨_,rfl⟩:=hb.isInt; exact and_int ⟨F, .refl F, .int _ _,R.toks⟩
theorem vo_or:VO2 prog w B d u (binaryOp .BitOr) (.int i) (.int j) (.int (Builtin.bitOr i j)):=λ_ _ F _ _ _ _ _ _ _ _ h1 hb R=>by
 obtain ⟨_,rfl⟩:=h1.isInt; obtain ⟨_,rfl⟩:=hb.isInt; exact or_int ⟨F, .refl F, .int _ _,R.toks⟩
theorem vo_ior:VO2 prog w B d u (inplaceOp .BitOr) (.int i) (.int j) (.int (Builtin.bitOr i j)):=λ_ _ F _ _ _ _ _ _ _ _ h1 hb R=>by
 obtain ⟨_,rfl⟩:=h1.isInt; obtain ⟨_,rfl⟩:=hb.isInt; exact ior_int ⟨F, .refl F, .int _ _,R.toks⟩
theorem vo_xor:VO2 prog w B d u (binaryOp .BitXor) (.int i) (.int j) (.int (Builtin.bitXor i j)):=λ_ _ F _ _ _ _ _ _ _ _ h1 hb R=>by
 obtain ⟨_,rfl⟩:=h1.isInt; obtain ⟨_,rfl⟩:=hb.isInt; exact xor_int ⟨F, .refl F, .int _ _,R.toks⟩
theorem vo_ixor:VO2 prog w B d u (inplaceOp .BitXor) (.int i) (.int j) (.int (Builtin.bitXor i j)):=λ_ _ F _ _ _ _ _ _ _ _ h1 hb R=>by
 obtain ⟨_,rfl⟩:=h1.isInt; obtain ⟨_,rfl⟩:=hb.isInt; exact ixor_int ⟨F, .refl F, .int _ _,R.toks⟩
theorem vo_pow (hn:0<=j) (hsz:(Builtin.Int.intBits i:Int)*j<=2 ^ 27):VO2 prog w B d u (binaryOp .Pow) (.int i) (.int j) (.int (i ^ j.toNat)):=λ_ _ F _ _ _ _ _ _ _ _ h1 hb R=>by
 obtain ⟨_,rfl⟩:=h1.isInt; obtain ⟨_,rfl⟩:=hb.isInt; exact pow_int hn hsz ⟨F, .refl F, .int _ _,R.toks⟩
theorem vo_mul (hm:IntMulOk i j):VO2 prog w B d u (binaryOp .Mult) (.int i) (.int j) (.int (i*j)):=λ_ _ F _ _ _ _ _ _ _ _ h1 hb R=>by
 obtain ⟨_,rfl⟩:=h1.isInt; obtain ⟨_,rfl⟩:=hb.isInt; exact mul_int ⟨F, .refl F, .int _ _,R.toks⟩ hm
theorem vo_lt:VO2 prog w B d u (compareOp .Lt) (.int i) (.int j) (.bool (decide (i < j))):=λ_ _ F _ _ _ _ _ _ _ _ h1 hb R=>by
 obtain ⟨_,rfl⟩:=h1.isInt; obtain ⟨_,rfl⟩:=hb.isInt; exact lt_int ⟨F, .refl F, .bool _,R⟩
theorem vo_gt:VO2 prog w B d u (compareOp .Gt) (.int i) (.int j) (.bool (decide (j < i))):=λ_ _ F _ _ _ _ _ _ _ _ h1 hb R=>by
 obtain ⟨_,rfl⟩:=h1.isInt; obtain ⟨_,rfl⟩:=hb.isInt; exact gt_int ⟨F, .refl F, .bool _,R⟩
theorem vo_eq:VO2 prog w B d u (compareOp .Eq) (.int i) (.int j) (.bool (i == j)):=λ_ _ F _ _ _ _ _ _ _ _ h1 hb R=>by
 obtain ⟨_,rfl⟩:=h1.isInt; obtain ⟨_,rfl⟩:=hb.isInt; exact eq_int ⟨F, .refl F, .bool _,R⟩
theorem vo_ne:VO2 prog w B d u (compareOp .NotEq) (.int i) (.int j) (.bool (i != j)):=λ_ _ F _ _ _ _ _ _ _ _ h1 hb R=>by
 obtain ⟨_,rfl⟩:=h1.isInt; obtain ⟨_,rfl⟩:=hb.isInt; exact ne_int ⟨F, .refl F, .bool _,R⟩
theorem Xx:VO1 prog w B d u (unaryOp .USub) (.int i) (.int (-i)):=λ_ _ F _ _ _ _ _ _ _ h1 R=>by
 obtain ⟨_,rfl⟩:=h1.isInt; exact neg_int ⟨F, .refl F, .int _ _,R.toks⟩
theorem vt_int {mem:List (Addr × AO)}:VT prog w B d u mem (.int i) (i != 0):=λ_ _ F _ _ _ _ _ _ h1 R=>by obtain ⟨_,rfl⟩:=h1.isInt; exact truthy_int ⟨rfl,F, .refl F,R⟩
theorem VL {mem:List (Addr × AO)} {b:Bool}:VT prog w B d u mem (.bool b) b:=λ_ _ F _ _ _ _ _ _ h1 R=>by obtain rfl:=h1.isBool; exact wpAny_truthy_bool ⟨rfl,F, .refl F,R⟩
noncomputable def isNone:AV->Option Bool
 | .none=>some true
 | .raw v=>some (v == .none)
 | .pred _=>Option.none
 | _=>some false
theorem vo_isnone {a:AV} {b:Bool} (h:isNone a=some b):VO2 prog w B d u (compareOp .Is) a .none (.bool b):=λ_ _ F _ _ _ _ _ va _ _ h1 hb R=>by
 obtain rfl:=hb.isNone;refine is_none ⟨F, .refl F,?_,R⟩
 have:(va == .none)=b:=by
  cases h1 <;> first | exact Up.inj h | exact Z6 h
 rw [this]; exact .bool b
end
section
variable {d u:Nat} {env:Env} {loc:Loc} {mem:List (Addr × AO)}
noncomputable def WL (prog:Program) (w:World) (B:Base) (d u:Nat) (env:Env) (loc:Loc) (mem:List (Addr × AO)) (es:List Expr) (Q:List AV->List (Addr × AO)->Prop):Prop :=
 ∀ A E F tmp s pos,AOK d u A->Rel B E F env loc tmp mem s ->
  wpAny (model prog w) A (spliced (backTo pos (starEach es env))) (PoL B E F env loc tmp Q) FF s
theorem l_nil {Q:List AV->List (Addr × AO)->Prop} (h:Q [] mem):WL prog w B d u env loc mem [] Q:=λ_ _ F _ _ _ _ R=>wpAny_items_nil ⟨_,_,F, .refl F, .nil,R,h⟩
theorem l_cons {e:Expr} {es:List Expr} {Q:List AV->List (Addr × AO)->Prop}
  (h:WE prog w B d u env loc mem e λa mem1=>WL prog w B d u env loc mem1 es λas mem2=>Q (a :: as) mem2)
  (he:starEach (e :: es) env=(false,eval e env) :: starEach es env):WL prog w B d u env loc mem (e :: es) Q:=λA E F tmp s pos hA R=>by
 refine wpAny_items_cons (Ud (h A E F tmp s hA R) (λv s₁ h₁=>?_) λ_ _ x=>x) he;obtain ⟨a,mem1,F1,k₁,R1,h₁⟩:=h₁;refine Ud (h₁ A E F1 _ s₁ pos hA R1) (λvs s2 h₂=>?_) λ_ _ x=>x;obtain ⟨as,mem2,F2,k₂,r₂,R₂,q⟩:=h₂;exact ⟨_,mem2,F2,k₁.trans k₂, .cons R₂.top r₂,R₂.pop,q⟩
noncomputable def Vj (prog:Program) (w:World) (f:Value) (s:Shared):Prop:=∀ (A:Around) (Q:Keeper->Shared->Prop) (Er:Value->Shared->Prop),(∀ k,Q k s)->wpAny (model prog w) A (keeperOf f) Q Er s
theorem VI {a:Addr} {o:Obj} {fd:FuncData} {s:Shared} (ho:s.heap.get? a=some o) (hd:o.data=.func fd):Vj prog w (.ref a) s:=λA Q Er h=>by
 unfold keeperOf;refine Ua (wpAny_load ho ?_);rw [hd];exact Ub (h _)
theorem ZW {id:String} {s:Shared}:Vj prog w (.builtin id) s:=λA Q Er h=>by
 unfold keeperOf;exact Ub (h _)
theorem Vo {id:String} {s:Shared}:Vj prog w (.type id) s:=λA Q Er h=>by
 unfold keeperOf;exact Ub (h _)
theorem evalArgs_any {M:Model} {A:Around} {Er:Value->Shared->Prop} {s:Shared} {f:Value} {args:List (Bool × Sem Value)} {keywords:List (Option Str × Sem Value)} {Q:Args->Shared->Prop} (hp:args.any (·.1)=false) (hk:keywords.all (·.1.isSome)=true)
  (h:wpAny M A (spliced args) (λvs s₁=>wpAny M A (evalAll (keywords.map (·.2))) (λks s2=>Q ⟨vs,(keywords.filterMap (·.1)).zip ks⟩ s2) Er s₁) Er s) :
  wpAny M A (evalArgs f true args keywords) Q Er s:=by
 have key:wpAny M A (do
   let pos <- spliced args;let late:Option Value:=none
   holding (pos++late.toList) do
    let readLate (keep:List Value):Sem (List Value):=do
     let some s:=late | return pos
     if <- notIterableAtAll s then
      rule "call.star.not-iterable"
      raiseError "TypeError" s!"{← functionStr f} argument after * must be an iterable, not {← typeNameOf s}"
     holding keep (collect s)
    if keywords.all (·.1.isSome) then
     let kw:=(keywords.filterMap (·.1)).zip (<- evalAll (keywords.map (·.2)))
     return ⟨<- readLate (kw.map (·.2)),kw⟩
    let d <- mergedKeywords f keywords;let pos <- readLate [.ref d]
    return ⟨pos, <- holding (.ref d :: pos) (keywordsIn f d)⟩:Sem Args) Q Er s:=by
  refine Ua (Ud h (λvs s₁ h₁=>?_) λ_ _ x=>x);refine wpAny_holding ?_;simp -iota only [hk,if_true];refine Ua (Ud h₁ (λks s2 h₂=>?_) λ_ _ x=>x);exact Ua (Ub (Ub h₂))
 cases args with
 | nil=>exact key
 | cons x rest =>
  obtain ⟨b,t⟩:=x;simp -iota only [List.any_cons,Bool.or_eq_false_iff] at hp;obtain ⟨rfl,hr⟩:=hp;exact key
theorem Zt {A:Around} {Er:Value->Shared->Prop} {s:Shared} {pos:Pos} {f:Value} {first:List Value} {args:List (Bool × Sem Value)} {keywords:List (Option Str × Sem Value)} {Q:Value->Shared->Prop}
  (hp:args.any (·.1)=false) (hk:keywords.all (·.1.isSome)=true)
  (h:wpAny (model prog w) A (spliced args) (λvs s₁=>wpAny (model prog w) A (evalAll (keywords.map (·.2))) (λks s2=>Vj prog w f s2 /\
   wpAny (model prog w) A (call f (first++vs) ((keywords.filterMap (·.1)).zip ks)) Q Er s2) Er s₁) Er s) :
  wpAny (model prog w) A (callWith pos f first args keywords) Q Er s:=by
 unfold callWith;refine Ua (wpAny_holding (evalArgs_any hp hk (Ud h (λvs s₁ h₁=>Ud h₁ (λks s2 h₂=>Ua (wpAny_standAt ?_)) λ_ _ x=>x) λ_ _ x=>x)))
 have hk':keywords.any (·.1.isNone)=false:=by
  rw [List.any_eq_false];intro x hx;have:=Su.mp hk x hx
  cases q:x.1 <;> simp_all
 have tail:∀ {t:Sem Value},wpAny (model prog w) A t Q Er s2->wpAny (model prog w) A (t >>= λr=>holding [r] point >>= λ_=>pure r) Q Er s2 :=
  λht=>Ua (Ud ht (λr s2 hr=>Ua (wpAny_holding (wpAny_point (Ub hr)))) λ_ _ x=>x)
 refine Ua (h₂.1 A _ _ λk=>?_);simp -iota only [hp,hk',Bool.or_false]
 have c2:wpAny (model prog w) A (operate (f :: (if false=true then (first++vs).reverse else (first++vs))++((keywords.filterMap (·.1)).zip ks).map (·.2)) (call f (first++vs) ((keywords.filterMap (·.1)).zip ks))) Q Er s2:=λΓ p hΓ=>by
  rw [Sem.wp_operate]; exact h₂.2 Γ p hΓ
 cases k with
 | frame =>
  dsimp only
  split
  ·exact tail h₂.2
  ·exact tail (by unfold callMarked; exact wpAny_keep h₂.2)
 | boundFrame =>
  dsimp only
  split
  ·exact tail h₂.2
  ·exact tail (by unfold callMarked; exact wpAny_keep h₂.2)
 | machine=>exact tail h₂.2
 | caller=>exact tail c2
end
end
section
open PySem PySem.W PyProof.Rows PySem.Calls
inductive KR (F:FM):List (Str × Value)->List (Str × AV)->Prop where
 | nil:KR F [] []
 | cons {x:Str} {v:Value} {a:AV} {vs:List (Str × Value)} {as:List (Str × AV)} (h:RV F v a) (r:KR F vs as):KR F ((x,v) :: vs) ((x,a) :: as)
theorem KR.mono {F G:FM} (k:F.le G) {vs:List (Str × Value)} {as:List (Str × AV)} (h:KR F vs as):KR G vs as:=by
 induction h with
 | nil=>exact .nil
 | cons h _ r=>exact .cons (h.mono k) r
theorem KR.lookup {F:FM} {vs:List (Str × Value)} {as:List (Str × AV)} (h:KR F vs as) {x:Str} {a:AV} (e:as.lookup x=some a):∃ v,vs.lookup x=some v/\RV F v a:=by
 induction h with
 | nil=>exact Z6 e
 | @cons y v b _ _ h _ ih =>
  rw [S0] at e ⊢
  cases q:x == y with
  | true=>rw [q] at e; exact ⟨v,rfl,Up.inj e ▸ h⟩
  | false=>rw [q] at e; exact ih e
structure Vl (B:Base) (F:FM) (mem:List (Addr × AO)) (h:Heap):Prop where
 mr:∀ p ∈ mem,MR F h p.1 p.2
 nd:(Z1 mem).Nodup
 off:∀ a ∈ Z1 mem,F a=none/\B.n<=a
structure Left (B:Base) (F:FM) (mem:List (Addr × AO)) (s:Shared) (v:Value) (s':Shared) (av:AV) (m ex:List (Addr × AO)) (F':FM):Prop where
 inv:Inv B s'
 kp:Kp B (Z1 mem) s.heap s'.heap
 le:F.le F'
 le':F'.le s'.heap.get?
 fresh:∀ a o,F' a=some o->F a=some o\/s.heap.get? a=none
 offT:∀ a o,F' a=some o->a ∉ B.tabs
 tf:TabF B F' s'.heap
 rv:RV F' v av
 pl:Z1 m=Z1 mem
 ok:Vl B F' (m++ex) s'.heap
 exn:∀ a ∈ Z1 ex,s.heap.get? a=none
noncomputable abbrev PR3:=AV->List (Addr × AO)->List (Addr × AO)->Prop
inductive PoF (B:Base) (F:FM) (mem:List (Addr × AO)) (s:Shared) (P:PR3) (v:Value) (s':Shared):Prop where
 | mk (av:AV) (m ex:List (Addr × AO)) (F':FM) (L:Left B F mem s v s' av m ex F') (p:P av m ex)
noncomputable def FN (prog:Program) (w:World) (B:Base) (d u:Nat) (f:Value) (as:List AV) (ks:List (Str × AV)) (mem:List (Addr × AO)) (P:PR3):Prop :=
 ∀ A F s vs kvs,AOK d u A->Inv B s->B.n<=s.heap.objs.size->F.le s.heap.get?->(∀ a o,F a=some o->a ∉ B.tabs)->TabF B F s.heap->RVs F vs as->KR F kvs ks->Vl B F mem s.heap ->
  wpAny (model prog w) A (call f vs kvs) (PoF B F mem s P) FF s
theorem FN.mono {d u d' u':Nat} {f:Value} {as:List AV} {ks:List (Str × AV)} {mem:List (Addr × AO)} {P P':PR3} (h:FN prog w B d u f as ks mem P) (hd:d'<=d) (hu:u'<=u)
  (k:∀ a m ex,P a m ex->P' a m ex):FN prog w B d' u' f as ks mem P':=λA F s vs kvs hA h1 h2 h3 h4 h5 h6 h7 h8 =>
 Ud (h A F s vs kvs ⟨hA.hd,Uc hA.dp hd,Uc hA.un hu⟩ h1 h2 h3 h4 h5 h6 h7 h8) (λ_ _ hq1=>by obtain ⟨av,m,ex,F',l,p⟩:=hq1; exact ⟨av,m,ex,F',l,k _ _ _ p⟩) λ_ _ x=>x
theorem Zd (m m':List (Addr × AO)):Z1 (m++m')=Z1 m++Z1 m':=by simp [Z1]
theorem Zq {m m':List (Addr × AO)} (h:m.Sublist m'):(Z1 m).Sublist (Z1 m'):=by
 induction h with
 | slnil=>exact List.Sublist.refl _
 | cons a _ ih =>
  have:∀ (a:Addr × AO) (l:List (Addr × AO)),Z1 (a :: l)=a.2.places a.1++Z1 l:=λa l=>by simp [Z1]
  rw [this]; exact ih.trans (List.sublist_append_right _ _)
 | cons_cons a _ ih =>
  have:∀ (a:Addr × AO) (l:List (Addr × AO)),Z1 (a :: l)=a.2.places a.1++Z1 l:=λa l=>by simp [Z1]
  rw [this,this]; exact ih.append_left _
theorem Y5 (names:List (Str × NameKind)):∀ (k:Nat) (acc:List (Str × Addr)),cellsFrom k names acc=cellsFrom k names []++acc:=by
 induction names with
 | nil=>intro k acc; rfl
 | cons p r ih =>
  obtain ⟨x,kd⟩:=p;intro k acc;unfold cellsFrom
  split
  ·rw [ih,ih (k+1) [(x,k)],Sd]; rfl
  ·rw [ih]
theorem own_sub {env:Env} {new clo:List (Str × Addr)} (h:env.cells=new++clo) (hc:∀ p ∈ clo,env.kindOf p.1≠some .cell):(own env).Sublist (new.map (·.2)):=by
 unfold own;rw [h,Sf]
 have:clo.filter (λp=>env.kindOf p.1 == some NameKind.cell)=[]:=by
  rw [T8];intro p hp;have:=hc p hp;simpa using this
 rw [this,Sj];exact (List.filter_sublist (l:=new)).map _
noncomputable def envF (qual:Str) (scope:Scope) (L fa:Addr) (cdv:Value) (clo:List (Str × Addr)):Env:=newEnv scope L mainGlobals (cellsFrom (L+1) scope.names clo) (qual ++ ".<locals>.") (some fa) cdv none builtinsNs
noncomputable def YE (l:Loc) (bs:List (Str × AV)):Loc:=bs.foldl (λl p=>setL p.1 p.2 l) l
theorem Vt {E:Ent} {F:FM} {env:Env} {mem:List (Addr × AO)} {A:Around} {Er:Value->Shared->Prop} (f:Str × Value->PUnit->Sem (ForInStep PUnit)) (hf:∀ n v u,f (n,v) u=(do storeName env n v; pure (.yield ⟨⟩))) :
  ∀ (binds:List (Str × Value)) (bs:List (Str × AV)) (loc:Loc) (s:Shared) (Q:PUnit->Shared->Prop),KR F binds bs->Rel B E F env loc [] mem s->(∀ x ∈ bs.map (·.1),Zj env x) ->
   (∀ s',Rel B E F env (YE loc bs) [] mem s'->Q ⟨⟩ s')->wpAny (model prog w) A (forIn binds ⟨⟩ f) Q Er s
 | [],_,loc,s,Q,k,R,_,h=>by cases k; rw [List.forIn_nil]; exact Ub (h s R)
 | (n,v) :: r,_,loc,s,Q,k,R,hs,h=>by
  cases k with
  | cons hv kr =>
   rw [List.forIn_cons,hf];refine Ua (Ua (Ud (Zu R hv (hs n (by simp))) (λ_ s' R'=>Ub ?_) λ_ _ x=>x));exact Vt f hf r _ _ s' Q kr R' (λx hx=>hs x (by simp at hx ⊢; exact .inr hx)) h
theorem Xn {F:FM} {qual:Str} {scope:Scope} {fa:Addr} {cdv:Value} {clo:List (Str × Addr)} {binds:List (Str × Value)} {bs:List (Str × AV)} {mem:List (Addr × AO)} {A:Around} {Er:Value->Shared->Prop} {s:Shared} {Q:Env->Shared->Prop} (loc₀:Loc)
  (I:Inv B s) (hn:B.n<=s.heap.objs.size) (hF:F.le s.heap.get?) (hT:∀ a o,F a=some o->a ∉ B.tabs) (hTF:TabF B F s.heap) (hm:Vl B F mem s.heap) (hkr:KR F binds bs) (hk:scope.kind=.function)
  (hst:∀ L,∀ x ∈ bs.map (·.1),Zj (envF qual scope L fa cdv clo) x) (hclo:∀ p ∈ clo,scope.names.lookup p.1≠some .cell)
  (hl0:∀ p ∈ loc₀,scope.names.lookup p.1=some .free)
  (hfz:∀ L x av,loc₀.lookup x=some av->∃ c v o,(cellsFrom (L+1) scope.names clo).lookup x=some c/\(F c=some o\/B.K.lookup c=some o)/\o.data=.cell (some v)/\RV F v av)
  (hQ:∀ L s',Rel B ⟨s.heap,F,Z1 mem⟩ F (envF qual scope L fa cdv clo) (YE loc₀ bs) [] mem s'->Q (envF qual scope L fa cdv clo) s') :
  wpAny (model prog w) A (newFunctionEnv scope mainGlobals clo binds (qual ++ ".<locals>.") (some fa) cdv none builtinsNs) Q Er s:=by
 simp only [newFunctionEnv,Option.isSome_none,U1,if_false];refine Ua (wpAny_alloc ?_);refine Ua (wpAny_layCells _ (λname kind cells=>by cases hkc:kind == NameKind.cell <;> simp [hkc]) _ _ _ _ ?_);have hsz:({ s with heap:=s.heap.push { cls:=.type "frame", data:=.dict #[] } }:Shared).heap.objs.size=s.heap.objs.size+1:=Heap.size_push ..;rw [hsz];have new:=Zy s.heap
 have none_of:∀ a,s.heap.objs.size<=a->s.heap.get? a=none:=λa ha=>by
  cases q:s.heap.get? a with
  | none=>rfl
  | some o'=>exact absurd (Heap.lt_size q) (Th.mpr ha)
 have Fnone:∀ a,s.heap.objs.size<=a->F a=none:=λa ha=>by
  cases q:F a with
  | none=>rfl
  | some o'=>have:=hF _ _ q; rw [none_of a ha] at this; exact Z6 this
 have pl:∀ a ∈ Z1 mem,a < s.heap.objs.size:=λa hp=>by
  obtain ⟨p,hp',hb'⟩:=U4.mp hp;obtain ⟨o,e⟩:=Xa (hm.mr p hp') _ hb';exact Heap.lt_size e
 have ok:=cellsFrom_ok scope.names (s.heap.push { cls:=.type "frame", data:=.dict #[] }) (s.heap.objs.size+1) [] ⟨λ_ _ hm=>(nomatch hm),List.Pairwise.nil⟩ (by rw [Heap.size_push]; exact Ug _);rw [Heap.size_push] at ok;have old:∀ b o,s.heap.get? b=some o->(pushCells (s.heap.push { cls:=.type "frame", data:=.dict #[] }) scope.names).get? b=some o:=λb o e=>pushCells_keeps _ _ b o (Heap.get?_push_of_some _ e);have hown:(own (envF qual scope s.heap.objs.size fa cdv clo)).Sublist ((cellsFrom (s.heap.objs.size+1) scope.names []).map (·.2)):=own_sub (clo:=clo) (Y5 _ _ _) hclo
 have own_ok:∀ c ∈ own (envF qual scope s.heap.objs.size fa cdv clo),(pushCells (s.heap.push { cls:=.type "frame", data:=.dict #[] }) scope.names).IsCell c none/\s.heap.objs.size+1<=c:=λc hc=>by
  obtain ⟨p,hp,rfl⟩:=Uq.mp (hown.subset hc);exact ok.empty p.1 p.2 hp
 have own_nd:(own (envF qual scope s.heap.objs.size fa cdv clo)).Nodup:=by
  refine List.Nodup.sublist hown ?_;unfold List.Nodup;rw [Sg];exact ok.apart
 have hnsz:∀ a,s.heap.objs.size<=a->B.n<=a:=λa ha=>Uc hn ha
 have R:Rel B ⟨s.heap,F,Z1 mem⟩ F (envF qual scope s.heap.objs.size fa cdv clo) loc₀ [] mem { s with heap:=pushCells (s.heap.push { cls:=.type "frame", data:=.dict #[] }) scope.names }:={
  inv:=I.keeps (tk:=s.toks) old
  keep:=λb o e _ _=>old b o e
  sub:=.refl F
  le:=λa o e=>old _ _ (hF a o e)
  fresh:=λa o e=>.inl e
  fr:={
   kind:=hk
   glob:=rfl
   blt:=rfl
   ns:=⟨_,(Heap.Ns.new s.heap (.type "frame")).keeps (pushCells_keeps _ _),λx av hx hl=>by
    have e1:=hl0 _ (Z7 hl);have e2:scope.names.lookup x=some .local:=hx
    rw [e1] at e2; cases e2⟩
   cl:=λx av hx hl=>by
    have e1:=hl0 _ (Z7 hl);have e2:scope.names.lookup x=some .cell:=hx;rw [e1] at e2; cases e2
   fz:=λx av _ hl=>hfz _ x av hl
   ex:=λc hc=>⟨none,(own_ok c hc).1⟩ }
  tv:=λp hp=>nomatch hp
  mr:=λp hp=>(hm.mr p hp).keeps old (.refl F)
  nd:=by
   refine U3.mpr ⟨λh=>?_,Uy.mpr ⟨own_nd,hm.nd,λa ha b hb e=>?_⟩⟩
   ·rcases Ue.mp h with h | h
    ·exact absurd (own_ok _ h).2 (Nat.not_le.mpr (Tg _))
    ·exact S8 _ (pl _ h)
   ·have:=(own_ok a ha).2;have h2:=pl b hb;subst e;exact absurd h2 (Th.mpr (U6 this))
  off:=λa ha=>by
   rcases Ur.mp ha with rfl | ha
   ·exact ⟨Fnone _ (Ug _),hn, .inl new⟩
   ·rcases Ue.mp ha with ha | ha
    ·have:=U6 (own_ok a ha).2;exact ⟨Fnone _ this,hnsz _ this, .inl (none_of _ this)⟩
    ·exact ⟨(hm.off a ha).1,(hm.off a ha).2, .inr ha⟩
  offT:=hT
  mex:=λa ha=>by
   obtain ⟨p,hp',hb'⟩:=U4.mp ha;obtain ⟨o,e⟩:=Xa (hm.mr p hp') _ hb';exact ⟨o,old _ _ e⟩
  tf:=hTF.keeps (λP _ o e=>old _ _ e) (.refl _) }
 exact Ua (Vt (env:=envF qual scope s.heap.objs.size fa cdv clo) _ (λ_ _ _=>rfl) binds bs loc₀ _ _ hkr R (hst _) λs' R'=>Ub (hQ _ s' R'))
section
variable {d u:Nat}
theorem XC {F F':FM} {env:Env} {loc:Loc} {mem mem' m ex:List (Addr × AO)} {s s':Shared} {v:Value} {av:AV} (k':F.le F') (R':Rel B ⟨s.heap,F,Z1 mem⟩ F' env loc [] mem' s')
  (hsub:(m++ex).Sublist mem') (epl:Z1 m=Z1 mem) (hv:RV F' v av):Left B F mem s v s' av m ex F':=by
 have nd':(Z1 mem').Nodup:=by
  have:=R'.nd;unfold fp at this;exact (Uy.mp (U3.mp this).2).2.1
 have ndm:=nd'.sublist (Zq hsub);have offm:∀ a ∈ Z1 (m++ex),F' a=none/\B.n<=a/\(s.heap.get? a=none\/a ∈ Z1 mem):=λa ha=>R'.off a (.tail _ (Ue.mpr (.inr ((Zq hsub).subset ha))))
 exact {
  inv:=R'.inv
  kp:=R'.keep
  le:=k'
  le':=R'.le
  fresh:=R'.fresh
  offT:=R'.offT
  tf:=R'.tf
  rv:=hv
  pl:=epl
  ok:=⟨λp hp=>R'.mr p (hsub.subset hp),ndm,λa ha=>⟨(offm a ha).1,(offm a ha).2.1⟩⟩
  exn:=λa ha=>by
   rcases (offm a (by rw [Zd]; exact Ue.mpr (.inr ha))).2.2 with q | q
   ·exact q
   ·rw [Zd,Uy] at ndm
    exact absurd rfl (ndm.2.2 a (epl ▸ q) a ha) }
theorem AOK.in1 {A:Around} (h:AOK d u A):AOK d (u+1) A.in1:=⟨h.hd,h.dp,Uv h.un 1⟩
noncomputable def PB3 (mem:List (Addr × AO)) (P:PR3):PF:=λf _ mem'=>∃ m ex,(m++ex).Sublist mem'/\Z1 m=Z1 mem/\match f with | .ret a=>P a m ex | .next=>P .none m ex | _=>False
theorem fn_defC {fa:Addr} {oc:Value} {od:Option Addr} {osl:Array (Option Value)} {name qual:Str} {params:Arguments} {body:List Stmt} {scope:Scope} {clo:List (Str × Addr)} {dV kV doc pm cdv ct:Value} {an:Option Addr}
  {as:List AV} {ks:List (Str × AV)} {mem:List (Addr × AO)} {P:PR3} (bs:List (Str × AV)) (loc₀:Loc)
  (hK:B.K.lookup fa=some ⟨oc,od, .func (fnX name qual params body scope clo dV kV doc pm an cdv ct),osl⟩) (hcd:codeIn B.K cdv qual=true) (hd:d+1 < recursionLimit)
  (hbind:∀ F vs kvs,RVs F vs as->KR F kvs ks->∃ binds,(∀ S,peek B.K S (bindArgs (fnX name qual params body scope clo dV kV doc pm an cdv ct) ⟨vs,kvs⟩)=some binds)/\KR F binds bs)
  (hst:∀ L,∀ x ∈ bs.map (·.1),Zj (envF qual scope L fa cdv clo) x) (hclo:∀ p ∈ clo,scope.names.lookup p.1≠some .cell)
  (hl0:∀ p ∈ loc₀,scope.names.lookup p.1=some .free)
  (hfz:∀ F:FM,∀ L x av,loc₀.lookup x=some av->∃ c v o,(cellsFrom (L+1) scope.names clo).lookup x=some c/\(F c=some o\/B.K.lookup c=some o)/\o.data=.cell (some v)/\RV F v av)
  (hco:scope.isCoroutine=false) (hgen:scope.isGenerator=false) (hk:scope.kind=.function)
  (hb:∀ L,WB prog w B (d+1) (u+3) (envF qual scope L fa cdv clo) (YE loc₀ bs) mem body (PB3 mem P)) :
  FN prog w B d u (.ref fa) as ks mem P:=λA F s vs kvs hA I hn hF hT hTF ha hkw hm=>by
 obtain ⟨binds,hbd,hkr⟩:=hbind F vs kvs ha hkw;refine wpAny_call ?_;refine codeAny_call_function (fd:=fnX name qual params body scope clo dV kV doc pm an cdv ct) (body:=body) (Uo hA.dp (S7 hd)) (I.kin _ _ hK) rfl hco hgen rfl (codeRec_of I.kin hcd) (kp_binds I.kin hbd _ _ _ _ ?_);refine Xn loc₀ I hn hF hT hTF hm hkr hk hst hclo hl0 (hfz F) λL s' R=>⟨R.inv.lim,codeAny_func ?_⟩
 have hA':AOK (d+1) (u+3) (A.deeper (envF qual scope L fa cdv clo)):=⟨hA.hd,T7 hA.dp,Uv hA.un 3⟩;refine Ud (hb L _ _ _ _ _ hA' R) (λf s' h'=>?_) λ_ _ x=>x.elim;obtain ⟨af,loc',mem',F',k',rf,R',m,ex,hsub,epl,q⟩:=h'
 cases rf with
 | next=>exact ⟨_,m,ex,F',XC k' R' hsub epl .none,q⟩
 | brk=>exact q.elim
 | cont=>exact q.elim
 | ret hv=>exact ⟨_,m,ex,F',XC k' R' hsub epl hv,q⟩
theorem fn_def {fa:Addr} {oc:Value} {od:Option Addr} {osl:Array (Option Value)} {name qual:Str} {params:Arguments} {body:List Stmt} {scope:Scope} {dV kV doc pm cdv ct:Value} {an:Option Addr}
  {as:List AV} {ks:List (Str × AV)} {mem:List (Addr × AO)} {P:PR3} (bs:List (Str × AV))
  (hK:B.K.lookup fa=some ⟨oc,od, .func (fnX name qual params body scope [] dV kV doc pm an cdv ct),osl⟩) (hcd:codeIn B.K cdv qual=true) (hd:d+1 < recursionLimit)
  (hbind:∀ F vs kvs,RVs F vs as->KR F kvs ks->∃ binds,(∀ S,peek B.K S (bindArgs (fnX name qual params body scope [] dV kV doc pm an cdv ct) ⟨vs,kvs⟩)=some binds)/\KR F binds bs)
  (hst:∀ L,∀ x ∈ bs.map (·.1),Zj (envF qual scope L fa cdv []) x)
  (hco:scope.isCoroutine=false) (hgen:scope.isGenerator=false) (hk:scope.kind=.function)
  (hb:∀ L,WB prog w B (d+1) (u+3) (envF qual scope L fa cdv []) (YE [] bs) mem body (PB3 mem P)) :
  FN prog w B d u (.ref fa) as ks mem P :=
 fn_defC bs [] hK hcd hd hbind hst (λ_ h=>nomatch h) (λ_ h=>nomatch h) (λ_ _ _ _ h=>nomatch h) hco hgen hk hb
end
section
variable {d u:Nat} {E:Ent} {F F':FM} {env:Env} {loc:Loc} {tmp:List (Value × AV)} {mem:List (Addr × AO)} {s s':Shared}
theorem XE.keepsOn {h h':Heap} (x:XE B env F loc h) (k:∀ b o,(b=env.locals\/b ∈ own env)->h.get? b=some o->h'.get? b=some o) (kF:F.le F'):XE B env F' loc h' where
 kind:=x.kind
 glob:=x.glob
 blt:=x.blt
 ns:=by obtain ⟨m,⟨o,es,ep,e,r1⟩,r⟩:=x.ns; exact ⟨m,⟨o,es,ep,k _ _ (.inl rfl) e,r1⟩,λy av hk hl=>by obtain ⟨v,e1,e2⟩:=r y av hk hl; exact ⟨v,e1,e2.mono kF⟩⟩
 cl:=λy av hk hl=>by obtain ⟨c,v,e1,⟨o,e2,e3⟩,e4⟩:=x.cl y av hk hl; exact ⟨c,v,e1,⟨o,k _ _ (.inr (Y9 hk (Z7 e1))) e2,e3⟩,e4.mono kF⟩
 fz:=λy av hk hl=>by obtain ⟨c,v,o,e1,e2,e3,e4⟩:=x.fz y av hk hl; exact ⟨c,v,o,e1,e2.imp_left (kF _ _),e3,e4.mono kF⟩
 ex:=λp hp=>by obtain ⟨v,⟨o,e1,e2⟩⟩:=x.ex p hp; exact ⟨v,⟨o,k _ _ (.inr hp) e1,e2⟩⟩
theorem Yv.keepsOn {h h':Heap} {d:Addr} {as:List (Str × AV)} (x:Yv F h d as) (k:∀ o,h.get? d=some o->h'.get? d=some o) (kF:F.le F'):Yv F' h' d as :=
 let ⟨es,n,e,hk,r⟩:=x; ⟨es,n,k _ e,hk,λy a q=>by obtain ⟨v,e1,e2⟩:=r y a q; exact ⟨v,e1,e2.mono kF⟩⟩
theorem MR.keepsOn {h h':Heap} {a:Addr} {o:AO} (x:MR F h a o) (k:∀ b ∈ o.places a,∀ ob,h.get? b=some ob->h'.get? b=some ob) (kF:F.le F'):MR F' h' a o:=by
 cases o with
 | list xs=>obtain ⟨vs,n,e,r⟩:=x; exact ⟨vs,n,k _ (by simp [AO.places]) _ e,r.mono kF⟩
 | obj C d as=>exact ⟨k _ (by simp [AO.places]) _ x.1,x.2.keepsOn (k _ (by simp [AO.places])) kF⟩
 | acc C d xs as=>obtain ⟨⟨vs,n,e,r⟩,y⟩:=x; exact ⟨⟨vs,n,k _ (by simp [AO.places]) _ e,r.mono kF⟩,y.keepsOn (k _ (by simp [AO.places])) kF⟩
 | any T=>obtain ⟨o,e,r⟩:=x; exact ⟨o,k _ (by simp [AO.places]) _ e,λG kG=>r G (kF.trans kG)⟩
theorem Rel.memOK (R:Rel B E F env loc tmp mem s) {m:List (Addr × AO)} (h:m.Sublist mem):Vl B F m s.heap:=by
 have hs:=Zq h;refine ⟨λp hp=>R.mr p (h.subset hp),?_,λa ha=>?_⟩
 ·have:=R.nd;unfold fp at this;exact ((Uy.mp (U3.mp this).2).2.1).sublist hs
 ·obtain ⟨h1,h2,_⟩:=R.off a (.tail _ (Ue.mpr (.inr (hs.subset ha))));exact ⟨h1,h2⟩
theorem Rel.lowT (R:Rel B E F env loc tmp mem s):∀ a ∈ fp env mem,a ∉ B.tabs:=λa ha ht =>
 Th.mpr (R.off a ha).2.1 (R.inv.ok.t0 a ht).2.1
theorem Rel.after {pre mp post m ex:List (Addr × AO)} {v:Value} {av:AV} (R:Rel B E F env loc tmp mem s) (hm:mem=pre++(mp++post)) (L:Left B F mp s v s' av m ex F') :
  Rel B E F' env loc tmp (pre++(m++post)++ex) s':=by
 subst hm;have nd0:=R.nd;have pall:Z1 (pre++(mp++post))=Z1 pre++(Z1 mp++Z1 post):=by rw [Zd,Zd]
 have pnew:Z1 (pre++(m++post)++ex)=Z1 (pre++(mp++post))++Z1 ex:=by rw [Zd,Zd,Zd,L.pl,pall]
 have fpnew:fp env (pre++(m++post)++ex)=fp env (pre++(mp++post))++Z1 ex:=by
  unfold fp; rw [pnew,List.cons_append,Sd]
 have n0:(Z1 pre++(Z1 mp++Z1 post)).Nodup:=by
  unfold fp at nd0;have:=(Uy.mp (U3.mp nd0).2).2.1;rw [pall] at this; exact this
 have k:∀ b o,b ∉ B.tabs->b ∉ Z1 mp->s.heap.get? b=some o->s'.heap.get? b=some o:=λb o h1 h2 e=>L.kp b o e h1 h2
 have offmp:∀ b,(b=env.locals\/b ∈ own env)->b ∉ Z1 mp:=by
  intro b hb hq;have hq':b ∈ Z1 (pre++(mp++post)):=by rw [pall]; exact Ue.mpr (.inr (Ue.mpr (.inl hq)))
  rcases hb with rfl | hb
  ·exact (ZE R).2 hq'
  ·exact YJ R b hb hq'
 have lowfp:∀ b,(b=env.locals\/b ∈ own env)->b ∈ fp env (pre++(mp++post)):=by
  intro b hb;rcases hb with rfl | hb
  ·exact .head _
  ·exact .tail _ (Ue.mpr (.inl hb))
 have memfp:∀ b,b ∈ Z1 (pre++(mp++post))->b ∈ fp env (pre++(mp++post)):=λb hb=>.tail _ (Ue.mpr (.inr hb))
 have exfresh:∀ a ∈ Z1 ex,E.he.get? a=none:=λa ha=>by
  have hn:=L.exn a ha;refine ZP R hn (λhm=>?_) (λht=>?_)
  ·obtain ⟨o,e⟩:=R.mex a hm; rw [hn] at e; exact Z6 e
  ·obtain ⟨vs,e⟩:=R.inv.tb a ht; rw [hn] at e; exact Z6 e
 exact {
  inv:=L.inv
  keep:=λb o e h1 h2=>by
   by_cases q:b ∈ Z1 mp
   ·have hq':b ∈ Z1 (pre++(mp++post)):=by rw [pall]; exact Ue.mpr (.inr (Ue.mpr (.inl q)))
    rcases (R.off b (memfp b hq')).2.2 with z | z
    ·rw [z] at e; exact Z6 e
    ·exact absurd z h2
   ·exact k b o h1 q (R.keep b o e h1 h2)
  sub:=R.sub.trans L.le
  le:=L.le'
  fresh:=λa o e=>by
   rcases L.fresh a o e with q | q
   ·exact R.fresh a o q
   ·right;refine ZP R q (λhm=>?_) (L.offT a o e);obtain ⟨o,e⟩:=R.mex a hm; rw [q] at e; exact Z6 e
  fr:=R.fr.keepsOn (λb o hb e=>k b o (R.lowT b (lowfp b hb)) (offmp b hb) e) L.le
  tv:=λp hp=>(R.tv p hp).mono L.le
  mr:=λp hp=>by
   have old:∀ q ∈ pre++(mp++post),(∀ b ∈ q.2.places q.1,b ∉ Z1 mp)->MR F' s'.heap q.1 q.2:=λq hq hn =>
    (R.mr q hq).keepsOn (λb hb ob e=>k b ob (R.lowT b (memfp b (U4.mpr ⟨q,hq,hb⟩))) (hn b hb) e) L.le
   have inpre:∀ q ∈ pre,∀ b ∈ q.2.places q.1,b ∈ Z1 pre:=λq hq b hb=>U4.mpr ⟨q,hq,hb⟩;have inpost:∀ q ∈ post,∀ b ∈ q.2.places q.1,b ∈ Z1 post:=λq hq b hb=>U4.mpr ⟨q,hq,hb⟩;have n1:=Uy.mp n0;have n2:=Uy.mp n1.2.1;rcases Ue.mp hp with hp | hp
   ·rcases Ue.mp hp with hp | hp
    ·exact old p (Ue.mpr (.inl hp)) λb hb hq=>n1.2.2 b (inpre p hp b hb) b (Ue.mpr (.inl hq)) rfl
    ·rcases Ue.mp hp with hp | hp
     ·exact L.ok.mr p (Ue.mpr (.inl hp))
     ·exact old p (Ue.mpr (.inr (Ue.mpr (.inr hp)))) λb hb hq=>n2.2.2 b hq b (inpost p hp b hb) rfl
   ·exact L.ok.mr p (Ue.mpr (.inr hp))
  nd:=by
   rw [fpnew];refine Uy.mpr ⟨nd0,?_,λa ha b hb e=>?_⟩
   ·have:=L.ok.nd;rw [Zd] at this;exact (Uy.mp this).2.1
   ·subst e;obtain ⟨o,e⟩:=R.exAt a ha;rw [L.exn a hb] at e; exact Z6 e
  off:=λa ha=>by
   rw [fpnew] at ha;rcases Ue.mp ha with ha | ha
   ·obtain ⟨h1,h2,h3⟩:=R.off a ha;refine ⟨?_,h2,h3⟩
    cases q:F' a with
    | none=>rfl
    | some o =>
     rcases L.fresh a o q with z | z
     ·rw [h1] at z; exact Z6 z
     ·obtain ⟨o',e⟩:=R.exAt a ha;rw [z] at e; exact Z6 e
   ·obtain ⟨h1,h2⟩:=L.ok.off a (by rw [Zd]; exact Ue.mpr (.inr ha));exact ⟨h1,h2, .inl (exfresh a ha)⟩
  offT:=L.offT
  mex:=λa ha=>by
   obtain ⟨o,e⟩:=R.mex a ha
   by_cases q:a ∈ Z1 mp
   ·rw [<- L.pl] at q;obtain ⟨p,hp,hb⟩:=U4.mp q;exact Xa (L.ok.mr p (Ue.mpr (.inl hp))) a hb
   ·by_cases t:a ∈ B.tabs
    ·obtain ⟨vs,e⟩:=L.inv.tb a t;exact ⟨_,e⟩
    ·exact ⟨o,k a o t q e⟩
  tf:=L.tf }
theorem Rel.freeze {pre post:List (Addr × AO)} {a:Addr} {xs:List AV} (R:Rel B E F env loc tmp (pre++((a, .list xs) :: post)) s) (hn:E.he.get? a=none) :
  ∃ F',F.le F'/\RV F' (.ref a) (.lst xs)/\Rel B E F' env loc tmp (pre++post) s:=by
 obtain ⟨vs,n,eo,rv⟩:=R.mr (a, .list xs) (Ue.mpr (.inr (.head _)));have hpa:a ∈ Z1 (pre++((a, .list xs) :: post)):=U4.mpr ⟨_,Ue.mpr (.inr (.head _)),by simp [AO.places]⟩;have hfa:a ∈ fp env (pre++((a, .list xs) :: post)):=.tail _ (Ue.mpr (.inr hpa));obtain ⟨hF,hge,_⟩:=R.off a hfa;have kF:=FM.set_le (o:={ cls:=.type "list", data:=.seq vs.toArray n }) hF;have hsub:(pre++post).Sublist (pre++((a, .list xs) :: post)):=(List.Sublist.refl _).append (List.sublist_cons_self _ _);have hps:=Zq hsub;have hpl:Z1 (pre++((a, .list xs) :: post))=Z1 pre++a :: Z1 post:=by rw [Zd]; rfl
 have hna:a ∉ Z1 (pre++post):=λh=>by
  have:=R.nd;unfold fp at this;have:=(Uy.mp (U3.mp this).2).2.1;rw [hpl] at this;rw [Zd] at h;have n1:=Uy.mp this;rcases Ue.mp h with h | h
  ·exact n1.2.2 a h a (.head _) rfl
  ·exact (U3.mp n1.2.1).1 h
 have hfp:(fp env (pre++post)).Sublist (fp env (pre++((a, .list xs) :: post))):=((List.Sublist.refl _).append hps).cons_cons _;refine ⟨_,kF, .lst a vs xs n FM.set_same (rv.mono kF),?_⟩
 exact {
  inv:=R.inv
  keep:=R.keep
  sub:=R.sub.trans kF
  le:=λb o e=>by
   unfold FM.set at e
   by_cases q:b=a
   ·subst q; rw [if_pos rfl] at e; obtain rfl:=Up.inj e; exact eo
   ·rw [if_neg q] at e; exact R.le b o e
  fresh:=λb o e=>by
   unfold FM.set at e
   by_cases q:b=a
   ·subst q; exact .inr hn
   ·rw [if_neg q] at e; exact R.fresh b o e
  fr:=R.fr.keeps (λ_ _ e=>e) kF
  tv:=λp hp=>(R.tv p hp).mono kF
  mr:=λp hp=>(R.mr p (hsub.subset hp)).keeps (λ_ _ e=>e) kF
  nd:=R.nd.sublist hfp
  off:=λb hb=>by
   obtain ⟨h1,h2,h3⟩:=R.off b (hfp.subset hb);refine ⟨?_,h2,h3⟩;unfold FM.set;rw [if_neg ?_]; exact h1;rintro rfl;unfold fp at hb;rcases Ur.mp hb with rfl | hb
   ·exact (ZE R).2 hpa
   ·rcases Ue.mp hb with hb | hb
    ·exact YJ R _ hb hpa
    ·exact hna hb
  offT:=λb o e=>by
   unfold FM.set at e
   by_cases q:b=a
   ·subst q; exact R.lowT _ hfa
   ·rw [if_neg q] at e; exact R.offT b o e
  mex:=R.mex
  tf:=R.tf.keeps (λ_ _ _ e=>e) kF }
theorem Rel.drop {mem':List (Addr × AO)} (R:Rel B E F env loc tmp mem s) (h:mem'.Sublist mem):Rel B E F env loc tmp mem' s:=by
 have hfp:(fp env mem').Sublist (fp env mem):=((List.Sublist.refl _).append (Zq h)).cons_cons _;exact { R with mr:=λp hp=>R.mr p (h.subset hp),nd:=R.nd.sublist hfp,off:=λb hb=>R.off b (hfp.subset hb) }
end
end
section
open PySem PySem.W PyProof.Rows PySem.Calls
noncomputable def FNat (prog:Program) (w:World) (B:Base) (d u:Nat) (F:FM) (f:Value) (as:List AV) (ks:List (Str × AV)) (mem:List (Addr × AO)) (P:PR3):Prop :=
 ∀ A s vs kvs,AOK d u A->Inv B s->B.n<=s.heap.objs.size->F.le s.heap.get?->(∀ a o,F a=some o->a ∉ B.tabs)->TabF B F s.heap->RVs F vs as->KR F kvs ks->Vl B F mem s.heap ->
  wpAny (model prog w) A (call f vs kvs) (PoF B F mem s P) FF s
theorem FN.at {d u:Nat} {f:Value} {as:List AV} {ks:List (Str × AV)} {mem:List (Addr × AO)} {P:PR3} (h:FN prog w B d u f as ks mem P) (F:FM):FNat prog w B d u F f as ks mem P:=λA s vs kvs=>h A F s vs kvs
noncomputable def FNV (prog:Program) (w:World) (B:Base) (d u:Nat) (f:AV) (as:List AV) (ks:List (Str × AV)) (mem:List (Addr × AO)) (P:PR3):Prop:=∀ F v,RV F v f->FNat prog w B d u F v as ks mem P
theorem FN.v {d u:Nat} {f:Value} {as:List AV} {ks:List (Str × AV)} {mem:List (Addr × AO)} {P:PR3} (h:FN prog w B d u f as ks mem P):FNV prog w B d u (.raw f) as ks mem P:=λF v r=>by obtain rfl:=r.isRaw; exact h.at F
noncomputable def Callee (prog:Program) (w:World) (B:Base) (f:AV):Prop:=∀ F v s,Inv B s->F.le s.heap.get?->RV F v f->Vj prog w v s
theorem Z2 {fa:Addr} {oc:Value} {od:Option Addr} {osl:Array (Option Value)} {fd:FuncData} (hK:B.K.lookup fa=some ⟨oc,od, .func fd,osl⟩):Callee prog w B (.raw (.ref fa)):=λ_ _ _ I _ r=>by obtain rfl:=r.isRaw; exact VI (I.kin _ _ hK) rfl
theorem callee_builtin {id:String}:Callee prog w B (.raw (.builtin id)):=λ_ _ _ _ _ r=>by obtain rfl:=r.isRaw; exact ZW
theorem Z5 {id:String}:Callee prog w B (.raw (.type id)):=λ_ _ _ _ _ r=>by obtain rfl:=r.isRaw; exact Vo
theorem callee_pred {T:FM->Value->Prop} (h:∀ F v,T F v->∃ a o fd,v=.ref a/\F a=some o/\o.data=.func fd):Callee prog w B (.pred T):=λF v s _ k r=>by
 cases r with
 | pred _ _ hT =>
  obtain ⟨a,o,fd,rfl,e,hd⟩:=h F v (hT F (.refl F));exact VI (k _ _ e) hd
noncomputable def CALL (prog:Program) (w:World) (B:Base) (d u:Nat) (env:Env) (loc:Loc) (f:AV) (as:List AV) (ks:List (Str × AV)) (mem:List (Addr × AO)) (Q:AV->List (Addr × AO)->Prop):Prop :=
 ∀ A E F tmp s v vs kvs,AOK d u A->Rel B E F env loc tmp mem s->RV F v f->RVs F vs as->KR F kvs ks ->
  wpAny (model prog w) A (call v vs kvs) (PoC B E F env loc tmp Q) FF s
section
variable {d u:Nat} {env:Env} {loc:Loc} {mem:List (Addr × AO)} {f:AV} {as:List AV} {ks:List (Str × AV)}
theorem CALL.mono {Q Q':AV->List (Addr × AO)->Prop} (h:CALL prog w B d u env loc f as ks mem Q) (k:∀ a m,Q a m->Q' a m):CALL prog w B d u env loc f as ks mem Q' :=
 λA E F tmp s v vs kvs h1 h2 h3 h4 h5=>Ud (h A E F tmp s v vs kvs h1 h2 h3 h4 h5) (λ_ _ hq1=>by obtain ⟨a,m,F',x1,x2,x3,x4⟩:=hq1; exact ⟨a,m,F',x1,x2,x3,k _ _ x4⟩) λ_ _ x=>x
theorem c_fnV (pre mp post:List (Addr × AO)) {P:PR3} {Q:AV->List (Addr × AO)->Prop} (hm:mem=pre++(mp++post)) (h:FNV prog w B d u f as ks mp P)
  (hq:∀ av m ex,P av m ex->Q av (pre++(m++post)++ex)\/∃ a xs,ex=[(a, .list xs)]/\av=.raw (.ref a)/\Q (.lst xs) (pre++(m++post))) :
  CALL prog w B d u env loc f as ks mem Q:=λA E F tmp s fv vs kvs hA R hf ha hk=>by
 have hsub:mp.Sublist mem:=by
  rw [hm];exact (List.sublist_append_left mp post).trans (List.sublist_append_right pre _)
 refine Ud (h F fv hf A s vs kvs hA R.inv R.size_le R.le R.offT R.tf ha hk (R.memOK hsub)) (λv s' h'=>?_) λ_ _ x=>x;obtain ⟨av,m,ex,F',L,p⟩:=h';have R':=R.after hm L;rcases hq av m ex p with q | ⟨a,xs,rfl,rfl,q⟩
 ·exact ⟨av,_,F',L.le,L.rv,R',q⟩
 ·have hn:s.heap.get? a=none:=L.exn a (by simp [Z1,AO.places])
  have hn':E.he.get? a=none:=by
   refine ZP R hn (λhm=>?_) (λht=>?_)
   ·obtain ⟨o,e⟩:=R.mex a hm; rw [hn] at e; exact Z6 e
   ·obtain ⟨vs,e⟩:=R.inv.tb a ht; rw [hn] at e; exact Z6 e
  have hv:v=.ref a:=by cases L.rv; rfl
  obtain ⟨F'',k,rv,R''⟩:=Rel.freeze (pre:=pre++(m++post)) (post:=[]) R' hn';rw [Sj] at R'';exact ⟨.lst xs,_,F'',L.le.trans k,hv ▸ rv,R'',q⟩
theorem c_fn {f:Value} (pre mp post:List (Addr × AO)) {P:PR3} {Q:AV->List (Addr × AO)->Prop} (hm:mem=pre++(mp++post)) (h:FN prog w B d u f as ks mp P)
  (hq:∀ av m ex,P av m ex->Q av (pre++(m++post)++ex)\/∃ a xs,ex=[(a, .list xs)]/\av=.raw (.ref a)/\Q (.lst xs) (pre++(m++post))) :
  CALL prog w B d u env loc (.raw f) as ks mem Q:=c_fnV pre mp post hm h.v hq
theorem c_fn0V {P:PR3} {Q:AV->List (Addr × AO)->Prop} (h:FNV prog w B d u f as ks [] P) (hq:∀ av ex,P av [] ex->(ex=[]/\Q av mem)\/∃ a xs,ex=[(a, .list xs)]/\av=.raw (.ref a)/\Q (.lst xs) mem) :
  CALL prog w B d u env loc f as ks mem Q:=by
 refine c_fnV mem [] [] (by simp) (P:=λav m ex=>m=[]/\P av [] ex) ?_ λav m ex p=>?_
 ·intro F v hf A s vs kvs h1 h2 h3 h4 h5 h6 h7 h8 h9;refine Ud (h F v hf A s vs kvs h1 h2 h3 h4 h5 h6 h7 h8 h9) (λv s' h'=>?_) λ_ _ x=>x;obtain ⟨av,m,ex,F',L,p⟩:=h'
  have:m=[]:=by
   have e:=L.pl
   cases m with
   | nil=>rfl
   | cons x r =>
    exfalso;have:Z1 (x :: r)=x.2.places x.1++Z1 r:=by simp [Z1]
    rw [this] at e;obtain ⟨a,ao⟩:=x
    cases ao <;> simp [AO.places,Z1] at e
  subst this;exact ⟨av, [],ex,F',L,rfl,p⟩
 ·obtain ⟨rfl,p⟩:=p;rcases hq av ex p with ⟨rfl,q⟩ | ⟨a,xs,e1,e2,q⟩
  ·left; simpa using q
  ·right; exact ⟨a,xs,e1,e2,by simpa using q⟩
theorem Xe {f:Value} {P:PR3} {Q:AV->List (Addr × AO)->Prop} (h:FN prog w B d u f as ks [] P) (hq:∀ av ex,P av [] ex->(ex=[]/\Q av mem)\/∃ a xs,ex=[(a, .list xs)]/\av=.raw (.ref a)/\Q (.lst xs) mem) :
  CALL prog w B d u env loc (.raw f) as ks mem Q:=c_fn0V h.v hq
inductive Flat:AV->Prop where
 | none:Flat .none
 | bool (b:Bool):Flat (.bool b)
 | int (i:Int):Flat (.int i)
 | str (x:Str):Flat (.str x)
theorem Flat.any {F G:FM} {v:Value} {a:AV} (h:Flat a) (r:RV F v a):RV G v a:=by
 cases h <;> cases r <;> constructor
inductive Vw (mem:List (Addr × AO)):AV->AV->Prop where
 | same (a:AV):Vw mem a a
 | list (a:Addr) (xs:List AV) (h:(a,AO.list xs) ∈ mem):Vw mem (.raw (.ref a)) (.lst xs)
inductive Vws (mem:List (Addr × AO)):List AV->List AV->Prop where
 | nil:Vws mem [] []
 | cons {a b:AV} {as bs:List AV} (h:Vw mem a b) (r:Vws mem as bs):Vws mem (a :: as) (b :: bs)
open Classical in
noncomputable def FM.view (F:FM) (mem:List (Addr × AO)) (h:Heap):FM:=λa=>match F a with | some o=>some o | none=>if ∃ xs,(a,AO.list xs) ∈ mem then h.get? a else none
theorem W9 {F:FM} {mem:List (Addr × AO)} {h:Heap}:F.le (F.view mem h):=λa o e=>by unfold FM.view; rw [e]
theorem XH {F:FM} {mem:List (Addr × AO)} {h:Heap} {a:Addr} {o:Obj} (e:F.view mem h a=some o):F a=some o\/((∃ xs,(a,AO.list xs) ∈ mem)/\h.get? a=some o):=by
 unfold FM.view at e
 cases q:F a with
 | some o'=>rw [q] at e; obtain rfl:=Up.inj e; exact .inl rfl
 | none =>
  rw [q] at e;dsimp only at e
  split at e
  ·exact .inr ⟨by assumption,e⟩
  ·exact Z6 e
theorem VY {F:FM} {mem:List (Addr × AO)} {h:Heap} (k:F.le h.get?):(F.view mem h).le h.get?:=λa o e=>by
 rcases XH e with q | ⟨_,q⟩
 ·exact k _ _ q
 ·exact q
theorem Vw.rv {E:Ent} {F:FM} {tmp:List (Value × AV)} {s:Shared} (R:Rel B E F env loc tmp mem s) {a b:AV} {v:Value} (h:Vw mem a b) (r:RV F v a):RV (F.view mem s.heap) v b:=by
 cases h with
 | same=>exact r.mono W9
 | list x xs hx =>
  obtain rfl:=r.isRaw;obtain ⟨vs,n,e,rv⟩:=R.mr _ hx;have hp:x ∈ Z1 mem:=U4.mpr ⟨_,hx,by simp [AO.places]⟩;refine .lst x vs xs n ?_ (rv.mono W9);unfold FM.view;rw [(R.off x (.tail _ (Ue.mpr (.inr hp)))).1];dsimp only;rw [if_pos ⟨xs,hx⟩]; exact e
theorem Vws.rv {E:Ent} {F:FM} {tmp:List (Value × AV)} {s:Shared} (R:Rel B E F env loc tmp mem s):∀ {as bs:List AV} {vs:List Value},Vws mem as bs->RVs F vs as->RVs (F.view mem s.heap) vs bs
 | _,_,_, .nil, .nil=>.nil
 | _,_,_, .cons h r, .cons x y=>.cons (h.rv R x) (r.rv R y)
open Classical in
noncomputable def FM.plus (F F':FM) (B:Base) (h:Heap):FM:=λa=>match F a with | some o=>some o | none=>if ∃ P ∈ B.tabs,∃ vs pos,h.get? P=some (X.tableObj vs)/\codeAmong pos vs.toList=some (.ref a) then F' a else none
theorem plus_le {F F':FM} {h:Heap}:F.le (F.plus F' B h):=λa o e=>by unfold FM.plus; rw [e]
theorem plus_new {F F':FM} {h:Heap} {a:Addr} {o:Obj} (e:F.plus F' B h a=some o):F a=some o\/((∃ P ∈ B.tabs,∃ vs pos,h.get? P=some (X.tableObj vs)/\codeAmong pos vs.toList=some (.ref a))/\F' a=some o):=by
 unfold FM.plus at e
 cases q:F a with
 | some o'=>rw [q] at e; obtain rfl:=Up.inj e; exact .inl rfl
 | none =>
  rw [q] at e;dsimp only at e
  split at e
  ·exact .inr ⟨by assumption,e⟩
  ·exact Z6 e
theorem view_go {E:Ent} {F G:FM} {tmp:List (Value × AV)} {A:Around} {s:Shared} {fv:Value} {vs:List Value} {kvs:List (Str × Value)} {P:PR3} {Q:AV->List (Addr × AO)->Prop}
  (hA:AOK d u A) (R:Rel B E F env loc tmp mem s) (hG:F.le G) (hG':G.le s.heap.get?) (hGt:∀ a o,G a=some o->a ∉ B.tabs) (hGn:∀ a o,G a=some o->F a=some o\/∀ vs,o.data≠.fields vs)
  (h:FNat prog w B d u G fv as ks [] P) (ha:RVs G vs as) (hk:KR G kvs ks) (hq:∀ av m ex,P av m ex->Flat av/\m=[]/\ex=[]/\Q av mem) :
  wpAny (model prog w) A (call fv vs kvs) (λv s'=>∃ av F',F.le F'/\RV F' v av/\Rel B E F' env loc tmp mem s'/\Q av mem) FF s:=by
 refine Ud (h A s vs kvs hA R.inv R.size_le hG' hGt (R.tf.keeps (λ_ _ _ e=>e) hG) ha hk ⟨(λp hp=>nomatch hp),Tz,(λa ha=>nomatch ha)⟩) (λv s' h'=>?_) λ_ _ x=>x;obtain ⟨av,m,ex,F',L,p⟩:=h';obtain ⟨fl,rfl,rfl,q⟩:=hq av m ex p
 have le':(F.plus F' B s'.heap).le F':=λa o e=>by
  rcases plus_new e with z | ⟨_,z⟩
  ·exact L.le _ _ (hG _ _ z)
  ·exact z
 have L':Left B F [] s v s' av [] [] (F.plus F' B s'.heap):={
  inv:=L.inv
  kp:=L.kp
  le:=plus_le
  le':=λa o e=>L.le' a o (le' a o e)
  fresh:=λa o e=>by
   rcases plus_new e with z | ⟨⟨Pt,hP,vs',pos,e1,e2⟩,z⟩
   ·exact .inl z
   ·rcases L.fresh a o z with y | y
    ·rcases hGn a o y with x | x
     ·exact .inl x
     ·exfalso;obtain ⟨ws,f1,_,f3⟩:=L.tf Pt hP;rw [e1] at f1;have:vs'=ws:=by have:=Up.inj f1; unfold X.tableObj at this; injection this with _ _ h3; injection h3
      subst this;obtain ⟨c,o',g1,g2,⟨us,t,g3,_⟩⟩:=f3 pos _ e2
      cases g1
      rw [z] at g2; obtain rfl:=Up.inj g2;exact x _ g3
    ·exact .inr y
  offT:=λa o e=>L.offT a o (le' a o e)
  tf:=λPt hP=>by
   obtain ⟨ws,f1,f2,f3⟩:=L.tf Pt hP;refine ⟨ws,f1,f2,λpos cv e=>?_⟩;obtain ⟨c,o,rfl,g2,g3⟩:=f3 pos cv e;refine ⟨c,o,rfl,?_,g3⟩;unfold FM.plus
   cases q:F c with
   | some o' =>
    have:=L.le _ _ (hG _ _ q);rw [g2] at this; obtain rfl:=Up.inj this; rfl
   | none =>
    dsimp only;rw [if_pos ⟨Pt,hP,ws,pos,f1,e⟩]; exact g2
  rv:=fl.any L.rv
  pl:=rfl
  ok:=⟨(λp hp=>nomatch hp),Tz,(λa ha=>nomatch ha)⟩
  exn:=λa ha=>nomatch ha }
 have R':=R.after (pre:=mem) (mp:=[]) (post:=[]) (by simp) L';simp only [Sj] at R';exact ⟨av,_,plus_le,fl.any L.rv,R',q⟩
theorem no_places {m:List (Addr × AO)} (e:Z1 m=Z1 ([]:List (Addr × AO))):m=[]:=by
 cases m with
 | nil=>rfl
 | cons x r =>
  exfalso;have:Z1 (x :: r)=x.2.places x.1++Z1 r:=by simp [Z1]
  rw [this] at e;obtain ⟨a,ao⟩:=x
  cases ao <;> simp [AO.places,Z1] at e
theorem FNat.nil {F:FM} {fv:Value} {P:PR3} (h:FNat prog w B d u F fv as ks [] P):FNat prog w B d u F fv as ks [] (λav m ex=>m=[]/\P av [] ex):=λA s vs kvs h1 h2 h3 h4 h5 h6 h7 h8 h9 =>
 Ud (h A s vs kvs h1 h2 h3 h4 h5 h6 h7 h8 h9) (λ_ _ hq1=>by obtain ⟨av,m,ex,F',L,p⟩:=hq1; exact by obtain rfl:=no_places L.pl; exact ⟨av, [],ex,F',L,rfl,p⟩) λ_ _ x=>x
theorem c_view {as':List AV} {P:PR3} {Q:AV->List (Addr × AO)->Prop} (hv:Vws mem as as') (h:FNV prog w B d u f as' ks [] P) (hq:∀ av ex,P av [] ex->Flat av/\ex=[]/\Q av mem) :
  CALL prog w B d u env loc f as ks mem Q:=λA E F tmp s fv vs kvs hA R hf ha hk=>by
 have inPl:∀ a xs,(a,AO.list xs) ∈ mem->a ∈ Z1 mem:=λa xs h=>U4.mpr ⟨_,h,by simp [AO.places]⟩
 have offT:∀ a o,(F.view mem s.heap) a=some o->a ∉ B.tabs:=λa o e=>by
  rcases XH e with q | ⟨⟨xs,q⟩,_⟩
  ·exact R.offT a o q
  ·exact R.lowT a (.tail _ (Ue.mpr (.inr (inPl a xs q))))
 refine Ud (view_go (Q:=Q) hA R W9 (VY R.le) offT (λa o e=>?_) (h _ _ (hf.mono W9)).nil (hv.rv R ha) (hk.mono W9) λav m ex p=>?_) (λv s' h'=>?_) λ_ _ x=>x
 ·rcases XH e with q | ⟨⟨xs,q⟩,e'⟩
  ·exact .inl q
  ·right;intro us hd;obtain ⟨ws,n,e2,_⟩:=R.mr _ q;rw [show s.heap.get? a=some o from e'] at e2;obtain rfl:=Up.inj e2
   cases hd
 ·obtain ⟨rfl,p⟩:=p;obtain ⟨fl,rfl,q⟩:=hq av ex p;exact ⟨fl,rfl,rfl,q⟩
 ·obtain ⟨av,F',k,r,R',q⟩:=h';exact ⟨av,mem,F',k,r,R',q⟩
theorem RVs.zip {F:FM} {vs:List Value} {as:List AV} (h:RVs F vs as):∀ p ∈ vs.zip as,RV F p.1 p.2 :=
 h.ind (P:=λvs as=>∀ p ∈ vs.zip as,RV F p.1 p.2) (λ_ hp=>nomatch hp) λh _ r p hp=>by
  rcases Ur.mp hp with rfl | hp
  ·exact h
  ·exact r p hp
theorem RVs.of_zip {F:FM}:∀ {vs:List Value} {as:List AV},vs.length=as.length->(∀ p ∈ vs.zip as,RV F p.1 p.2)->RVs F vs as
 | [], [],_,_=>.nil
 | v :: vs,a :: as,hl,h=>.cons (h (v,a) (.head _)) (RVs.of_zip (Nat.succ.inj hl) λp hp=>h p (.tail _ hp))
 | [],_ :: _,hl,_=>nomatch hl
 | _ :: _, [],hl,_=>nomatch hl
theorem call_go {args:List Expr} {pos:Pos} {f:Value} {fa:AV} {E:Ent} {F:FM} {tmp:List (Value × AV)} {A:Around} {s:Shared} {Q:PE} (hst:∀ env,(backTo pos (starEach args env)).any (·.1)=false)
  (hA:AOK d u A) (R:Rel B E F env loc tmp mem s) (hf:RV F f fa) (hc:Callee prog w B fa)
  (h:WL prog w B d u env loc mem args λas mem2=>CALL prog w B d u env loc fa as [] mem2 Q) :
  wpAny (model prog w) A (callWith pos f [] (backTo pos (starEach args env)) (backToKw pos (keywordEach [] env))) (PoE B E F env loc tmp Q) FF s:=by
 refine Zt (hst env) rfl (Ud (h A E F tmp s pos hA R) (λvs s2 h₂=>?_) λ_ _ x=>x);obtain ⟨as,mem2,F2,k₂,r₂,R₂,h₂⟩:=h₂;refine wpAny_evalAll_nil ⟨hc F2 f s2 R₂.inv R₂.le (hf.mono k₂),?_⟩;refine Ud (h₂ A E F2 tmp s2 f vs [] hA R₂ (hf.mono k₂) r₂ .nil) (λr s3 h₃=>?_) λ_ _ x=>x;obtain ⟨av,mem3,F3,k3,r₃,R3,q⟩:=h₃;exact ⟨av,mem3,F3,k₂.trans k3,R3.push r₃,q⟩
theorem call_goK {y:Str} {args:List Expr} {ke:Expr} {kp:Pos} {pos:Pos} {f:Value} {fa:AV} {E:Ent} {F:FM} {tmp:List (Value × AV)} {A:Around} {s:Shared} {Q:PE} (hst:∀ env,(backTo pos (starEach args env)).any (·.1)=false)
  (hA:AOK d u A) (R:Rel B E F env loc tmp mem s) (hf:RV F f fa) (hc:Callee prog w B fa)
  (h:WL prog w B d u env loc mem args λas mem2=>WE prog w B d u env loc mem2 ke λka mem3=>CALL prog w B d u env loc fa as [(y,ka)] mem3 Q) :
  wpAny (model prog w) A (callWith pos f [] (backTo pos (starEach args env)) (backToKw pos (keywordEach [⟨some y,ke,kp⟩] env))) (PoE B E F env loc tmp Q) FF s:=by
 refine Zt (hst env) rfl (Ud (h A E F tmp s pos hA R) (λvs s2 h₂=>?_) λ_ _ x=>x);obtain ⟨as,mem2,F2,k₂,r₂,R₂,h₂⟩:=h₂
 have R2':Rel B E F2 env loc (vs.zip as++tmp) mem2 s2:=R₂.tmps λp hp=>by
  rcases Ue.mp hp with hp | hp
  ·exact r₂.zip p hp
  ·exact R₂.tv p hp
 have hl:=r₂.length;show wpAny (model prog w) A (evalAll [do let v <- eval ke env; standAt pos; pure v]) _ _ s2;refine wpAny_evalAll_cons (Ua (Ud (h₂ A E F2 _ s2 hA R2') (λkv s3 h₃=>Ua (wpAny_standAt (Ub ?_))) λ_ _ x=>x));obtain ⟨ka,mem3,F3,k3,R3,h₃⟩:=h₃;have rk:=R3.top;have r₃:RVs F3 vs as:=RVs.of_zip hl λp hp=>R3.tv p (.tail _ (Ue.mpr (.inl hp)));have R3':Rel B E F3 env loc tmp mem3 s3:=R3.tmps λp hp=>R3.tv p (.tail _ (Ue.mpr (.inr hp)));refine wpAny_evalAll_nil ⟨hc F3 f s3 R3.inv R3.le (hf.mono (k₂.trans k3)),?_⟩;refine Ud (h₃ A E F3 tmp s3 f vs [(y,kv)] hA R3' (hf.mono (k₂.trans k3)) r₃ (.cons rk .nil)) (λr s4 h₄=>?_) λ_ _ x=>x;obtain ⟨av,mem4,F4,k4,r₄,R4,q⟩:=h₄;exact ⟨av,mem4,F4,(k₂.trans k3).trans k4,R4.push r₄,q⟩
theorem e_call {x:Str} {p:Pos} {args:List Expr} {pos:Pos} {Q:PE} (hst:∀ env,(backTo pos (starEach args env)).any (·.1)=false)
  (h:WE prog w B d u env loc mem (.Name x p) λa mem1=>Callee prog w B a/\WL prog w B d u env loc mem1 args λas mem2=>CALL prog w B d u env loc a as [] mem2 Q) :
  WE prog w B d u env loc mem (.Call (.Name x p) args [] pos) Q:=λA E F tmp s hA R=>by
 show wpAny (model prog w) A (do callWith pos (<- eval (.Name x p) env) [] (backTo pos (starEach args env)) (backToKw pos (keywordEach [] env))) _ _ s;refine Ua (Ud (h A E F tmp s hA R) (λv s₁ h₁=>?_) λ_ _ x=>x);obtain ⟨a,mem1,F1,k₁,R1,hc,h₁⟩:=h₁;exact Ud (call_go hst hA R1.pop R1.top hc h₁) (λ_ _ x=>x.up k₁) λ_ _ x=>x
theorem e_callK {x y:Str} {p:Pos} {args:List Expr} {ke:Expr} {kp:Pos} {pos:Pos} {Q:PE} (hst:∀ env,(backTo pos (starEach args env)).any (·.1)=false)
  (h:WE prog w B d u env loc mem (.Name x p) λa mem1=>Callee prog w B a/\WL prog w B d u env loc mem1 args λas mem2 =>
   WE prog w B d u env loc mem2 ke λka mem3=>CALL prog w B d u env loc a as [(y,ka)] mem3 Q) :
  WE prog w B d u env loc mem (.Call (.Name x p) args [⟨some y,ke,kp⟩] pos) Q:=λA E F tmp s hA R=>by
 show wpAny (model prog w) A (do callWith pos (<- eval (.Name x p) env) [] (backTo pos (starEach args env)) (backToKw pos (keywordEach [⟨some y,ke,kp⟩] env))) _ _ s;refine Ua (Ud (h A E F tmp s hA R) (λv s₁ h₁=>?_) λ_ _ x=>x);obtain ⟨a,mem1,F1,k₁,R1,hc,h₁⟩:=h₁;exact Ud (call_goK hst hA R1.pop R1.top hc h₁) (λ_ _ x=>x.up k₁) λ_ _ x=>x
end
end
section
open PySem PySem.W PyProof.Rows PySem.Calls
section
variable {d u:Nat} {env:Env} {loc:Loc} {mem:List (Addr × AO)} {f:Value} {as:List AV} {ks:List (Str × AV)}
theorem FN.pure {c:AV} (h:∀ A F s vs kvs (Q:Value->Shared->Prop),AOK d u A->Inv B s->F.le s.heap.get?->RVs F vs as->KR F kvs ks->(∀ v tk,RV F v c->Q v { s with toks:=tk })->wpAny (model prog w) A (call f vs kvs) Q FF s) :
  FN prog w B d u f as ks [] (λav m ex=>av=c/\m=[]/\ex=[]):=λA F s vs kvs hA I hn hF hT hTF ha hk _ =>
 h A F s vs kvs _ hA I hF ha hk λv tk r=>⟨c, [], [],F, {
  inv:=I.keeps λ_ _ e=>e
  kp:=λ_ _ e _ _=>e
  le:=.refl F
  le':=hF
  fresh:=λ_ _ e=>.inl e
  offT:=hT
  tf:=hTF.keeps (λ_ _ _ e=>e) (.refl _)
  rv:=r
  pl:=rfl
  ok:=⟨(λp hp=>nomatch hp),Tz,(λa ha=>nomatch ha)⟩
  exn:=λa ha=>nomatch ha },rfl,rfl,rfl⟩
theorem FN.made {c:AV} (h:∀ A F s vs kvs (Q:Value->Shared->Prop),AOK d u A->Inv B s->F.le s.heap.get?->RVs F vs as->KR F kvs ks ->
   (∀ D o h' tk,(∀ b ob,s.heap.get? b=some ob->h'.get? b=some ob)->s.heap.get? D=none->h'.get? D=some o->RV (F.set D o) (.ref D) c->Q (.ref D) { s with heap:=h',toks:=tk }) ->
   wpAny (model prog w) A (call f vs kvs) Q FF s) :
  FN prog w B d u f as ks [] (λav m ex=>av=c/\m=[]/\ex=[]):=λA F s vs kvs hA I hn hF hT hTF ha hk _ =>
 h A F s vs kvs _ hA I hF ha hk λD o h' tk k hD hD' r=>by
  have hFD:F D=none:=by
   cases q:F D with
   | none=>rfl
   | some o'=>have:=hF _ _ q; rw [hD] at this; exact Z6 this
  have nt:D ∉ B.tabs:=λhP=>by
   obtain ⟨vs,e⟩:=I.tb _ hP;rw [hD] at e; exact Z6 e
  exact ⟨c, [], [],F.set D o, {
   inv:=I.keeps k
   kp:=λb o e _ _=>k b o e
   le:=FM.set_le hFD
   le':=λa o' e=>by
    unfold FM.set at e
    by_cases q:a=D
    ·subst q; rw [if_pos rfl] at e; obtain rfl:=Up.inj e; exact hD'
    ·rw [if_neg q] at e; exact k _ _ (hF a o' e)
   fresh:=λa o' e=>by
    unfold FM.set at e
    by_cases q:a=D
    ·subst q; exact .inr hD
    ·rw [if_neg q] at e; exact .inl e
   offT:=λa o' e=>by
    unfold FM.set at e
    by_cases q:a=D
    ·subst q; exact nt
    ·rw [if_neg q] at e; exact hT a o' e
   tf:=hTF.keeps (λP _ o e=>k _ _ e) (FM.set_le hFD)
   rv:=r
   pl:=rfl
   ok:=⟨(λp hp=>nomatch hp),Tz,(λa ha=>nomatch ha)⟩
   exn:=λa ha=>nomatch ha },rfl,rfl,rfl⟩
theorem RV.lst_at {F:FM} {s:Shared} {v:Value} {xs:List AV} (hF:F.le s.heap.get?) (r:RV F v (.lst xs)):∃ a vs,v=.ref a/\s.heap.IsList a vs.toArray/\RVs F vs xs:=by
 cases r with
 | lst a vs _ n h r=>exact ⟨a,vs,rfl,⟨_,hF _ _ h,rfl,n,rfl⟩,r⟩
theorem RV.tup_at {F:FM} {s:Shared} {v:Value} {xs:List AV} (hF:F.le s.heap.get?) (r:RV F v (.tup xs)):∃ a vs,v=.ref a/\IsTup s.heap a vs.toArray/\RVs F vs xs:=by
 cases r with
 | tup a vs _ n h r=>exact ⟨a,vs,rfl,⟨_,hF _ _ h,rfl,n,rfl⟩,r⟩
theorem f_len {xs:List AV} (hs:xs.length < 2 ^ 62):FN prog w B d u (.builtin "len") [.lst xs] [] [] (λav m ex=>av=.int xs.length/\m=[]/\ex=[]) :=
 FN.pure λA F s vs kvs Q hA I hF ha hk q=>by
  cases ha with
  | cons h r =>
   cases r
   cases hk
   obtain ⟨a,vs,rfl,hl,r⟩:=h.lst_at hF;have hlen:=r.length;refine len_list hl (by simp; exact ar127 hs hlen) ?_;have e:((vs.toArray.size:Nat):Int)=(xs.length:Int):=by simp [hlen]
   rw [e];exact q _ _ (.int _ _)
theorem e_subM {value slice:Expr} {pos:Pos} {Q:PE}
  (h:WE prog w B d u env loc mem value λa mem1=>WE prog w B d u env loc mem1 slice λb mem2=>Ex2 (VM2 prog w B d u (subscriptTail value slice) mem2 a b) Q) :
  WE prog w B d u env loc mem (.Subscript value slice pos) Q:=λA E F tmp s hA R =>
 VO (op:=subscriptTail value slice) (λh=>Subscript_ h) hA R h λa _ b mem2 F2 va vb s2 ⟨c,mem3,hc,q⟩ k ra rb R₂ =>
  Ud (hc A E F2 env loc tmp s2 va vb hA ra rb R₂) (λv s3 hq1=>by obtain ⟨F3,k3,e,R3⟩:=hq1; exact ⟨c,mem3,F3,k.trans k3,R3.push e,q⟩) λ_ _ x=>x
theorem vs_list {value slice:Expr} {xs:List AV} {k:Int} {c:AV} (h0:0<=k) (hk:k < 2 ^ 63) (hx:xs[k.toNat]?=some c)
  (hs:∀ (l:Addr) (u:Tok),subscripted slice false (.ref l) (.int k u)=operate [.ref l, .int k u] (getItem (.ref l) (.int k u))) :
  VO2 prog w B d u (subscriptTail value slice) (.lst xs) (.int k) c:=λ_ _ F _ _ _ _ s va vb _ ha hb R=>by
 obtain ⟨_,rfl⟩:=hb.isInt;obtain ⟨a,vs,rfl,hl,r⟩:=ha.lst_at R.le;obtain ⟨v,e1,e2⟩:=r.get hx;exact tail_any hl.typeIs slot_list_getitem.lookup (wpAny_getItem_list hl h0 hk (by simpa using e1) ⟨F, .refl F,e2,R⟩) (hs _ _)
theorem vs_listNeg {value slice:Expr} {xs:List AV} {k:Int} {c:AV} (h0:k < 0) (h1:-(xs.length:Int)<=k) (hk:-(2 ^ 63)<=k) (hx:xs[(k+xs.length).toNat]?=some c)
  (hs:∀ (l:Addr) (u:Tok),subscripted slice false (.ref l) (.int k u)=operate [.ref l, .int k u] (getItem (.ref l) (.int k u))) :
  VO2 prog w B d u (subscriptTail value slice) (.lst xs) (.int k) c:=λ_ _ F _ _ _ _ s va vb _ ha hb R=>by
 obtain ⟨_,rfl⟩:=hb.isInt;obtain ⟨a,vs,rfl,hl,r⟩:=ha.lst_at R.le;have hlen:=r.length;obtain ⟨v,e1,e2⟩:=r.get hx;exact tail_any hl.typeIs slot_list_getitem.lookup (wpAny_getItem_list_neg hl h0 (by simp [hlen]; exact h1) hk (by simp [hlen]; simpa using e1) ⟨F, .refl F,e2,R⟩) (hs _ _)
theorem Wq {value slice:Expr} {xs:List AV} {k:Int} {j:Nat} {c:AV} (hlo:-(2 ^ 63)<=k) (hhi:k < 2 ^ 63) (hj:seqIndex? k xs.length=some j) (hx:xs[j]?=some c)
  (hs:∀ (l:Addr) (u:Tok),subscripted slice false (.ref l) (.int k u)=operate [.ref l, .int k u] (getItem (.ref l) (.int k u))) :
  VO2 prog w B d u (subscriptTail value slice) (.tup xs) (.int k) c:=λ_ _ F _ _ _ _ s va vb _ ha hb R=>by
 obtain ⟨_,rfl⟩:=hb.isInt;obtain ⟨a,vs,rfl,hl,r⟩:=ha.tup_at R.le;have hlen:=r.length;obtain ⟨v,e1,e2⟩:=r.get hx;exact item_tupleT hl hlo hhi (by rw [hlen]; exact hj) e1 ⟨F, .refl F,e2,R⟩ (hs _ _)
end
end
section
open PySem PySem.W PyProof.Rows PySem.Calls
noncomputable def Sub:Loc->Loc->Prop
 | [],_=>True
 | p :: r,l=>l.lookup p.1=some p.2/\Sub r l
theorem Sub.get:∀ {l l':Loc},Sub l l'->∀ x a,l.lookup x=some a->l'.lookup x=some a
 | p :: r,l',h,x,a,e=>by
  rw [S0] at e
  by_cases hq:x=p.1
  ·subst hq; simp at e; subst e; exact h.1
  ·have:(x == p.1)=false:=beq_eq_false_iff_ne.mpr hq;rw [this] at e; exact h.2.get x a e
section
variable {d u:Nat} {env:Env} {loc:Loc} {mem:List (Addr × AO)}
theorem b_sub {loc':Loc} {sts:List Stmt} {Q:PF} (hl:Sub loc' loc) (h:WB prog w B d u env loc' mem sts Q):WB prog w B d u env loc mem sts Q:=b_less hl.get h
theorem s_while' {σ:Type} {t:Expr} {body orelse:List Stmt} {pos:Pos} {Q:PF} (can:σ->Loc) (I:Nat->σ->List (Addr × AO)->Prop) (n:Nat) (x₀:σ) (hs:Sub (can x₀) loc) (h0:I n x₀ mem)
  (turn:∀ n x mem,I n x mem->WT prog w B d u env (can x) mem t λb mem1=>if b
   then WB prog w B d u env (can x) mem1 body (LoopP (λloc2 mem2=>∃ m x',m < n/\Sub (can x') loc2/\I m x' mem2) Q)
   else WB prog w B d u env (can x) mem1 orelse Q) :
  WS prog w B d u env loc mem (.While t body orelse pos) Q:=λA E F tmp s hA R=>by
 refine wpAny_While (codeAny_whileLoop (λn s'=>∃ x mem' F',F.le F'/\Rel B E F' env (can x) tmp mem' s'/\I n x mem') (λn s₁ h₁=>?_) n ⟨x₀,mem,F, .refl F,R.less hs.get,h0⟩);obtain ⟨x,mem1,F1,k₁,R1,i₁⟩:=h₁;refine Ud (turn n x mem1 i₁ A E F1 tmp s₁ hA R1) (λb s2 h₂=>?_) λ_ _ x=>x.elim;obtain ⟨mem2,F2,k₂,R₂,h₂⟩:=h₂
 cases b with
 | true =>
  simp -iota only [if_true] at h₂ ⊢;refine Ud (h₂ A E F2 tmp s2 hA R₂) (λf s3 h₃=>?_) λ_ _ x=>x.elim;obtain ⟨af,loc3,mem3,F3,k3,rf,R3,h₃⟩:=h₃;have k:=(k₁.trans k₂).trans k3
  cases rf with
  | next=>obtain ⟨m,x',hm,hs',i⟩:=h₃; exact ⟨m,hm,x',mem3,F3,k,R3.less hs'.get,i⟩
  | cont=>obtain ⟨m,x',hm,hs',i⟩:=h₃; exact ⟨m,hm,x',mem3,F3,k,R3.less hs'.get,i⟩
  | brk=>exact ⟨_,loc3,mem3,F3,k, .next,R3,h₃⟩
  | ret hv=>exact ⟨_,loc3,mem3,F3,k, .ret hv,R3,h₃⟩
 | false =>
  simp -iota only [U1,if_false] at h₂ ⊢;refine Ud (h₂ A E F2 tmp s2 hA R₂) (λf s3 h₃=>?_) λ_ _ x=>x.elim;exact h₃.up (k₁.trans k₂)
end
end
section
open PySem PySem.W PyProof.Rows PySem.Calls
section
variable {F:FM} {vs:List Value} {kvs:List (Str × Value)} {a b c e g:AV} {x y:Str}
theorem RVs.n0 (h:RVs F vs []):vs=[]:=by cases h; rfl
theorem RVs.n1 (h:RVs F vs [a]):∃ v1,vs=[v1]/\RV F v1 a:=by cases h with | cons h1 r=>cases r; exact ⟨_,rfl,h1⟩
theorem RVs.n2 (h:RVs F vs [a,b]):∃ v1 v2,vs=[v1,v2]/\RV F v1 a/\RV F v2 b:=by
 cases h with | cons h1 r=>obtain ⟨v,rfl,h2⟩:=r.n1; exact ⟨_,_,rfl,h1,h2⟩
theorem RVs.n3 (h:RVs F vs [a,b,c]):∃ v1 v2 v3,vs=[v1,v2,v3]/\RV F v1 a/\RV F v2 b/\RV F v3 c:=by
 cases h with | cons h1 r=>obtain ⟨v,v',rfl,h2,h3⟩:=r.n2; exact ⟨_,_,_,rfl,h1,h2,h3⟩
theorem RVs.n4 (h:RVs F vs [a,b,c,e]):∃ v1 v2 v3 v4,vs=[v1,v2,v3,v4]/\RV F v1 a/\RV F v2 b/\RV F v3 c/\RV F v4 e:=by
 cases h with | cons h1 r=>obtain ⟨v,v',v'',rfl,h2,h3,h4⟩:=r.n3; exact ⟨_,_,_,_,rfl,h1,h2,h3,h4⟩
theorem RVs.n5 (h:RVs F vs [a,b,c,e,g]):∃ v1 v2 v3 v4 v5,vs=[v1,v2,v3,v4,v5]/\RV F v1 a/\RV F v2 b/\RV F v3 c/\RV F v4 e/\RV F v5 g:=by
 cases h with | cons h1 r=>obtain ⟨v,v',v'',v3,rfl,h2,h3,h4,h5⟩:=r.n4; exact ⟨_,_,_,_,_,rfl,h1,h2,h3,h4,h5⟩
theorem KR.n0 (h:KR F kvs []):kvs=[]:=by cases h; rfl
theorem KR.n1 (h:KR F kvs [(x,a)]):∃ v,kvs=[(x,v)]/\RV F v a:=by cases h with | cons h1 r=>cases r; exact ⟨_,rfl,h1⟩
end
theorem i_true {b:Bool} {P Q:Prop} (h:b=true) (x:P):if b then P else Q:=by rw [if_pos h]; exact x
theorem i_false {b:Bool} {P Q:Prop} (h:b=false) (x:Q):if b then P else Q:=by rw [if_neg (by simp [h])]; exact x
theorem i_split {b:Bool} {P Q:Prop} (x:b=true->P) (y:b=false->Q):if b then P else Q:=by cases b; exact y rfl; exact x rfl
theorem pb_ret {P:PR3} {l:Loc} {mem:List (Addr × AO)} {a:AV} (h:P a [] []):PB3 [] P (.ret a) l mem:=⟨[], [],List.nil_sublist _,rfl,h⟩
noncomputable def VC (env:Env):List (Str × AV)->Prop
 | []=>True
 | p :: r=>Zj env p.1/\VC env r
theorem VC.get {env:Env}:∀ {l:List (Str × AV)},VC env l->∀ x ∈ l.map (·.1),Zj env x
 | [],_,_,h=>nomatch h
 | p :: r,h,x,hx=>by
  rw [To] at hx;rcases Ur.mp hx with rfl | hx
  ·exact h.1
  ·exact h.2.get x hx
theorem fn_go {d u:Nat} {K:Frag} {fa:Addr} {oc:Value} {od:Option Addr} {osl:Array (Option Value)} {name qual:Str} {params:Arguments} {body:List Stmt} {scope:Scope} {dV kV doc pm cdv ct:Value} {an:Option Addr}
  {as:List AV} {ks:List (Str × AV)} {mem:List (Addr × AO)} {P:PR3} (hB:B.K=K) (D:Option (Arguments × List Stmt × Scope)) (bs:List (Str × AV)) (hst:D=some (params,body,scope))
  (hK:K.lookup fa=some ⟨oc,od, .func (fnX name qual params body scope [] dV kV doc pm an cdv ct),osl⟩) (hcd:codeIn K cdv qual=true) (hd:d+1 < recursionLimit)
  (hbind:∀ F vs kvs,RVs F vs as->KR F kvs ks->∃ binds,(∀ S,peek K S (bindArgs (fnX name qual params body scope [] dV kV doc pm an cdv ct) ⟨vs,kvs⟩)=some binds)/\KR F binds bs)
  (hsb:∀ L,VC (envF qual scope L fa cdv []) bs)
  (hco:scope.isCoroutine=false) (hgen:scope.isGenerator=false) (hk:scope.kind=.function) (hsub:Sub bs (YE [] bs))
  (hb:∀ L,WB prog w B (d+1) (u+3) (envF qual scope L fa cdv []) bs mem body (PB3 mem P)) :
  FN prog w B d u (.ref fa) as ks mem P:=by
 subst hB;exact fn_def bs hK hcd hd hbind (λL=>(hsb L).get) hco hgen hk λL=>b_sub hsub (hb L)
theorem bf_len:bootBuiltins "len" = some (.builtin "len"):=by decide +kernel
theorem bf_range:bootBuiltins "range" = some (.type "range"):=by decide +kernel
theorem bf_hex:bootBuiltins "hex" = some (.builtin "hex"):=by decide +kernel
theorem bf_next:bootBuiltins "next" = some (.builtin "next"):=by decide +kernel
theorem bf_str:bootBuiltins "str" = some (.type "str"):=by decide +kernel
theorem bf_super:bootBuiltins "super" = some (.type "super"):=by decide +kernel
theorem bf_sum:bootBuiltins "sum" = some (.builtin "sum"):=by decide +kernel
theorem bf_enum:bootBuiltins "enumerate" = some (.type "enumerate"):=by decide +kernel
theorem bf_iter:bootBuiltins "iter" = some (.builtin "iter"):=by decide +kernel
theorem bf_sorted:bootBuiltins "sorted" = some (.builtin "sorted"):=by decide +kernel
theorem bf_set:bootBuiltins "set" = some (.type "set"):=by decide +kernel
theorem bf_list:bootBuiltins "list" = some (.type "list"):=by decide +kernel
theorem bf_stop:bootBuiltins "StopIteration" = some (.type "StopIteration"):=by decide +kernel
section
variable {d u:Nat} {env:Env} {loc:Loc} {mem:List (Addr × AO)}
theorem x_loc (a:AV) {x:Str} {pos:Pos} {Q:PE} (hk:env.kindOf x=some .local) (hl:loc.lookup x=some a) (hd:(x == ("__debug__" : Str))=false) (h:Q a mem):WE prog w B d u env loc mem (.Name x pos) Q:=e_loc hk hl h hd
theorem x_cell (a:AV) {x:Str} {pos:Pos} {Q:PE} (hk:env.kindOf x=some .cell) (hl:loc.lookup x=some a) (hd:(x == ("__debug__" : Str))=false) (h:Q a mem):WE prog w B d u env loc mem (.Name x pos) Q:=e_cell hk hl h hd
theorem x_free (a:AV) {x:Str} {pos:Pos} {Q:PE} (hk:env.kindOf x=some .free) (hl:loc.lookup x=some a) (hd:(x == ("__debug__" : Str))=false) (hc:(x == ("__classdict__" : Str))=false) (h:Q a mem):WE prog w B d u env loc mem (.Name x pos) Q:=e_free hk hl h hd hc
theorem x_globS (K:Frag) (v:Str) (tk:Tok) {x:Str} {pos:Pos} {Q:PE} (hB:B.K=K) (hk:env.kindOf x=some .globalImplicit) (hv:nsIn K mainGlobals x=some (some (.str v tk))) (hd:(x == ("__debug__" : Str))=false) (h:Q (.str v) mem):WE prog w B d u env loc mem (.Name x pos) Q :=
 e_globS hk (hB ▸ hv) h hd
theorem x_glob (K:Frag) (v:Value) {x:Str} {pos:Pos} {Q:PE} (hB:B.K=K) (hk:env.kindOf x=some .globalImplicit) (hv:nsIn K mainGlobals x=some (some v)) (hd:(x == ("__debug__" : Str))=false) (h:Q (.raw v) mem):WE prog w B d u env loc mem (.Name x pos) Q :=
 e_glob hk (hB ▸ hv) h hd
theorem x_builtin (K:Frag) (v:Value) {x:Str} {pos:Pos} {Q:PE} (hB:B.K=K) (hk:env.kindOf x=some .globalImplicit) (hv:nsIn K mainGlobals x=some none) (hb:bootBuiltins x=some v) (hn:(x == ("__name__" : Str))=false) (hd:(x == ("__debug__" : Str))=false) (h:Q (.raw v) mem) :
  WE prog w B d u env loc mem (.Name x pos) Q:=e_builtin hk (hB ▸ hv) hb (by simpa using hn) h hd
theorem x_aug (a:AV) {x:Str} {p:Pos} {op:Operator} {e:Expr} {pos:Pos} {Q:PF} (hx:Zj env x) (hl:loc.lookup x=some a)
  (h:WE prog w B d u env loc mem e λb mem1=>Ex1 (VO2 prog w B d u (inplaceOp op) a b) λc=>Q .next (setL x c loc) mem1) :
  WS prog w B d u env loc mem (.AugAssign (.Name x p) op e pos) Q:=s_aug hx hl h
end
section
variable {d u:Nat}
theorem vo_is {f:Value->Value->Sem Value} {a b c c':AV} (h:VO2 prog w B d u f a b c) (e:c=c'):VO2 prog w B d u f a b c':=e ▸ h
theorem vs_nat {value slice:Expr} {xs:List AV} {k:Nat} {c:AV} (hk:k < 2 ^ 62) (hx:xs[k]?=some c)
  (hs:∀ (l:Addr) (u:Tok),subscripted slice false (.ref l) (.int k u)=operate [.ref l, .int k u] (getItem (.ref l) (.int k u))) :
  VO2 prog w B d u (subscriptTail value slice) (.lst xs) (.int k) c:=vs_list (U2 _) (by exact ar35 hk) (by simpa using hx) hs
theorem fdiv2 (lo hi:Nat):((lo:Int)+(hi:Int)).fdiv 2=(((lo+hi) / 2:Nat):Int):=by
 rw [Int.fdiv_eq_ediv_of_nonneg _ (by decide)]; exact Eq.symm (Nat.ToInt.div_congr rfl rfl)
end
end
section
open PySem PySem.W PyProof.Rows PySem.Calls
structure Hid (B:Base) (E:Ent) (F:FM) (env:Env) (mem:List (Addr × AO)) (a:Addr):Prop where
 he:E.he.get? a=none
 mu:a ∉ E.muts
 f:F a=none
 fp:a ∉ fp env mem
 n:B.n<=a
section
variable {E:Ent} {F F':FM} {env cenv:Env} {loc loc' cloc cloc':Loc} {tmp tmp':List (Value × AV)} {mem mem':List (Addr × AO)} {s s':Shared} {h':Heap} {tk:Nat}
theorem Hid.tab {a:Addr} (H:Hid B E F env mem a) (I:Inv B s):a ∉ B.tabs:=λh=>Th.mpr H.n (I.ok.t0 a h).2.1
theorem Hid.new (R:Rel B E F env loc tmp mem s) {a:Addr} (ha:s.heap.objs.size<=a):Hid B E F env mem a:=by
 have hn:s.heap.get? a=none:=by
  cases q:s.heap.get? a with
  | none=>rfl
  | some o'=>exact absurd (Heap.lt_size q) (Th.mpr ha)
 have hm:a ∉ E.muts:=λhm=>by obtain ⟨o,e⟩:=R.mex a hm; rw [hn] at e; exact Z6 e
 have ht:a ∉ B.tabs:=λht=>by obtain ⟨vs,e⟩:=R.inv.tb a ht; rw [hn] at e; exact Z6 e
 refine ⟨ZP R hn hm ht,hm,?_,λh=>?_,Uc R.size_le ha⟩
 ·cases q:F a with
  | none=>rfl
  | some o=>have:=R.le _ _ q; rw [hn] at this; exact Z6 this
 ·obtain ⟨o,e⟩:=R.exAt a h; rw [hn] at e; exact Z6 e
theorem Rel.hid (R:Rel B E F env loc tmp mem s) {wr:List Addr} (hw:∀ b ∈ wr,Hid B E F env mem b) (k:∀ b o,b ∉ wr->s.heap.get? b=some o->h'.get? b=some o) :
  Rel B E F env loc tmp mem { s with heap:=h',toks:=tk } where
 inv:=⟨R.inv.ok,λb o e hb=>k _ _ (λq=>by
   have:=Heap.lt_size e;rw [R.inv.ok.size] at this
   exact Th.mpr (hw b q).n this) (R.inv.keep b o e hb),λP hP=>by obtain ⟨vs,e⟩:=R.inv.tb P hP; exact ⟨vs,k _ _ (λq=>(hw P q).tab R.inv hP) e⟩,R.inv.os,R.inv.gens⟩
 keep:=λb o e h1 h2=>k _ _ (λq=>by have:=(hw b q).he; rw [e] at this; exact no_sn this) (R.keep b o e h1 h2)
 sub:=R.sub
 le:=λa o e=>k _ _ (λq=>by have:=(hw a q).f; rw [e] at this; exact no_sn this) (R.le a o e)
 fresh:=R.fresh
 fr:=R.fr.keepsOn (λb o hb e=>k b o (λq=>(hw b q).fp (by
  rcases hb with rfl | hb
  ·exact .head _
  ·exact .tail _ (Ue.mpr (.inl hb)))) e) (.refl _)
 tv:=R.tv
 mr:=λp hp=>(R.mr p hp).keepsOn (λb hb ob e=>k b ob (λq=>(hw b q).fp (.tail _ (Ue.mpr (.inr (U4.mpr ⟨p,hp,hb⟩))))) e) (.refl _)
 nd:=R.nd
 off:=R.off
 offT:=R.offT
 mex:=λa ha=>by obtain ⟨o,e⟩:=R.mex a ha; exact ⟨o,k _ _ (λq=>(hw a q).mu ha) e⟩
 tf:=R.tf.keeps (λP hP o e=>k _ _ (λq=>(hw P q).tab R.inv hP) e) (.refl _)
theorem Rel.rebase (R:Rel B E F env loc tmp mem s):Rel B ⟨s.heap,F,fp env mem⟩ F env loc tmp mem s :=
 { R with
  keep:=λb o e _ _=>e
  sub:=.refl F
  fresh:=λa o e=>.inl e
  off:=λa ha=>⟨(R.off a ha).1,(R.off a ha).2.1, .inr ha⟩
  mex:=R.exAt }
theorem Rel.back (R:Rel B E F env loc tmp mem s) (R':Rel B ⟨s.heap,F,Mine.fp env mem⟩ F' env loc' tmp' mem' s'):Rel B E F' env loc' tmp' mem' s' where
 inv:=R'.inv
 keep:=λb o e h1 h2=>R'.keep b o (R.keep b o e h1 h2) h1 λq=>by
  rcases (R.off b q).2.2 with z | z
  ·rw [e] at z; exact no_sn z
  ·exact h2 z
 sub:=R.sub.trans R'.sub
 le:=R'.le
 fresh:=λa o e=>by
  rcases R'.fresh a o e with q | q
  ·exact R.fresh a o q
  ·exact .inr (ZP R q (λhm=>by obtain ⟨o,e⟩:=R.mex a hm; rw [show s.heap.get? a=none from q] at e; exact Z6 e) (R'.offT a o e))
 fr:=R'.fr
 tv:=R'.tv
 mr:=R'.mr
 nd:=R'.nd
 off:=λa ha=>by
  obtain ⟨h1,h2,h3⟩:=R'.off a ha;refine ⟨h1,h2,?_⟩;rcases h3 with q | q
  ·exact .inl (ZP R q (λhm=>by obtain ⟨o,e⟩:=R.mex a hm; rw [show s.heap.get? a=none from q] at e; exact Z6 e) λht=>by
    obtain ⟨vs,e⟩:=R.inv.tb a ht; rw [show s.heap.get? a=none from q] at e; exact Z6 e)
  ·exact (R.off a q).2.2
 offT:=R'.offT
 mex:=λa ha=>by
  obtain ⟨o,e⟩:=R.mex a ha
  by_cases q:a ∈ Mine.fp env mem
  ·exact R'.mex a q
  ·by_cases t:a ∈ B.tabs
   ·obtain ⟨vs,e⟩:=R'.inv.tb a t;exact ⟨_,e⟩
   ·exact ⟨o,R'.keep a o e t q⟩
 tf:=R'.tf
theorem Hid.back {a:Addr} {o:Obj} (H:Hid B E F env mem a) (R:Rel B E F env loc tmp mem s) (ho:s.heap.get? a=some o) (hc:a ∉ Mine.fp cenv mem)
  (R':Rel B ⟨s.heap,F,Mine.fp cenv mem⟩ F' cenv loc' tmp' mem' s'):Hid B E F' env mem' a/\s'.heap.get? a=some o:=by
 refine ⟨⟨H.he,H.mu,?_,λh=>?_,H.n⟩,R'.keep a o ho (H.tab R.inv) hc⟩
 ·cases q:F' a with
  | none=>rfl
  | some o' =>
   rcases R'.fresh a o' q with z | z
   ·have z:F a=some o':=z;rw [H.f] at z; exact Z6 z
   ·rw [show s.heap.get? a=none from z] at ho; exact Z6 ho
 ·rcases Ur.mp h with h | h
  ·exact H.fp (h ▸ .head _)
  ·rcases Ue.mp h with h | h
   ·exact H.fp (.tail _ (Ue.mpr (.inl h)))
   ·rcases (R'.off a (.tail _ (Ue.mpr (.inr h)))).2.2 with z | z
    ·rw [show s.heap.get? a=none from z] at ho; exact Z6 ho
    ·exact hc z
noncomputable def Kept (B:Base) (cenv:Env) (X:List Addr) (F:FM) (mem:List (Addr × AO)) (h:Heap) (F':FM) (mem':List (Addr × AO)) (h':Heap):Prop :=
 ∀ b o,b ∉ Mine.fp cenv mem->b ∉ X->b ∉ B.tabs->h.get? b=some o->h'.get? b=some o/\b ∉ Mine.fp cenv mem'/\(F b=none->F' b=none)
theorem Kept.refl {X:List Addr} {h:Heap}:Kept B cenv X F mem h F mem h:=λb o h1 _ _ e=>⟨e,h1,id⟩
theorem Kept.trans {X:List Addr} {F1:FM} {m1:List (Addr × AO)} {h h₁ h₂:Heap} (x:Kept B cenv X F mem h F1 m1 h₁) (y:Kept B cenv X F1 m1 h₁ F' mem' h₂):Kept B cenv X F mem h F' mem' h₂:=λb o h1 h2 h3 e =>
 let ⟨e1,n1,f1⟩:=x b o h1 h2 h3 e; let ⟨e2,n2,f2⟩:=y b o n1 h2 h3 e1; ⟨e2,n2,f2 ∘ f1⟩
theorem Kept.more {X Y:List Addr} {h h₁:Heap} (x:Kept B cenv X F mem h F' mem' h₁) (k:∀ a ∈ X,a ∈ Y):Kept B cenv Y F mem h F' mem' h₁:=λb o h1 h2 h3 e=>x b o h1 (λq=>h2 (k b q)) h3 e
theorem Kept.run {X:List Addr} (R:Rel B E F cenv loc tmp mem s) (R':Rel B ⟨s.heap,F,Mine.fp cenv mem⟩ F' cenv loc' tmp' mem' s'):Kept B cenv X F mem s.heap F' mem' s'.heap:=λb o h1 _ h3 e=>by
 refine ⟨R'.keep b o e h3 h1,λhm=>?_,λhf=>?_⟩
 ·rcases (R'.off b hm).2.2 with z | z
  ·rw [show s.heap.get? b=none from z] at e; exact Z6 e
  ·exact h1 z
 ·cases q:F' b with
  | none=>rfl
  | some o' =>
   rcases R'.fresh b o' q with z | z
   ·have z:F b=some o':=z;rw [hf] at z; exact Z6 z
   ·rw [show s.heap.get? b=none from z] at e; exact Z6 e
theorem Kept.heap {X:List Addr} {h h₁:Heap} (k:∀ b o,b ∉ X->h.get? b=some o->h₁.get? b=some o) (kF:∀ b o,F' b=some o->F b=some o\/h.get? b=none):Kept B cenv X F mem h F' mem h₁:=λb o h1 h2 h3 e =>
 ⟨k b o h2 e,h1,λhf=>by
  cases q:F' b with
  | none=>rfl
  | some o' =>
   rcases kF b o' q with z | z
   ·rw [hf] at z; exact Z6 z
   ·rw [z] at e; cases e⟩
theorem Hid.kept {X:List Addr} {a:Addr} {h':Heap} (H:Hid B E F cenv mem a) (I:Inv B s) (hx:∃ o,s.heap.get? a=some o) (ha:a ∉ X) (k:Kept B cenv X F mem s.heap F' mem' h'):Hid B E F' cenv mem' a/\∀ o,s.heap.get? a=some o->h'.get? a=some o:=by
 obtain ⟨o,e⟩:=hx;obtain ⟨e1,n1,f1⟩:=k a o H.fp ha (H.tab I) e;exact ⟨⟨H.he,H.mu,f1 H.f,n1,H.n⟩,λo' e'=>by rw [e] at e'; obtain rfl:=Up.inj e'; exact e1⟩
theorem Rel.inside (R:Rel B E F env loc tmp mem s) (fr:XE B cenv F cloc s.heap) (hx:∀ a ∈ cenv.locals :: own cenv,Hid B E F env mem a\/a ∈ own env) (nd:(cenv.locals :: own cenv).Nodup) :
  Rel B E F cenv cloc tmp mem s:=by
 have n0:=R.nd;have pn:(Z1 mem).Nodup:=by unfold Mine.fp at n0; exact (Uy.mp (U3.mp n0).2).2.1
 have hp:∀ a ∈ cenv.locals :: own cenv,a ∉ Z1 mem:=λa ha hm=>by
  rcases hx a ha with H | H
  ·exact H.fp (.tail _ (Ue.mpr (.inr hm)))
  ·exact YJ R a H hm
 exact { R with
  fr:=fr
  nd:=by
   show (cenv.locals :: (own cenv++Z1 mem)).Nodup;have n1:=U3.mp nd;refine U3.mpr ⟨λh=>?_,Uy.mpr ⟨n1.2,pn,λa ha b hb e=>hp a (.tail _ ha) (e ▸ hb)⟩⟩;rcases Ue.mp h with h | h
   ·exact n1.1 h
   ·exact hp _ (.head _) h
  off:=λa ha=>by
   have key:∀ b ∈ cenv.locals :: own cenv,F b=none/\B.n<=b/\(E.he.get? b=none\/b ∈ E.muts):=λb hb=>by
    rcases hx b hb with H | H
    ·exact ⟨H.f,H.n, .inl H.he⟩
    ·exact R.off b (.tail _ (Ue.mpr (.inl H)))
   rcases Ur.mp ha with rfl | ha
   ·exact key _ (.head _)
   ·rcases Ue.mp ha with ha | ha
    ·exact key _ (.tail _ ha)
    ·exact R.off a (.tail _ (Ue.mpr (.inr ha))) }
theorem Rel.outside {X:List Addr} (R:Rel B E F env loc tmp mem s) (hx:∀ a ∈ cenv.locals :: own cenv,Hid B E F env mem a\/a ∈ own env)
  (hl:cenv.locals ∉ own env) (hX:∀ a ∈ X,a ∉ Mine.fp env mem)
  (hc:∀ x a c,env.kindOf x=some .cell->loc.lookup x=some a->env.cells.lookup x=some c->c ∈ own cenv->cenv.kindOf x=some .cell/\cenv.cells.lookup x=some c/\cloc'.lookup x=some a)
  (R':Rel B E F' cenv cloc' tmp' mem' s') (kp:Kept B cenv X F mem s.heap F' mem' s'.heap) (kF:F.le F'):Rel B E F' env loc tmp mem' s':=by
 have n0:=R.nd
 have out:∀ a,a=env.locals\/(a ∈ own env/\a ∉ own cenv)->a ∉ Mine.fp cenv mem:=λa ha h=>by
  have haf:a ∈ Mine.fp env mem:=by
   rcases ha with rfl | ha
   ·exact .head _
   ·exact .tail _ (Ue.mpr (.inl ha.1))
  have hap:a ∉ Z1 mem:=by
   rcases ha with rfl | ha
   ·exact (ZE R).2
   ·exact YJ R a ha.1
  rcases Ur.mp h with rfl | h
  ·rcases hx _ (.head _) with H | H
   ·exact H.fp haf
   ·exact hl H
  ·rcases Ue.mp h with h | h
   ·rcases ha with rfl | ha
    ·rcases hx _ (.tail _ h) with H | H
     ·exact H.fp haf
     ·exact (ZE R).1 H
    ·exact ha.2 h
   ·exact hap h
 have inE:∀ a,a=env.locals\/a ∈ own env->a ∈ Mine.fp env mem:=λa ha=>by
  rcases ha with rfl | ha
  ·exact .head _
  ·exact .tail _ (Ue.mpr (.inl ha))
 have key:∀ a,a=env.locals\/(a ∈ own env/\a ∉ own cenv)->∀ o,s.heap.get? a=some o->s'.heap.get? a=some o/\a ∉ Mine.fp cenv mem'/\F' a=none:=λa ha o e=>by
  have hf:=inE a (ha.imp id And.left);obtain ⟨e1,n1,f1⟩:=kp a o (out a ha) (λq=>hX a q hf) (R.lowT a hf) e;exact ⟨e1,n1,f1 (R.off a hf).1⟩
 have notPl:∀ a,a=env.locals\/a ∈ own env->a ∉ Z1 mem'/\F' a=none:=λa ha=>by
  obtain ⟨o,e⟩:=R.exAt a (inE a ha)
  by_cases q:a ∈ own cenv
  ·exact ⟨YJ R' a q,(R'.off a (.tail _ (Ue.mpr (.inl q)))).1⟩
  ·obtain ⟨_,n1,f1⟩:=key a (ha.imp id λh=>⟨h,q⟩) o e;exact ⟨λh=>n1 (.tail _ (Ue.mpr (.inr h))),f1⟩
 exact { R' with
  fr:={
   kind:=R.fr.kind
   glob:=R.fr.glob
   blt:=R.fr.blt
   ns:=by
    obtain ⟨m,⟨o,es,ep,e,r1⟩,r⟩:=R.fr.ns;exact ⟨m,⟨o,es,ep,(key _ (.inl rfl) _ e).1,r1⟩,λy av hk hl=>by obtain ⟨v,e1,e2⟩:=r y av hk hl; exact ⟨v,e1,e2.mono kF⟩⟩
   cl:=λx a hk hl=>by
    obtain ⟨c,v,e1,⟨o,e2,e3⟩,e4⟩:=R.fr.cl x a hk hl;have hco:c ∈ own env:=Y9 hk (Z7 e1)
    by_cases q:c ∈ own cenv
    ·obtain ⟨z1,z2,z3⟩:=hc x a c hk hl e1 q;obtain ⟨c',v',y1,y2,y3⟩:=R'.fr.cl x a z1 z3;rw [z2] at y1; obtain rfl:=Up.inj y1;exact ⟨c,v',e1,y2,y3⟩
    ·exact ⟨c,v,e1,⟨o,(key c (.inr ⟨hco,q⟩) o e2).1,e3⟩,e4.mono kF⟩
   fz:=λx a hk hl=>by obtain ⟨c,v,o,e1,e2,e3,e4⟩:=R.fr.fz x a hk hl; exact ⟨c,v,o,e1,e2.imp_left (kF _ _),e3,e4.mono kF⟩
   ex:=λc hco=>by
    by_cases q:c ∈ own cenv
    ·exact R'.fr.ex c q
    ·obtain ⟨v,o,e2,e3⟩:=R.fr.ex c hco
     exact ⟨v,o,(key c (.inr ⟨hco,q⟩) o e2).1,e3⟩ }
  tv:=λp hp=>(R.tv p hp).mono kF
  nd:=by
   have n1:=U3.mp n0;have nr:=U3.mp R'.nd;refine U3.mpr ⟨λh=>?_,Uy.mpr ⟨(Uy.mp n1.2).1,(Uy.mp nr.2).2.1,λa ha b hb e=>(notPl a (.inr ha)).1 (e ▸ hb)⟩⟩;rcases Ue.mp h with h | h
   ·exact n1.1 (Ue.mpr (.inl h))
   ·exact (notPl _ (.inl rfl)).1 h
  off:=λa ha=>by
   rcases Ur.mp ha with rfl | ha
   ·have h:=R.off _ (inE _ (.inl rfl)); exact ⟨(notPl _ (.inl rfl)).2,h.2.1,h.2.2⟩
   ·rcases Ue.mp ha with ha | ha
    ·have h:=R.off _ (inE _ (.inr ha)); exact ⟨(notPl _ (.inr ha)).2,h.2.1,h.2.2⟩
    ·exact R'.off a (.tail _ (Ue.mpr (.inr ha))) }
end
end
section
open PySem PySem.W PyProof.Rows PySem.Calls
inductive PoN (B:Base) (E:Ent) (F:FM) (env:Env) (loc:Loc) (tmp:List (Value × AV)) (mem:List (Addr × AO)) (wr:List Addr) (St:FM->Heap->Prop) (a:AV) (v:Value) (h:Heap) (x:Unit) (s':Shared):Prop where
 | mk (F':FM) (k:F.le F') (r:RV F' v a) (R:Rel B E F' env loc tmp mem s') (st:St F' s'.heap) (hw:∀ b ∈ wr,Hid B E F' env mem b) (kk:∀ b o,b ∉ wr->h.get? b=some o->s'.heap.get? b=some o) (kF:∀ b o,F' b=some o->F b=some o\/h.get? b=none)
structure Mach (prog:Program) (w:World) (B:Base) (I:Addr) (wr:List Addr) (St:Nat->FM->Heap->Prop) (M:List (Addr × AO)->Prop) (xs:List AV) (target:Expr):Prop where
 stable:∀ i F F' h h',St i F h->F.le F'->(∀ b ∈ wr,∀ o,h.get? b=some o->h'.get? b=some o)->St i F' h'
 ex:∀ i F h,St i F h->∀ b ∈ wr,∃ o,h.get? b=some o
 self:∀ i A F s (Q:Value->Shared->Prop) (Er:Value->Shared->Prop),A.handled=none->St i F s.heap->Q (.ref I) s->wpAny (model prog w) A (pyIter (.ref I)) Q Er s
 item:∀ i a A E F env loc tmp mem s,xs[i]?=some a->A.handled=none->Rel B E F env loc tmp mem s->M mem->St i F s.heap->(∀ b ∈ wr,Hid B E F env mem b) ->
  wpAny (model prog w) A (pyNext (.ref I)) (λr s'=>∃ v,r=some v/\wpAny (model prog w) A (letOwnedTupleGo target (.ref I) v) (PoN B E F env loc tmp mem wr (St (i+1)) a v s.heap) FF s') FF s
 done:∀ A E F env loc tmp mem s,A.handled=none->Rel B E F env loc tmp mem s->M mem->St xs.length F s.heap->(∀ b ∈ wr,Hid B E F env mem b) ->
  wpAny (model prog w) A (pyNext (.ref I)) (λr s'=>r=none/\Rel B E F env loc tmp mem s'/\∀ b o,b ∉ wr->s.heap.get? b=some o->s'.heap.get? b=some o) FF s
theorem Z12 {I:Addr} {wr:List Addr} {n:Nat} {P:Nat->Value->Prop} {St:Nat->Heap->Prop} {xs:List AV} {target:Expr} (W:∀ A:Around,A.handled=none->Walks prog w A I wr wr n P St) (hn:xs.length=n)
  (hP:∀ i v F a,P i v->xs[i]?=some a->RV F v a) (hex:∀ i h,St i h->∀ b ∈ wr,∃ o,h.get? b=some o) (ht:∀ it v,letOwnedTupleGo target it v=pure ()) (h0:∃ A:Around,A.handled=none) :
  Mach prog w B I wr (λi _ h=>St i h) (λ_=>True) xs target where
 stable:=λi F F' h h' st _ k=>by obtain ⟨A,hA⟩:=h0; exact (W A hA).frame i h h' st k
 ex:=λi F h st=>hex i h st
 self:=λi A F s Q Er hA st q=>(W A hA).self i s Q Er st q
 item:=λi a A E F env loc tmp mem s hi hA R _ st hw=>by
  have hlt:i < n:=by rw [<- hn]; exact (Un.mp hi).1
  refine (W A hA).item i s _ _ hlt st λv h' tk hp st' k=>⟨v,rfl,wpAny_of_eq (ht _ _) ⟨F, .refl F,hP i v F a hp hi,R.hid hw k,st',hw,k,λb o e=>.inl e⟩⟩
 done:=λA E F env loc tmp mem s hA R _ st hw=>(W A hA).done s _ _ (hn ▸ st) λh' tk k=>⟨rfl,R.hid hw k,k⟩
structure LSrc (B:Base) (a:AV) (M:List (Addr × AO)->Prop) (xs:List AV):Prop where
 get:∀ {E F env loc tmp mem s v},Rel B E F env loc tmp mem s->M mem->RV F v a->∃ ax vs n,v=.ref ax/\s.heap.get? ax=some { cls:=.type "list", data:=.seq vs.toArray n }/\RVs F vs xs/\((F ax).isSome=true\/ax ∈ Z1 mem)
theorem Zk {xs:List AV}:LSrc B (.lst xs) (λ_=>True) xs:=⟨λR _ r=>by cases r with | lst a vs _ n h r=>exact ⟨a,vs,n,rfl,R.le _ _ h,r, .inl (by rw [h]; rfl)⟩⟩
theorem lsrc_mem {a:Addr} {xs:List AV}:LSrc B (.raw (.ref a)) (λmem=>(a,AO.list xs) ∈ mem) xs:=⟨λR hm r=>by
 obtain rfl:=r.isRaw;obtain ⟨vs,n,e,r⟩:=R.mr _ hm
 exact ⟨a,vs,n,rfl,e,r, .inr (U4.mpr ⟨_,hm,by simp [AO.places]⟩)⟩⟩
theorem mach_list {a:AV} {M:List (Addr × AO)->Prop} {xs:List AV} {target:Expr} {I ax:Addr} (S:LSrc B a M xs) :
  Mach prog w B I [I] (λi F h=>h.IsListIter I ax i/\RV F (.ref ax) a) M xs target where
 stable:=λi F F' h h' st kF k=>⟨st.1.at λo e=>k I (by simp) o e,st.2.mono kF⟩
 ex:=λi F h st b hb=>by rw [Uj.mp hb]; obtain ⟨o,e,_⟩:=st.1; exact ⟨o,e⟩
 self:=λi A F s Q Er hA st q=>wpAny_pyIter_listiter st.1 q
 item:=λi b A E F env loc tmp mem s hi hA R hM st hw=>by
  obtain ⟨ax',vs,n,e,he,r,_⟩:=S.get R hM st.2
  cases e
  obtain ⟨v,e1,e2⟩:=r.get hi;have hl:s.heap.IsList ax vs.toArray:=⟨_,he,rfl,n,rfl⟩;refine wpAny_pyNext_list_item st.1 hl (x:=v) (by simpa using e1) λh' hit' hs'=>⟨v,rfl,letGo_listiter hit' ?_⟩
  have k:∀ b o,b ∉ [I]->s.heap.get? b=some o->h'.get? b=some o:=λb o hb e=>hs'.extBut b o (λq=>hb (by simp [q])) e;exact ⟨F, .refl F,e2,R.hid hw k,⟨hit',st.2⟩,hw,k,λb o e=>.inl e⟩
 done:=λA E F env loc tmp mem s hA R hM st hw=>by
  obtain ⟨ax',vs,n,e,he,r,_⟩:=S.get R hM st.2
  cases e
  have hl:s.heap.IsList ax vs.toArray:=⟨_,he,rfl,n,rfl⟩;refine wpAny_pyNext_list_end hA st.1 hl (by simp [r.length]) λh' he'=>⟨rfl,R.hid hw λb o hb e=>he' b o (λq=>hb (by simp [q])) e,λb o hb e=>he' b o (λq=>hb (by simp [q])) e⟩
section
variable {d u:Nat} {env:Env} {loc:Loc} {mem:List (Addr × AO)}
noncomputable abbrev PI:=(List (Addr × AO)->Prop)->List AV->List (Addr × AO)->Prop
inductive PoI (prog:Program) (w:World) (B:Base) (E:Ent) (F:FM) (env:Env) (loc:Loc) (tmp:List (Value × AV)) (target:Expr) (Q:PI) (it:Value) (s':Shared):Prop where
 | mk (I:Addr) (wr:List Addr) (St:Nat->FM->Heap->Prop) (M:List (Addr × AO)->Prop) (xs:List AV) (mem':List (Addr × AO)) (F':FM) (e:it=.ref I) (mc:Mach prog w B I wr St M xs target) (k:F.le F')
  (R:Rel B E F' env loc tmp mem' s') (st:St 0 F' s'.heap) (hw:∀ b ∈ wr,Hid B E F' env mem' b) (q:Q M xs mem')
noncomputable def WI (prog:Program) (w:World) (B:Base) (d u:Nat) (env:Env) (loc:Loc) (mem:List (Addr × AO)) (e target:Expr) (Q:PI):Prop :=
 ∀ A E F tmp s,AOK d u A->Rel B E F env loc tmp mem s ->
  wpAny (model prog w) A (eval e env) (λx s₁=>wpAny (model prog w) A (pyIter x) (PoI prog w B E F env loc tmp target Q) FF s₁) FF s
inductive SrcH (B:Base) (a:AV) (Q:PI) (m:List (Addr × AO)):Prop where
 | mk (M:List (Addr × AO)->Prop) (xs:List AV) (h:LSrc B a M xs) (hm:M m) (q:Q M xs m)
theorem Y3 {e target:Expr} {Q:PI} (h:WE prog w B d u env loc mem e λa mem1=>SrcH B a Q mem1):WI prog w B d u env loc mem e target Q:=λA E F tmp s hA R=>by
 refine Ud (h A E F tmp s hA R) (λv s₁ h₁=>?_) λ_ _ x=>x;obtain ⟨a,mem1,F1,k₁,R1,M,xs,S,hM,q⟩:=h₁;obtain ⟨ax,vs,n,e,he,r,_⟩:=S.get R1 hM R1.top;subst e;have hl:s₁.heap.IsList ax vs.toArray:=⟨_,he,rfl,n,rfl⟩;refine wpAny_pyIter_list hl ?_;have R₂:=R1.pop.ext (h':=s₁.heap.push { cls:=.type "list_iterator", data:=.fields #[.ref ax, .int 0 0] }) (tk:=s₁.toks) λ_ _ e=>Heap.get?_push_of_some _ e;refine ⟨s₁.heap.objs.size, [s₁.heap.objs.size],_,M,xs,mem1,F1,rfl,mach_list S,k₁,R₂,⟨⟨_,Heap.get?_push_size _ rfl,rfl,rfl⟩,R1.top⟩,λb hb=>?_,q⟩;rw [Uj.mp hb];exact Hid.new R1.pop (Ug _)
noncomputable def rngL (x c:Int) (n:Nat):List AV:=(Um n).map λi:Nat=>AV.int (x+(i:Int)*c)
noncomputable def rngAV (a b c:Int):AV:=.pred λF v=>∃ r t u x,v=.ref r/\F r=some { cls:=.type "range", data:=.fields #[.int a t, .int b u, .int c x] }
inductive RngH (a:AV) (Q:PI) (m:List (Addr × AO)):Prop where
 | mk (x y c:Int) (n:Nat) (e:a=rngAV x y c) (h:Builtin.Range.small x y c=true) (r:Builtin.Range.rangeSize x y c=((n:Nat):Int)) (q:Q (λ_=>True) (rngL x c n) m)
theorem ZK {e:Expr} {x:Str} {px:Pos} {Q:PI} (h:WE prog w B d u env loc mem e λa mem1=>RngH a Q mem1) :
  WI prog w B d u env loc mem e (.Name x px) Q:=λA E F tmp s hA R=>by
 refine Ud (h A E F tmp s hA R) (λv s₁ h₁=>?_) λ_ _ x=>x;obtain ⟨a,mem1,F1,k₁,R1,lo,hi,c,n,rfl,hsm,hn,q⟩:=h₁;have top:=R1.top;unfold rngAV at top
 cases top with
 | pred T _ hT =>
  obtain ⟨r,t,u',z,rfl,e⟩:=hT F1 (.refl F1);refine wpAny_pyIter_range (R1.le _ _ e) hsm ?_;have R₂:=R1.pop.ext (h':=s₁.heap.push { cls:=.type "range_iterator", data:=.fields #[rawInt lo,rawInt (Builtin.Range.rangeSize lo hi c),rawInt c] }) (tk:=s₁.toks) λ_ _ e=>Heap.get?_push_of_some _ e;refine ⟨s₁.heap.objs.size, [s₁.heap.objs.size],_,λ_=>True,rngL lo c n,mem1,F1,rfl,Z12 (W:=λA hA=>(Walks.range hA s₁.heap.objs.size lo c n).bound) (by simp [rngL]) (λi v F a hp hi=>?_) (λi h st b hb=>?_) (λ_ _=>rfl) ⟨A,hA.hd⟩,k₁,R₂,?_,λb hb=>?_,q⟩
  ·obtain ⟨hlt,t,rfl⟩:=hp;simp [rngL,hlt] at hi;subst hi;exact .int _ _
  ·rw [Uj.mp hb]; exact ⟨_,st⟩
  ·show IsRangeIter _ _ _ _ _;rw [hn]; simpa using Heap.get?_push_size _ rfl
  ·rw [Uj.mp hb];exact Hid.new R1.pop (Ug _)
theorem i_str {e:Expr} {x:Str} {px:Pos} {Q:PI} (h:WE prog w B d u env loc mem e λa mem1=>∃ y:Str,a=.str y/\Q (λ_=>True) (y.cps.toList.map λc=>AV.str ⟨#[c]⟩) mem1) :
  WI prog w B d u env loc mem e (.Name x px) Q:=λA E F tmp s hA R=>by
 refine Ud (h A E F tmp s hA R) (λv s₁ h₁=>?_) λ_ _ x=>x;obtain ⟨a,mem1,F1,k₁,R1,y,rfl,q⟩:=h₁;obtain ⟨t,rfl⟩:∃ t,v=.str y t:=by cases R1.top; exact ⟨_,rfl⟩
 have go:∀ (o:Obj) (T:Nat->Heap->Prop),(∀ A:Around,A.handled=none->Walks prog w A s₁.heap.objs.size [s₁.heap.objs.size] [s₁.heap.objs.size] y.cps.size (SignAt y) T)->T 0 (s₁.heap.push o)->(∀ i h,T i h->∃ o,h.get? s₁.heap.objs.size=some o) ->
   PoI prog w B E F env loc tmp (.Name x px) Q (.ref s₁.heap.objs.size) { s₁ with heap:=s₁.heap.push o }:=λo T W st hex=>by
  have R₂:=R1.pop.ext (h':=s₁.heap.push o) (tk:=s₁.toks) λ_ _ e=>Heap.get?_push_of_some _ e;refine ⟨_, [s₁.heap.objs.size],_,λ_=>True,y.cps.toList.map λc=>AV.str ⟨#[c]⟩,mem1,F1,rfl,Z12 W (by simp) (λi v F a hp hi=>?_) (λi h st b hb=>?_) (λ_ _=>rfl) ⟨A,hA.hd⟩,k₁,R₂,st,λb hb=>?_,q⟩
  ·obtain ⟨c,u',hc,rfl⟩:=hp;have hc':y.cps.toList[i]?=some c:=by simpa using hc
   rw [Ul,hc'] at hi;obtain rfl:=Up.inj hi;exact .str _ _
  ·rw [Uj.mp hb]; exact hex i h st
  ·rw [Uj.mp hb];exact Hid.new R1.pop (Ug _)
 cases ha:y.cps.all (· < 128)
 ·exact wpAny_pyIter_wide ha (go _ _ (λA hA=>Walks.strWide hA _ y t) ⟨_,Heap.get?_push_size _ rfl,rfl,rfl⟩ λi h st=>by obtain ⟨o,e,_⟩:=st; exact ⟨o,e⟩)
 ·exact wpAny_pyIter_ascii ha (go _ _ (λA hA=>Walks.strAscii hA _ y t) ⟨_,Heap.get?_push_size _ rfl,rfl,rfl⟩ λi h st=>by obtain ⟨o,e,_⟩:=st; exact ⟨o,e⟩)
end
end
section
open PySem PySem.W PyProof.Rows PySem.Calls
noncomputable def X7 (k:Nat):List AV->List AV
 | []=>[]
 | a :: r=>.tup [.int (k:Int),a] :: X7 (k+1) r
theorem XX:∀ (xs:List AV) (k i:Nat),(X7 k xs)[i]?=xs[i]?.map λa=>AV.tup [.int ((k+i:Nat):Int),a]
 | [],_,_=>rfl
 | a :: r,k,0=>by simp [X7]
 | a :: r,k,i+1=>by simp only [X7,List.getElem?_cons_succ]; rw [XX]; congr 2; funext a; congr 3; exact ar39
theorem Zx:∀ (xs:List AV) (k:Nat),(X7 k xs).length=xs.length
 | [],_=>rfl
 | _ :: r,k=>by simp [X7,Zx r]
theorem mach_enum {a:AV} {M:List (Addr × AO)->Prop} {xs:List AV} {elts:List Expr} {x1:Nat} {tp:Pos} {e it ax:Addr} (S:LSrc B a M xs) (hne:e≠it) :
  Mach prog w B e [e,it] (λi F h=>∃ old,IsEnum h e it ((i:Nat):Int) old/\h.IsListIter it ax i/\RV F (.ref ax) a) M (X7 0 xs) (.Tuple elts x1 tp) where
 stable:=λi F F' h h' ⟨old,h1,h2,h3⟩ kF k=>⟨old,k e (by simp) _ h1,h2.at λo e=>k it (by simp) o e,h3.mono kF⟩
 ex:=λi F h ⟨old,h1,h2,h3⟩ b hb=>by
  simp at hb;rcases hb with rfl | rfl
  ·exact ⟨_,h1⟩
  ·obtain ⟨o,e,_⟩:=h2; exact ⟨o,e⟩
 self:=λi A F s Q Er hA ⟨old,h1,h2,h3⟩ q=>wpAny_pyIter_enum h1 q
 item:=λi b A E F env loc tmp mem s hi hA R hM ⟨old,h1,h2,h3⟩ hw=>by
  obtain ⟨ax',vs,n,e0,he,r,hin⟩:=S.get R hM h3
  cases e0
  rw [XX] at hi;obtain ⟨c,hc,rfl⟩:=Ux.mp hi;obtain ⟨v,e1,e2⟩:=r.get hc;have hl:s.heap.IsList ax vs.toArray:=⟨_,he,rfl,n,rfl⟩;refine wpAny_pyNext_enum_item h1 h2 hl (x:=v) (by simpa using e1) hne λh₁ ho hit1 ht hz hk=>⟨_,rfl,wpAny_letOwnedTupleGo_enum ho λh₂ he2 hs₂=>?_⟩
  replace hs₂:Heap.SameBut e h₁ h₂:=hs₂;have elt:e < s.heap.objs.size:=Heap.lt_size h1;have ilt:it < s.heap.objs.size:=by obtain ⟨o,q,_⟩:=h2; exact Heap.lt_size q
  have ne:s.heap.objs.size≠e:=Nat.ne_of_gt elt;have hidD:Hid B E F env mem s.heap.objs.size:=Hid.new R (Ug _);have R₂:Rel B E F env loc tmp mem { s with heap:=h₂,toks:=s.toks+1 }:=R.hid hw λb o hb e0=>hs₂.extBut b o (λq=>hb (by simp [q])) (hk b o (λq=>hb (by simp [q])) (λq=>hb (by simp [q])) e0);have ht₂:h₂.get? s.heap.objs.size=some { cls:=.type "tuple", data:=.seq #[.int i s.toks,v] }:=(hs₂.2 _ ne).trans ht;have kF:=FM.set_le (o:={ cls:=.type "tuple", data:=.seq #[.int i s.toks,v] }) hidD.f
  have hw':∀ b ∈ [e,it],b≠s.heap.objs.size:=λb hb=>by
   simp at hb;rcases hb with rfl | rfl
   ·exact Ts elt
   ·exact Ts ilt
  refine ⟨_,kF, .tup _ [.int i s.toks,v] _ _ FM.set_same (.cons (by simpa using RV.int (F:=F.set _ _) (i:Int) s.toks) (.one (e2.mono kF))),?_,⟨v,he2,hit1.at λo q=>hs₂.extBut _ o (λq=>hne q.symm) q,h3.mono kF⟩,λb hb=>?_,
   λb o hb e0=>hs₂.extBut b o (λq=>hb (by simp [q])) (hk b o (λq=>hb (by simp [q])) (λq=>hb (by simp [q])) e0),λb o q=>?_⟩
  ·exact { R₂ with
    sub:=R.sub.trans kF
    le:=λb o q=>by
     unfold FM.set at q
     by_cases z:b=s.heap.objs.size
     ·subst z; rw [if_pos rfl] at q; obtain rfl:=Up.inj q; exact ht₂
     ·rw [if_neg z] at q; exact R₂.le b o q
    fresh:=λb o q=>by
     unfold FM.set at q
     by_cases z:b=s.heap.objs.size
     ·subst z; exact .inr hidD.he
     ·rw [if_neg z] at q; exact R.fresh b o q
    fr:=R₂.fr.keeps (λ_ _ e=>e) kF
    tv:=λp hp=>(R.tv p hp).mono kF
    mr:=λp hp=>(R₂.mr p hp).keeps (λ_ _ e=>e) kF
    off:=λb hb=>by
     obtain ⟨q1,q2,q3⟩:=R.off b hb;refine ⟨?_,q2,q3⟩;unfold FM.set;rw [if_neg ?_]; exact q1;rintro rfl;exact hidD.fp hb
    offT:=λb o q=>by
     unfold FM.set at q
     by_cases z:b=s.heap.objs.size
     ·subst z; exact hidD.tab R.inv
     ·rw [if_neg z] at q; exact R.offT b o q
    tf:=R₂.tf.keeps (λ_ _ _ e=>e) kF }
  ·have H:=hw b hb;refine ⟨H.he,H.mu,?_,H.fp,H.n⟩;unfold FM.set;rw [if_neg (hw' b hb)]; exact H.f
  ·unfold FM.set at q
   by_cases z:b=s.heap.objs.size
   ·subst z; exact .inr (Zy s.heap)
   ·rw [if_neg z] at q; exact .inl q
 done:=λA E F env loc tmp mem s hA R hM ⟨old,h1,h2,h3⟩ hw=>by
  obtain ⟨ax',vs,n,e0,he,r,hin⟩:=S.get R hM h3
  cases e0
  have hl:s.heap.IsList ax vs.toArray:=⟨_,he,rfl,n,rfl⟩;rw [Zx] at h1 h2;exact wpAny_pyNext_enum_end hA h1 h2 hl (by simp [r.length]) λh' he'=>⟨rfl,R.hid hw λb o hb e0=>he' b o (λq=>hb (by simp [q])) e0,λb o hb e0=>he' b o (λq=>hb (by simp [q])) e0⟩
section
variable {d u:Nat} {env:Env} {loc:Loc} {mem:List (Addr × AO)}
theorem Xo {x:Str} {p:Pos} {arg:Expr} {pos:Pos} {elts:List Expr} {x1:Nat} {tp:Pos} {Q:PI} (hst:∀ env,(backTo pos (starEach [arg] env)).any (·.1)=false) (he:∀ env,starEach [arg] env=(false,eval arg env) :: starEach [] env)
  (h:WE prog w B d u env loc mem (.Name x p) λf mem1=>f=.raw (.type "enumerate")/\WE prog w B d u env loc mem1 arg λa mem2=>SrcH B a (λM xs m=>Q M (X7 0 xs) m) mem2) :
  WI prog w B d u env loc mem (.Call (.Name x p) [arg] [] pos) (.Tuple elts x1 tp) Q:=λA E F tmp s hA R=>by
 show wpAny (model prog w) A (do callWith pos (<- eval (.Name x p) env) [] (backTo pos (starEach [arg] env)) (backToKw pos (keywordEach [] env))) _ _ s;refine Ua (Ud (h A E F tmp s hA R) (λv s₁ h₁=>?_) λ_ _ x=>x);obtain ⟨f,mem1,F1,k₁,R1,rfl,h₁⟩:=h₁;have hv:v=.type "enumerate" := R1.top.isRaw;subst hv
 have hWL:WL prog w B d u env loc mem1 [arg] λas mem2=>∃ a,as=[a]/\SrcH B a (λM xs m=>Q M (X7 0 xs) m) mem2 :=
  l_cons (WE.mono h₁ λa m z=>l_nil ⟨a,rfl,z⟩) (he env)
 refine Zt (hst env) rfl (Ud (hWL A E F1 tmp s₁ pos hA R1.pop) (λvs s2 h₂=>?_) λ_ _ x=>x);obtain ⟨as,mem2,F2,k₂,r₂,R₂,a,rfl,M,xs,S,hM,q⟩:=h₂;refine wpAny_evalAll_nil ⟨Vo,?_⟩;obtain ⟨v1,rfl,r⟩:=r₂.n1;obtain ⟨ax,vs,n,e,he',rv,_⟩:=S.get R₂ hM r;subst e;have hl:s2.heap.IsList ax vs.toArray:=⟨_,he',rfl,n,rfl⟩;refine call_enumerate_list hl λh' hE hI hz hk=>?_;refine wpAny_pyIter_enum hE ?_;have R3:=R₂.ext (h':=h') (tk:=s2.toks) hk;refine ⟨_, [s2.heap.objs.size+1,s2.heap.objs.size],_,M,_,mem2,F2,rfl,mach_enum S (by intro q; exact absurd q (Nat.succ_ne_self _)),k₁.trans k₂,R3,⟨.none,hE,hI,r⟩,λb hb=>?_,q⟩;refine Hid.new R₂ ?_;simp at hb;rcases hb with rfl | rfl
 ·exact Tr _
 ·exact Ug _
noncomputable def Asg (prog:Program) (w:World) (B:Base) (env:Env) (target:Expr) (a:AV) (loc loc':Loc):Prop :=
 ∀ A E F tmp mem s v,A.handled=none->RV F v a->Rel B E F env loc tmp mem s->wpAny (model prog w) A (assign target env v) (λ_ s'=>Rel B E F env loc' tmp mem s') FF s
theorem Z8 {x:Str} {p:Pos} {a:AV} (hx:Zj env x):Asg prog w B env (.Name x p) a loc (setL x a loc):=λA E F tmp mem s v hA hv R=>wpAny_assign_Name (Zu R hv hx)
theorem Y8 {x y:Str} {p q:Pos} {k:Nat} {tp:Pos} {a b:AV} (hx:Zj env x) (hy:Zj env y):Asg prog w B env (.Tuple [.Name x p, .Name y q] k tp) (.tup [a,b]) loc (setL y b (setL x a loc)):=λA E F tmp mem s v hA hv R=>by
 obtain ⟨t,vs,rfl,⟨o,ho,hc,n,hd⟩,r⟩:=hv.tup_at R.le;obtain ⟨v1,v2,rfl,r1,r2⟩:=r.n2;refine wpAny_assign_Tuple hA ⟨o,ho,hc,n,hd⟩ rfl rfl λh' hx'=>?_;have R':=R.ext (h':=h') (tk:=s.toks) λb o e=>hx' b o (Ts (Heap.lt_size e)) e;show wpAny _ A (do holding [v2] (assign (.Name x p) env v1); do holding [] (assign (.Name y q) env v2); pure ()) _ _ _;refine Ua (wpAny_holding (wpAny_assign_Name (Ud (Zu R' r1 hx) (λ_ s₁ R1=>?_) λ_ _ x=>x)));exact Ua (wpAny_holding (wpAny_assign_Name (Ud (Zu R1 r2 hy) (λ_ s2 R₂=>Ub R₂) λ_ _ x=>x)))
inductive ForH (prog:Program) (w:World) (B:Base) (d u:Nat) (env:Env) (loc:Loc) (target:Expr) (body orelse:List Stmt) (Q:PF) (M:List (Addr × AO)->Prop) (xs:List AV) (mem:List (Addr × AO)):Prop where
 | mk (J:Nat->Loc->List (Addr × AO)->Prop) (h0:∃ l',Sub l' loc/\J 0 l' mem) (hM:∀ i l m,J i l m->M m)
  (step:∀ i a l m,xs[i]?=some a->J i l m->∃ l',Asg prog w B env target a l l'/\WB prog w B d u env l' m body (LoopP (λl m=>∃ l',Sub l' l/\J (i+1) l' m) Q))
  (stop:∀ l m,J xs.length l m->WB prog w B d u env l m orelse Q)
end
namespace Osfor
noncomputable def Px (d u:Nat) (env:Env) (loc:Loc) (mem:List (Addr × AO)) (target iter:Expr) (body orelse:List Stmt) (pos:Pos) (Q:PF):Prop:=∀ (hs:∀ x,foldedSetIterable iter env x=pure x) (h:WI prog w B d u env loc mem iter target λM xs mem1=>ForH prog w B d u env loc target body orelse Q M xs mem1),WS prog w B d u env loc mem (.For target iter body orelse pos) Q
noncomputable def Rx (p:Nat × Nat × Env × Loc × (List (Addr × AO)) × Expr × Expr × List Stmt × List Stmt × Pos × PF):Prop:=Px p.1 p.2.1 p.2.2.1 p.2.2.2.1 p.2.2.2.2.1 p.2.2.2.2.2.1 p.2.2.2.2.2.2.1 p.2.2.2.2.2.2.2.1 p.2.2.2.2.2.2.2.2.1 p.2.2.2.2.2.2.2.2.2.1 p.2.2.2.2.2.2.2.2.2.2
noncomputable section
def cx:=eps (neP neNt (neP neNt (neP neI (neP neL (neP neL (neP neI (neP neI (neP neL (neP neL (neP neI (inferInstance:Nonempty (PF)))))))))))) Rx
def d:=cx.1
def u:=cx.2.1
def env:=cx.2.2.1
def loc:=cx.2.2.2.1
def mem:=cx.2.2.2.2.1
def target:=cx.2.2.2.2.2.1
def iter:=cx.2.2.2.2.2.2.1
def body:=cx.2.2.2.2.2.2.2.1
def orelse:=cx.2.2.2.2.2.2.2.2.1
def pos:=cx.2.2.2.2.2.2.2.2.2.1
def Q:=cx.2.2.2.2.2.2.2.2.2.2
end
theorem main:Px d u env loc mem target iter body orelse pos Q:=by
 intro hs h;intro A E F tmp s hA R;refine wpAny_For (Ud (h A E F tmp s hA R) (λx s₁ h₁=>Ud h₁ (λit s2 h₂=>?_) λ_ _ x=>x.elim) λ_ _ x=>x) hs;obtain ⟨I,wr,St,M,xs,mem2,F2,rfl,mc,k₂,R₂,st2,hw2,J,⟨l0,hl0,j0⟩,hM,step,stop⟩:=h₂
 refine codeAny_forLoop_any (λn s'=>∃ i l m F',F.le F'/\Rel B E F' env l tmp m s'/\St i F' s'.heap/\(∀ b ∈ wr,Hid B E F' env m b)/\J i l m/\i<=xs.length/\n=xs.length+1 - i) (λn s3 h₃=>?_) (xs.length+1)
  ⟨0,l0,mem2,F2,k₂,R₂.less hl0.get,st2,hw2,j0,Tb _,rfl⟩
 obtain ⟨i,l,m,F3,k3,R3,st3,hw3,j,hi,rfl⟩:=h₃
 cases hx:xs[i]? with
 | none =>
  have e:i=xs.length:=by
   have:=Sp.mp hx;exact Tn hi this
  subst e;refine Ud (mc.done A E F3 env l tmp m s3 hA.hd R3 (hM _ _ _ j) st3 hw3) (λr s4 h₄=>?_) λ_ _ x=>x.elim;obtain ⟨rfl,R4,_⟩:=h₄;refine Ud (stop l m j A E F3 tmp s4 hA R4) (λf s5 h₅=>?_) λ_ _ x=>x.elim;exact h₅.up k3
 | some a =>
  have hlt:i < xs.length:=(Un.mp hx).1;refine Ud (mc.item i a A E F3 env l tmp m s3 hx hA.hd R3 (hM _ _ _ j) st3 hw3) (λr s4 h₄=>?_) λ_ _ x=>x.elim;obtain ⟨v,rfl,h₄⟩:=h₄;refine Ud h₄ (λ_ s5 h₅=>?_) λ_ _ x=>x.elim;obtain ⟨F5,k5,rv,R5,st5,hw5,_⟩:=h₅;obtain ⟨l',asg,wb⟩:=step i a l m hx j;have R5':=R5.rebase;refine Ud (asg A _ F5 tmp m s5 v hA.hd rv R5') (λ_ s6 R6=>?_) λ_ _ x=>x.elim;refine Ud (wb A _ F5 tmp s6 hA R6) (λf s7 h₇=>?_) λ_ _ x=>x.elim;obtain ⟨af,l7,m7,F7,k7,rf,R7,p⟩:=h₇;have R7':=R5.back R7
  have hh:∀ b ∈ wr,Hid B E F7 env m7 b/\∀ o,s5.heap.get? b=some o->s7.heap.get? b=some o:=λb hb=>by
   obtain ⟨o,e⟩:=mc.ex _ _ _ st5 b hb;have:=(hw5 b hb).back R5 e (hw5 b hb).fp R7;exact ⟨this.1,λo' e'=>by rw [e] at e'; obtain rfl:=Up.inj e'; exact this.2⟩
  have st7:=mc.stable _ _ _ _ _ st5 k7 λb hb o e=>(hh b hb).2 o e;have kk:=(k3.trans k5).trans k7
  cases rf with
  | next=>obtain ⟨l'',hs'',j''⟩:=p; exact ⟨xs.length+1 - (i+1),by exact ar44 hlt,i+1,l'',m7,F7,kk,R7'.less hs''.get,st7,λb hb=>(hh b hb).1,j'',hlt,rfl⟩
  | cont=>obtain ⟨l'',hs'',j''⟩:=p; exact ⟨xs.length+1 - (i+1),by exact ar44 hlt,i+1,l'',m7,F7,kk,R7'.less hs''.get,st7,λb hb=>(hh b hb).1,j'',hlt,rfl⟩
  | brk=>exact ⟨_,l7,m7,F7,kk, .next,R7',p⟩
  | ret hv=>exact ⟨_,l7,m7,F7,kk, .ret hv,R7',p⟩
end Osfor
section
variable {d u:Nat} {env:Env} {loc:Loc} {mem:List (Addr × AO)}
theorem s_for {d u env loc mem target iter body orelse pos Q}:Osfor.Px d u env loc mem target iter body orelse pos Q:=eps_all Osfor.Rx Osfor.main (d,u,env,loc,mem,target,iter,body,orelse,pos,Q)
end
end
section
open PySem PySem.W PyProof.Rows PySem.Calls
section
variable {E:Ent} {F F':FM} {env:Env} {loc:Loc} {tmp:List (Value × AV)} {mem:List (Addr × AO)} {s:Shared}
theorem Rel.tell (R:Rel B E F env loc tmp mem s) {D:Addr} {o:Obj} (H:Hid B E F env mem D) (e:s.heap.get? D=some o):F.le (F.set D o)/\Rel B E (F.set D o) env loc tmp mem s:=by
 have kF:=FM.set_le (o:=o) H.f
 refine ⟨kF, { R with
    sub:=R.sub.trans kF
    le:=λb o q=>by
     unfold FM.set at q
     by_cases z:b=D
     ·subst z; rw [if_pos rfl] at q; obtain rfl:=Up.inj q; exact e
     ·rw [if_neg z] at q; exact R.le b o q
    fresh:=λb o q=>by
     unfold FM.set at q
     by_cases z:b=D
     ·subst z; exact .inr H.he
     ·rw [if_neg z] at q; exact R.fresh b o q
    fr:=R.fr.keeps (λ_ _ e=>e) kF
    tv:=λp hp=>(R.tv p hp).mono kF
    mr:=λp hp=>(R.mr p hp).keeps (λ_ _ e=>e) kF
    off:=λb hb=>by
     obtain ⟨q1,q2,q3⟩:=R.off b hb;refine ⟨?_,q2,q3⟩;unfold FM.set;rw [if_neg ?_]; exact q1;rintro rfl;exact H.fp hb
    offT:=λb o q=>by
     unfold FM.set at q
     by_cases z:b=D
     ·subst z; exact H.tab R.inv
     ·rw [if_neg z] at q; exact R.offT b o q
    tf:=R.tf.keeps (λ_ _ _ e=>e) kF }⟩
theorem Hid.set {a D:Addr} {o:Obj} (H:Hid B E F env mem a) (h:a≠D):Hid B E (F.set D o) env mem a:=⟨H.he,H.mu,by unfold FM.set; rw [if_neg h]; exact H.f,H.fp,H.n⟩
end
noncomputable def Acc (D:Addr) (ys:List AV) (F:FM) (h:Heap):Prop:=∃ vs n,h.get? D=some { cls:=.type "list", data:=.seq vs.toArray n }/\RVs F vs ys
noncomputable def Yy (prog:Program) (w:World) (elt:Expr) (ifs:List Expr) (env:Env) (A:Around) (D:Addr) (K:Shared->Prop) (s:Shared):Prop :=
 wpAny (model prog w) A (forIn ifs true λc r=>if r=true then do let ok <- isTrue c env (eval c env); pure (ForInStep.yield ok) else pure (ForInStep.yield r))
  (λok s3=>if ok=true then wpAny (model prog w) A (eval elt env) (λx s4=>wpAny (model prog w) A (call (.builtin "list.append") [.ref D,x]) (λ_ s5=>K s5) FF s4) FF s3 else K s3) FF s
noncomputable def UnitN (prog:Program) (w:World) (e iter:Expr) (env:Env) (A:Around) (D:Addr) (K:Shared->Prop) (s:Shared):Prop :=
 wpAny (model prog w) A (eval iter env) (λx s₁=>wpAny (model prog w) A (pyIter x) (λit s2 =>
  codeAny (model prog w) A (.compStart e 1 it (.ref D) env) (λr s'=>match r with | .ok _=>K s' | .error _=>False) s2) FF s₁) FF s
noncomputable abbrev UT:=Around->Addr->(Shared->Prop)->Shared->Prop
noncomputable def YK (prog:Program) (w:World) (e:Expr) (dep:Nat) (target:Expr) (env:Env) (U:UT):Prop :=
 ∀ (A:Around) (it:Value) (D:Addr) (R:Result->Shared->Prop) (s:Shared) (I:Nat->Shared->Prop),
  (∀ n s,I n s->wpAny (model prog w) A (pyNext it) (λr s₁=>match r with
   | none=>R (.ok .next) s₁
   | some v=>wpAny (model prog w) A (letOwnedTupleGo target it v) (λ_ s₀=>wpAny (model prog w) A (assign target env v) (λ_ s2=>U A D (λs5=>∃ m,m < n/\I m s5) s2) FF s₀) FF s₁) FF s) ->
  ∀ n,I n s->codeAny (model prog w) A (.compLoop e dep it (.ref D) env) R s
namespace Oloop1
noncomputable def Px (elt target iter:Expr) (ifs:List Expr) (scope:Scope) (pos:Pos) (env:Env):Prop:=YK prog w (.ListComp elt [⟨target,iter,ifs,0⟩] scope pos) 0 target env (Yy prog w elt ifs env)
noncomputable def Rx (p:Expr × Expr × Expr × List Expr × Scope × Pos × Env):Prop:=Px p.1 p.2.1 p.2.2.1 p.2.2.2.1 p.2.2.2.2.1 p.2.2.2.2.2.1 p.2.2.2.2.2.2
noncomputable section
def cx:=eps (neP neI (neP neI (neP neI (neP neL (neP neI (neP neI neI)))))) Rx
def elt:=cx.1
def target:=cx.2.1
def iter:=cx.2.2.1
def ifs:=cx.2.2.2.1
def scope:=cx.2.2.2.2.1
def pos:=cx.2.2.2.2.2.1
def env:=cx.2.2.2.2.2.2
end
theorem main:Px elt target iter ifs scope pos env:=by
 unfold Px;intro A it D R s I turn n h;refine codeAny_loop rfl I (λn s hI=>?_) n h;show wpAny _ A ((compTurn (.ListComp elt [⟨target,iter,ifs,0⟩] scope pos) 0 it (.ref D) env).onRaise (λx=>do noteFrame x env; theTreesLotGoes x)) _ _ s;refine wpAny_noted ?_;rw [compTurn_list];refine Ua (wpAny_standAt (Ua (Ud (turn n s hI) (λr s₁ h₁=>?_) λ_ _ h'=>h'.elim)))
 cases r with
 | none=>exact Ub h₁
 | some v =>
  refine Ua (Ud h₁ (λ_ s₀ h0'=>?_) λ_ _ h'=>h'.elim);refine Ua (Ud h0' (λ_ s2 h₂=>?_) λ_ _ h'=>h'.elim);unfold Yy at h₂;refine Ua (Ud h₂ (λok s3 h₃=>?_) λ_ _ h'=>h'.elim)
  cases ok with
  | false=>exact Ub ⟨rfl,h₃⟩
  | true=>exact Ua (Ua (Ud h₃ (λx s4 h₄=>Ua (Ud h₄ (λ_ s5 h₅=>Ub (Ub ⟨rfl,h₅⟩)) λ_ _ h'=>h'.elim)) λ_ _ h'=>h'.elim))
end Oloop1
theorem loop1 {elt target iter ifs scope pos env}:Oloop1.Px elt target iter ifs scope pos env:=eps_all Oloop1.Rx Oloop1.main (elt,target,iter,ifs,scope,pos,env)
theorem compTurn_2a (elt target iter t2 i2:Expr) (f2:List Expr) (scope:Scope) (pos:Pos) (it acc:Value) (env:Env) :
  compTurn (.ListComp elt [⟨target,iter, [],0⟩,⟨t2,i2,f2,0⟩] scope pos) 0 it acc env=(do
   standAt iter.pos
   match <- pyNext it with
   | none=>pure (.done .next)
   | some v =>
    letOwnedTupleGo target it v
    assign target env v
    let x <- eval i2 env
    standAt i2.pos
    let x <- foldedSetIterable i2 env x;let _ <- runOwn (.compStart (.ListComp elt [⟨target,iter, [],0⟩,⟨t2,i2,f2,0⟩] scope pos) 1 (<- holding [x] (pyIter x)) acc env) env
    again (.compLoop (.ListComp elt [⟨target,iter, [],0⟩,⟨t2,i2,f2,0⟩] scope pos) 0 it acc env)):=by rfl
theorem compTurn_2b (elt target iter t2 i2:Expr) (f2:List Expr) (scope:Scope) (pos:Pos) (it acc:Value) (env:Env) :
  compTurn (.ListComp elt [⟨target,iter, [],0⟩,⟨t2,i2,f2,0⟩] scope pos) 1 it acc env=(do
   standAt i2.pos
   match <- pyNext it with
   | none=>pure (.done .next)
   | some v =>
    letOwnedTupleGo t2 it v
    assign t2 env v
    let mut ok:=true
    for c in f2 do
     if ok then ok <- isTrue c env (eval c env)
    if ok then
     (do let _ <- call (.builtin "list.append") [acc, <- eval elt env])
    again (.compLoop (.ListComp elt [⟨target,iter, [],0⟩,⟨t2,i2,f2,0⟩] scope pos) 1 it acc env)):=by rfl
namespace Oloop2a
noncomputable def Px (elt target iter t2 i2:Expr) (f2:List Expr) (scope:Scope) (pos:Pos) (env:Env):Prop:=∀ (hs:∀ x,foldedSetIterable i2 env x=pure x),YK prog w (.ListComp elt [⟨target,iter, [],0⟩,⟨t2,i2,f2,0⟩] scope pos) 0 target env (UnitN prog w (.ListComp elt [⟨target,iter, [],0⟩,⟨t2,i2,f2,0⟩] scope pos) i2 env)
noncomputable def Rx (p:Expr × Expr × Expr × Expr × Expr × List Expr × Scope × Pos × Env):Prop:=Px p.1 p.2.1 p.2.2.1 p.2.2.2.1 p.2.2.2.2.1 p.2.2.2.2.2.1 p.2.2.2.2.2.2.1 p.2.2.2.2.2.2.2.1 p.2.2.2.2.2.2.2.2
noncomputable section
def cx:=eps (neP neI (neP neI (neP neI (neP neI (neP neI (neP neL (neP neI (neP neI neI)))))))) Rx
def elt:=cx.1
def target:=cx.2.1
def iter:=cx.2.2.1
def t2:=cx.2.2.2.1
def i2:=cx.2.2.2.2.1
def f2:=cx.2.2.2.2.2.1
def scope:=cx.2.2.2.2.2.2.1
def pos:=cx.2.2.2.2.2.2.2.1
def env:=cx.2.2.2.2.2.2.2.2
end
theorem main:Px elt target iter t2 i2 f2 scope pos env:=by
 intro hs;intro A it D R s I turn n h;refine codeAny_loop rfl I (λn s hI=>?_) n h;show wpAny _ A ((compTurn (.ListComp elt [⟨target,iter, [],0⟩,⟨t2,i2,f2,0⟩] scope pos) 0 it (.ref D) env).onRaise (λx=>do noteFrame x env; theTreesLotGoes x)) _ _ s;refine wpAny_noted ?_;rw [compTurn_2a];refine Ua (wpAny_standAt (Ua (Ud (turn n s hI) (λr s₁ h₁=>?_) λ_ _ h'=>h'.elim)))
 cases r with
 | none=>exact Ub h₁
 | some v =>
  refine Ua (Ud h₁ (λ_ s₀ h0'=>?_) λ_ _ h'=>h'.elim);refine Ua (Ud h0' (λ_ s2 h₂=>?_) λ_ _ h'=>h'.elim);unfold UnitN at h₂;refine Ua (Ud h₂ (λx s3 h₃=>?_) λ_ _ h'=>h'.elim);refine Ua (wpAny_standAt (Ua (wpAny_of_eq (hs x) (Ua (wpAny_holding (Ud h₃ (λit' s4 h₄=>?_) λ_ _ h'=>h'.elim))))));refine Ua (wpAny_runOwn (codeAny_mono h₄ λr s5 h₅=>?_))
  cases r with
  | ok f=>exact Ub ⟨rfl,h₅⟩
  | error e=>exact h₅.elim
end Oloop2a
theorem loop2a {elt target iter t2 i2 f2 scope pos env}:Oloop2a.Px elt target iter t2 i2 f2 scope pos env:=eps_all Oloop2a.Rx Oloop2a.main (elt,target,iter,t2,i2,f2,scope,pos,env)
theorem loop2b {elt target iter t2 i2:Expr} {f2:List Expr} {scope:Scope} {pos:Pos} {env:Env} :
  YK prog w (.ListComp elt [⟨target,iter, [],0⟩,⟨t2,i2,f2,0⟩] scope pos) 1 t2 env (Yy prog w elt f2 env):=by
 intro A it D R s I turn n h;refine codeAny_loop rfl I (λn s hI=>?_) n h;show wpAny _ A ((compTurn (.ListComp elt [⟨target,iter, [],0⟩,⟨t2,i2,f2,0⟩] scope pos) 1 it (.ref D) env).onRaise (λx=>do noteFrame x env; theTreesLotGoes x)) _ _ s;refine wpAny_noted ?_;rw [compTurn_2b];refine Ua (wpAny_standAt (Ua (Ud (turn n s hI) (λr s₁ h₁=>?_) λ_ _ h'=>h'.elim)))
 cases r with
 | none=>exact Ub h₁
 | some v =>
  refine Ua (Ud h₁ (λ_ s₀ h0'=>?_) λ_ _ h'=>h'.elim);refine Ua (Ud h0' (λ_ s2 h₂=>?_) λ_ _ h'=>h'.elim);unfold Yy at h₂;refine Ua (Ud h₂ (λok s3 h₃=>?_) λ_ _ h'=>h'.elim)
  cases ok with
  | false=>exact Ub ⟨rfl,h₃⟩
  | true=>exact Ua (Ua (Ud h₃ (λx s4 h₄=>Ua (Ud h₄ (λ_ s5 h₅=>Ub (Ub ⟨rfl,h₅⟩)) λ_ _ h'=>h'.elim)) λ_ _ h'=>h'.elim))
theorem Wc {elt:Expr} {gens:List Comprehension} {scope:Scope} {pos:Pos} {dep:Nat} {g:Comprehension} {it acc:Value} {env:Env} {A:Around} {R:Result->Shared->Prop} {s:Shared} (hg:gens[dep]?=some g) (ha:g.is_async=0)
  (h0:codeAny (model prog w) A (.compLoop (.ListComp elt gens scope pos) dep it acc env) R s)
  (h:wpAny (model prog w) A (pyIter it) (λit' s'=>codeAny (model prog w) A (.compLoop (.ListComp elt gens scope pos) dep it' acc env) R s') FF s) :
  codeAny (model prog w) A (.compStart (.ListComp elt gens scope pos) dep it acc env) R s:=by
 refine codeAny_of_tree ?_;show wpAny _ _ ((compStart (.ListComp elt gens scope pos) dep it acc env).onRaise (λx=>do noteFrame x env; standAt theWindowsPlace)) _ _ s;refine wpAny_notedAt ?_;unfold compStart;have hc:clausesOf (.ListComp elt gens scope pos)=gens:=rfl;rw [hc,hg];simp -iota only [Rb,ha,bne_self_eq_false,U1,if_false];show wpAny _ _ (ask >>= _) _ _ s;refine Ua (wpAny_askSetting (wpAny_ite ?_))
 split
 ·first
   | exact Ua (Ub (Ub (And.intro rfl h0)))
   | exact Ub (And.intro rfl h0)
 ·first
   | exact Ua (wpAny_rule (Ua (wpAny_standAt (Ua (Ud h (λit' s' h'=>Ub (And.intro rfl h')) λ_ _ x=>x.elim)))))
   | (refine Ua (wpAny_rule ?_); exact Ua (wpAny_standAt (Ua (Ud h (λit' s' h'=>Ub (And.intro rfl h')) λ_ _ x=>x.elim))))
end
section
open PySem PySem.W PyProof.Rows PySem.Calls
noncomputable abbrev PU:=List AV->List (Addr × AO)->Prop
noncomputable def Yr (base loc:Loc):Prop:=∀ x a,base.lookup x=some a->loc.lookup x=some a
theorem Yr.refl (l:Loc):Yr l l:=λ_ _ h=>h
theorem Yr.trans {a b c:Loc} (x:Yr a b) (y:Yr b c):Yr a c:=λz v h=>y z v (x z v h)
structure CSt (B:Base) (E:Ent) (cenv:Env) (base:Loc) (tmp:List (Value × AV)) (D:Addr) (X:List Addr) (F:FM) (mem:List (Addr × AO)) (h:Heap) (F':FM) (mem':List (Addr × AO)) (ys:List AV) (s':Shared):Prop where
 le:F.le F'
 rel:∃ loc',Yr base loc'/\Rel B E F' cenv loc' tmp mem' s'
 hid:Hid B E F' cenv mem' D
 acc:Acc D ys F' s'.heap
 kept:Kept B cenv X F mem h F' mem' s'.heap
noncomputable def WU (prog:Program) (w:World) (B:Base) (d u:Nat) (cenv:Env) (base loc:Loc) (mem:List (Addr × AO)) (ys:List AV) (U:UT) (Q:PU):Prop :=
 ∀ A E F tmp s D,AOK d u A->Rel B E F cenv loc tmp mem s->Hid B E F cenv mem D->Acc D ys F s.heap->∀ K:Shared->Prop,
  (∀ s' F' mem' ys',CSt B E cenv base tmp D [D] F mem s.heap F' mem' ys' s'->Q ys' mem'->K s')->U A D K s
section
variable {d u:Nat} {env cenv:Env} {base loc:Loc} {mem:List (Addr × AO)} {ys:List AV}
theorem Acc.ex {D:Addr} {F:FM} {h:Heap} (x:Acc D ys F h):∃ o,h.get? D=some o:=by obtain ⟨_,_,e,_⟩:=x; exact ⟨_,e⟩
theorem Acc.at {D:Addr} {F F':FM} {h h':Heap} (x:Acc D ys F h) (k:∀ o,h.get? D=some o->h'.get? D=some o) (kF:F.le F'):Acc D ys F' h' :=
 let ⟨vs,n,e,r⟩:=x; ⟨vs,n,k _ e,r.mono kF⟩
theorem unit_emit {elt:Expr} {Q:PU} (hl:ys.length < 2 ^ 20) (hb:Yr base loc) (h:WE prog w B d u cenv loc mem elt λy m=>Q (ys++[y]) m)
  {A:Around} {E:Ent} {F:FM} {tmp:List (Value × AV)} {s:Shared} {D:Addr} (hA:AOK d u A) (R:Rel B E F cenv loc tmp mem s) (H:Hid B E F cenv mem D) (ac:Acc D ys F s.heap) (K:Shared->Prop)
  (k:∀ s' F' mem' ys',CSt B E cenv base tmp D [D] F mem s.heap F' mem' ys' s'->Q ys' mem'->K s') :
  wpAny (model prog w) A (eval elt cenv) (λx s4=>wpAny (model prog w) A (call (.builtin "list.append") [.ref D,x]) (λ_ s5=>K s5) FF s4) FF s:=by
 refine Ud (h A _ F tmp s hA R.rebase) (λv s₁ h₁=>?_) λ_ _ x=>x;obtain ⟨y,m1,F1,k₁,R1,q⟩:=h₁;have R1':=R.back R1;obtain ⟨H₁,e₁⟩:=H.kept R.inv ac.ex (X:=[]) (by simp) (Kept.run R R1);obtain ⟨vs,n,eD,rD⟩:=id ac;have hlen:=rD.length
 refine wpAny_list_append_plain (l:=D) (items:=vs.toArray) ⟨n,e₁ _ eD⟩ (λh' hl' hs'=>?_) (by
  show vs.toArray.size<=2 ^ 24;rw [Uz,hlen]
  exact Uc (Tq hl) (by decide))
 obtain ⟨n',e'⟩:=hl';have kk:∀ b o,b ∉ [D]->s₁.heap.get? b=some o->h'.get? b=some o:=λb o hb e=>hs'.extBut b o (λq=>hb (by simp [q])) e;have R₂:Rel B E F1 cenv loc tmp m1 { s₁ with heap:=h' }:=R1'.pop.hid (tk:=s₁.toks) (wr:=[D]) (λb hb=>by rw [Uj.mp hb]; exact H₁) kk;exact k _ F1 m1 (ys++[y]) ⟨k₁,⟨loc,hb,R₂⟩,H₁,⟨vs++[v],n',by rw [show (vs++[v]).toArray=vs.toArray.push v by simp]; exact e',(rD.mono k₁).append (.one R1.top)⟩,(Kept.run R R1).trans (Kept.heap kk λb o e=>.inl e)⟩ q
theorem wu_emit {elt:Expr} {Q:PU} (hl:ys.length < 2 ^ 20) (hb:Yr base loc) (h:WE prog w B d u cenv loc mem elt λy m=>Q (ys++[y]) m):WU prog w B d u cenv base loc mem ys (Yy prog w elt [] cenv) Q :=
 λA E F tmp s D hA R H ac K k=>by
  unfold Yy;refine wpAny_tests_nil ?_;rw [if_pos rfl];exact unit_emit hl hb h hA R H ac K k
theorem wu_test {elt c:Expr} {Q:PU} (hl:ys.length < 2 ^ 20) (hb:Yr base loc) (h:WT prog w B d u cenv loc mem c λb m=>if b then WE prog w B d u cenv loc m elt λy m=>Q (ys++[y]) m else Q ys m) :
  WU prog w B d u cenv base loc mem ys (Yy prog w elt [c] cenv) Q :=
 λA E F tmp s D hA R H ac K k=>by
  unfold Yy;refine wpAny_tests_one (Ud (h A _ F tmp s hA R.rebase) (λb s₁ h₁=>?_) λ_ _ x=>x);obtain ⟨m1,F1,k₁,R1,q⟩:=h₁;have R1':=R.back R1;have kr:=Kept.run (X:=[D]) R R1;obtain ⟨H₁,e₁⟩:=H.kept R.inv ac.ex (X:=[]) (by simp) (Kept.run R R1);have a₁:Acc D ys F1 s₁.heap:=ac.at e₁ k₁
  cases b with
  | false =>
   rw [if_neg (by decide)];rw [if_neg (by decide)] at q;exact k s₁ F1 m1 ys ⟨k₁,⟨loc,hb,R1'⟩,H₁,a₁,kr⟩ q
  | true =>
   rw [if_pos rfl];rw [if_pos rfl] at q;exact unit_emit hl hb q hA R1' H₁ a₁ K λs' F' mem' ys' c q'=>k s' F' mem' ys' ⟨k₁.trans c.le,c.rel,c.hid,c.acc,kr.trans c.kept⟩ q'
theorem comp_run {e:Expr} {dep:Nat} {target:Expr} {U:UT} (L:YK prog w e dep target cenv U) {I:Addr} {wr:List Addr} {St:Nat->FM->Heap->Prop} {M:List (Addr × AO)->Prop} {xs:List AV} (mc:Mach prog w B I wr St M xs target)
  {A:Around} {E:Ent} {F:FM} {tmp:List (Value × AV)} {s:Shared} {D:Addr} {cloc loc₀:Loc} {mem0:List (Addr × AO)} {ys0:List AV} {Q:PU} {R:Result->Shared->Prop}
  (hA:AOK d u A) (R0:Rel B E F cenv loc₀ tmp mem0 s) (hb:Yr cloc loc₀) (st:St 0 F s.heap) (hw:∀ b ∈ wr,Hid B E F cenv mem0 b) (HD:Hid B E F cenv mem0 D) (hDw:D ∉ wr) (ac:Acc D ys0 F s.heap)
  (J:Nat->List AV->List (Addr × AO)->Prop) (j0:J 0 ys0 mem0) (hM:∀ i ys m,J i ys m->M m)
  (step:∀ i a ys m,xs[i]?=some a->J i ys m->∃ l',Asg prog w B cenv target a cloc l'/\WU prog w B d u cenv cloc l' m ys U (λys' m'=>J (i+1) ys' m'))
  (stop:∀ ys m,J xs.length ys m->Q ys m)
  (hR:∀ s' F' m ys,CSt B E cenv cloc tmp D (D :: wr) F mem0 s.heap F' m ys s'->Q ys m->R (.ok .next) s') :
  codeAny (model prog w) A (.compLoop e dep (.ref I) (.ref D) cenv) R s:=by
 refine L A (.ref I) D R s (λn s'=>∃ i ys m F',CSt B E cenv cloc tmp D (D :: wr) F mem0 s.heap F' m ys s'/\St i F' s'.heap/\(∀ b ∈ wr,Hid B E F' cenv m b)/\J i ys m/\i<=xs.length/\n=xs.length+1 - i)
  (λn s₁ h₁=>?_) (xs.length+1) ⟨0,ys0,mem0,F,⟨.refl F,⟨loc₀,hb,R0⟩,HD,ac, .refl⟩,st,hw,j0,Tb _,rfl⟩
 obtain ⟨i,ys,m,F1,⟨k₁,⟨l,hb₁,R1⟩,H₁,a₁,kept1⟩,st1,hw1,j,hi,rfl⟩:=h₁;have hm:=hM _ _ _ j
 cases hx:xs[i]? with
 | none =>
  have e:i=xs.length:=by
   have:=Sp.mp hx;exact Tn hi this
  subst e;refine Ud (mc.done A E F1 cenv l tmp m s₁ hA.hd R1 hm st1 hw1) (λr s2 h₂=>?_) λ_ _ x=>x;obtain ⟨rfl,R₂,kk⟩:=h₂;exact hR s2 F1 m ys ⟨k₁,⟨l,hb₁,R₂⟩,H₁,a₁.at (λo e=>kk D o hDw e) (.refl _),kept1.trans ((Kept.heap kk λb o e=>.inl e).more λa h=>.tail _ h)⟩ (stop _ _ j)
 | some a =>
  have hlt:i < xs.length:=(Un.mp hx).1;refine Ud (mc.item i a A E F1 cenv l tmp m s₁ hx hA.hd R1 hm st1 hw1) (λr s2 h₂=>?_) λ_ _ x=>x;obtain ⟨v,rfl,h₂⟩:=h₂;refine Ud h₂ (λ_ s3 h₃=>?_) λ_ _ x=>x;obtain ⟨F3,k3,rv,R3,st3,hw3,kk,kF⟩:=h₃;have kept3:Kept B cenv (D :: wr) F1 m s₁.heap F3 m s3.heap:=(Kept.heap (X:=wr) kk kF).more λa h=>.tail _ h;have H3:=H₁.kept R1.inv a₁.ex hDw (Kept.heap (X:=wr) (cenv:=cenv) (mem:=m) kk kF);have a₃:=a₁.at H3.2 k3;obtain ⟨l',asg,wu⟩:=step i a ys m hx j;have R3':Rel B E F3 cenv cloc tmp m s3:=R3.less hb₁;refine Ud (asg A _ F3 tmp m s3 v hA.hd rv R3'.rebase) (λ_ s4 R4=>?_) λ_ _ x=>x;have R4':=R3'.back R4;have kept4:=Kept.run (X:=[]) R3' R4;have H4:=H3.1.kept R3'.inv a₃.ex (by simp) kept4;have a4:=a₃.at H4.2 (.refl _);have hw4:∀ b ∈ wr,Hid B E F3 cenv m b/\∀ o,s3.heap.get? b=some o->s4.heap.get? b=some o:=λb hb=>(hw3 b hb).kept R3'.inv (mc.ex _ _ _ st3 b hb) (by simp) kept4;have st4:=mc.stable _ _ _ _ _ st3 (.refl _) λb hb o e=>(hw4 b hb).2 o e;refine wu A E F3 tmp s4 D hA R4' H4.1 a4 _ λs5 F5 m5 ys5 c q=>?_
  have hw5:∀ b ∈ wr,Hid B E F5 cenv m5 b/\∀ o,s4.heap.get? b=some o->s5.heap.get? b=some o:=λb hb=>(hw4 b hb).1.kept R4'.inv (mc.ex _ _ _ st4 b hb) (by
   intro q;rw [Uj.mp q] at hb
   exact hDw hb) c.kept
  refine ⟨xs.length+1 - (i+1),by exact ar44 hlt,i+1,ys5,m5,F5,⟨(k₁.trans k3).trans c.le,c.rel,c.hid,c.acc,((kept1.trans kept3).trans (kept4.more (by simp))).trans (c.kept.more (by simp))⟩,
   mc.stable _ _ _ _ _ st4 c.le λb hb o e=>(hw5 b hb).2 o e,λb hb=>(hw5 b hb).1,q,hlt,rfl⟩
inductive NestH (prog:Program) (w:World) (B:Base) (d u:Nat) (cenv:Env) (loc:Loc) (t2 elt:Expr) (f2:List Expr) (ys:List AV) (Q:PU) (M:List (Addr × AO)->Prop) (xs:List AV) (mem:List (Addr × AO)):Prop where
 | mk (J:Nat->List AV->List (Addr × AO)->Prop) (h0:J 0 ys mem) (hM:∀ i ys m,J i ys m->M m)
  (step:∀ i a ys m,xs[i]?=some a->J i ys m->∃ l',Asg prog w B cenv t2 a loc l'/\WU prog w B d u cenv loc l' m ys (Yy prog w elt f2 cenv) (λys' m'=>J (i+1) ys' m'))
  (stop:∀ ys m,J xs.length ys m->Q ys m)
theorem wu_nest {elt target iter t2 i2:Expr} {f2:List Expr} {scope:Scope} {pos:Pos} {Q:PU} (hb:Yr base loc)
  (h:WI prog w B d u cenv loc mem i2 t2 λM xs mem1=>NestH prog w B d u cenv loc t2 elt f2 ys Q M xs mem1) :
  WU prog w B d u cenv base loc mem ys (UnitN prog w (.ListComp elt [⟨target,iter, [],0⟩,⟨t2,i2,f2,0⟩] scope pos) i2 cenv) Q :=
 λA E F tmp s D hA R H ac K k=>by
  unfold UnitN;refine Ud (h A _ F tmp s hA R.rebase) (λx s₁ h₁=>Ud h₁ (λit s2 h₂=>?_) λ_ _ x=>x) λ_ _ x=>x;obtain ⟨I,wr,St,M,xs,m2,F2,rfl,mc,k₂,R₂,st2,hw2,J,j0,hM,step,stop⟩:=h₂;have R2':=R.back R₂;have kept2:=Kept.run (X:=[]) R R₂;have H2:=H.kept R.inv ac.ex (by simp) kept2;have a₂:=ac.at H2.2 k₂
  have hwE:∀ b ∈ wr,Hid B E F2 cenv m2 b:=λb hb=>by
   have z:=hw2 b hb;have hn:s.heap.get? b=none:=z.he;refine ⟨ZP R hn (λq=>?_) (λq=>?_),λq=>?_,z.f,z.fp,z.n⟩
   ·obtain ⟨o,e⟩:=R.mex b q; rw [hn] at e; exact Z6 e
   ·obtain ⟨vs,e⟩:=R.inv.tb b q; rw [hn] at e; exact Z6 e
   ·obtain ⟨o,e⟩:=R.mex b q; rw [hn] at e; exact Z6 e
  have hDw:D ∉ wr:=λhm=>by
   have hn:s.heap.get? D=none:=(hw2 D hm).he;obtain ⟨o,e⟩:=ac.ex;rw [hn] at e; exact Z6 e
  have run:=comp_run (R:=λr s'=>match r with | .ok _=>K s' | .error _=>False) (Q:=Q) (loop2b (iter:=iter) (target:=target) (scope:=scope) (pos:=pos) (i2:=i2)) mc hA R2' (Yr.refl loc) st2 hwE H2.1 hDw a₂ J j0 hM step stop
   λs' F' m ys c q=>k s' F' m ys ⟨k₂.trans c.le,let ⟨l',hl',r⟩:=c.rel; ⟨l',hb.trans hl',r⟩,c.hid,c.acc,λb o h1 h2 h3 e=>?_⟩ q
  ·refine Wc (g:=⟨t2,i2,f2,0⟩) rfl rfl run (mc.self 0 A F2 s2 _ _ hA.hd st2 run)
  ·-- what was there before the iterator
   obtain ⟨e1,n1,f1⟩:=kept2 b o h1 (by simp) h3 e
   obtain ⟨e2,n2,f2⟩:=c.kept b o n1 (λq=>by
    rcases Ur.mp q with q | q
    ·exact h2 (by simp [q])
    ·have hn:s.heap.get? b=none:=(hw2 b q).he
     rw [hn] at e; exact Z6 e) h3 e1
   exact ⟨e2,n2,f2 ∘ f1⟩
end
end
section
open PySem PySem.W PyProof.Rows PySem.Calls
noncomputable def cEnv (scope:Scope) (cl:List (Str × Addr)) (L:Addr) (env:Env):Env:=compEnvC scope (cellsFrom (L+1) scope.names cl) L env
noncomputable def ClOK (env:Env) (scope:Scope) (all:List (Str × Addr)):List (Str × Addr)->Prop
 | []=>True
 | p :: r=>(env.kindOf p.1=some .cell/\env.cells.lookup p.1=some p.2/\(relabel scope env).names.lookup p.1=some .cell/\∀ k,(cellsFrom k scope.names all).lookup p.1=some p.2)/\ClOK env scope all r
theorem ClOK.get {env:Env} {scope:Scope} {all:List (Str × Addr)}:∀ {l:List (Str × Addr)},ClOK env scope all l->∀ p ∈ l,env.kindOf p.1=some .cell/\env.cells.lookup p.1=some p.2/\(relabel scope env).names.lookup p.1=some .cell/\∀ k,(cellsFrom k scope.names all).lookup p.1=some p.2
 | p :: r,h,q,hq=>by
  rcases Ur.mp hq with rfl | hq
  ·exact h.1
  ·exact h.2.get q hq
noncomputable def YN (loc:Loc):List (Str × Addr)->Loc
 | []=>[]
 | p :: r=>match loc.lookup p.1 with
  | some a=>(p.1,a) :: YN loc r
  | none=>YN loc r
theorem X8 (loc:Loc):∀ (cl:List (Str × Addr)) (x:Str) (a:AV),(x,a) ∈ YN loc cl->loc.lookup x=some a/\∃ c,(x,c) ∈ cl
 | p :: r,x,a,h=>by
  unfold YN at h
  split at h
  ·rename_i b hb
   rcases Ur.mp h with e | h
   ·obtain ⟨rfl,rfl⟩:=pair_in e; exact ⟨hb,p.2, .head _⟩
   ·obtain ⟨h1,c,h2⟩:=X8 loc r x a h; exact ⟨h1,c, .tail _ h2⟩
  ·obtain ⟨h1,c,h2⟩:=X8 loc r x a h; exact ⟨h1,c, .tail _ h2⟩
theorem V0 (loc:Loc):∀ (cl:List (Str × Addr)) (x:Str) (a:AV) (c:Addr),(x,c) ∈ cl->loc.lookup x=some a->(YN loc cl).lookup x=some a
 | p :: r,x,a,c,hm,hl=>by
  unfold YN;rcases Ur.mp hm with e | hm
  ·subst e;dsimp only;rw [hl];simp
  ·have ih:=V0 loc r x a c hm hl
   split
   ·rename_i b hb
    rw [S0]
    by_cases q:x=p.1
    ·subst q;rw [hl] at hb; obtain rfl:=Up.inj hb; simp
    ·have:(x == p.1)=false:=beq_eq_false_iff_ne.mpr q;rw [this]; exact ih
   ·exact ih
noncomputable def distinct:List Str->Bool
 | []=>true
 | x :: r=>!(r.contains x) && distinct r
theorem XG:∀ {l:List Str},distinct l=true->l.Nodup
 | [],_=>Tz
 | x :: r,h=>by
  unfold distinct at h;rw [Bool.and_eq_true] at h;refine U3.mpr ⟨?_,XG h.2⟩;intro hm;have:=h.1;simp [hm] at this
theorem YD:∀ (names:List (Str × NameKind)) (k:Nat),∀ p ∈ cellsFrom k names [],k<=p.2
 | [],_,_,h=>nomatch h
 | (x,kd) :: r,k,p,h=>by
  unfold cellsFrom at h
  split at h
  ·rw [Y5] at h;rcases Ue.mp h with h | h
   ·exact U6 (YD r (k+1) p h)
   ·rw [Uj.mp h]; exact Ug _
  ·exact YD r k p h
section
variable {d u:Nat} {env:Env} {loc:Loc} {mem:List (Addr × AO)} {E:Ent} {F:FM} {tmp:List (Value × AV)} {s:Shared} {A:Around}
end
namespace Ocompopen
noncomputable def Px (env:Env) (loc:Loc) (mem:List (Addr × AO)) (E:Ent) (F:FM) (tmp:List (Value × AV)) (s:Shared) (A:Around) (scope:Scope) (cl:List (Str × Addr)) (Q:Env->Shared->Prop):Prop:=∀ (R:Rel B E F env loc tmp mem s) (hk:scope.kind=.function) (hcl:ClOK env scope cl cl) (hd:distinct (cl.map (·.1))=true) (h:∀ L s',Rel B E F env loc tmp mem s'->Rel B E F (cEnv scope cl L env) (YN loc cl) tmp mem s'->(∀ b o,s.heap.get? b=some o->s'.heap.get? b=some o)->(∀ a ∈ L :: own (cEnv scope cl L env),Hid B E F env mem a\/a ∈ own env)->s.heap.objs.size<=L ->
   Q { scope:=scope,locals:=L,globals:=env.globals,cells:=cellsFrom (L+1) scope.names cl,qual:=env.qual,func:=none,code:=env.code,frame:=env.frame,builtins:=env.builtins } s'),wpAny (model prog w) A (newFunctionEnv scope env.globals cl [] env.qual none .none (some env)) Q FF s
noncomputable def Rx (p:Env × Loc × (List (Addr × AO)) × Ent × FM × (List (Value × AV)) × Shared × Around × Scope × (List (Str × Addr)) × (Env->Shared->Prop)):Prop:=Px p.1 p.2.1 p.2.2.1 p.2.2.2.1 p.2.2.2.2.1 p.2.2.2.2.2.1 p.2.2.2.2.2.2.1 p.2.2.2.2.2.2.2.1 p.2.2.2.2.2.2.2.2.1 p.2.2.2.2.2.2.2.2.2.1 p.2.2.2.2.2.2.2.2.2.2
noncomputable section
def cx:=eps (neP neI (neP neL (neP neL (neP neN (neP neFM (neP neL (neP neS (neP neA (neP neI (neP neL neR)))))))))) Rx
def env:=cx.1
def loc:=cx.2.1
def mem:=cx.2.2.1
def E:=cx.2.2.2.1
def F:=cx.2.2.2.2.1
def tmp:=cx.2.2.2.2.2.1
def s:=cx.2.2.2.2.2.2.1
def A:=cx.2.2.2.2.2.2.2.1
def scope:=cx.2.2.2.2.2.2.2.2.1
def cl:=cx.2.2.2.2.2.2.2.2.2.1
def Q:=cx.2.2.2.2.2.2.2.2.2.2
end
theorem main:Px env loc mem E F tmp s A scope cl Q:=by
 intro R hk hcl hd h;simp only [newFunctionEnv,Option.isSome_some,if_true];refine Ua (wpAny_alloc ?_);refine Ua (wpAny_layCells _ (λname kind cells=>by cases hkc:kind == NameKind.cell <;> simp [hkc]) _ _ _ _ ?_);have hsz:({ s with heap:=s.heap.push { cls:=.type "dict", data:=.dict #[] } }:Shared).heap.objs.size=s.heap.objs.size+1:=Heap.size_push ..;rw [hsz];have ok:=cellsFrom_ok scope.names (s.heap.push { cls:=.type "dict", data:=.dict #[] }) (s.heap.objs.size+1) [] ⟨λ_ _ hm=>(nomatch hm),List.Pairwise.nil⟩ (by rw [Heap.size_push]; exact Ug _);rw [Heap.size_push] at ok;have old:∀ b o,s.heap.get? b=some o->(pushCells (s.heap.push { cls:=.type "dict", data:=.dict #[] }) scope.names).get? b=some o:=λb o e=>pushCells_keeps _ _ b o (Heap.get?_push_of_some _ e);have R1:Rel B E F env loc tmp mem { s with heap:=pushCells (s.heap.push { cls:=.type "dict", data:=.dict #[] }) scope.names }:=R.ext (tk:=s.toks) old;have hcells:(cEnv scope cl s.heap.objs.size env).cells=cellsFrom (s.heap.objs.size+1) scope.names []++cl:=Y5 _ _ _
 have own_ok:∀ c ∈ own (cEnv scope cl s.heap.objs.size env),((pushCells (s.heap.push { cls:=.type "dict", data:=.dict #[] }) scope.names).IsCell c none/\s.heap.objs.size+1<=c)\/(c ∈ own env/\c < s.heap.objs.size):=λc hc=>by
  obtain ⟨p,hp,rfl⟩:=Uq.mp hc;have hp':=(Ta.mp hp).1;rw [hcells] at hp';rcases Ue.mp hp' with hp' | hp'
  ·exact .inl (ok.empty p.1 p.2 hp')
  ·obtain ⟨z1,z2,_⟩:=hcl.get p hp';have hm:=Y9 z1 (Z7 z2);refine .inr ⟨hm,?_⟩;obtain ⟨o,e⟩:=R.exAt p.2 (.tail _ (Ue.mpr (.inl hm)));exact Heap.lt_size e
 have own_nd:(own (cEnv scope cl s.heap.objs.size env)).Nodup:=by
  unfold own;refine List.Nodup.sublist (List.Sublist.map _ List.filter_sublist) ?_;rw [hcells,Tv];refine Uy.mpr ⟨?_,?_,λa ha b hb e=>?_⟩
  ·unfold List.Nodup;rw [Sg];exact ok.apart
  ·have nn:=XG hd
   have:∀ l:List (Str × Addr),(∀ p ∈ l,p ∈ cl)->(l.map (·.1)).Nodup->(l.map (·.2)).Nodup:=by
    intro l
    induction l with
    | nil=>intro _ _; exact Tz
    | cons p r ih =>
     intro hs hn;rw [To,U3] at hn ⊢;refine ⟨λhm=>?_,ih (λq hq=>hs q (.tail _ hq)) hn.2⟩;obtain ⟨q,hq,e⟩:=Uq.mp hm;obtain ⟨z1,z2,_⟩:=hcl.get p (hs p (.head _));obtain ⟨y1,y2,_⟩:=hcl.get q (hs q (.tail _ hq));have n0:=R.nd;unfold fp at n0;have n1:=(Uy.mp (U3.mp n0).2).1;have:=VV n1 y1 z1 (Z7 y2) (e ▸ Z7 z2);exact hn.1 (this ▸ Uq.mpr ⟨q,hq,rfl⟩)
   exact this cl (λ_ h=>h) nn
  ·obtain ⟨p,hp,rfl⟩:=Uq.mp ha;obtain ⟨q,hq,rfl⟩:=Uq.mp hb;have h1:=(ok.empty p.1 p.2 hp).2;obtain ⟨z1,z2,_⟩:=hcl.get q hq;obtain ⟨o,e'⟩:=R.exAt q.2 (.tail _ (Ue.mpr (.inl (Y9 z1 (Z7 z2)))));have h2:=Heap.lt_size e';have e:p.2=q.2:=e;rw [e] at h1;exact absurd h2 (Th.mpr (U6 h1))
 have hx:∀ a ∈ s.heap.objs.size :: own (cEnv scope cl s.heap.objs.size env),Hid B E F env mem a\/a ∈ own env:=λa ha=>by
  rcases Ur.mp ha with rfl | ha
  ·exact .inl (Hid.new R (Ug _))
  ·rcases own_ok a ha with h | h
   ·exact .inl (Hid.new R (U6 h.2))
   ·exact .inr h.1
 have fr:XE B (cEnv scope cl s.heap.objs.size env) F (YN loc cl) (pushCells (s.heap.push { cls:=.type "dict", data:=.dict #[] }) scope.names):={
  kind:=hk
  glob:=R.fr.glob
  blt:=R.fr.blt
  ns:=⟨_,(Heap.Ns.new s.heap (.type "dict")).keeps (pushCells_keeps _ _),λx a hkx hl=>by
   obtain ⟨_,c,hm⟩:=X8 loc cl x a (Z7 hl);have z:=(hcl.get _ hm).2.2.1;have hkx:(relabel scope env).names.lookup x=some .local:=hkx
   rw [show (relabel scope env).names.lookup x=some .cell from z] at hkx; cases hkx⟩
  cl:=λx a hkx hl=>by
   obtain ⟨h1,c,hm⟩:=X8 loc cl x a (Z7 hl);obtain ⟨z1,z2,z3,z4⟩:=hcl.get _ hm;obtain ⟨c',v,e1,e2,e3⟩:=R1.fr.cl x a z1 h1;have z2:env.cells.lookup x=some c:=z2;rw [z2] at e1; obtain rfl:=Up.inj e1;exact ⟨c,v,z4 _,e2,e3⟩
  fz:=λx a hkx hl=>by
   obtain ⟨_,c,hm⟩:=X8 loc cl x a (Z7 hl);have z:=(hcl.get _ hm).2.2.1;have hkx:(relabel scope env).names.lookup x=some .free:=hkx;rw [show (relabel scope env).names.lookup x=some .cell from z] at hkx; cases hkx
  ex:=λc hc=>by
   rcases own_ok c hc with h | h
   ·exact ⟨none,h.1⟩
   ·exact R1.fr.ex c h.1 }
 have Rin:Rel B E F (cEnv scope cl s.heap.objs.size env) (YN loc cl) tmp mem { s with heap:=pushCells (s.heap.push { cls:=.type "dict", data:=.dict #[] }) scope.names } :=
  R1.inside fr hx (U3.mpr ⟨λhm=>by
   rcases own_ok _ hm with h | h
   ·exact absurd h.2 (Nat.not_le.mpr (Tg _))
   ·exact S8 _ h.2,own_nd⟩)
 refine Ua ?_;rw [List.forIn_nil];exact Ub (Ub (h _ _ R1 Rin old hx (Ug _)))
end Ocompopen
section
variable {d u:Nat} {env:Env} {loc:Loc} {mem:List (Addr × AO)} {E:Ent} {F:FM} {tmp:List (Value × AV)} {s:Shared} {A:Around}
theorem comp_open {env loc mem E F tmp s A scope cl Q}:Ocompopen.Px env loc mem E F tmp s A scope cl Q:=eps_all Ocompopen.Rx Ocompopen.main (env,loc,mem,E,F,tmp,s,A,scope,cl,Q)
inductive CompH (prog:Program) (w:World) (B:Base) (d u:Nat) (env:Env) (loc:Loc) (scope:Scope) (cl:List (Str × Addr)) (target:Expr) (U:Env->UT) (Q:PU) (M:List (Addr × AO)->Prop) (xs:List AV) (mem:List (Addr × AO)):Prop where
 | mk (J:Nat->List AV->List (Addr × AO)->Prop) (h0:J 0 [] mem) (hM:∀ i ys m,J i ys m->M m)
  (step:∀ L i a ys m,xs[i]?=some a->J i ys m->∃ l',Asg prog w B (cEnv scope cl L env) target a (YN loc cl) l'/\WU prog w B d u (cEnv scope cl L env) (YN loc cl) l' m ys (U (cEnv scope cl L env)) (λys' m'=>J (i+1) ys' m'))
  (stop:∀ ys m,J xs.length ys m->Q ys m)
noncomputable def Wb (prog:Program) (w:World) (B:Base) (d u:Nat) (env:Env) (loc:Loc) (mem:List (Addr × AO)) (e:Expr) (scope:Scope) (cl:List (Str × Addr)) (iter target:Expr) (U:Env->UT) (Q:PU):Prop :=
 WI prog w B d u env loc mem iter target λM xs mem1=>CompH prog w B d u env loc scope cl target U Q M xs mem1
theorem comp_any {elt target iter:Expr} {ifs:List Expr} {rest:List Comprehension} {scope:Scope} {pos p0:Pos} {cl:List (Str × Addr)} {use:Option (Value->Sem Unit)} {U:Env->UT} {Q:PU} {K:Value->Shared->Prop}
  (hs:∀ x,foldedSetIterable iter env x=pure x) (hclos:closureFor scope env=pure cl) (hkind:scope.kind=.function) (hnames:∀ x ∈ scope.names,x.2=.local->scope.names.lookup x.1=some .local)
  (hcl:ClOK env scope cl cl) (hd:distinct (cl.map (·.1))=true) (hL:∀ L,YK prog w (.ListComp elt (⟨target,iter,ifs,0⟩ :: rest) scope pos) 0 target (cEnv scope cl L env) (U (cEnv scope cl L env)))
  (hA:AOK d u A) (R:Rel B E F env loc tmp mem s)
  (h:Wb prog w B d u env loc mem (.ListComp elt (⟨target,iter,ifs,0⟩ :: rest) scope pos) scope cl iter target U Q)
  (hK:∀ v ys m F' L s',F.le F'->RV F' v (.lst ys)->Rel B E F' env loc tmp m s'->Hid B E F' env m L->(∃ mm,s'.heap.Ns L mm)->Q ys m ->
   (match use with
    | none=>∀ h',Heap.SameBut L s'.heap h'->K v { s' with heap:=h' }
    | some u=>wpAny (model prog w) A (u v) (λ_ s''=>∃ mm,s''.heap.Ns L mm/\∀ h',Heap.SameBut L s''.heap h'->K .none { s'' with heap:=h' }) FF s')) :
  wpAny (model prog w) A (comprehension (.ListComp elt (⟨target,iter,ifs,0⟩ :: rest) scope pos) scope env p0 (newList []) false (eval iter env) use) K FF s:=by
 refine wpAny_comprehension_free rfl hs hclos hkind hnames (Ud (h A E F tmp s hA R) (λx s₁ h₁=>Ud h₁ (λit s2 h₂=>?_) λ_ _ x=>x) λ_ _ x=>x);obtain ⟨I,wr,St,M,xs,m2,F2,rfl,mc,k₂,R₂,st2,hw2,J,j0,hM,step,stop⟩:=h₂;refine wpAny_newObj_type ?_;have R3:Rel B E F2 env loc tmp m2 { s2 with heap:=s2.heap.push { cls:=.type "list", data:=.seq ([]:List Value).toArray 0 } }:=R₂.ext (tk:=s2.toks) λ_ _ e=>Heap.get?_push_of_some _ e;have HD:Hid B E F2 env m2 s2.heap.objs.size:=Hid.new R₂ (Ug _);refine comp_open R3 hkind hcl hd λL s4 R4 Rin old hx hLsz=>?_;have wlt:∀ b ∈ wr,b < s2.heap.objs.size:=λb hb=>by obtain ⟨o,e⟩:=mc.ex _ _ _ st2 b hb; exact Heap.lt_size e
 have hLsz':s2.heap.objs.size+1<=L:=by
  have:(s2.heap.push { cls:=.type "list", data:=.seq ([]:List Value).toArray 0 }).objs.size<=L:=hLsz
  rwa [Heap.size_push] at this
 have upto:∀ b o,s2.heap.get? b=some o->s4.heap.get? b=some o:=λb o e=>old b o (Heap.get?_push_of_some _ e);have st4:=mc.stable _ _ _ _ _ st2 (.refl _) λb _ o e=>upto b o e;have eD:s4.heap.get? s2.heap.objs.size=some { cls:=.type "list", data:=.seq ([]:List Value).toArray 0 }:=old _ _ (Heap.get?_push_size _ rfl)
 have inner:∀ a,Hid B E F2 env m2 a->(∃ o,s2.heap.get? a=some o)\/a=s2.heap.objs.size->Hid B E F2 (cEnv scope cl L env) m2 a:=λa H hex=>by
  have hlt:a<=s2.heap.objs.size:=by
   rcases hex with ⟨o,e⟩ | rfl
   ·exact Tq (Heap.lt_size e)
   ·exact Ug _
  refine ⟨H.he,H.mu,H.f,λhm=>?_,H.n⟩;rcases Ur.mp hm with e | hm
  ·have e:a=L:=e;subst e;exact absurd hLsz' (Nat.not_le.mpr (Nat.lt_succ_of_le hlt))
  ·rcases Ue.mp hm with hm | hm
   ·obtain ⟨p,hp,e⟩:=Uq.mp hm;have hp':=(Ta.mp hp).1;have hc:(cEnv scope cl L env).cells=cellsFrom (L+1) scope.names []++cl:=Y5 _ _ _;rw [hc] at hp';rcases Ue.mp hp' with hp' | hp'
    ·have h1:=YD scope.names (L+1) p hp';have e:p.2=a:=e;rw [e] at h1;exact absurd (Uc hLsz' (U6 h1)) (Nat.not_le.mpr (Nat.lt_succ_of_le hlt))
    ·obtain ⟨z1,z2,_⟩:=hcl.get p hp';exact H.fp (.tail _ (Ue.mpr (.inl (e ▸ Y9 z1 (Z7 z2)))))
   ·exact H.fp (.tail _ (Ue.mpr (.inr hm)))
 have hw4:∀ b ∈ wr,Hid B E F2 (cEnv scope cl L env) m2 b:=λb hb=>inner b (hw2 b hb) (.inl (mc.ex _ _ _ st2 b hb));have HD4:=inner _ HD (.inr rfl);have hDw:s2.heap.objs.size ∉ wr:=λhm=>S8 _ (wlt _ hm)
 have HL:Hid B E F2 env m2 L:=by
  rcases hx L (.head _) with z | z
  ·exact z
  ·obtain ⟨o,e⟩:=R₂.exAt L (.tail _ (Ue.mpr (.inl z)));have:=Heap.lt_size e;exact absurd (U6 hLsz') (Nat.not_le.mpr this)
 have hLown:L ∉ own env:=λz=>HL.fp (.tail _ (Ue.mpr (.inl z)));have run:=comp_run (R:=compPost (model prog w) A FF use K (.ref s2.heap.objs.size) L) (Q:=Q) (hL L) mc hA Rin (Yr.refl _) st4 hw4 HD4 hDw ⟨[],0,eD, .nil⟩ J j0 hM (step L) stop λs5 F5 m5 ys5 c q=>?_
 ·exact Wc (g:=⟨target,iter,ifs,0⟩) rfl rfl run (mc.self 0 A F2 s4 _ _ hA.hd st4 run)
 ·obtain ⟨l',hl',R5⟩:=c.rel
  have Rout:Rel B E F5 env loc tmp m5 s5:=R4.outside (X:=s2.heap.objs.size :: wr) hx hLown (λa ha=>by
    rcases Ur.mp ha with rfl | ha
    ·exact HD.fp
    ·exact (hw2 a ha).fp) (λx a cc hk hl hcc hin=>by
    obtain ⟨p,hp,e⟩:=Uq.mp hin;have hp':=(Ta.mp hp).1;have hcs:(cEnv scope cl L env).cells=cellsFrom (L+1) scope.names []++cl:=Y5 _ _ _;rw [hcs] at hp';have hco:cc ∈ own env:=Y9 hk (Z7 hcc)
    have hpc:p ∈ cl:=by
     rcases Ue.mp hp' with hp' | hp'
     ·have h1:=YD scope.names (L+1) p hp';obtain ⟨o,e'⟩:=R₂.exAt cc (.tail _ (Ue.mpr (.inl hco)));have h2:=Heap.lt_size e';have e:p.2=cc:=e;rw [e] at h1;exact absurd (Uc (U6 hLsz') (U6 h1)) (Nat.not_le.mpr h2)
     ·exact hp'
    obtain ⟨z1,z2,z3,z4⟩:=hcl.get p hpc;have n0:=R₂.nd;unfold fp at n0;have n1:=(Uy.mp (U3.mp n0).2).1;have hpx:p.1=x:=VV n1 z1 hk (Z7 z2) (e ▸ Z7 hcc);subst hpx
    refine ⟨z3,by rw [<- e]; exact z4 _,hl' _ _ (V0 loc cl p.1 a p.2 hpc hl)⟩) R5 c.kept c.le
  obtain ⟨mm,hns,_⟩:=R5.fr.ns
  have HL5:Hid B E F5 env m5 L:=⟨HL.he,HL.mu,(R5.off L (.head _)).1,λhm=>by
   rcases Ur.mp hm with z | hm
   ·exact HL.fp (z ▸ .head _)
   ·rcases Ue.mp hm with z | z
    ·exact hLown z
    ·exact (ZE R5).2 z,HL.n⟩
  obtain ⟨vs,n,e₅,rD⟩:=c.acc
  have HD5:Hid B E F5 env m5 s2.heap.objs.size:=⟨HD.he,HD.mu,c.hid.f,λhm=>by
   rcases Ur.mp hm with z | hm
   ·exact HD.fp (z ▸ .head _)
   ·rcases Ue.mp hm with z | z
    ·exact HD.fp (.tail _ (Ue.mpr (.inl z)))
    ·exact c.hid.fp (.tail _ (Ue.mpr (.inr z))),HD.n⟩
  obtain ⟨kF,Rtold⟩:=Rout.tell HD5 e₅;have hv:RV (F5.set s2.heap.objs.size { cls:=.type "list", data:=.seq vs.toArray n }) (.ref s2.heap.objs.size) (.lst ys5):=.lst _ vs ys5 n FM.set_same (rD.mono kF);have hne:L≠s2.heap.objs.size:=λe=>by rw [e] at hLsz'; exact Nat.not_succ_le_self _ hLsz'
  have:=hK _ ys5 m5 _ L s5 ((k₂.trans c.le).trans kF) hv Rtold (HL5.set hne) ⟨mm,hns⟩ q;unfold compPost
  cases use with
  | none=>exact ⟨mm,hns,this⟩
  | some uu=>exact this
end
end
section
open PySem PySem.W PyProof.Rows PySem.Calls
section
variable {d u:Nat} {env:Env} {loc:Loc} {mem:List (Addr × AO)}
theorem e_comp {elt target iter:Expr} {ifs:List Expr} {rest:List Comprehension} {scope:Scope} {pos:Pos} (cl:List (Str × Addr)) {U:Env->UT} {Q:PE}
  (hs:∀ x,foldedSetIterable iter env x=pure x) (hclos:closureFor scope env=pure cl) (hkind:scope.kind=.function) (hnames:∀ x ∈ scope.names,x.2=.local->scope.names.lookup x.1=some .local)
  (hcl:ClOK env scope cl cl) (hd:distinct (cl.map (·.1))=true) (hL:∀ L,YK prog w (.ListComp elt (⟨target,iter,ifs,0⟩ :: rest) scope pos) 0 target (cEnv scope cl L env) (U (cEnv scope cl L env)))
  (h:Wb prog w B d u env loc mem (.ListComp elt (⟨target,iter,ifs,0⟩ :: rest) scope pos) scope cl iter target U λys m=>Q (.lst ys) m) :
  WE prog w B d u env loc mem (.ListComp elt (⟨target,iter,ifs,0⟩ :: rest) scope pos) Q:=λA E F tmp s hA R=>by
 rw [eval_ListComp];refine comp_any (use:=none) hs hclos hkind hnames hcl hd hL hA R h λv ys m F' L s' k rv R' HL _ q=>?_;exact λh' hs'=>⟨.lst ys,m,F',k,(R'.hid (tk:=s'.toks) (wr:=[L]) (λb hb=>by rw [Uj.mp hb]; exact HL) λb o hb e=>hs'.extBut b o (λz=>hb (by simp [z])) e).push rv,q⟩
theorem s_comp {y:Str} {py:Pos} {elt target iter:Expr} {ifs:List Expr} {rest:List Comprehension} {scope:Scope} {pos spos:Pos} (cl:List (Str × Addr)) {U:Env->UT} {Q:PF}
  (hsw:swapsWith (.ListComp elt (⟨target,iter,ifs,0⟩ :: rest) scope pos) (some (.Name y py)) spos.line env=pure true) (hy:Zj env y)
  (hs:∀ x,foldedSetIterable iter env x=pure x) (hclos:closureFor scope env=pure cl) (hkind:scope.kind=.function) (hnames:∀ x ∈ scope.names,x.2=.local->scope.names.lookup x.1=some .local)
  (hcl:ClOK env scope cl cl) (hd:distinct (cl.map (·.1))=true) (hL:∀ L,YK prog w (.ListComp elt (⟨target,iter,ifs,0⟩ :: rest) scope pos) 0 target (cEnv scope cl L env) (U (cEnv scope cl L env)))
  (h:Wb prog w B d u env loc mem (.ListComp elt (⟨target,iter,ifs,0⟩ :: rest) scope pos) scope cl iter target U λys m=>Q .next (setL y (.lst ys) loc) m) :
  WS prog w B d u env loc mem (.Assign [.Name y py] (.ListComp elt (⟨target,iter,ifs,0⟩ :: rest) scope pos) spos) Q:=λA E F tmp s hA R=>by
 rw [exec_Assign_Name_used _ _ _ _ hsw];refine Ua (wpAny_standAt (Ua ?_));show wpAny _ A (do let _ <- comprehension (.ListComp elt (⟨target,iter,ifs,0⟩ :: rest) scope pos) scope env _ (newList []) false (eval iter env) (some (assign (.Name y py) env))) _ _ s
 refine Ua (Ud (comp_any (use:=some (assign (.Name y py) env)) (K:=λ_ s'=>PoS B E F env tmp Q .next s') hs hclos hkind hnames hcl hd hL hA R h λv ys m F' L s' k rv R' HL hns q=>?_)
  (λ_ s' hq=>Ub (Ub hq)) λ_ _ e=>e)
 obtain ⟨mm,hns⟩:=hns;refine wpAny_assign_Name (Ud (Zu R'.rebase rv hy) (λ_ s'' R₂=>?_) λ_ _ x=>x);obtain ⟨o,es,ep,eo,r1⟩:=id hns;obtain ⟨HL2,e₂⟩:=HL.kept R'.inv ⟨o,eo⟩ (X:=[]) (by simp) (Kept.run R' R₂);refine ⟨mm,⟨o,es,ep,e₂ _ eo,r1⟩,λh' hs'=>?_⟩;exact ⟨.next,_,m,F',k, .next,(R'.back R₂).hid (tk:=s''.toks) (wr:=[L]) (λb hb=>by rw [Uj.mp hb]; exact HL2) λb o hb e=>hs'.extBut b o (λz=>hb (by simp [z])) e,q⟩
theorem ZC {elt target iter:Expr} {ifs:List Expr} {scope:Scope} {pos:Pos} (cl:List (Str × Addr)) {Q:PE}
  (hs:∀ x,foldedSetIterable iter env x=pure x) (hclos:closureFor scope env=pure cl) (hkind:scope.kind=.function) (hnames:∀ x ∈ scope.names,x.2=.local->scope.names.lookup x.1=some .local)
  (hcl:ClOK env scope cl cl) (hd:distinct (cl.map (·.1))=true)
  (h:Wb prog w B d u env loc mem (.ListComp elt [⟨target,iter,ifs,0⟩] scope pos) scope cl iter target (Yy prog w elt ifs) λys m=>Q (.lst ys) m) :
  WE prog w B d u env loc mem (.ListComp elt [⟨target,iter,ifs,0⟩] scope pos) Q:=e_comp cl (U:=Yy prog w elt ifs) hs hclos hkind hnames hcl hd (λL=>loop1) h
theorem XZ {y:Str} {py:Pos} {elt target iter:Expr} {ifs:List Expr} {scope:Scope} {pos spos:Pos} (cl:List (Str × Addr)) {Q:PF}
  (hsw:swapsWith (.ListComp elt [⟨target,iter,ifs,0⟩] scope pos) (some (.Name y py)) spos.line env=pure true) (hy:Zj env y)
  (hs:∀ x,foldedSetIterable iter env x=pure x) (hclos:closureFor scope env=pure cl) (hkind:scope.kind=.function) (hnames:∀ x ∈ scope.names,x.2=.local->scope.names.lookup x.1=some .local)
  (hcl:ClOK env scope cl cl) (hd:distinct (cl.map (·.1))=true)
  (h:Wb prog w B d u env loc mem (.ListComp elt [⟨target,iter,ifs,0⟩] scope pos) scope cl iter target (Yy prog w elt ifs) λys m=>Q .next (setL y (.lst ys) loc) m) :
  WS prog w B d u env loc mem (.Assign [.Name y py] (.ListComp elt [⟨target,iter,ifs,0⟩] scope pos) spos) Q:=s_comp cl (U:=Yy prog w elt ifs) hsw hy hs hclos hkind hnames hcl hd (λL=>loop1) h
theorem e_comp2 {elt target iter t2 i2:Expr} {f2:List Expr} {scope:Scope} {pos:Pos} (cl:List (Str × Addr)) {Q:PE}
  (hs:∀ x,foldedSetIterable iter env x=pure x) (hs2:∀ env x,foldedSetIterable i2 env x=pure x) (hclos:closureFor scope env=pure cl) (hkind:scope.kind=.function) (hnames:∀ x ∈ scope.names,x.2=.local->scope.names.lookup x.1=some .local)
  (hcl:ClOK env scope cl cl) (hd:distinct (cl.map (·.1))=true)
  (h:Wb prog w B d u env loc mem (.ListComp elt [⟨target,iter, [],0⟩,⟨t2,i2,f2,0⟩] scope pos) scope cl iter target (UnitN prog w (.ListComp elt [⟨target,iter, [],0⟩,⟨t2,i2,f2,0⟩] scope pos) i2) λys m=>Q (.lst ys) m) :
  WE prog w B d u env loc mem (.ListComp elt [⟨target,iter, [],0⟩,⟨t2,i2,f2,0⟩] scope pos) Q:=e_comp cl hs hclos hkind hnames hcl hd (λL=>loop2a (hs2 _)) h
inductive PureH (prog:Program) (w:World) (B:Base) (d u:Nat) (env:Env) (loc:Loc) (scope:Scope) (cl:List (Str × Addr)) (target:Expr) (U:Env->UT) (Q:PU) (M:List (Addr × AO)->Prop) (xs:List AV) (mem:List (Addr × AO)):Prop where
 | mk (outs:List (List AV)) (hl:outs.length=xs.length) (hM:M mem)
  (step:∀ (L:Addr) (i:Nat) a o,xs[i]?=some a->outs[i]?=some o->∃ l',Asg prog w B (cEnv scope cl L env) target a (YN loc cl) l' /\
    WU prog w B d u (cEnv scope cl L env) (YN loc cl) l' mem (outs.take i).flatten (U (cEnv scope cl L env)) (λys' m'=>m'=mem/\ys'=(outs.take i).flatten++o))
  (q:Q outs.flatten mem)
noncomputable def Turn (prog:Program) (w:World) (B:Base) (d u:Nat) (cenv:Env) (base:Loc) (target:Expr) (a:AV) (W:Loc->Prop):Prop:=∃ l',Asg prog w B cenv target a base l'/\Yr base l'/\W l'
inductive MapH (prog:Program) (w:World) (B:Base) (d u:Nat) (env:Env) (loc:Loc) (scope:Scope) (cl:List (Str × Addr)) (target elt:Expr) (Q:PU) (mf:Nat->List (Addr × AO)) (hM':Prop) (xs:List AV):Prop where
 | mk (outs:List AV) (hl:outs.length=xs.length) (hz:xs.length<=2 ^ 20) (hM:hM')
  (step:∀ (L:Addr) (i:Nat) a o,xs[i]?=some a->outs[i]?=some o->Turn prog w B d u (cEnv scope cl L env) (YN loc cl) target a λl'=>WE prog w B d u (cEnv scope cl L env) l' (mf i) elt λy m=>y=o/\m=mf (i+1))
  (q:Q outs (mf xs.length))
inductive FiltH (prog:Program) (w:World) (B:Base) (d u:Nat) (env:Env) (loc:Loc) (scope:Scope) (cl:List (Str × Addr)) (target elt c:Expr) (Q:PU) (M:List (Addr × AO)->Prop) (xs:List AV) (mem:List (Addr × AO)):Prop where
 | mk (outs:List (Option AV)) (hl:outs.length=xs.length) (hz:xs.length<=2 ^ 20) (hM:M mem)
  (step:∀ (L:Addr) (i:Nat) a o,xs[i]?=some a->outs[i]?=some o->Turn prog w B d u (cEnv scope cl L env) (YN loc cl) target a λl' =>
    WT prog w B d u (cEnv scope cl L env) l' mem c λb m=>if b then WE prog w B d u (cEnv scope cl L env) l' m elt λy m=>o=some y/\m=mem else o=none/\m=mem)
  (q:Q (outs.filterMap id) mem)
theorem Xc {target iter:Expr} {e:Expr} {scope:Scope} {cl:List (Str × Addr)} {U:Env->UT} {Q:PU}
  (h:WI prog w B d u env loc mem iter target λM xs mem1=>PureH prog w B d u env loc scope cl target U Q M xs mem1) :
  Wb prog w B d u env loc mem e scope cl iter target U Q:=λA E F tmp s hA R=>by
 refine Ud (h A E F tmp s hA R) (λx s₁ h₁=>Ud h₁ (λit s2 h₂=>?_) λ_ _ x=>x) λ_ _ x=>x;obtain ⟨I,wr,St,M,xs,m2,F2,e1,mc,k₂,R₂,st2,hw2,outs,hlen,hM,step,q⟩:=h₂;refine ⟨I,wr,St,M,xs,m2,F2,e1,mc,k₂,R₂,st2,hw2,λi ys m=>m=m2/\ys=(outs.take i).flatten,⟨rfl,by simp⟩,λi ys m hj=>hj.1 ▸ hM,λL i a ys m hx hj=>?_,λys m hj=>?_⟩
 ·obtain ⟨rfl,rfl⟩:=hj;have hlt:i < outs.length:=by rw [hlen]; exact (Un.mp hx).1
  obtain ⟨l',asg,wu⟩:=step L i a outs[i] hx (Ui hlt);refine ⟨l',asg,λA E F tmp s D hA R H ac K k=>wu A E F tmp s D hA R H ac K λs' F' mem' ys' c z=>k s' F' mem' ys' c ?_⟩;obtain ⟨z1,z2⟩:=z;refine ⟨z1,z2.trans ?_⟩;rw [Sh hlt,List.flatten_append];simp
 ·obtain ⟨rfl,rfl⟩:=hj;rw [<- hlen,S1]; exact q
theorem ZG {elt target iter:Expr} {e:Expr} {scope:Scope} {cl:List (Str × Addr)} {Q:PU}
  (h:WI prog w B d u env loc mem iter target λM xs mem1=>MapH prog w B d u env loc scope cl target elt Q (λ_=>mem1) (M mem1) xs) :
  Wb prog w B d u env loc mem e scope cl iter target (Yy prog w elt []) Q:=by
 refine Xc λA E F tmp s hA R=>?_;refine Ud (h A E F tmp s hA R) (λx s₁ h₁=>Ud h₁ (λit s2 h₂=>?_) λ_ _ x=>x) λ_ _ x=>x;obtain ⟨I,wr,St,M,xs,m2,F2,e1,mc,k₂,R₂,st2,hw2,outs,hlen,hsz,hM,step,q⟩:=h₂;have hfl:∀ l:List AV,(l.map λo=>[o]).flatten=l:=λl=>by induction l with | nil=>rfl | cons a r ih=>simp [ih]
 refine ⟨I,wr,St,M,xs,m2,F2,e1,mc,k₂,R₂,st2,hw2,outs.map λo=>[o],by simpa using hlen,hM,λL i a o hx ho=>?_,by rw [hfl]; exact q⟩;rw [Ul] at ho;obtain ⟨o',ho',rfl⟩:=Ux.mp ho;obtain ⟨l',asg,und,we⟩:=step L i a o' hx ho';have hlt:i < outs.length:=by rw [hlen]; exact (Un.mp hx).1
 refine ⟨l',asg,wu_emit ?_ und (WE.mono we λy m hq1=>by obtain ⟨z1,z2⟩:=hq1; exact ⟨z2,by rw [z1]⟩)⟩;rw [<- List.map_take,hfl,Ti];exact ar24 hlen hsz hlt
theorem ZD {elt target iter c:Expr} {e:Expr} {scope:Scope} {cl:List (Str × Addr)} {Q:PU}
  (h:WI prog w B d u env loc mem iter target λM xs mem1=>FiltH prog w B d u env loc scope cl target elt c Q M xs mem1) :
  Wb prog w B d u env loc mem e scope cl iter target (Yy prog w elt [c]) Q:=by
 refine Xc λA E F tmp s hA R=>?_;refine Ud (h A E F tmp s hA R) (λx s₁ h₁=>Ud h₁ (λit s2 h₂=>?_) λ_ _ x=>x) λ_ _ x=>x;obtain ⟨I,wr,St,M,xs,m2,F2,e1,mc,k₂,R₂,st2,hw2,outs,hlen,hsz,hM,step,q⟩:=h₂;have hfl:∀ l:List (Option AV),(l.map λo=>o.toList).flatten=l.filterMap id:=λl=>by induction l with | nil=>rfl | cons a r ih=>cases a <;> simp [ih]
 refine ⟨I,wr,St,M,xs,m2,F2,e1,mc,k₂,R₂,st2,hw2,outs.map λo=>o.toList,by simpa using hlen,hM,λL i a o hx ho=>?_,by rw [hfl]; exact q⟩;rw [Ul] at ho;obtain ⟨o',ho',rfl⟩:=Ux.mp ho;obtain ⟨l',asg,und,wt⟩:=step L i a o' hx ho';have hlt:i < outs.length:=by rw [hlen]; exact (Un.mp hx).1
 refine ⟨l',asg,wu_test ?_ und (WT.mono wt λb m z=>?_)⟩
 ·rw [<- List.map_take,hfl];have:=List.length_filterMap_le id (outs.take i);rw [Ti] at this;exact ar30 hlen hsz hlt this
 ·cases b with
  | true =>
   rw [if_pos rfl] at z ⊢;exact WE.mono z λy m hq1=>by obtain ⟨z1,z2⟩:=hq1; exact ⟨z2,by rw [z1]; rfl⟩
  | false =>
   rw [if_neg (by decide)] at z ⊢;exact ⟨z.2,by rw [z.1]; simp⟩
end
end
section
open PySem PySem.W PyProof.Rows PySem.Calls
section
variable {E:Ent} {F:FM} {env:Env} {loc:Loc} {tmp:List (Value × AV)} {mem:List (Addr × AO)} {s:Shared}
theorem Rel.track (R:Rel B E F env loc tmp mem s) {h':Heap} {tk:Nat} {a:Addr} {ao:AO} (k:∀ b o,s.heap.get? b=some o->h'.get? b=some o) (hp:∀ b ∈ ao.places a,Hid B E F env mem b) (hn:(ao.places a).Nodup) (hm:MR F h' a ao) :
  Rel B E F env loc tmp (mem++[(a,ao)]) { s with heap:=h',toks:=tk }:=by
 have R':=R.ext (tk:=tk) k;have pl:Z1 (mem++[(a,ao)])=Z1 mem++ao.places a:=by rw [Zd]; simp [Z1]
 have efp:fp env (mem++[(a,ao)])=fp env mem++ao.places a:=by unfold fp; rw [pl,List.cons_append,Sd]
 exact { R' with
  mr:=λp hp=>by
   rcases Ue.mp hp with hp | hp
   ·exact R'.mr p hp
   ·rw [Uj.mp hp]; exact hm
  nd:=by
   rw [efp];exact Uy.mpr ⟨R.nd,hn,λx hx y hy e=>(hp y hy).fp (e ▸ hx)⟩
  off:=λb hb=>by
   rw [efp] at hb;rcases Ue.mp hb with hb | hb
   ·exact R.off b hb
   ·have H:=hp b hb; exact ⟨H.f,H.n, .inl H.he⟩ }
end
section
variable {d u:Nat} {env:Env} {loc:Loc} {mem:List (Addr × AO)}
theorem s_expr {e:Expr} {pos:Pos} {Q:PF} (hi:interactive env=false) (hs:swapsWith e none pos.line env=pure false) (h:WE prog w B d u env loc mem e λa m=>Flat a/\Q .next loc m) :
  WS prog w B d u env loc mem (.Expr e pos) Q:=λA E F tmp s hA R=>by
 refine wpAny_Expr (Ud (h A E F tmp s hA R) (λv s₁ h₁=>?_) λ_ _ x=>x) hi hs;obtain ⟨a,m,F1,k₁,R1,fl,q⟩:=h₁;have:PoS B E F env tmp Q Flow.next s₁:=⟨.next,loc,m,F1,k₁, .next,R1.pop,q⟩;have top:=R1.top
 cases fl <;> cases top <;> exact this
theorem Yg {elts:List Expr} {pos:Pos} {Q:PE} (h:WL prog w B d u env loc mem elts λas m=>as.length<=2 ^ 20/\Q (.lst as) m):WE prog w B d u env loc mem (.List elts pos) Q:=λA E F tmp s hA R=>by
 refine wpAny_List (Ud (h A E F tmp s pos hA R) (λvs s₁ h₁=>?_) λ_ _ x=>x);obtain ⟨as,m,F1,k₁,r,R1,hl,q⟩:=h₁;refine ⟨by rw [r.length]; exact Uc hl (by decide),?_⟩;obtain ⟨kF,R₂⟩:=R1.alloc { cls:=.type "list", data:=.seq vs.toArray } rfl;exact ⟨.lst as,m,_,k₁.trans kF,R₂.push (.lst _ vs as _ FM.set_same (r.mono kF)),q⟩
theorem XB {elts:List Expr} {pos:Pos} {Q:PE} (h:WL prog w B d u env loc mem elts λas m=>as.length<=2 ^ 20/\∀ a,Q (.raw (.ref a)) (m++[(a, .list as)])):WE prog w B d u env loc mem (.List elts pos) Q:=λA E F tmp s hA R=>by
 refine wpAny_List (Ud (h A E F tmp s pos hA R) (λvs s₁ h₁=>?_) λ_ _ x=>x);obtain ⟨as,m,F1,k₁,r,R1,hl,q⟩:=h₁;refine ⟨by rw [r.length]; exact Uc hl (by decide),?_⟩
 have R₂:=R1.track (a:=s₁.heap.objs.size) (ao:=.list as) (tk:=s₁.toks) (h':=s₁.heap.push { cls:=.type "list", data:=.seq vs.toArray }) (λb o e=>Heap.get?_push_of_some _ e) (λb hb=>by
  simp [AO.places] at hb; subst hb; exact Hid.new R1 (Ug _)) (by simp [AO.places]) ⟨vs,_,Heap.get?_push_size _ rfl,r⟩
 exact ⟨_,_,F1,k₁,R₂.push (.raw _),q _⟩
theorem WM {elts:List Expr} {k:Nat} {pos:Pos} {Q:PE} (h:WL prog w B d u env loc mem elts λas m=>as.length<=2 ^ 20/\Q (.tup as) m):WE prog w B d u env loc mem (.Tuple elts k pos) Q:=λA E F tmp s hA R=>by
 refine wpAny_Tuple (Ud (h A E F tmp s pos hA R) (λvs s₁ h₁=>?_) λ_ _ x=>x);obtain ⟨as,m,F1,k₁,r,R1,hl,q⟩:=h₁;refine ⟨by rw [r.length]; exact Uc hl (by decide),?_⟩;obtain ⟨kF,R₂⟩:=R1.alloc { cls:=.type "tuple", data:=.seq vs.toArray } rfl;exact ⟨.tup as,m,_,k₁.trans kF,R₂.push (.tup _ vs as _ FM.set_same (r.mono kF)),q⟩
theorem RVs.take {F:FM} {vs:List Value} {as:List AV} (h:RVs F vs as):∀ k,RVs F (vs.take k) (as.take k) :=
 h.ind (P:=λvs as=>∀ k,RVs F (vs.take k) (as.take k)) (λk=>by rw [List.take_nil,List.take_nil]; exact .nil) λh _ r k=>by
  cases k with
  | zero=>exact .nil
  | succ k=>exact .cons h (r k)
theorem RVs.drop {F:FM} {vs:List Value} {as:List AV} (h:RVs F vs as):∀ k,RVs F (vs.drop k) (as.drop k) :=
 h.ind (P:=λvs as=>∀ k,RVs F (vs.drop k) (as.drop k)) (λk=>by rw [List.drop_nil,List.drop_nil]; exact .nil) λh r0 r k=>by
  cases k with
  | zero=>exact .cons h r0
  | succ k=>exact r k
noncomputable def METH (prog:Program) (w:World) (B:Base) (mem:List (Addr × AO)) (a:AV) (name:Str) (fa:AV):Prop :=
 ∀ A E F env loc tmp s v pl,A.handled=none->RV F v a->Rel B E F env loc tmp mem s->∀ Q:Value × List Value->Shared->Prop,(∀ fv,RV F fv fa->Q (fv, [v]) s)->wpAny (model prog w) A (getMethod v name pl) Q FF s
inductive MethH (prog:Program) (w:World) (B:Base) (d u:Nat) (env:Env) (loc:Loc) (name:Str) (args:List Expr) (Q:PE) (a:AV) (mem:List (Addr × AO)):Prop where
 | mk (fa:AV) (h:METH prog w B mem a name fa) (c:Callee prog w B fa) (k:WL prog w B d u env loc mem args λas mem2=>CALL prog w B d u env loc fa (a :: as) [] mem2 Q)
theorem e_meth {o:Expr} {name:Str} {apos pos:Pos} {args:List Expr} (pl:Sem Bool) {Q:PE} (hst:∀ env,(backTo pos (starEach args env)).any (·.1)=false)
  (he:eval (.Call (.Attribute o name apos) args [] pos) env=(do
   let ov <- eval o env
   standAt apos.atName
   let (f,first) <- holding [ov] (getMethod ov name pl)
   callWith pos f first (backTo pos (starEach args env)) []))
  (h:WE prog w B d u env loc mem o λa mem1=>MethH prog w B d u env loc name args Q a mem1) :
  WE prog w B d u env loc mem (.Call (.Attribute o name apos) args [] pos) Q:=λA E F tmp s hA R=>by
 refine MethodCall_ (pl:=pl) (Ud (h A E F tmp s hA R) (λv s₁ h₁=>?_) λ_ _ x=>x) he;obtain ⟨a,mem1,F1,k₁,R1,fa,hm,hc,h₁⟩:=h₁;refine hm A E F1 env loc _ s₁ v pl hA.hd R1.top R1 _ λfv rf=>?_;dsimp only;have R1':Rel B E F1 env loc ((fv,fa) :: (v,a) :: tmp) mem1 s₁:=R1.push rf;refine Zt (hst env) rfl (Ud (h₁ A E F1 _ s₁ pos hA R1') (λvs s2 h₂=>?_) λ_ _ x=>x);obtain ⟨as,mem2,F2,k₂,r₂,R₂,h₂⟩:=h₂;refine wpAny_evalAll_nil ⟨hc F2 fv s2 R₂.inv R₂.le R₂.top,?_⟩;refine Ud (h₂ A E F2 tmp s2 fv (v :: vs) [] hA R₂.pop.pop R₂.top (.cons R₂.pop.top r₂) .nil) (λr s3 h₃=>?_) λ_ _ x=>x;obtain ⟨av,mem3,F3,k3,r₃,R3,q⟩:=h₃;exact ⟨av,mem3,F3,(k₁.trans k₂).trans k3,R3.push r₃,q⟩
theorem ZT {a:Addr} {xs:List AV} {name:Str} {id:String} (hm:(a,AO.list xs) ∈ mem) (slot:Slot "list" name id) (hty:typeOf (.builtin id)=pure (.type "method_descriptor")):METH prog w B mem (.raw (.ref a)) name (.raw (.builtin id)) :=
 λA E F env loc tmp s v pl hA hv R Q q=>by
  obtain rfl:=hv.isRaw;obtain ⟨vs,n,e,r⟩:=R.mr _ hm;exact getMethod_list_of slot hty ⟨_,e,rfl,n,rfl⟩ ⟨_,e,rfl⟩ (q _ (.raw _))
theorem Xg {x name:Str} {id:String} (h:∀ (A:Around) (Er:Value->Shared->Prop) (s:Shared) (t:Tok) (pl:Sem Bool) (Q:Value × List Value->Shared->Prop),Q (.builtin id, [.str x t]) s->wpAny (model prog w) A (getMethod (.str x t) name pl) Q Er s):METH prog w B mem (.str x) name (.raw (.builtin id)) :=
 λA E F env loc tmp s v pl hA hv R Q q=>by
  obtain ⟨_,rfl⟩:=hv.isStr;exact h A FF s _ pl Q (q _ (.raw _))
theorem Xk {a:Addr} {xs:List AV} {y:AV} {Q:PE} (i:Nat) (hi:mem[i]?=some (a, .list xs)) (hl:xs.length<=2 ^ 20) (q:Q .none (mem.set i (a, .list (xs++[y])))) :
  CALL prog w B d u env loc (.raw (.builtin "list.append")) [.raw (.ref a),y] [] mem Q:=λA E F tmp s fv vs kvs hA R hf ha hk=>by
 obtain rfl:=hf.isRaw;obtain rfl:=hk.n0;obtain ⟨v1,v2,rfl,r1,r2⟩:=ha.n2;obtain rfl:=r1.isRaw;obtain ⟨vs,n,e,r⟩:=R.mr _ (Uk hi);have hlen:=r.length
 refine wpAny_list_append_plain (l:=a) (items:=vs.toArray) ⟨n,e⟩ (λh' hl' hs'=>?_) (by
  show vs.toArray.size<=2 ^ 24;rw [Uz,hlen]
  exact Uc hl (by decide))
 obtain ⟨n',e'⟩:=hl';refine ⟨.none,_,F, .refl F, .none,R.setMem (tk:=s.toks) (ao':=.list (xs++[y])) hi rfl (λb hb=>hs'.2 b (by simpa [AO.places] using hb)) ⟨vs++[v2],n',?_,r.append (.one r2)⟩,q⟩;rw [show (vs++[v2]).toArray=vs.toArray.push v2 by simp]; exact e'
theorem WJ {a:Addr} {xs:List AV} {y:AV} {k:Nat} {Q:PE} (i:Nat) (hi:mem[i]?=some (a, .list xs)) (hl:xs.length<=2 ^ 20) (hk0:k<=xs.length) (q:Q .none (mem.set i (a, .list (xs.take k++y :: xs.drop k)))) :
  CALL prog w B d u env loc (.raw (.builtin "list.insert")) [.raw (.ref a), .int k,y] [] mem Q:=λA E F tmp s fv vs kvs hA R hf ha hk=>by
 obtain rfl:=hf.isRaw;obtain rfl:=hk.n0;obtain ⟨v1,v2,v3,rfl,r1,r2,r3⟩:=ha.n3;obtain rfl:=r1.isRaw;obtain ⟨x,hx⟩:∃ x:Int,x=(k:Int):=⟨_,rfl⟩;rw [<- hx] at r2;obtain ⟨_,rfl⟩:=r2.isInt;obtain ⟨vs,n,e,r⟩:=R.mr _ (Uk hi);have hlen:=r.length
 have hsz:vs.toArray.size<=sizeLine:=by
  show vs.toArray.size<=2 ^ 24;rw [Uz,hlen];exact Uc hl (by decide)
 have hf:Builtin.List.listFitsIndex x=true:=by
  have:k<=2 ^ 20:=Uc hk0 hl;unfold Builtin.List.listFitsIndex;simp;exact ar22 hx this
 have hf':¬(!Builtin.List.listFitsIndex x)=true:=by rw [hf]; decide
 have up:=PySem.IsL.update (h:=s.heap) (l:=a) (items:=vs.toArray) (n:=n) e (λxs:Array Value=>have k:=if x < 0 then (x+(xs.size:Int)).toNat else min x.toNat xs.size; (xs.extract 0 k).push v3++xs.extract k);refine call_meets PySem.F.slot_list_insert ⟨_,e,rfl⟩ PySem.F.entry_list_insert (PySem.F.args_list_insert_3 _ _ _) (PySem.AutoSeq1.list_insert_list_int_val_1 a vs.toArray n x _ v3 hf' hsz) ⟨e,?_⟩
 have ev:(have j:=if x < 0 then (x+(vs.toArray.size:Int)).toNat else min x.toNat vs.toArray.size; (vs.toArray.extract 0 j).push v3++vs.toArray.extract j)=(vs.take k++v3 :: vs.drop k).toArray:=by
  have e1:¬ x < 0:=by exact ar26 hx
  have e3:x.toNat=k:=by exact ar28 hx
  have e2:min k vs.toArray.size=k:=by rw [Uz,hlen]; exact Se hk0
  simp only [e1,if_false,e3,e2];apply Array.ext';simp [Tw]
 refine ⟨.none,_,F, .refl F, .none,R.setMem (tk:=s.toks) (ao':=.list (xs.take k++y :: xs.drop k)) hi rfl (λb hb=>(Heap.SameBut.update ..).2 b (by simpa [AO.places] using hb)) ?_,q⟩;dsimp only at up;rw [ev] at up;exact ⟨vs.take k++v3 :: vs.drop k,_,up,(r.take k).append (.cons r3 (r.drop k))⟩
theorem Yb {P:PR3} {l:Loc} {m:List (Addr × AO)} {a:AV} (e:Z1 m=Z1 mem) (h:P a m []):PB3 mem P (.ret a) l m:=⟨m, [],by simp,e,h⟩
theorem ZL {P:PR3} {l:Loc} {m:List (Addr × AO)} (e:Z1 m=Z1 mem) (h:P .none m []):PB3 mem P .next l m:=⟨m, [],by simp,e,h⟩
theorem Wx {P:PR3} {l:Loc} {m:List (Addr × AO)} {a:AV} (x:Addr × AO) (hx:[x].Sublist m) (h:P a [] [x]):PB3 [] P (.ret a) l m:=⟨[], [x],by simpa using hx,rfl,h⟩
theorem VO2.low {d u d' u':Nat} {f:Value->Value->Sem Value} {a b c:AV} (h:VO2 prog w B d u f a b c) (hd:d'<=d) (hu:u'<=u):VO2 prog w B d' u' f a b c :=
 λA E F env loc tmp mem s va vb hA=>h A E F env loc tmp mem s va vb ⟨hA.hd,Uc hA.dp hd,Uc hA.un hu⟩
theorem FNV.low {d u d' u':Nat} {f:AV} {as:List AV} {ks:List (Str × AV)} {mem:List (Addr × AO)} {P:PR3} (h:FNV prog w B d u f as ks mem P) (hd:d'<=d) (hu:u'<=u):FNV prog w B d' u' f as ks mem P :=
 λF v r A s vs kvs hA=>h F v r A s vs kvs ⟨hA.hd,Uc hA.dp hd,Uc hA.un hu⟩
inductive ForD (prog:Program) (w:World) (B:Base) (d u:Nat) (env:Env) (loc:Loc) (target:Expr) (body orelse:List Stmt) (Q:PF) (can:Nat->Loc) (mf:Nat->List (Addr × AO)) (M:List (Addr × AO)->Prop) (xs:List AV) (mem:List (Addr × AO)):Prop where
 | mk (h0:Sub (can 0) loc) (hm:mem=mf 0) (hM:∀ i,M (mf i))
  (step:∀ (i:Nat) a,xs[i]?=some a->∃ l',Asg prog w B env target a (can i) l'/\WB prog w B d u env l' (mf i) body (LoopP (λl m=>Sub (can (i+1)) l/\m=mf (i+1)) Q))
  (stop:WB prog w B d u env (can xs.length) (mf xs.length) orelse Q)
theorem Xq {target iter:Expr} {body orelse:List Stmt} {pos:Pos} {Q:PF} (can:Nat->Loc) (mf:Nat->List (Addr × AO)) (hs:∀ x,foldedSetIterable iter env x=pure x)
  (h:WI prog w B d u env loc mem iter target λM xs mem1=>ForD prog w B d u env loc target body orelse Q can mf M xs mem1) :
  WS prog w B d u env loc mem (.For target iter body orelse pos) Q:=by
 refine s_for hs λA E F tmp s hA R=>?_;refine Ud (h A E F tmp s hA R) (λx s₁ h₁=>Ud h₁ (λit s2 h₂=>?_) λ_ _ x=>x) λ_ _ x=>x;obtain ⟨I,wr,St,M,xs,m2,F2,e1,mc,k₂,R₂,st2,hw2,hsub,hm,hM,step,stop⟩:=h₂;refine ⟨I,wr,St,M,xs,m2,F2,e1,mc,k₂,R₂,st2,hw2,λi l m=>l=can i/\m=mf i,⟨_,hsub,rfl,hm⟩,λi l m hj=>hj.2 ▸ hM i,λi a l m hx hj=>?_,λl m hj=>?_⟩
 ·obtain ⟨rfl,rfl⟩:=hj;obtain ⟨l',asg,wb⟩:=step i a hx;refine ⟨l',asg,WB.mono wb λf l m z=>?_⟩
  cases f with
  | next=>exact ⟨_,z.1,rfl,z.2⟩
  | cont=>exact ⟨_,z.1,rfl,z.2⟩
  | brk=>exact z
  | ret a=>exact z
 ·obtain ⟨rfl,rfl⟩:=hj;exact stop
end
end
section
open PySem PySem.W PyProof.Rows PySem.Calls
theorem xa_bit {a b:Nat} (ha:a=0\/a=1) (hb:b=0\/b=1):(a^^^b)+2*(a &&& b)=a+b:=by rcases ha with rfl | rfl <;> rcases hb with rfl | rfl <;> rfl
theorem xa_lin {x y a b X Y A B:Nat} (h1:X+2*Y=A+B) (h2:x+2*y=a+b):(2*X+x)+2*(2*Y+y)=(2*A+a)+(2*B+b):=by exact ar113 h1 h2
theorem nat_xor_and (m:Nat):∀ n:Nat,(m^^^n)+2*(m &&& n)=m+n:=by
 induction m using Nat.strongRecOn with
 | ind m ih =>
  intro n;rcases S2 m with h0 | h0
  ·rw [h0,Nat.zero_xor,Nat.zero_and]; exact (Rf n).symm
  ·have h:=xa_lin (ih (m / 2) (Nat.div_lt_self h0 (by decide)) (n / 2)) (xa_bit (Nat.mod_two_eq_zero_or_one m) (Nat.mod_two_eq_zero_or_one n));rw [<- Nat.xor_div_two, <- Nat.and_div_two] at h;have e1:m % 2^^^n % 2=(m^^^n) % 2:=(Nat.xor_mod_two_pow (a:=m) (b:=n) (n:=1)).symm;have e2:m % 2 &&& n % 2=(m &&& n) % 2:=(Nat.and_mod_two_pow (a:=m) (b:=n) (n:=1)).symm
   rwa [e1,e2,Nat.div_add_mod,Nat.div_add_mod,Nat.div_add_mod,Nat.div_add_mod] at h
theorem bandN (a b:Nat):Builtin.bitAnd (a:Int) (b:Int)=((a &&& b:Nat):Int):=by
 rw [bitAnd_pp (U2 _) (U2 _)]; simp
theorem borN (a b:Nat):Builtin.bitOr (a:Int) (b:Int)=((a ||| b:Nat):Int):=by
 rw [bitOr_and,bandN];have:=nat_or_add_and a b;exact ar114 this
theorem bxorN (a b:Nat):Builtin.bitXor (a:Int) (b:Int)=((a^^^b:Nat):Int):=by
 unfold Builtin.bitXor;rw [borN,bandN];have h1:=nat_or_add_and a b;have h2:=nat_xor_and a b;exact ar115 h1 h2
section
variable {d u:Nat} {a b:Nat}
theorem Vg:VO2 prog w B d u (binaryOp .BitAnd) (.int (a:Int)) (.int (b:Int)) (.int ((a &&& b:Nat):Int)):=vo_is vo_and (congrArg AV.int (bandN a b))
theorem vn_or:VO2 prog w B d u (binaryOp .BitOr) (.int (a:Int)) (.int (b:Int)) (.int ((a ||| b:Nat):Int)):=vo_is vo_or (congrArg AV.int (borN a b))
theorem vn_ior:VO2 prog w B d u (inplaceOp .BitOr) (.int (a:Int)) (.int (b:Int)) (.int ((a ||| b:Nat):Int)):=vo_is vo_ior (congrArg AV.int (borN a b))
theorem vn_xor:VO2 prog w B d u (binaryOp .BitXor) (.int (a:Int)) (.int (b:Int)) (.int ((a^^^b:Nat):Int)):=vo_is vo_xor (congrArg AV.int (bxorN a b))
theorem vn_ixor:VO2 prog w B d u (inplaceOp .BitXor) (.int (a:Int)) (.int (b:Int)) (.int ((a^^^b:Nat):Int)):=vo_is vo_ixor (congrArg AV.int (bxorN a b))
theorem X3:VO2 prog w B d u (binaryOp .Add) (.int (a:Int)) (.int (b:Int)) (.int ((a+b:Nat):Int)):=vo_is vo_add (congrArg AV.int (by push_cast; rfl))
theorem vn_iadd:VO2 prog w B d u (inplaceOp .Add) (.int (a:Int)) (.int (b:Int)) (.int ((a+b:Nat):Int)):=vo_is vo_iadd (congrArg AV.int (by push_cast; rfl))
theorem vn_sub (h:b<=a):VO2 prog w B d u (binaryOp .Sub) (.int (a:Int)) (.int (b:Int)) (.int ((a - b:Nat):Int)):=vo_is vo_sub (congrArg AV.int (by exact Eq.symm (Int.ofNat_sub h)))
theorem Vc (hn:b<=1000000) (ha:a < 2 ^ 64):VO2 prog w B d u (binaryOp .LShift) (.int (a:Int)) (.int (b:Int)) (.int ((a*2 ^ b:Nat):Int)) :=
 vo_is (vo_shl (U2 _) (by exact Nat.ToInt.of_le rfl rfl hn) (by simpa using ha)) (congrArg AV.int (by push_cast; simp))
theorem vn_ishl (hn:b<=1000000) (ha:a < 2 ^ 64):VO2 prog w B d u (inplaceOp .LShift) (.int (a:Int)) (.int (b:Int)) (.int ((a*2 ^ b:Nat):Int)) :=
 vo_is (vo_ishl (U2 _) (by omega) (by simpa using ha)) (congrArg AV.int (by push_cast; simp))
theorem vn_shr:VO2 prog w B d u (binaryOp .RShift) (.int (a:Int)) (.int (b:Int)) (.int ((a / 2 ^ b:Nat):Int)) :=
 vo_is (vo_shr (U2 _)) (congrArg AV.int (by
  rw [Int.fdiv_eq_ediv_of_nonneg _ (by exact Int.le_of_lt (Int.pow_pos (by decide)))]
  push_cast; rfl))
theorem Xy (hb:0 < b) (hs:b < 1073741824):VO2 prog w B d u (binaryOp .FloorDiv) (.int (a:Int)) (.int (b:Int)) (.int ((a / b:Nat):Int)) :=
 vo_is (vo_fdiv (by exact ar116 hb hs) (by simpa using hs)) (congrArg AV.int (by rw [Int.fdiv_eq_ediv_of_nonneg _ (U2 _)]; push_cast; rfl))
theorem Y2 (hb:0 < b):VO2 prog w B d u (binaryOp .Mod) (.int (a:Int)) (.int (b:Int)) (.int ((a % b:Nat):Int)) :=
 vo_is (vo_fmod (by exact ar117 hb)) (congrArg AV.int (by rw [Int.fmod_eq_emod_of_nonneg _ (U2 _)]; push_cast; rfl))
theorem Vr:VO2 prog w B d u (compareOp .Gt) (.int (a:Int)) (.int (b:Int)) (.bool (decide (b < a))):=vo_is vo_gt (congrArg AV.bool (by simp))
theorem vn_eq:VO2 prog w B d u (compareOp .Eq) (.int (a:Int)) (.int (b:Int)) (.bool (a == b)):=vo_is vo_eq (congrArg AV.bool (by
 by_cases h:a=b
 ·subst h; simp
 ·have:(a:Int)≠b:=by exact Nat.ToInt.of_diseq rfl rfl h
  rw [beq_eq_false_iff_ne.mpr this,beq_eq_false_iff_ne.mpr h]))
theorem XT {mem:List (Addr × AO)}:VT prog w B d u mem (.int (a:Int)) (a != 0):=λA E F env loc tmp s va h1 h2 h3=>by
 have:=vt_int (d:=d) (u:=u) (i:=(a:Int)) (mem:=mem) A E F env loc tmp s va h1 h2 h3
 have e:((a:Int) != 0)=(a != 0):=by
  by_cases h:a=0
  ·subst h; rfl
  ·have:(a:Int)≠0:=by exact ar118 h
   unfold bne;rw [beq_eq_false_iff_ne.mpr this,beq_eq_false_iff_ne.mpr h]
 rw [e] at this; exact this
theorem XS {x c:Int} {n i:Nat} {a:AV} (h:(rngL x c n)[i]?=some a):i < n/\a=.int (x+(i:Int)*c):=by
 unfold rngL at h;rw [Ul] at h;obtain ⟨j,hj,rfl⟩:=Ux.mp h;obtain ⟨hlt,e⟩:=Un.mp hj;simp at hlt e;subst e;exact ⟨hlt,rfl⟩
theorem Zm {x c:Int} {n:Nat}:(rngL x c n).length=n:=by simp [rngL]
theorem ZY {n i:Nat} {a:AV} (h:(rngL 0 1 n)[i]?=some a):i < n/\a=.int ((i:Nat):Int):=by
 obtain ⟨h1,h2⟩:=XS h;exact ⟨h1,by rw [h2]; congr 1; exact ar119⟩
theorem ZS {n:Int}:FN prog w B d u (.type "range") [.int n] [] [] (λav m ex=>av=rngAV 0 n 1/\m=[]/\ex=[]):=FN.made λA F s vs kvs Q hA I hF ha hk q=>by
 obtain rfl:=hk.n0;obtain ⟨v1,rfl,r1⟩:=ha.n1;obtain ⟨_,rfl⟩:=r1.isInt;refine call_range_1 ?_;exact q _ _ _ _ (λb o e=>Heap.get?_push_of_some _ e) (Zy _) (Heap.get?_push_size _ rfl) (.pred _ _ λG kG=>⟨_,_,_,_,rfl,kG _ _ FM.set_same⟩)
theorem f_range2 {a b:Int}:FN prog w B d u (.type "range") [.int a, .int b] [] [] (λav m ex=>av=rngAV a b 1/\m=[]/\ex=[]):=FN.made λA F s vs kvs Q hA I hF ha hk q=>by
 obtain rfl:=hk.n0;obtain ⟨v1,v2,rfl,r1,r2⟩:=ha.n2;obtain ⟨_,rfl⟩:=r1.isInt;obtain ⟨_,rfl⟩:=r2.isInt;refine call_range_2 ?_;exact q _ _ _ _ (λb o e=>Heap.get?_push_of_some _ e) (Zy _) (Heap.get?_push_size _ rfl) (.pred _ _ λG kG=>⟨_,_,_,_,rfl,kG _ _ FM.set_same⟩)
theorem f_range3 {a b c:Int} (hc:c≠0) (hp:Builtin.divisionGoesByPylong (b - a) c=false):FN prog w B d u (.type "range") [.int a, .int b, .int c] [] [] (λav m ex=>av=rngAV a b c/\m=[]/\ex=[]):=FN.made λA F s vs kvs Q hA I hF ha hk q=>by
 obtain rfl:=hk.n0;obtain ⟨v1,v2,v3,rfl,r1,r2,r3⟩:=ha.n3;obtain ⟨_,rfl⟩:=r1.isInt;obtain ⟨_,rfl⟩:=r2.isInt;obtain ⟨_,rfl⟩:=r3.isInt;refine call_range_3 hc ?_ (.inl hp);exact q _ _ _ _ (λb o e=>Heap.get?_push_of_some _ e) (Zy _) (Heap.get?_push_size _ rfl) (.pred _ _ λG kG=>⟨_,_,_,_,rfl,kG _ _ FM.set_same⟩)
end
end
section
open PySem PySem.W PyProof.Rows PySem.Calls
mutual
noncomputable def toD:AV->Dat
 | .none=>.none
 | .bool b=>.bool b
 | .int i=>.int i
 | .str x=>.str x
 | .tup xs=>.tuple (toDs xs)
 | .lst xs=>.list (toDs xs)
 | .raw _=>.bytes #[]
 | .pred _=>.bytes #[]
noncomputable def toDs:List AV->List Dat
 | []=>[]
 | a :: r=>toD a :: toDs r
end
theorem Y4:∀ xs:List AV,toDs xs=xs.map toD
 | []=>by simp [toDs]
 | a :: r=>by simp [toDs,Y4 r]
theorem RV.reads {F:FM} {h:Heap} (k:F.le h.get?) {v:Value} {a:AV} (n:Nat) (r:RV F v a):kqdOk n (toD a)=true->∃ as,Reads h v (kqdP (toD a)) as :=
 RV.rec (motive_1:=λv a _=>∀ n,kqdOk n (toD a)=true->∃ as,Reads h v (kqdP (toD a)) as) (motive_2:=λvs as _=>∀ n,(∀ d ∈ toDs as,kqdOk n d=true)->∃ bs,ReadsAll h vs (kqdPs (toDs as)) bs)
  (λ_ _=>⟨_,Reads.none⟩) (λb _ _=>⟨_,Reads.bool b⟩) (λi t _ _=>⟨_,Reads.int i t⟩) (λx t _ _=>⟨_,Reads.str x t⟩) (λ_ n hk=>by cases n <;> simp [toD,kqdOk] at hk) (λ_ _ _ n hk=>by cases n <;> simp [toD,kqdOk] at hk)
  (λa vs xs m e _ ih n hk=>by
   cases n with
   | zero=>simp [toD,kqdOk] at hk
   | succ n =>
    obtain ⟨as,q⟩:=ih n (by simpa [toD,kqdOk] using hk);rw [toD,kqdP]
    exact ⟨as,reads_tuple_at (k _ _ e) rfl rfl (by simpa using q)⟩)
  (λa vs xs m e _ ih n hk=>by
   cases n with
   | zero=>simp [toD,kqdOk] at hk
   | succ n =>
    obtain ⟨as,q⟩:=ih n (by simpa [toD,kqdOk] using hk);rw [toD,kqdP]
    exact ⟨_,reads_list_at (k _ _ e) rfl rfl (by simpa using q)⟩)
  (λ_ _=>⟨_,by rw [toDs,kqdPs]; exact ReadsAll.nil⟩)
  (λ_ _ ih1 ih2 n hk=>by
   rw [toDs] at hk;obtain ⟨as,q⟩:=ih1 n (hk _ (.head _));obtain ⟨bs,p⟩:=ih2 n λd hm=>hk d (.tail _ hm);rw [toDs,kqdPs]
   exact ⟨_,ReadsAll.cons q p⟩) r n
section
variable {d u:Nat}
open Classical in
theorem vo_eqL {xs ys:List AV} (hx:∀ a ∈ xs,kqdOk 8 (toD a)=true) (hy:∀ a ∈ ys,kqdOk 8 (toD a)=true) (hu:u+64 < cLine):VO2 prog w B d u (compareOp .Eq) (.lst xs) (.lst ys) (.bool (decide (toDs xs=toDs ys))):=λA E F env loc tmp mem s va vb hA ha hb R=>by
 have kx:kqdOk 9 (toD (.lst xs))=true:=by simp only [toD,kqdOk,Y4,List.all_map,Su]; exact hx
 have ky:kqdOk 9 (toD (.lst ys))=true:=by simp only [toD,kqdOk,Y4,List.all_map,Su]; exact hy
 obtain ⟨as,ra⟩:=RV.reads R.le 9 ha kx;obtain ⟨bs,rb⟩:=RV.reads R.le 9 hb ky;obtain ⟨a,vs,rfl,_,_⟩:=ha.lst_at R.le;obtain ⟨b,ws,rfl,_,_⟩:=hb.lst_at R.le;have la:=kqd_lay 9 _ kx;have lb:=kqd_lay 9 _ ky
 have e:PyData.eqv (kqdP (toD (.lst xs))) (kqdP (toD (.lst ys)))=decide (toDs xs=toDs ys):=by
  have q:=kqd_eqv 9 _ _ 9 kx ky;simp only [toD,Dat.list.injEq] at q ⊢
  by_cases hq:toDs xs=toDs ys
  ·rw [decide_eq_true hq]; exact q.mpr hq
  ·rw [decide_eq_false hq]; exact Bool.eq_false_iff.mpr λx=>hq (q.mp x)
 simp only [toD,kqdP] at ra rb la lb e;refine eq_dataH ra rb ?_ ?_ (Uo (Uv hA.un 64) hu) (by rw [e]; exact ⟨F, .refl F, .bool _,R⟩)
 ·unfold SeqAt.shaped; rw [la.1,S9]; exact decide_eq_true (Uc la.2 (by decide))
 ·unfold SeqAt.shaped; rw [lb.1,S9]; exact decide_eq_true (Uc lb.2 (by decide))
open Classical in
theorem Wg {xs ys:List AV} (hx:∀ a ∈ xs,kqdOk 8 (toD a)=true) (hy:∀ a ∈ ys,kqdOk 8 (toD a)=true) (hu:u+64 < cLine):VO2 prog w B d u (compareOp .NotEq) (.lst xs) (.lst ys) (.bool (!decide (toDs xs=toDs ys))):=λA E F env loc tmp mem s va vb hA ha hb R=>by
 have kx:kqdOk 9 (toD (.lst xs))=true:=by simp only [toD,kqdOk,Y4,List.all_map,Su]; exact hx
 have ky:kqdOk 9 (toD (.lst ys))=true:=by simp only [toD,kqdOk,Y4,List.all_map,Su]; exact hy
 obtain ⟨as,ra⟩:=RV.reads R.le 9 ha kx;obtain ⟨bs,rb⟩:=RV.reads R.le 9 hb ky;obtain ⟨a,vs,rfl,_,_⟩:=ha.lst_at R.le;obtain ⟨b,ws,rfl,_,_⟩:=hb.lst_at R.le;have la:=kqd_lay 9 _ kx;have lb:=kqd_lay 9 _ ky
 have e:PyData.eqv (kqdP (toD (.lst xs))) (kqdP (toD (.lst ys)))=decide (toDs xs=toDs ys):=by
  have q:=kqd_eqv 9 _ _ 9 kx ky;simp only [toD,Dat.list.injEq] at q ⊢
  by_cases hq:toDs xs=toDs ys
  ·rw [decide_eq_true hq]; exact q.mpr hq
  ·rw [decide_eq_false hq]; exact Bool.eq_false_iff.mpr λx=>hq (q.mp x)
 simp only [toD,kqdP] at ra rb la lb e;refine ne_dataH ra rb ?_ ?_ (Uo (Uv hA.un 64) hu) (by rw [e]; exact ⟨F, .refl F, .bool _,R⟩)
 ·unfold SeqAt.shaped; rw [la.1,S9]; exact decide_eq_true (Uc la.2 (by decide))
 ·unfold SeqAt.shaped; rw [lb.1,S9]; exact decide_eq_true (Uc lb.2 (by decide))
end
theorem under_of {a b:Loc} (h:Sub a b):Yr a b:=h.get
theorem sub_nil {l:Loc}:Sub [] l:=trivial
theorem clok_nil {env:Env} {scope:Scope} {all:List (Str × Addr)}:ClOK env scope all []:=trivial
noncomputable def Z0 (ns:List Nat):List AV:=ns.map λn:Nat=>AV.int (n:Int)
theorem YS {α:Type} (p:α->Bool) (g:α->AV):∀ l:List α,(l.map λx=>if p x then some (g x) else none).filterMap id=(l.filter p).map g
 | []=>rfl
 | x :: r=>by
  have ih:=YS p g r
  cases h:p x with
  | true=>simp -iota [h] at ih ⊢; exact ih
  | false=>simp -iota [h] at ih ⊢; exact ih
theorem YM {ns:List Nat} {k:Nat}:∀ a ∈ Z0 ns,kqdOk k (toD a)=true:=λa ha=>by
 obtain ⟨n,_,rfl⟩:=Uq.mp ha
 cases k <;> simp [toD,kqdOk]
theorem toDs_nats {xs ys:List Nat}:(toDs (Z0 xs)=toDs (Z0 ys))↔xs=ys:=by
 constructor
 ·intro h;rw [Y4,Y4,Z0,Z0,Tc,Tc] at h;refine List.map_inj_right (λa b e=>?_) |>.mp h;simp only [Function.comp,toD,Dat.int.injEq] at e;exact ar92 e
 ·rintro rfl; rfl
theorem ZN {ns:List Nat} {i:Nat} {a:AV} (h:(Z0 ns)[i]?=some a):∃ n,ns[i]?=some n/\a=.int ((n:Nat):Int):=by
 rw [Z0,Ul] at h;obtain ⟨n,hn,rfl⟩:=Ux.mp h;exact ⟨n,hn,rfl⟩
theorem Xf {ns:List Nat} {i n:Nat} (h:ns[i]?=some n):(Z0 ns)[i]?=some (.int ((n:Nat):Int)):=by
 rw [Z0,Ul,h]; rfl
theorem Z4 {ns:List Nat}:(Z0 ns).length=ns.length:=by simp -iota [Z0]
theorem Yi {ns:List Nat} {i:Nat} {a:AV} (h:(X7 0 (Z0 ns))[i]?=some a):∃ n,ns[i]?=some n/\a=.tup [.int ((i:Nat):Int), .int ((n:Nat):Int)]:=by
 rw [XX] at h;obtain ⟨b,hb,rfl⟩:=Ux.mp h;obtain ⟨n,hn,rfl⟩:=ZN hb;exact ⟨n,hn,by simp -iota⟩
theorem dec_t {p:Prop} {i:Decidable p} (h:@decide p i=true):p:=of_decide_eq_true h
theorem dec_f {p:Prop} {i:Decidable p} (h:@decide p i=false):¬ p:=of_decide_eq_false h
end
section
open PySem PySem.W PyProof.Rows PySem.Calls
theorem codeAmong_app (pos:Pos) (a b:Int) (c cv:Value):∀ l:List Value,TriplesOk l->codeAmong pos (l++[rawInt a,rawInt b,c])=some cv->codeAmong pos l=some cv\/cv=c:=λl h e=>by
 fun_induction TriplesOk l with
 | case1 =>
  simp only [List.nil_append,rawInt,codeAmong] at e
  split at e
  ·right; obtain rfl:=Up.inj e; rfl
  ·exact Z6 e
 | case2 a' t b' u x rest ih =>
  simp only [List.cons_append,codeAmong] at e ⊢
  split at e
  ·left; rename_i hc; rw [if_pos hc]; exact e
  ·rename_i hc; rw [if_neg hc]; exact ih h e
 | case3 l h1 h2=>exact h.elim
section
variable {E:Ent} {F:FM} {env:Env} {loc:Loc} {tmp:List (Value × AV)} {mem:List (Addr × AO)} {s:Shared}
theorem tabs_bm (I:Inv B s) {P:Addr} (hP:P ∈ B.tabs):s.heap.BuiltinsAt B.mg P:=by
 obtain ⟨bm,o,e1,e2,e3,e4,e5,e6⟩:=I.ok.bat P hP;refine ⟨bm,o,e1,e2,e3,e4,I.keep bm o e5 (λhb=>?_),e6⟩;obtain ⟨bm',o',f1,_,_,f4,_⟩:=I.ok.bat bm hb;rw [e1] at f1; cases f1;exact f4 rfl
theorem Rel.tab (R:Rel B E F env loc tmp mem s) {P c':Addr} {ps:Array Value} {pos:Pos} {h':Heap} {tk:Nat} (hP:P ∈ B.tabs) (hps:s.heap.get? P=some (X.tableObj ps)) (hx:Heap.ExtBut P s.heap h') (hc:s.heap.objs.size<=c') (hr:h'.CodeRec (.ref c') (B.tq P))
  (ht:h'.get? P=some (X.tableObj (ps++#[rawInt pos.line,rawInt pos.col, .ref c']))):∃ F',F.le F'/\(∃ o,F' c'=some o/\CodeO o (B.tq P))/\Rel B E F' env loc tmp mem { s with heap:=h',toks:=tk }:=by
 obtain ⟨c,o,vs,t,e1,e2,e3,e4⟩:=hr
 cases e1
 have H:=Hid.new R hc;have kF:=FM.set_le (o:=o) H.f;have hnP:c'≠P:=λq=>H.tab R.inv (q ▸ hP);have k:∀ b o',b ∉ B.tabs->s.heap.get? b=some o'->h'.get? b=some o':=λb o' hb e=>hx b o' (λq=>hb (q ▸ hP)) e;refine ⟨F.set c' o,kF,⟨o,FM.set_same,vs,t,e3,e4⟩,?_⟩
 exact {
  inv:=⟨R.inv.ok,λb o' e hb=>k _ _ hb (R.inv.keep b o' e hb),λP' hP'=>by
   by_cases q:P'=P
   ·subst q; exact ⟨_,ht⟩
   ·obtain ⟨ws,e⟩:=R.inv.tb P' hP'; exact ⟨ws,hx _ _ q e⟩,R.inv.os,R.inv.gens⟩
  keep:=λb o' e h1 h2=>k _ _ h1 (R.keep b o' e h1 h2)
  sub:=R.sub.trans kF
  le:=λb o' q=>by
   unfold FM.set at q
   by_cases z:b=c'
   ·subst z; rw [if_pos rfl] at q; obtain rfl:=Up.inj q; exact e2
   ·rw [if_neg z] at q; exact k _ _ (R.offT _ _ q) (R.le b o' q)
  fresh:=λb o' q=>by
   unfold FM.set at q
   by_cases z:b=c'
   ·subst z; exact .inr H.he
   ·rw [if_neg z] at q; exact R.fresh b o' q
  fr:=R.fr.keepsOn (λb o' hb e=>k b o' (R.lowT b (by
   rcases hb with rfl | hb
   ·exact .head _
   ·exact .tail _ (Ue.mpr (.inl hb)))) e) kF
  tv:=λp hp=>(R.tv p hp).mono kF
  mr:=λp hp=>(R.mr p hp).keepsOn (λb hb ob e=>k b ob (R.lowT b (.tail _ (Ue.mpr (.inr (U4.mpr ⟨p,hp,hb⟩))))) e) kF
  nd:=R.nd
  off:=λb hb=>by
   obtain ⟨q1,q2,q3⟩:=R.off b hb;refine ⟨?_,q2,q3⟩;unfold FM.set;rw [if_neg ?_]; exact q1;rintro rfl;exact H.fp hb
  offT:=λb o' q=>by
   unfold FM.set at q
   by_cases z:b=c'
   ·subst z; exact H.tab R.inv
   ·rw [if_neg z] at q; exact R.offT b o' q
  mex:=λa ha=>by
   obtain ⟨o',e⟩:=R.mex a ha
   by_cases q:a=P
   ·subst q; exact ⟨_,ht⟩
   ·exact ⟨o',hx _ _ q e⟩
  tf:=λP' hP'=>by
   obtain ⟨ws,f1,f2,f3⟩:=R.tf P' hP'
   by_cases q:P'=P
   ·subst q;rw [hps] at f1;have:ps=ws:=by have:=Up.inj f1; unfold X.tableObj at this; injection this with _ _ h3; injection h3
    subst this;refine ⟨_,ht,by rw [Array.toList_append]; exact TriplesOk_snoc _ _ _ _ f2,λpos' cv e=>?_⟩;rw [Array.toList_append] at e;rcases codeAmong_app pos' _ _ _ cv _ f2 e with z | rfl
    ·obtain ⟨c,o',g1,g2,g3⟩:=f3 pos' cv z;exact ⟨c,o',g1,kF _ _ g2,g3⟩
    ·exact ⟨c',o,rfl,FM.set_same,vs,t,e3,e4⟩
   ·exact ⟨ws,hx _ _ q f1,f2,λpos' cv e=>by obtain ⟨c,o',g1,g2,g3⟩:=f3 pos' cv e; exact ⟨c,o',g1,kF _ _ g2,g3⟩⟩ }
end
noncomputable def LamT (qual:Str) (params:Arguments) (body:Expr) (scope:Scope) (clos:List (Str × Addr)) (F:FM) (v:Value):Prop :=
 ∃ fa c' ctv pm o,v=.ref fa/\F fa=some (kla_obj "<lambda>" qual params body scope clos pm c' ctv)/\F c'=some o/\CodeO o qual
theorem LamT.mono {qual:Str} {params:Arguments} {body:Expr} {scope:Scope} {clos:List (Str × Addr)} {F G:FM} {v:Value} (k:F.le G) (h:LamT qual params body scope clos F v):LamT qual params body scope clos G v:=by
 obtain ⟨fa,c',ctv,pm,o,e1,e2,e3,e4⟩:=h;exact ⟨fa,c',ctv,pm,o,e1,k _ _ e2,k _ _ e3,e4⟩
section
variable {d u:Nat} {env:Env} {loc:Loc} {mem:List (Addr × AO)}
noncomputable def WR (K:Frag) (c P:Addr):Prop:=∀ h:Heap,K.In h->CodeHd h c P
theorem XW {params:Arguments} {body:Expr} {scope:Scope} {pos:Pos} {c P:Addr} (clos:List (Str × Addr)) {Q:PE} (hdef:defaultsOf params env=([], [])) (hclos:closureFor scope env=pure clos) (hcode:env.code=.ref c) (hC:WR B.K c P) (hP:P ∈ B.tabs)
  (hq:B.tq P=env.qual ++ "<lambda>") (h:Q (.pred (LamT (env.qual ++ "<lambda>") params body scope clos)) mem):WE prog w B d u env loc mem (.Lambda params body scope pos) Q:=λA E F tmp s hA R=>by
 refine kla_eval hdef ?_;obtain ⟨ws,f1,f2,f3⟩:=R.tf P hP;have hgP:mainGlobals≠P:=λq=>by have:=(R.inv.ok.t0 P hP).1; rw [<- q] at this; exact absurd this (by decide)
 cases hf:codeAmong pos ws.toList with
 | some cv =>
  obtain ⟨cc,o,rfl,g2,g3⟩:=f3 pos cv hf;refine kla_makeFunctionHit (mg:=B.mg) hclos R.fr.glob R.inv.g hcode (hC _ R.inv.kin) f1 f2 hf (tabs_bm R.inv hP) λctv h' tk k hsz=>?_;have R1:=R.ext (h':=h') (tk:=tk) k;obtain ⟨kF,R₂⟩:=R1.alloc (kla_obj "<lambda>" (env.qual ++ "<lambda>") params body scope clos ((B.mg "__name__").getD .none) cc ctv) rfl;refine ⟨_,mem,_,kF,R₂.push (.pred _ _ λG kG=>?_),h⟩;exact ⟨_,cc,ctv,_,o,rfl,kG _ _ FM.set_same,kG _ _ (kF _ _ g2),hq ▸ g3⟩
 | none =>
  refine kla_makeFunction (mg:=B.mg) hclos R.fr.glob R.inv.g hcode (hC _ R.inv.kin) f1 f2 hf hgP (tabs_bm R.inv hP) λc' ctv h' tk hx hc _ hr ht=>?_;obtain ⟨F1,k₁,⟨o,g2,g3⟩,R1⟩:=R.tab (tk:=tk) hP f1 hx hc (hq ▸ hr) ht;obtain ⟨kF,R₂⟩:=R1.alloc (kla_obj "<lambda>" (env.qual ++ "<lambda>") params body scope clos ((B.mg "__name__").getD .none) c' ctv) rfl;refine ⟨_,mem,_,k₁.trans kF,R₂.push (.pred _ _ λG kG=>?_),h⟩;exact ⟨_,c',ctv,_,o,rfl,kG _ _ FM.set_same,kG _ _ (kF _ _ g2),hq ▸ g3⟩
noncomputable def ClosT (B:Base) (scope:Scope) (clos:List (Str × Addr)) (loc₀:Loc) (F:FM):Prop :=
 ∀ L x av,loc₀.lookup x=some av->∃ c v o,(cellsFrom (L+1) scope.names clos).lookup x=some c/\(F c=some o\/B.K.lookup c=some o)/\o.data=.cell (some v)/\RV F v av
theorem ClosT.mono {scope:Scope} {clos:List (Str × Addr)} {loc₀:Loc} {F G:FM} (k:F.le G) (h:ClosT B scope clos loc₀ F):ClosT B scope clos loc₀ G:=λL x av e=>by
 obtain ⟨c,v,o,e1,e2,e3,e4⟩:=h L x av e;exact ⟨c,v,o,e1,e2.imp_left (k _ _),e3,e4.mono k⟩
noncomputable def LamC (B:Base) (qual:Str) (params:Arguments) (body:Expr) (scope:Scope) (clos:List (Str × Addr)) (loc₀:Loc) (F:FM) (v:Value):Prop:=LamT qual params body scope clos F v/\ClosT B scope clos loc₀ F
theorem LamC.mono {qual:Str} {params:Arguments} {body:Expr} {scope:Scope} {clos:List (Str × Addr)} {loc₀:Loc} {F G:FM} {v:Value} (k:F.le G) (h:LamC B qual params body scope clos loc₀ F v):LamC B qual params body scope clos loc₀ G v:=⟨h.1.mono k,h.2.mono k⟩
theorem Xs {qual:Str} {params:Arguments} {body:Expr} {scope:Scope} {clos:List (Str × Addr)} {loc₀:Loc}:Callee prog w B (.pred (LamC B qual params body scope clos loc₀)) :=
 callee_pred λF v h=>by
  obtain ⟨⟨fa,c',ctv,pm,o,e1,e2,e3,e4⟩,_⟩:=h;exact ⟨fa,_,_,e1,e2,rfl⟩
theorem YX {qual:Str} {params:Arguments} {body:Expr} {scope:Scope} {clos:List (Str × Addr)} {loc₀:Loc}:VO2 prog w B d u (compareOp .Is) (.pred (LamC B qual params body scope clos loc₀)) .none (.bool false):=λA E F env loc tmp mem s va vb hA ha hb R=>by
 obtain rfl:=hb.isNone
 cases ha with
 | pred _ _ hT =>
  obtain ⟨⟨fa,c',ctv,pm,o,rfl,_⟩,_⟩:=hT F (.refl F);exact is_none ⟨F, .refl F, .bool false,R⟩
theorem Wj {qual:Str} {params:Arguments} {body:Expr} {scope:Scope} {clos:List (Str × Addr)} {loc₀:Loc} {as:List AV} {ks:List (Str × AV)} {P:AV->Prop} (bs:List (Str × AV)) (hd:d+1 < recursionLimit)
  (hbind:∀ F vs kvs pm cdv ctv,RVs F vs as->KR F kvs ks->∃ binds,bindArgs (kla_fn "<lambda>" qual params body scope clos pm cdv ctv) ⟨vs,kvs⟩=pure binds/\KR F binds bs)
  (hst:∀ L fa cdv,VC (envF qual scope L fa cdv clos) bs) (hclo:∀ p ∈ clos,scope.names.lookup p.1≠some .cell) (hl0:∀ p ∈ loc₀,scope.names.lookup p.1=some .free)
  (hco:scope.isCoroutine=false) (hgen:scope.isGenerator=false) (hk:scope.kind=.function)
  (hb:∀ L fa cdv,WE prog w B (d+1) (u+3) (envF qual scope L fa cdv clos) (YE loc₀ bs) [] body λa m=>m=[]/\P a) :
  FNV prog w B d u (.pred (LamC B qual params body scope clos loc₀)) as ks [] (λav m ex=>m=[]/\ex=[]/\P av):=λF v hv A s vs kvs hA I hn hF hT hTF ha hkw hm=>by
 cases hv with
 | pred _ _ hTv =>
  obtain ⟨⟨fa,c',ctv,pm,o,rfl,e2,e3,⟨ws,t,e4,e5⟩⟩,hcl⟩:=hTv F (.refl F);obtain ⟨binds,hbd,hkr⟩:=hbind F vs kvs pm (.ref c') ctv ha hkw;refine wpAny_call ?_;refine kla_callFunE (fd:=kla_fn "<lambda>" qual params body scope clos pm (.ref c') ctv) (Uo hA.dp (S7 hd)) (hF _ _ e2) rfl hco hgen rfl ⟨c',o,ws,t,rfl,hF _ _ e3,e4,e5⟩ ?_;rw [hbd];refine Ub (Xn loc₀ I hn hF hT hTF hm hkr hk (λL=>(hst L fa (.ref c')).get) hclo hl0 hcl λL s' R=>⟨R.inv.lim,kla_codeExpr ?_⟩);have hA':AOK (d+1) (u+3) (A.deeper (envF qual scope L fa (.ref c') clos)):=⟨hA.hd,T7 hA.dp,Uv hA.un 3⟩;refine Ud (hb L fa (.ref c') _ _ _ _ _ hA' R) (λv' s'' h'=>?_) λ_ _ x=>x.elim;obtain ⟨a,m,F',k',R',rfl,hp⟩:=h';exact ⟨a, [], [],F',XC k' R'.pop (List.nil_sublist _) rfl R'.top,rfl,rfl,hp⟩
theorem c_key {f:AV} {as as':List AV} {y:Str} {qual:Str} {params:Arguments} {body:Expr} {scope:Scope} {clos:List (Str × Addr)} {loc₀:Loc} {P:PR3} {Q:PE} (hv:Vws mem as as')
  (hcl:∀ p ∈ loc₀,loc.lookup p.1=some p.2/\env.kindOf p.1=some .cell/\∀ L c,env.cells.lookup p.1=some c->(cellsFrom (L+1) scope.names clos).lookup p.1=some c)
  (h:FNV prog w B d u f as' [(y, .pred (LamC B qual params body scope clos loc₀))] [] P) (hq:∀ av ex,P av [] ex->Flat av/\ex=[]/\Q av mem) :
  CALL prog w B d u env loc f as [(y, .pred (LamT qual params body scope clos))] mem Q:=λA E F tmp s fv vs kvs hA R hf ha hk=>by
 obtain ⟨kv,rfl,rk⟩:=hk.n1;let G:FM:=λa=>match F.view mem s.heap a with | some o=>some o | none=>if a ∈ own env then s.heap.get? a else none
 have Gdef:∀ a o,G a=some o->F.view mem s.heap a=some o\/(a ∈ own env/\s.heap.get? a=some o):=λa o e=>by
  show _\/_;have e:(match F.view mem s.heap a with | some o=>some o | none=>if a ∈ own env then s.heap.get? a else none)=some o:=e
  cases q:F.view mem s.heap a with
  | some o'=>rw [q] at e; obtain rfl:=Up.inj e; exact .inl rfl
  | none =>
   rw [q] at e;dsimp only at e
   split at e
   ·exact .inr ⟨by assumption,e⟩
   ·exact Z6 e
 have vG:(F.view mem s.heap).le G:=λa o e=>by show (match F.view mem s.heap a with | some o=>some o | none=>_)=_; rw [e]
 have hG:F.le G:=W9.trans vG
 have cellG:∀ c ∈ own env,∀ o,s.heap.get? c=some o->G c=some o:=λc hc o e=>by
  show (match F.view mem s.heap c with | some o=>some o | none=>if c ∈ own env then s.heap.get? c else none)=some o
  cases q:F.view mem s.heap c with
  | some o' =>
   have:=VY R.le _ _ q;rw [e] at this; obtain rfl:=Up.inj this; rfl
  | none=>dsimp only; rw [if_pos hc]; exact e
 have inPl:∀ a xs,(a,AO.list xs) ∈ mem->a ∈ Z1 mem:=λa xs h=>U4.mpr ⟨_,h,by simp [AO.places]⟩
 have rkG:RV G kv (.pred (LamC B qual params body scope clos loc₀)):=by
  cases rk with
  | pred _ _ hT =>
   refine .pred _ _ λH kH=>⟨hT H (hG.trans kH),λL x av e=>?_⟩
   obtain ⟨h1,h2,h3⟩:=hcl _ (Z7 e);obtain ⟨c,v,e1,⟨o,e2,e3⟩,e4⟩:=R.fr.cl x av h2 h1;exact ⟨c,v,o,h3 L c e1, .inl (kH _ _ (cellG c (Y9 h2 (Z7 e1)) o e2)),e3,e4.mono (hG.trans kH)⟩
 refine Ud (view_go (Q:=Q) (G:=G) hA R hG (λa o e=>?_) (λa o e=>?_) (λa o e=>?_) (h _ _ (hf.mono hG)).nil ((hv.rv R ha).mono vG) (.cons rkG .nil) λav m ex p=>?_) (λv s' h'=>?_) λ_ _ x=>x
 ·rcases Gdef a o e with q | ⟨_,q⟩
  ·exact VY R.le _ _ q
  ·exact q
 ·rcases Gdef a o e with q | ⟨q,_⟩
  ·rcases XH q with z | ⟨⟨xs,z⟩,_⟩
   ·exact R.offT a o z
   ·exact R.lowT a (.tail _ (Ue.mpr (.inr (inPl a xs z))))
  ·exact R.lowT a (.tail _ (Ue.mpr (.inl q)))
 ·rcases Gdef a o e with q | ⟨q,e'⟩
  ·rcases XH q with z | ⟨⟨xs,z⟩,e'⟩
   ·exact .inl z
   ·right;intro us hd;obtain ⟨ws,n,e2,_⟩:=R.mr _ z;rw [show s.heap.get? a=some o from e'] at e2;obtain rfl:=Up.inj e2
    cases hd
  ·right;intro us hd;obtain ⟨v,o',e2,e3⟩:=R.fr.ex a q;rw [e'] at e2; obtain rfl:=Up.inj e2;rw [hd] at e3; cases e3
 ·obtain ⟨rfl,p⟩:=p;obtain ⟨fl,rfl,q⟩:=hq av ex p;exact ⟨fl,rfl,rfl,q⟩
 ·obtain ⟨av,F',k,r,R',q⟩:=h';exact ⟨av,mem,F',k,r,R',q⟩
theorem lam_C {qual:Str} {params:Arguments} {body:Expr} {scope:Scope} {clos:List (Str × Addr)} {F:FM} {v:Value} (h:RV F v (.pred (LamT qual params body scope clos))):RV F v (.pred (LamC B qual params body scope clos [])):=by
 cases h with
 | pred _ _ hT=>exact .pred _ _ λG kG=>⟨hT G kG,λ_ _ _ e=>nomatch e⟩
theorem FNV.lam0 {qual:Str} {params:Arguments} {body:Expr} {scope:Scope} {clos:List (Str × Addr)} {as:List AV} {ks:List (Str × AV)} {P:PR3} (h:FNV prog w B d u (.pred (LamC B qual params body scope clos [])) as ks mem P):FNV prog w B d u (.pred (LamT qual params body scope clos)) as ks mem P :=
 λF v r=>h F v (lam_C r)
theorem Vx {qual:Str} {params:Arguments} {body:Expr} {scope:Scope} {clos:List (Str × Addr)}:Callee prog w B (.pred (LamT qual params body scope clos)) :=
 λF v s I k r=>Xs F v s I k (lam_C r)
theorem Wu {qual:Str} {params:Arguments} {body:Expr} {scope:Scope} {clos:List (Str × Addr)}:VO2 prog w B d u (compareOp .Is) (.pred (LamT qual params body scope clos)) .none (.bool false):=λA E F env loc tmp mem s va vb hA ha hb R =>
 YX A E F env loc tmp mem s va vb hA (lam_C ha) hb R
theorem FNV.mono {f:AV} {as:List AV} {ks:List (Str × AV)} {P P':PR3} (h:FNV prog w B d u f as ks mem P) (k:∀ a m ex,P a m ex->P' a m ex):FNV prog w B d u f as ks mem P':=λF v r A s vs kvs h1 h2 h3 h4 h5 h6 h7 h8 h9 =>
 Ud (h F v r A s vs kvs h1 h2 h3 h4 h5 h6 h7 h8 h9) (λ_ _ hq1=>by obtain ⟨av,m,ex,F',l,p⟩:=hq1; exact ⟨av,m,ex,F',l,k _ _ _ p⟩) λ_ _ x=>x
end
end
section
open PySem PySem.W PyProof.Rows PySem.Calls
section
variable {d u:Nat} {env:Env} {loc:Loc} {mem:List (Addr × AO)}
theorem s_assignT {elts:List Expr} {k:Nat} {tpos pos:Pos} {value:Expr} {Q:PF} (hs:swapsWithSole [.Tuple elts k tpos] value pos.line env=pure false) (hw:swappedStores [.Tuple elts k tpos] value env=pure none)
  (h:WE prog w B d u env loc mem value λa m=>∃ loc',Asg prog w B env (.Tuple elts k tpos) a loc loc'/\Q .next loc' m):WS prog w B d u env loc mem (.Assign [.Tuple elts k tpos] value pos) Q:=λA E F tmp s hA R=>by
 refine Assign_Tuple (Ud (h A E F tmp s hA R) (λv s₁ h₁=>?_) λ_ _ x=>x) hs hw;obtain ⟨a,m,F1,k₁,R1,loc',asg,q⟩:=h₁;exact Ud (asg A E F1 tmp m s₁ v hA.hd R1.top R1.pop) (λ_ s2 R₂=>⟨.next,loc',m,F1,k₁, .next,R₂,q⟩) λ_ _ x=>x
theorem s_assignS {elts:List Expr} {k:Nat} {tpos pos:Pos} {value:Expr} {x y:Str} {Q:PF} (hs:swapsWithSole [.Tuple elts k tpos] value pos.line env=pure false) (hw:swappedStores [.Tuple elts k tpos] value env=pure (some [x,y]))
  (hx:Zj env x) (hy:Zj env y)
  (h:WE prog w B d u env loc mem value λa m=>∃ b c,a=.tup [b,c]/\Q .next (setL x b (setL y c loc)) m):WS prog w B d u env loc mem (.Assign [.Tuple elts k tpos] value pos) Q:=λA E F tmp s hA R=>by
 refine Assign_Tuple_swapped (names:=[x,y]) (Ud (h A E F tmp s hA R) (λv s₁ h₁=>?_) λ_ _ x=>x) hs hw;obtain ⟨a,m,F1,k₁,R1,b,c,rfl,q⟩:=h₁;obtain ⟨t,vs,rfl,⟨o,ho,hc,n,hd⟩,r⟩:=R1.top.tup_at R1.le;obtain ⟨v1,v2,rfl,r1,r2⟩:=r.n2;refine wpAny_unpackItems_tuple (items:=[v1,v2].toArray) hA.hd ⟨o,ho,hc,n,hd⟩ λh' hx'=>?_;have R':=R1.pop.ext (h':=h') (tk:=s₁.toks) λb o e=>hx' b o (Ts (Heap.lt_size e)) e;show wpAny _ A (do holding [v1] (bindName env y v2); do holding [] (bindName env x v1); pure ()) _ _ _;refine Ua (wpAny_holding (wpAny_bindName (Ud (Zu R' r2 hy) (λ_ s2 R₂=>?_) λ_ _ x=>x)));exact Ua (wpAny_holding (wpAny_bindName (Ud (Zu R₂ r1 hx) (λ_ s3 R3=>Ub ⟨.next,_,m,F1,k₁, .next,R3,q⟩) λ_ _ x=>x)))
theorem vm_list {value slice:Expr} {a:Addr} {xs:List AV} {k:Nat} {c:AV} (hm:(a,AO.list xs) ∈ mem) (hk:k < 2 ^ 62) (hx:xs[k]?=some c)
  (hs:∀ (l:Addr) (u:Tok),subscripted slice false (.ref l) (.int k u)=operate [.ref l, .int k u] (getItem (.ref l) (.int k u))) :
  VM2 prog w B d u (subscriptTail value slice) mem (.raw (.ref a)) (.int k) c mem:=λ_ _ F _ _ _ s va vb _ ha hb R=>by
 obtain ⟨_,rfl⟩:=hb.isInt;obtain rfl:=ha.isRaw;obtain ⟨vs,n,e,r⟩:=R.mr _ hm;have hl:s.heap.IsList a vs.toArray:=⟨_,e,rfl,n,rfl⟩;obtain ⟨v,e1,e2⟩:=r.get hx;exact tail_any hl.typeIs slot_list_getitem.lookup (wpAny_getItem_list hl (U2 _) (by exact ar35 hk) (by simpa using e1) ⟨F, .refl F,e2,R⟩) (hs _ _)
noncomputable def X0 (k:Int) (n:Nat):Option Nat:=if 0<=k then (if k.toNat < n then some k.toNat else none) else (if -(n:Int)<=k then some (k+n).toNat else none)
theorem RVs.set {F:FM} {vs:List Value} {as:List AV} {v:Value} {a:AV} (h:RVs F vs as) (k:Nat) (hv:RV F v a):RVs F (vs.set k v) (as.set k a) :=
 h.ind (P:=λvs as=>∀ k,RVs F (vs.set k v) (as.set k a)) (λ_=>.nil) (λh r0 r k=>by
  cases k with
  | zero=>exact .cons hv r0
  | succ k=>exact .cons h (r k)) k
theorem set_item {E:Ent} {F:FM} {tmp:List (Value × AV)} {s:Shared} {A:Around} {a:Addr} {xs:List AV} {k:Int} {t:Tok} {v:Value} {c:AV} {j i:Nat} (R:Rel B E F env loc tmp mem s) (hi:mem[i]?=some (a, .list xs)) (hv:RV F v c) (hj:X0 k xs.length=some j) (hlen:xs.length<=2 ^ 20)
  {Q:Unit->Shared->Prop} {Er:Value->Shared->Prop} (q:∀ s',Rel B E F env loc tmp (mem.set i (a, .list (xs.set j c))) s'->Q () s'):wpAny (model prog w) A (setItem (.ref a) (.int k t) v) Q Er s:=by
 obtain ⟨vs,n,e,r⟩:=R.mr _ (Uk hi);have hl:=r.length
 have fin:∀ m:Nat,m=j->Q () { s with heap:=s.heap.update a (Obj.mapSeq (·.setIfInBounds m v)) }:=λm hm=>by
  subst hm;refine q _ (R.setMem (tk:=s.toks) (ao':=.list (xs.set m c)) hi rfl (λb hb=>(Heap.SameBut.update ..).2 b (by simpa [AO.places] using hb)) ?_);have up:=PySem.IsL.update (h:=s.heap) (l:=a) (items:=vs.toArray) (n:=n) e (·.setIfInBounds m v);rw [show vs.toArray.setIfInBounds m v=(vs.set m v).toArray by simp] at up;exact ⟨vs.set m v,_,up,r.set m hv⟩
 unfold X0 at hj
 split at hj
 ·rename_i h0
  split at hj
  ·rename_i h1
   obtain rfl:=Up.inj hj;have hb:k.toNat < 2 ^ 20:=U9 h1 hlen;exact ki_setAt (items:=vs.toArray) (n:=n) e h0 (by exact ar37 hb) (by rw [Uz,hl]; exact ar38 hl h0 h1) (fin _ rfl)
  ·exact Z6 hj
 ·rename_i h0
  split at hj
  ·rename_i h1
   obtain rfl:=Up.inj hj;refine ki_setBack (items:=vs.toArray) (n:=n) e (by exact Int.lt_of_not_ge h0) (by rw [Uz,hl]; exact h1) ?_ (fin _ (by rw [Uz,hl]));exact ar40 hlen hl h1
  ·exact Z6 hj
inductive SetH (Q:PF) (loc:Loc) (oa ia c:AV) (m:List (Addr × AO)):Prop where
 | mk (a:Addr) (k:Int) (xs:List AV) (j z:Nat) (e:oa=.raw (.ref a)) (e':ia=.int k) (hz:m[z]?=some (a, .list xs)) (hl:xs.length<=2 ^ 20) (hj:X0 k xs.length=some j) (q:Q .next loc (m.set z (a, .list (xs.set j c))))
inductive AugH (prog:Program) (w:World) (B:Base) (d u:Nat) (env:Env) (loc:Loc) (value:Expr) (op:Operator) (Q:PF) (oa ia:AV) (m:List (Addr × AO)):Prop where
 | mk (a:Addr) (k:Int) (xs:List AV) (j z:Nat) (old:AV) (e:oa=.raw (.ref a)) (e':ia=.int k) (hz:m[z]?=some (a, .list xs)) (hl:xs.length<=2 ^ 20) (hj:X0 k xs.length=some j) (ho:xs[j]?=some old)
  (q:WE prog w B d u env loc m value λb m3=>m3=m/\Ex1 (VO2 prog w B d u (inplaceOp op) old b) λc=>Q .next loc (m.set z (a, .list (xs.set j c))))
theorem s_setSub {o i value:Expr} {tpos pos:Pos} {Q:PF} (hs:swapsWith value (some (.Subscript o i tpos)) pos.line env=pure false)
  (h:WE prog w B d u env loc mem value λc m1=>WE prog w B d u env loc m1 o λoa m2=>WE prog w B d u env loc m2 i λia m3=>SetH Q loc oa ia c m3) :
  WS prog w B d u env loc mem (.Assign [.Subscript o i tpos] value pos) Q:=λA E F tmp s hA R=>by
 refine wpAny_Assign_Subscript (Ud (h A E F tmp s hA R) (λv s₁ h₁=>?_) λ_ _ x=>x) hs;obtain ⟨c,m1,F1,k₁,R1,h₁⟩:=h₁;refine Ud (h₁ A E F1 _ s₁ hA R1) (λov s2 h₂=>?_) λ_ _ x=>x;obtain ⟨oa,m2,F2,k₂,R₂,h₂⟩:=h₂;refine Ud (h₂ A E F2 _ s2 hA R₂) (λiv s3 h₃=>?_) λ_ _ x=>x;obtain ⟨ia,m3,F3,k3,R3,a,k,xs,j,z,rfl,rfl,hz,hl,hj,q⟩:=h₃;have ho:=R3.pop.top;obtain rfl:=ho.isRaw;have hi:=R3.top;obtain ⟨_,rfl⟩:=hi.isInt;exact set_item R3.pop.pop.pop hz R3.pop.pop.top hj hl λs' R'=>⟨.next,loc,_,F3,(k₁.trans k₂).trans k3, .next,R',q⟩
theorem s_augSub {o i value:Expr} {op:Operator} {tpos pos:Pos} {Q:PF} (hi:∀ ov iv new,augStore i ov iv new=(do holding [new,ov,iv] (setItem ov iv new); release [new,ov,iv] []; pure .next))
  (h:WE prog w B d u env loc mem o λoa m1=>WE prog w B d u env loc m1 i λia m2=>AugH prog w B d u env loc value op Q oa ia m2) :
  WS prog w B d u env loc mem (.AugAssign (.Subscript o i tpos) op value pos) Q:=λA E F tmp s hA R=>by
 refine wpAny_AugAssign_SubscriptAny (Ud (h A E F tmp s hA R) (λov s₁ h₁=>?_) λ_ _ x=>x) hi;obtain ⟨oa,m1,F1,k₁,R1,h₁⟩:=h₁;refine Ud (h₁ A E F1 _ s₁ hA R1) (λiv s2 h₂=>?_) λ_ _ x=>x;obtain ⟨ia,m2,F2,k₂,R₂,a,k,xs,j,z,old,rfl,rfl,hz,hl,hj,hold,h₂⟩:=h₂;have ho:=R₂.pop.top;obtain rfl:=ho.isRaw;have hi':=R₂.top;obtain ⟨_,rfl⟩:=hi'.isInt;obtain ⟨vs,n,e,r⟩:=R₂.mr _ (Uk hz);have hlen:=r.length;have hL:s2.heap.IsList a vs.toArray:=⟨_,e,rfl,n,rfl⟩;obtain ⟨v,e1,e2⟩:=r.get hold
 have cont:∀ (t:Tok) (K:Value->Shared->Prop),K v s2->wpAny (model prog w) A (getItem (.ref a) (.int k t)) K FF s2:=λt K hK=>by
  unfold X0 at hj
  split at hj
  ·rename_i h0
   split at hj
   ·rename_i h1
    obtain rfl:=Up.inj hj;have hb:k.toNat < 2 ^ 20:=U9 h1 hl;exact wpAny_getItem_list hL h0 (by exact ar37 hb) (by simpa using e1) hK
   ·exact Z6 hj
  ·rename_i h0
   split at hj
   ·rename_i h1
    obtain rfl:=Up.inj hj;exact wpAny_getItem_list_neg hL (by exact Int.lt_of_not_ge h0) (by rw [Uz,hlen]; exact h1) (by exact ar40 hl hlen h1) (by rw [Uz,hlen]; simpa using e1) hK
   ·exact Z6 hj
 refine cont _ _ ?_;have R2':Rel B E F2 env loc ((v,old) :: tmp) m2 s2:=R₂.pop.pop.push e2;refine Ud (h₂ A E F2 _ s2 hA R2') (λbv s3 h₃=>?_) λ_ _ x=>x;obtain ⟨b,m3,F3,k3,R3,rfl,c,hc,q⟩:=h₃;refine Ud (hc A E F3 env loc tmp m3 s3 v bv hA R3.pop.top R3.top R3.pop.pop) (λnv s4 h₄=>?_) λ_ _ x=>x;obtain ⟨F4,k4,rn,R4⟩:=h₄;exact set_item R4 hz rn hj hl λs' R'=>⟨.next,loc,_,F4,((k₁.trans k₂).trans k3).trans k4, .next,R',q⟩
theorem W0 {x:Str} (h:(x.length == 0)=true):x=⟨#[]⟩:=by
 cases x with
 | mk cps =>
  have:cps.size=0:=by simpa [Str.length] using h
  rw [Array.size_eq_zero_iff.mp this]
theorem Vs (y:Str):(⟨#[]⟩:Str)++y=y:=by cases y; show Str.append _ _=_; simp [Str.append]
theorem VA (x:Str):x++(⟨#[]⟩:Str)=x:=by cases x; show Str.append _ _=_; simp [Str.append]
theorem VK {x y:Str} (h:(x++y).length<=sizeLine):VO2 prog w B d u (binaryOp .Add) (.str x) (.str y) (.str (x++y)):=λ_ _ F _ _ _ _ _ _ _ _ ha hb R=>by
 obtain ⟨_,rfl⟩:=ha.isStr; obtain ⟨_,rfl⟩:=hb.isStr;refine P.add_str ?_
 split
 ·rename_i hx
  rw [W0 hx,Vs];exact ⟨F, .refl F, .str _ _,R⟩
 ·split
  ·rename_i hx
   rw [W0 hx,VA];exact ⟨F, .refl F, .str _ _,R⟩
  ·exact ⟨h,F, .refl F, .str _ _,R.toks⟩
theorem vo_iaddS {x y:Str} (h:(x++y).length<=sizeLine):VO2 prog w B d u (inplaceOp .Add) (.str x) (.str y) (.str (x++y)):=λ_ _ F _ _ _ _ _ _ _ _ ha hb R=>by
 obtain ⟨_,rfl⟩:=ha.isStr; obtain ⟨_,rfl⟩:=hb.isStr;refine P.iadd_str ?_
 split
 ·rename_i hx
  rw [W0 hx,Vs];exact ⟨F, .refl F, .str _ _,R⟩
 ·split
  ·rename_i hx
   rw [W0 hx,VA];exact ⟨F, .refl F, .str _ _,R⟩
  ·exact ⟨h,F, .refl F, .str _ _,R.toks⟩
theorem f_lenS {x:Str} (hs:x.length < 2 ^ 62):FN prog w B d u (.builtin "len") [.str x] [] [] (λav m ex=>av=.int x.length/\m=[]/\ex=[]) :=
 FN.pure λA F s vs kvs Q hA I hF ha hk q=>by
  obtain rfl:=hk.n0;obtain ⟨v1,rfl,r1⟩:=ha.n1;obtain ⟨_,rfl⟩:=r1.isStr;exact P.len_str (by exact ar46 hs) (q _ _ (.int _ _))
end
end
section
open PySem PySem.W PyProof.Rows PySem.Calls
noncomputable def ZM {α:Type} (xs:List α) (lo hi st:Option Int):List α:=(sliceRange (sliceBounds lo hi st xs.length).1 (sliceBounds lo hi st xs.length).2.1 (sliceBounds lo hi st xs.length).2.2).filterMap (xs[·]?)
theorem RVs.places {F:FM} {vs:List Value} {as:List AV} (h:RVs F vs as):∀ js:List Nat,RVs F (js.filterMap (vs[·]?)) (js.filterMap (as[·]?))
 | []=>.nil
 | j :: js=>by
  have ih:=h.places js
  cases hn:as[j]? with
  | some n =>
   obtain ⟨v,e1,e2⟩:=h.get hn;simp only [List.filterMap_cons,hn,e1];exact .cons e2 ih
  | none =>
   have hv:vs[j]?=none:=by
    rw [Sp] at hn ⊢;rw [h.length]; exact hn
   simp only [List.filterMap_cons,hn,hv];exact ih
theorem RVs.pick {F:FM} {vs:List Value} {as:List AV} (h:RVs F vs as) (lo hi st:Option Int):RVs F (slicePick vs.toArray lo hi st).toList (ZM as lo hi st):=by
 have e:(slicePick vs.toArray lo hi st).toList=(sliceRange (sliceBounds lo hi st as.length).1 (sliceBounds lo hi st as.length).2.1 (sliceBounds lo hi st as.length).2.2).filterMap (vs[·]?):=by
  simp [slicePick,h.length]
 rw [e];exact h.places _
theorem W3 {α β:Type} (f:α->β) (xs:List α) (lo hi st:Option Int):ZM (xs.map f) lo hi st=(ZM xs lo hi st).map f:=by
 unfold ZM;rw [Ut,List.map_filterMap]
 congr 1
 funext j;rw [Ul]
theorem pick_runA {α:Type} (xs:List α) (a:Nat):∀ k:Nat,((Um k).map (a+·)).filterMap (xs[·]?)=(xs.drop a).take k
 | 0=>by simp
 | k+1=>by
  rw [Sn,Tv,List.filterMap_append,pick_runA xs a k,List.take_add_one]
  congr 1
  simp only [To,List.map_nil,List.getElem?_drop]
  cases h:xs[a+k]? <;> simp [h]
theorem W5 {α:Type} (xs:List α) (lo hi:Option Int):ZM xs lo hi none=(xs.drop (lo.elim 0 (clipAt xs.length))).take (hi.elim xs.length (clipAt xs.length) - lo.elim 0 (clipAt xs.length)):=by
 unfold ZM;rw [sliceBounds_plain];simp only [sliceRange_one,pick_runA]
theorem WZ (n k:Nat):clipAt n (k:Int)=min k n:=by
 unfold clipAt;have h:¬ (k:Int) < 0:=by exact Int.not_ofNat_neg k
 rw [if_neg h];exact ar82 h
theorem Wr {α:Type} (xs:List α) (k:Nat):ZM xs (some (k:Int)) none none=xs.drop k:=by
 rw [W5];simp only [Rb,Option.elim_none,WZ]
 by_cases h:k<=xs.length
 ·rw [Se h,Tw (by simp)]
 ·have h':xs.length<=k:=by exact Nat.le_of_not_ge h
  rw [Nat.min_eq_right h',List.drop_eq_nil_of_le (Ug _),List.drop_eq_nil_of_le h'];simp
theorem Z0x {α:Type} (xs:List α) (k:Nat):ZM xs none (some (k:Int)) none=xs.take k:=by
 rw [W5];simp only [Rb,Option.elim_none,WZ,List.drop_zero,Nat.sub_zero]
 by_cases h:k<=xs.length
 ·rw [Se h]
 ·rw [Nat.min_eq_right (by omega),Tw (Ug _),Tw (by omega)]
theorem pickA_span {α:Type} (xs:List α) (a b:Nat) (h:a<=b) (hb:b<=xs.length):ZM xs (some (a:Int)) (some (b:Int)) none=(xs.drop a).take (b - a):=by
 rw [W5];simp only [Rb,WZ];rw [Se (show a<=xs.length by exact Uc h hb),Se hb]
noncomputable def SliceT (lo hi st:Option Int) (F:FM) (v:Value):Prop:=∃ r vl vu vk,v=.ref r/\F r=some { cls:=.type "slice", data:=.fields #[vl,vu,vk] }/\IsPart vl lo/\IsPart vu hi/\IsPart vk st
noncomputable def partOf:AV->Option (Option Int)
 | .none=>some Option.none
 | .int i=>some (some i)
 | _=>Option.none
theorem Va {F:FM} {v:Value} {a:AV} {p:Option Int} (h:RV F v a) (e:partOf a=some p):IsPart v p:=by
 cases h <;> simp only [partOf,Up.injEq] at e <;> first | (subst e; constructor) | exact Z6 e
section
variable {d u:Nat} {env:Env} {loc:Loc} {mem:List (Addr × AO)}
noncomputable def WPt (prog:Program) (w:World) (B:Base) (d u:Nat) (env:Env) (loc:Loc) (mem:List (Addr × AO)):Option Expr->PE->Prop
 | none,Q=>Q .none mem
 | some e,Q=>WE prog w B d u env loc mem e Q
theorem wp_none {Q:PE} (h:Q .none mem):WPt prog w B d u env loc mem none Q:=h
theorem wp_some {e:Expr} {Q:PE} (h:WE prog w B d u env loc mem e Q):WPt prog w B d u env loc mem (some e) Q:=h
theorem part_go {x:Option Expr} {Q:PE} {A:Around} {E:Ent} {F:FM} {tmp:List (Value × AV)} {s:Shared} (h:WPt prog w B d u env loc mem x Q) (hA:AOK d u A) (R:Rel B E F env loc tmp mem s) :
  wpAny (model prog w) A (evalPart x env) (PoE B E F env loc tmp Q) FF s:=by
 cases x with
 | none=>exact evalPart_none_step ⟨.none,mem,F, .refl F,R.push .none,h⟩
 | some e=>exact evalPart_some_step (h A E F tmp s hA R)
theorem Yc {lower upper step:Option Expr} {p:Pos} {Q:PE}
  (h:WPt prog w B d u env loc mem lower λa m1=>WPt prog w B d u env loc m1 upper λb m2=>WPt prog w B d u env loc m2 step λc m3=>∃ lo hi st,partOf a=some lo/\partOf b=some hi/\partOf c=some st/\Q (.pred (SliceT lo hi st)) m3) :
  WE prog w B d u env loc mem (.Slice lower upper step p) Q:=λA E F tmp s hA R=>by
 refine wpAny_Slice (Ud (part_go h hA R) (λvl s₁ h₁=>?_) λ_ _ x=>x);obtain ⟨a,m1,F1,k₁,R1,h₁⟩:=h₁;refine Ud (part_go h₁ hA R1) (λvu s2 h₂=>?_) λ_ _ x=>x;obtain ⟨b,m2,F2,k₂,R₂,h₂⟩:=h₂;refine Ud (part_go h₂ hA R₂) (λvk s3 h₃=>?_) λ_ _ x=>x;obtain ⟨c,m3,F3,k3,R3,lo,hi,st,e1,e2,e3,q⟩:=h₃;obtain ⟨kF,R4⟩:=R3.pop.pop.pop.alloc { cls:=.type "slice", data:=.fields #[vl,vu,vk] } rfl;refine ⟨_,m3,_,((k₁.trans k₂).trans k3).trans kF,R4.push (.pred _ _ λG kG=>?_),q⟩;exact ⟨_,vl,vu,vk,rfl,kG _ _ FM.set_same,Va R3.pop.pop.top e1,Va R3.pop.top e2,Va R3.top e3⟩
theorem slice_go {value slice:Expr} {xs:List AV} {lo hi st:Option Int} {E:Ent} {F:FM} {tmp:List (Value × AV)} {s:Shared} {A:Around} {l:Addr} {vs:List Value} {n:Nat} {vb:Value} (R:Rel B E F env loc tmp mem s)
  (e:s.heap.get? l=some { cls:=.type "list", data:=.seq vs.toArray n }) (r:RVs F vs xs) (hb:RV F vb (.pred (SliceT lo hi st))) (h0:st≠some 0) (hx:xs.length<=2 ^ 20)
  (hs:∀ l i:Addr,∃ ops,subscripted slice false (.ref l) (.ref i)=operate ops (getItem (.ref l) (.ref i))) (ht:∀ l r,letTemporaryGo value (.ref l) r=pure ()) :
  wpAny (model prog w) A (subscriptTail value slice (.ref l) vb) (PoV B E F env loc tmp mem (.lst (ZM xs lo hi st))) FF s:=by
 cases hb with
 | pred _ _ hT =>
  obtain ⟨rr,vl,vu,vk,rfl,e2,p1,p2,p3⟩:=hT F (.refl F);have hl:s.heap.IsList l vs.toArray:=⟨_,e,rfl,n,rfl⟩;obtain ⟨ops,ho⟩:=hs l rr
  refine subscriptTail_ops hl.typeIs list_getitem_lookup (wpAny_getItem_list_slice hl ⟨_,R.le _ _ e2,rfl,rfl⟩ p1 p2 p3 h0 ?_ (by
   show vs.toArray.size<=2 ^ 24;rw [Uz,r.length]
   exact Uc hx (by decide))) ho (ht l)
  obtain ⟨kF,R'⟩:=R.alloc { cls:=.type "list", data:=.seq (slicePick vs.toArray lo hi st) } rfl;refine ⟨_,kF, .lst _ (slicePick vs.toArray lo hi st).toList _ 0 ?_ ((r.pick lo hi st).mono kF),R'⟩;rw [Array.toArray_toList];exact FM.set_same
theorem Yq {value slice:Expr} {xs:List AV} {lo hi st:Option Int} (h0:st≠some 0) (hx:xs.length<=2 ^ 20) (hs:∀ l i:Addr,∃ ops,subscripted slice false (.ref l) (.ref i)=operate ops (getItem (.ref l) (.ref i))) (ht:∀ l r,letTemporaryGo value (.ref l) r=pure ()) :
  VO2 prog w B d u (subscriptTail value slice) (.lst xs) (.pred (SliceT lo hi st)) (.lst (ZM xs lo hi st)):=λA E F env loc tmp mem s va vb hA ha hb R=>by
 cases ha with
 | lst a vs _ n h r=>exact slice_go R (R.le _ _ h) r hb h0 hx hs ht
theorem b_drop {mem':List (Addr × AO)} {sts:List Stmt} {Q:PF} (hm:mem'.Sublist mem) (h:WB prog w B d u env loc mem' sts Q):WB prog w B d u env loc mem sts Q:=λA E F tmp s hA R=>h A E F tmp s hA (R.drop hm)
theorem V3 {σ:Type} (can:σ->Loc) (mf:σ->List (Addr × AO)) {st:Stmt} {rest:List Stmt} {Q:PF} (h:WS prog w B d u env loc mem st (SeqP (λl m=>∃ x,Sub (can x) l/\(mf x).Sublist m) Q)) (k:∀ x,WB prog w B d u env (can x) (mf x) rest Q) :
  WB prog w B d u env loc mem (st :: rest) Q :=
 b_cons (WS.mono h λf l m z=>by
  cases f with
  | next=>obtain ⟨x,h1,h2⟩:=z; exact b_sub h1 (b_drop h2 (k x))
  | brk=>exact z
  | cont=>exact z
  | ret a=>exact z)
end
end
section
open PySem PySem.W PyProof.Rows PySem.Calls
noncomputable def Z3 (xs:List Str):List AV:=xs.map AV.str
theorem RVs.strs {F:FM}:∀ {vs:List Value} {xs:List Str},RVs F vs (Z3 xs)->StrsAre vs xs
 | _, [],h=>by cases h; exact .nil
 | _,x :: xs,h=>by
  cases h with
  | cons h r =>
   obtain ⟨_,rfl⟩:=h.isStr;exact .cons _ _ r.strs
theorem RVs.appends {F:FM}:∀ {vs ws:List Value} {as bs:List AV},RVs F vs as->RVs F ws bs->RVs F (vs++ws) (as++bs)
 | _,_,_,_, .nil,h=>h
 | _,_,_,_, .cons h r,h2=>.cons h (r.appends h2)
section
variable {d u:Nat} {env:Env} {loc:Loc} {mem:List (Addr × AO)}
theorem VQ {xs ys:List AV} (hx:xs.length<=2 ^ 20) (hy:ys.length<=2 ^ 20):VO2 prog w B d u (binaryOp .Add) (.lst xs) (.lst ys) (.lst (xs++ys)):=λA E F env loc tmp mem s va vb hA ha hb R=>by
 cases ha with
 | lst a vs _ n h r =>
  cases hb with
  | lst b ws _ m h2 r2 =>
   have l1:=r.length;have l2:=r2.length
   refine P.add_list (R.le _ _ h) (R.le _ _ h2) ?_ (by
    show vs.toArray.size+ws.toArray.size<=2 ^ 24;rw [Uz,Uz,l1,l2]
    exact Uc (Uh hx hy) (by decide))
   rw [show vs.toArray++ws.toArray=(vs++ws).toArray by simp];obtain ⟨kF,R'⟩:=R.alloc { cls:=.type "list", data:=.seq (vs++ws).toArray } rfl;exact ⟨_,kF, .lst _ (vs++ws) _ 0 FM.set_same ((r.mono kF).appends (r2.mono kF)),R'⟩
theorem f_hex {i:Int} (hs:(baseText "0x" 16 i).length<=sizeLine):FN prog w B d u (.builtin "hex") [.int i] [] [] (λav m ex=>av=.str (baseText "0x" 16 i)/\m=[]/\ex=[]) :=
 FN.pure λA F s vs kvs Q hA I hF ha hk q=>by
  obtain rfl:=hk.n0;obtain ⟨v1,rfl,r1⟩:=ha.n1;obtain ⟨_,rfl⟩:=r1.isInt;exact P.hex_of_int (q _ _ (.str _ _)) hs
theorem c_joinM {a:Addr} {x:Str} {ys:List Str} {Q:PE} (hm:(a,AO.list (Z3 ys)) ∈ mem) (hok:(ys.map (·.length)).sum+ys.length*x.length<=16777216) (q:Q (.str (Txt.join x ys)) mem) :
  CALL prog w B d u env loc (.raw (.builtin "str.join")) [.str x, .raw (.ref a)] [] mem Q:=λA E F tmp s fv vs kvs hA R hf ha hk=>by
 obtain rfl:=hf.isRaw;obtain rfl:=hk.n0;obtain ⟨v1,v2,rfl,r1,r2⟩:=ha.n2;obtain ⟨_,rfl⟩:=r1.isStr; obtain rfl:=r2.isRaw;obtain ⟨vs,n,e,r⟩:=R.mr _ hm;exact join_list (items:=vs.toArray) ⟨_,e,rfl,n,rfl⟩ (by simpa using r.strs) hok λt' k=>⟨_,mem,F, .refl F, .str _ _,R.toks,q⟩
theorem f_join {x:Str} {ys:List Str} (hok:(ys.map (·.length)).sum+ys.length*x.length<=16777216):FN prog w B d u (.builtin "str.join") [.str x, .lst (Z3 ys)] [] [] (λav m ex=>av=.str (Txt.join x ys)/\m=[]/\ex=[]) :=
 FN.pure λA F s vs kvs Q hA I hF ha hk q=>by
  obtain rfl:=hk.n0;obtain ⟨v1,v2,rfl,r1,r2⟩:=ha.n2;obtain ⟨_,rfl⟩:=r1.isStr
  cases r2 with
  | lst a vs _ n h r=>exact join_list (items:=vs.toArray) ⟨_,hF _ _ h,rfl,n,rfl⟩ (by simpa using r.strs) hok λt' k=>q _ _ (.str _ _)
end
end
section
open PySem PySem.W PyProof.Rows PySem.Calls
noncomputable def RisA (xs:Array Nat):Prop:=∀ i j,i < j->j < xs.size->xs.getD i 0 < xs.getD j 0
theorem below_go (xs:Array Nat) (hr:RisA xs) (j:Nat):∀ (fuel lo hi:Nat),hi - lo<=fuel->lo<=hi->hi<=xs.size->(∀ i < lo,xs.getD i 0 < j)->(∀ i,hi<=i->i < xs.size->¬ xs.getD i 0 < j) ->
  (SetTable.below.go xs j fuel lo hi)<=xs.size/\(∀ i < SetTable.below.go xs j fuel lo hi,xs.getD i 0 < j)/\(∀ i,SetTable.below.go xs j fuel lo hi<=i->i < xs.size->¬ xs.getD i 0 < j)
 | 0,lo,hi,h1,h2,h3,h4,h5=>by
  unfold SetTable.below.go;have:lo=hi:=by exact ar128 h1 h2
  subst this;exact ⟨h3,h4,h5⟩
 | fuel+1,lo,hi,h1,h2,h3,h4,h5=>by
  unfold SetTable.below.go
  split
  ·rename_i hlt
   dsimp only;have hm:(lo+hi) / 2 < hi:=by exact ar8 hlt
   have hm':lo<=(lo+hi) / 2:=by exact ar7 hlt
   have hgd:xs.getD ((lo+hi) / 2) j=xs.getD ((lo+hi) / 2) 0:=by
    have:(lo+hi) / 2 < xs.size:=by exact ar132 h3 hm
    simp [Array.getD,this]
   rw [hgd]
   split
   ·rename_i hb
    refine below_go xs hr j fuel _ hi (by exact ar134 h1 hlt hm) (by exact ar137 hm) h3 (λi hi'=>?_) h5;rcases Nat.lt_or_ge i ((lo+hi) / 2) with h | h
    ·exact U5 (hr i _ h (by exact ar132 h3 hm)) hb
    ·have:i=(lo+hi) / 2:=by exact ar138 hi' h
     rw [this]; exact hb
   ·rename_i hb
    refine below_go xs hr j fuel lo _ (by exact ar141 h1 hlt hm') hm' (by exact ar143 h3 hm) h4 (λi hi' hs=>?_);rcases Ss hi' with h | h
    ·intro hq;exact hb (U5 (hr _ i h hs) hq)
    ·rw [<- h]; exact hb
  ·have:lo=hi:=by omega
   subst this;exact ⟨h3,h4,h5⟩
theorem We {xs:Array Nat} (hr:RisA xs) (j:Nat):SetTable.below xs j<=xs.size/\(∀ i < SetTable.below xs j,xs.getD i 0 < j)/\(∀ i,SetTable.below xs j<=i->i < xs.size->¬ xs.getD i 0 < j) :=
 below_go xs hr j xs.size 0 xs.size (by exact Nat.sub_le (Array.size xs) 0) (Tb _) (Ug _) (λi h=>absurd h (Sk _)) λi h h'=>absurd h (Nat.not_le_of_lt h')
theorem below_next {xs:Array Nat} (hr:RisA xs) {i:Nat} (hi:i < xs.size):SetTable.below xs (xs.getD i 0+1)=i+1:=by
 obtain ⟨h1,h2,h3⟩:=We hr (xs.getD i 0+1);rcases Nat.lt_trichotomy (SetTable.below xs (xs.getD i 0+1)) (i+1) with h | h | h
 ·exact absurd (Tg _) (h3 i (by exact ar145 h) hi)
 ·exact h
 ·have a:=h2 (i+1) h;have b:=hr i (i+1) (Tg _) (by exact ar146 hi h1 h);exact ar147 a b
theorem below_zero {xs:Array Nat} (hr:RisA xs):SetTable.below xs 0=0:=by
 obtain ⟨h1,h2,h3⟩:=We hr 0;rcases S2 (SetTable.below xs 0) with h | h
 ·exact h
 ·exact absurd (h2 0 h) (Sk _)
theorem toL (xs:Array Nat):RisA xs↔xs.toList.Pairwise (· < ·):=by
 rw [So];constructor
 ·intro h i j hi hj hij;have:=h i j hij (by simpa using hj);simp only [Array.length_toList] at hi hj;simpa [Array.getD,hi,hj] using this
 ·intro h i j hij hj;have hi:i < xs.size:=by exact U5 hij hj
  have:=h i j (by simpa using hi) (by simpa using hj) hij;simpa [Array.getD,hi,hj] using this
theorem VJ {α:Type} (xs:Array α) (p:Nat) (x:α):(SetTable.insertAt xs p x).toList=xs.toList.take p++x :: xs.toList.drop p:=by
 unfold SetTable.insertAt;simp [Array.toList_extract,List.extract];exact Tw (by simp)
theorem put_rises {t:SetTable} {j:Nat} (hr:RisA t.place) (hj:t.place[SetTable.below t.place j]?≠some j):RisA (t.put j).1.place:=by
 show RisA (SetTable.insertAt t.place (SetTable.below t.place j) j);obtain ⟨h1,h2,h3⟩:=We hr j;generalize SetTable.below t.place j=p at h1 h2 h3 hj;rw [toL,VJ];have hL:=(toL _).mp hr;refine List.pairwise_append.mpr ⟨hL.sublist (List.take_sublist _ _),List.pairwise_cons.mpr ⟨λy hy=>?_,hL.sublist (List.drop_sublist _ _)⟩,λa ha b hb=>?_⟩
 ·obtain ⟨i,hi,e⟩:=List.getElem_of_mem hy;rw [List.getElem_drop] at e;simp only [Sz,Array.length_toList] at hi;have hlt:p+i < t.place.size:=by exact Nat.add_lt_of_lt_sub' hi
  have hge:=h3 (p+i) (by exact U7 p i) hlt
  have eg:t.place.getD (p+i) 0=y:=by
   rw [<- e]; simp [Array.getD,hlt]
  rw [eg] at hge;rcases Ss (Ra hge) with h | h
  ·exact h
  ·exfalso;rcases S2 i with h0 | h0
   ·subst h0;apply hj;rw [Array.getElem?_eq_getElem (by omega)];simp only [Array.getD,Nat.add_zero] at eg hlt;rw [dif_pos hlt] at eg;rw [h];exact congrArg some eg
   ·have a:=hr p (p+i) (by exact Nat.lt_add_of_pos_right h0) hlt;have b:=h3 p (Ug _) (by exact Nat.lt_of_add_right_lt hlt);omega
 ·have hbj:j<=b:=by
   rcases Ur.mp hb with rfl | hb
   ·exact Ug _
   ·obtain ⟨i,hi,e⟩:=List.getElem_of_mem hb;rw [List.getElem_drop] at e;simp only [Sz,Array.length_toList] at hi;have hlt:p+i < t.place.size:=by omega
    have hge:=h3 (p+i) (by omega) hlt
    have eg:t.place.getD (p+i) 0=b:=by
     rw [<- e]; simp [Array.getD,hlt]
    rw [eg] at hge;exact Ra hge
  obtain ⟨i,hi,e⟩:=List.getElem_of_mem ha;rw [List.getElem_take] at e;simp only [Ti,Array.length_toList] at hi;have hlt:i < t.place.size:=by exact ar155 h1 hi hi
  have hl:=h2 i (by exact ar156 h1 hi hi)
  have eg:t.place.getD i 0=a:=by
   rw [<- e]; simp [Array.getD,hlt]
  rw [eg] at hl;exact U9 hl hbj
theorem Yl {t:SetTable} {n:Nat}:RisA (t.standIn n).place:=by
 rw [toL];show (Array.range n).toList.Pairwise (· < ·);simp [T9]
theorem laid_rises {mask finger moves:Nat} {led plain:Bool} {hs:Array Int} {t:SetTable} {o:Array Nat} (h:SetTable.laid mask finger moves led plain hs=some (t,o)):RisA t.place/\t.led=led/\t.plain=plain:=by
 unfold SetTable.laid at h
 cases hq:SetTable.layClean mask hs with
 | none=>rw [hq] at h; exact Z6 h
 | some owner =>
  rw [hq] at h;simp only [Option.bind_eq_bind,Option.bind_some,Option.pure_def,Up.injEq,Prod.mk.injEq] at h;obtain ⟨rfl,_⟩:=h;refine ⟨?_,rfl,rfl⟩;rw [toL];dsimp only;rw [Sg];refine List.Pairwise.filterMap _ (λa b hab x hx y hy=>?_) T9;obtain ⟨v,_,rfl⟩:=Ux.mp hx;obtain ⟨v',_,rfl⟩:=Ux.mp hy;exact hab
end
section
open PySem PySem.W PyProof.Rows PySem.Calls
noncomputable def Open (t:SetTable) (j:Nat):Prop:=t.place[SetTable.below t.place j]?≠some j
theorem slot_open {t:SetTable} {j:Nat} (h:t.slot j=.empty\/t.slot j=.dummy):Open t j:=λe=>by
 have:t.slot j=.live (SetTable.below t.place j):=by
  unfold SetTable.slot;dsimp only;rw [e];simp -iota
 rw [this] at h;rcases h with h | h <;> cases h
theorem Wm (t:SetTable) (f:Nat->Int) (h:Int):∀ (fuel:Nat) (p:SetTable.Probe) (j:Nat) (dm:Option Nat),(∀ d,p.dummy=some d->Open t d)->SetTable.probe.go t f h fuel p=some (.empty j dm)->Open t j/\∀ d,dm=some d->Open t d
 | 0,p,j,dm,hp,e=>by unfold SetTable.probe.go at e; exact Z6 e
 | fuel+1,p,j,dm,hp,e=>by
  unfold SetTable.probe.go at e
  have hadv:∀ q:SetTable.Probe,(t.advance q).dummy=q.dummy:=λq=>by
   unfold SetTable.advance
   split <;> rfl
  cases hs:t.slot p.j with
  | empty =>
   rw [hs] at e
   cases e
   exact ⟨slot_open (.inl hs),hp⟩
  | dummy =>
   rw [hs] at e;refine Wm t f h fuel _ j dm (λd hd=>?_) e;rw [hadv] at hd;obtain rfl:=Up.inj hd;exact slot_open (.inr hs)
  | live i =>
   rw [hs] at e;dsimp only at e
   split at e
   ·cases e
   ·refine Wm t f h fuel _ j dm (λd hd=>?_) e;rw [hadv] at hd;exact hp d hd
theorem freeSlot_open {t:SetTable} {h:Int} {j:Nat} {b:Bool} (e:t.freeSlot h=some (j,b)):Open t j:=by
 unfold SetTable.freeSlot at e
 split at e
 ·rename_i j' dm hq
  unfold SetTable.probe at hq;obtain ⟨h1,h2⟩:=Wm t _ h _ _ j' dm (λd hd=>by exact Z6 hd) hq
  cases dm with
  | none=>cases e; exact h1
  | some d=>cases e; exact h2 d rfl
 ·exact Z6 e
noncomputable def TabR (b:Bool) (t:SetTable):Prop:=t.led=b/\RisA t.place
theorem layNew_tab {b:Bool} {t:SetTable} (h:TabR b t) (es:Array (Int × Value)) (k:Int) (x:Value):TabR b (layNew t es k x).2.1:=by
 unfold layNew
 split
 ·rename_i slot wasDummy hf
  have ho:=freeSlot_open hf;have h1:TabR b (t.put slot).1:=⟨h.1,put_rises h.2 ho⟩;dsimp only;unfold SetTable.orStandIn
  split
  ·exact h1
  ·exact ⟨h.1,Yl⟩
 ·exact ⟨h.1,Yl⟩
theorem relayAll_tab {b:Bool} {t:SetTable} (h:TabR b t) (es:Array (Int × Value)) (n:Nat):TabR b (relayAll t es n).2.1:=by
 unfold relayAll
 split
 ·rename_i t' order hq
  unfold SetTable.relaid at hq;obtain ⟨a,b,c⟩:=laid_rises hq;dsimp only
  split
  ·exact ⟨by rw [b]; exact h.1,a⟩
  ·exact ⟨h.1,Yl⟩
 ·exact ⟨h.1,Yl⟩
theorem TabR.off {b:Bool} {t:SetTable} (h:TabR b t):TabR b { t with plain:=false }:=h
section
variable {A:Around} {E:Value->Shared->Prop} {s:Shared}
noncomputable def SetI (prog:Program) (w:World) (h:Heap) (a:Addr) (ks:List Int):Prop :=
 ∃ es ep t,h.get? a=some { cls:=.type "set", data:=.set es ep t }/\ElemsOf (intKind prog w) es.toList/\IntsAre (es.toList.map (·.2)) ks/\ks.Nodup/\ks.length < 64/\t.fits es.size=true/\TabR (!w.params.followText "set-order") t
noncomputable def iv:Value->Int
 | .int n _=>n
 | _=>0
theorem YU:∀ {vs:List Value} {ns:List Int},IntsAre vs ns->ns=vs.map iv/\∀ v ∈ vs,∃ n t,v=.int n t
 | _,_, .nil=>⟨rfl,λv h=>by cases h⟩
 | _,_, .cons n t r=>by
  obtain ⟨e,h⟩:=YU r;refine ⟨by rw [e]; rfl,λv hv=>?_⟩;rcases Ur.mp hv with rfl | hv
  ·exact ⟨n,t,rfl⟩
  ·exact h v hv
theorem iv_ints:∀ {vs:List Value},(∀ v ∈ vs,∃ n t,v=.int n t)->IntsAre vs (vs.map iv)
 | [],_=>.nil
 | v :: vs,h=>by
  obtain ⟨n,t,rfl⟩:=h v (Tx ..);exact .cons n t (iv_ints λv hv=>h v (Tt _ hv))
theorem W2 {vs vs':List Value} {ns:List Int} (h:IntsAre vs ns) (p:vs'.Perm vs):∃ ns',IntsAre vs' ns'/\ns'.Perm ns:=by
 obtain ⟨rfl,e⟩:=YU h;exact ⟨vs'.map iv,iv_ints λv hv=>e v (p.mem_iff.mp hv),p.map iv⟩
theorem ints_app {vs ws:List Value} {ns ms:List Int} (h:IntsAre vs ns) (h2:IntsAre ws ms):IntsAre (vs++ws) (ns++ms):=IntsAre.append h h2
theorem gave_any (b:Bool) {s₁:Shared} {Q':Unit->Shared->Prop} (hq:Q' () s₁):wpAny (model prog w) A (match b with | true=>rule "set.scan.the-table-gave-way" | false=>pure ()) Q' E s₁:=by
 cases b
 ·exact Ub hq
 ·exact wpAny_rule hq
end
namespace Oaddhashed
noncomputable def Px (A:Around) (E:Value->Shared->Prop) (s:Shared) (a:Addr) (ks:List Int) (k:Int) (tk:Tok) (Q:Bool->Shared->Prop):Prop:=∀ (hS:SetI prog w s.heap a ks) (hroom:ks.length+1 < 64) (h:∀ b h' ks',Heap.SameBut a s.heap h'->SetI prog w h' a ks'->(∀ z,z ∈ ks'↔z ∈ ks\/z=k)->ks'.length<=ks.length+1->Q b { s with heap:=h' }),wpAny (model prog w) A (setAddHashed a (.int k tk) (hashInt k)) Q E s
noncomputable def Rx (p:Around × (Value->Shared->Prop) × Shared × Addr × List Int × Int × Tok × (Bool->Shared->Prop)):Prop:=Px p.1 p.2.1 p.2.2.1 p.2.2.2.1 p.2.2.2.2.1 p.2.2.2.2.2.1 p.2.2.2.2.2.2.1 p.2.2.2.2.2.2.2
noncomputable section
def cx:=eps (neP neA (neP neR (neP neS (neP neNt (neP neL (neP neI (neP neI neR))))))) Rx
def A:=cx.1
def E:=cx.2.1
def s:=cx.2.2.1
def a:=cx.2.2.2.1
def ks:=cx.2.2.2.2.1
def k:=cx.2.2.2.2.2.1
def tk:=cx.2.2.2.2.2.2.1
def Q:=cx.2.2.2.2.2.2.2
end
theorem main:Px A E s a ks k tk Q:=by
 intro hS hroom h;obtain ⟨es,ep,t,ho,hel,hi,hnd,hlen,hf,ht⟩:=hS;have hkey:(intKind prog w).is k (.int k tk)=true:=by show (_ == _)=true; simp -iota
 have hsz:es.size=ks.length:=by
  have e:=(YU hi).1;rw [e]; simp -iota
 have hb:es.size < scanBound:=by rw [hsz]; exact U5 hlen (by decide)
 unfold setAddHashed setAddHashedIn;refine wpAny_holding (Ua (wpAny_setState_of ho rfl hf ?_));dsimp only;rw [byScan_of (knd:=intKind prog w) rfl hb hel];simp -iota only [↓reduceIte];unfold setAddByScan;refine Ua (Ua (wpAny_rule (Ua (wpAny_setScan_of (knd:=intKind prog w) hkey ho rfl hf hel ?_))))
 have key_mem:(∃ e ∈ es.toList,(intKind prog w).is k e.2=true)↔k ∈ ks:=by
  obtain ⟨e1,e2⟩:=YU hi;rw [e1];constructor
  ·rintro ⟨e,he,q⟩;obtain ⟨n,t',ev⟩:=e2 e.2 (List.mem_map_of_mem he);refine Uq.mpr ⟨e.2,List.mem_map_of_mem he,?_⟩;rw [ev] at q ⊢;exact (eq_of_beq q)
  ·intro hk;obtain ⟨v,hv,q⟩:=Uq.mp hk;obtain ⟨e,he,rfl⟩:=Uq.mp hv;obtain ⟨n,t',ev⟩:=e2 e.2 hv;refine ⟨e,he,?_⟩;rw [ev] at q ⊢;show (_ == _)=true;rw [<- q]; simp [iv]
 cases hr:List.findIdx? (λe=>(intKind prog w).is k e.2) es.toList with
 | some j =>
  dsimp only;obtain ⟨hj,hpj,_⟩:=List.findIdx?_eq_some_iff_getElem.mp hr;have hk:k ∈ ks:=key_mem.mp ⟨_,T1 hj,hpj⟩;refine Ub (Ub ?_);exact h _ s.heap ks (Heap.SameBut.refl a s.heap) ⟨es,ep,t,ho,hel,hi,hnd,hlen,hf,ht⟩ (λz=>⟨.inl,λq=>q.elim id λe=>e ▸ hk⟩) (Tr _)
 | none =>
  dsimp only
  have hk:k ∉ ks:=λq=>by
   obtain ⟨e,he,hp⟩:=key_mem.mpr q;have:=List.findIdx?_eq_none_iff.mp hr e he;rw [hp] at this; exact no_tf this
  have hperm:=layNew_perm t es (hashInt k) (.int k tk);have hfits:=layNew_fits t es (hashInt k) (.int k tk);have htab:=layNew_tab ht es (hashInt k) (.int k tk);generalize layNew t es (hashInt k) (.int k tk)=L at hperm hfits htab ⊢;obtain ⟨es1,t1,wasDummy,gave⟩:=L;dsimp only at hperm hfits htab ⊢;rw [Array.toList_push] at hperm;have hel1:ElemsOf (intKind prog w) es1.toList:=(hel.push hkey rfl).perm hperm
  obtain ⟨ks1,hi1,hp1⟩:=W2 (ints_app hi (.cons k tk .nil)) (show List.Perm (es1.toList.map (·.2)) (es.toList.map (·.2)++[.int k tk]) by
   have:=hperm.map (·.2)
   simpa -iota using this)
  have hnd1:ks1.Nodup:=hp1.nodup_iff.mpr (by
   rw [Uy]
   exact ⟨hnd,by simp,λx hx y hy=>by simp -iota at hy; subst hy; exact λe=>hk (e ▸ hx)⟩)
  have hl1:ks1.length=ks.length+1:=by rw [hp1.length_eq]; simp -iota
  have hm1:∀ z,z ∈ ks1↔z ∈ ks\/z=k:=λz=>by rw [hp1.mem_iff]; simp -iota
  have hsz1:es1.size=ks.length+1:=by
   have:=hperm.length_eq;simp -iota at this;exact ar70 hsz hl1 this
  have hb1:es1.size < scanBound:=by rw [hsz1]; exact U5 hroom (by decide)
  have fin:∀ (h':Heap) es2 ep2 t2,Heap.SameBut a s.heap h'->h'.get? a=some { cls:=.type "set", data:=.set es2 ep2 t2 }->es2.toList.Perm es1.toList->t2.fits es2.size=true->TabR (!w.params.followText "set-order") t2->Q true { s with heap:=h' }:=λh' es2 ep2 t2 sb g p f tb=>by
   obtain ⟨ks2,hi2,hp2⟩:=W2 hi1 (p.map (·.2));exact h true h' ks2 sb ⟨es2,ep2,t2,g,hel1.perm p,hi2,hp2.nodup_iff.mpr hnd1,by rw [hp2.length_eq]; exact ar73 hroom hsz hl1 hsz1,f,tb⟩ (λz=>by rw [hp2.mem_iff]; exact hm1 z) (by rw [hp2.length_eq]; exact Us hl1)
  have sb1:=Heap.SameBut.update s.heap a (Obj.putSet es1 t1)
  have g1:(s.heap.update a (Obj.putSet es1 t1)).get? a=some { cls:=.type "set", data:=.set es1 (ep+1) t1 } :=
   Heap.get?_update_self (Obj.putSet es1 t1) ho rfl
  have hp2:=relayAll_perm t1 es1 (SetTable.grown es1.size);have hf2:=relayAll_fits t1 es1 (SetTable.grown es1.size);have ht2:=relayAll_tab htab es1 (SetTable.grown es1.size);refine Ua (gave_any _ ?_)
  split
  all_goals
   first | refine Ua (Ub ?_) | (refine Ua ?_; rw [hashByValue_scannable 8 (by rfl)]; refine Ub ?_)
   simp -iota only [plainKind,if_true];refine Ua (wpAny_storeSet_of ho rfl ?_ (fits_of_scanBound hb1))
   split
   ·generalize relayAll t1 es1 (SetTable.grown es1.size)=L2 at hp2 hf2 ht2 ⊢;obtain ⟨es2,t2,gave2⟩:=L2;dsimp only at hp2 hf2 ht2 ⊢;refine Ua (gave_any _ ?_)
    have hsz2:es2.size=es1.size:=by
     have:=hp2.length_eq;simpa -iota using this
    refine Ua (wpAny_storeSet_of g1 rfl ?_ (fits_of_scanBound (by rw [hsz2]; exact hb1)));have g2:=Heap.get?_update_self (Obj.putSet es2 t2) g1 rfl;exact Ub (Ub (fin _ es2 (ep+1+1) t2 (sb1.trans (Heap.SameBut.update _ a _)) g2 hp2 hf2 ht2))
   ·exact Ub (Ub (fin _ es1 (ep+1) t1 sb1 g1 (.refl _) hfits htab))
end Oaddhashed
section
variable {A:Around} {E:Value->Shared->Prop} {s:Shared}
theorem add_hashed {A E s a ks k tk Q}:Oaddhashed.Px A E s a ks k tk Q:=eps_all Oaddhashed.Rx Oaddhashed.main (A,E,s,a,ks,k,tk,Q)
end
end
section
open PySem PySem.W PyProof.Rows PySem.Calls
section
variable {A:Around} {R:Result->Shared->Prop} {I:Addr} {fp wr:List Addr} {G:Array GenState->Array GenState->Prop} {n:Nat} {P:Nat->Value->Prop} {St:Nat->Shared->Prop}
theorem SetI.same {h h':Heap} {a:Addr} {ks:List Int} (x:SetI prog w h a ks) (e:∀ o,h.get? a=some o->h'.get? a=some o):SetI prog w h' a ks :=
 let ⟨es,ep,t,ho,r⟩:=x; ⟨es,ep,t,e _ ho,r⟩
theorem fill_loop (W:WalksS prog w A.in1 I fp wr G n P St) (S:Addr) (hSf:S ∉ fp) (val:Nat->Int) (hval:∀ i v,P i v->∃ t,v=.int (val i) t) (hb:n < 60) :
  ∀ (k i:Nat) (s:Shared) (ks:List Int),n - i=k->i<=n->St i s->SetI prog w s.heap S ks->ks.length<=i->(∀ z,z ∈ ks↔∃ j < i,val j=z) ->
   (∀ s' ks',Moved (S :: wr) G s s'->SetI prog w s'.heap S ks'->(∀ z,z ∈ ks'↔∃ j < n,val j=z)->R (.ok (.ret .none)) s') ->
   codeAny (model prog w) A (.builtin "set.update.loop" ⟨[.ref S, .ref I], []⟩) R s:=by
 have hSw:S ∉ wr:=λh=>hSf (W.sub _ h);have hsub:∀ b ∈ wr,b ∈ S :: wr:=λb hb=>Tt _ hb;intro k
 induction k with
 | zero =>
  intro i s ks hk hi hst hS hl hm hR;have hin:i=n:=by exact ar51 hk hi
  subst hin;refine codeAny_builtin PyProof.Rows.F.entry_set_update_loop ?_;rw [Around.under_plainId PyProof.Rows.F.plain_set_update_loop _];show wpAny _ A.in1 (pyNext (.ref I) >>= _) _ _ s;refine Ua (W.done s _ _ hst λs' hmv=>?_);show wpAny _ A.in1 (ret Value.none) _ _ s';exact Ub (hR s' ks (hmv.mono hsub) (hS.same λo e=>hmv.heap S _ hSw e) hm)
 | succ k ih =>
  intro i s ks hk hi hst hS hl hm hR;have hlt:i < n:=by exact Nat.lt_of_sub_eq_succ hk
  refine codeAny_builtin PyProof.Rows.F.entry_set_update_loop ?_;rw [Around.under_plainId PyProof.Rows.F.plain_set_update_loop _];show wpAny _ A.in1 (pyNext (.ref I) >>= _) _ _ s;refine Ua (W.item i s _ _ hlt hst λv s' hP hst' hmv=>?_);obtain ⟨t,rfl⟩:=hval i v hP;have hS':SetI prog w s'.heap S ks:=hS.same λo e=>hmv.heap S _ hSw e;show wpAny _ A.in1 (holding [Value.int (val i) t] (setAdd S (.int (val i) t)) >>= _) _ _ s';refine Ua (wpAny_holding ?_);unfold setAdd;refine wpAny_holding ?_;refine Ua ((intKind prog w).pyHash (k:=val i) (intKind_is _ _ _ _) ?_);refine add_hashed (s:={ s' with toks:=s'.toks+1 }) hS' (by exact ar56 hb hl hlt) λb h' ks' hsb hS2 hm2 hl2=>?_;refine Ub ⟨plainId_quiet PyProof.Rows.F.plain_set_update_loop _,ih (i+1) _ ks' (by exact ar57 hk hlt) hlt (W.frame _ s' _ _ hst' (Tr _) λb hb o e=>?_) hS2 (by exact ar58 hl hl2) (λz=>?_) λs'' ks'' hm'' hS'' hz=>?_⟩
  ·rw [hsb.2 b (λh:b=S=>hSf (by rw [<- h]; exact hb))]; exact e
  ·rw [hm2,hm];constructor
   ·rintro (⟨j,hj,e⟩ | rfl)
    ·exact ⟨j,by exact Nat.lt_add_right 1 hj,e⟩
    ·exact ⟨i,Tg _,rfl⟩
   ·rintro ⟨j,hj,e⟩;rcases Ss (Sb hj) with h | h
    ·exact .inl ⟨j,h,e⟩
    ·subst h; exact .inr e.symm
  ·refine hR s'' ks'' (Moved.trans W.gtrans ((hmv.mono hsub).then_heap (Tr _) λb o hb e=>?_) hm'') hS'' hz;rw [hsb.2 b (λh:b=S=>hb (by rw [h]; exact Tx))]; exact e
end
section
variable {A:Around} {E:Value->Shared->Prop} {s:Shared}
noncomputable def newS (w:World):Obj:={ cls:=.type "set", dict:=none,data:=.set #[] 0 (.fresh 0 0 (!w.params.followText "set-order")) }
theorem new_set (a:Value) {Q₁:Value->Shared->Prop} (h:Q₁ (.ref s.heap.objs.size) { s with heap:=s.heap.push (newS w) }) :
  codeAny (model prog w) A (.call (.builtin "set.__new__") ⟨[.type "set", a], []⟩) (wants Q₁ E) s:=by
 refine codeAny_of_tree ?_;show wpAny _ A.in1 (do checkBuiltinCall "set.__new__" ⟨[.type "set", a], []⟩; again (.builtin "set.__new__" ⟨[.type "set", a], []⟩)) _ _ s;refine Ua (wpAny_of_eq (PySem.F.newCall_set_1 a) (Ub ⟨plainId_quiet PySem.F.plain_set_new _,codeAny_builtin PySem.F.entry_set_new ?_⟩));rw [Around.under_plainId PySem.F.plain_set_new _];unfold Builtin.«set.__new__» Builtin.Frozenset.newClass;have hsub:=sub_set_self;obtain ⟨hp,g,d,tk,os⟩:=s;dsimp only
 wp_walk
 refine wpAny_askSetting (Ub ?_);dsimp only;simp only [newObj];refine Ua (wpAny_alloc (Ub ?_));exact Ub h
theorem newS_int {h:Heap} {a:Addr} (e:h.get? a=some (newS w)):SetI prog w h a [] :=
 ⟨#[],0,_,e,λe he=>by simp at he, .nil,Tz,by decide,rfl,rfl,λi j _ hj=>by
  have:(SetTable.fresh 0 0 (!w.params.followText "set-order")).place.size=0:=rfl
  exact Nat.lt_of_add_left_lt hj⟩
end
namespace Osetlist
noncomputable def Px (A:Around) (E:Value->Shared->Prop) (s:Shared) (l:Addr) (items:Array Value) (ns:List Int) (Q:Value->Shared->Prop):Prop:=∀ (hh:A.handled=none) (hl:s.heap.IsList l items) (hi:IntsAre items.toList ns) (hb:items.size < 60) (h:∀ (h':Heap) (tk:Nat) ks,SetI prog w h' s.heap.objs.size ks->(∀ z,z ∈ ks↔z ∈ ns)->(∀ b o,b < s.heap.objs.size->s.heap.get? b=some o->h'.get? b=some o)->Q (.ref s.heap.objs.size) { s with heap:=h',toks:=tk }),wpAny (model prog w) A (call (.type "set") [.ref l]) Q E s
noncomputable def Rx (p:Around × (Value->Shared->Prop) × Shared × Addr × Array Value × List Int × (Value->Shared->Prop)):Prop:=Px p.1 p.2.1 p.2.2.1 p.2.2.2.1 p.2.2.2.2.1 p.2.2.2.2.2.1 p.2.2.2.2.2.2
noncomputable section
def cx:=eps (neP neA (neP neR (neP neS (neP neNt (neP neAr (neP neL neR)))))) Rx
def A:=cx.1
def E:=cx.2.1
def s:=cx.2.2.1
def l:=cx.2.2.2.1
def items:=cx.2.2.2.2.1
def ns:=cx.2.2.2.2.2.1
def Q:=cx.2.2.2.2.2.2
end
theorem main:Px A E s l items ns Q:=by
 intro hh hl hi hb h;obtain ⟨c,tl,hmro⟩:=PySem.F.called_set.mro;have hmade:=PySem.F.called_set.made;have hsub:=PySem.F.called_set.sub;refine wpAny_call (codeAny_of_tree ?_);show wpAny _ _ (callAny (.type "set") _) _ _ _;refine Ub ⟨Code.quiet_builtin _ (by decide +kernel),codeAny_builtin PySem.F.entry_type_call ?_⟩;rw [Around.under_plain (weight_type_call_type "set" [.ref l] []) rfl];have h1:=PySem.F.called_set.notType;have h2:=PySem.F.called_set.canCreate;have hct:=PySem.F.typeCall_set_1 (.ref l)
 repeat (any_goals (first | assumption | wp_step))
 refine codeAny_mono (new_set (.ref l) (E:=E) (Q₁:=λobj s₁=>obj=.ref s.heap.objs.size/\s₁={ s with heap:=s.heap.push (newS w) }) ⟨rfl,rfl⟩) λr s₁ hr=>?_
 cases r with
 | error e=>exact hr
 | ok fl =>
  cases fl with
  | ret obj =>
   obtain ⟨rfl,rfl⟩:=hr;have hS:(s.heap.push (newS w)).get? s.heap.objs.size=some (newS w):=Heap.get?_push_size _ rfl;have hT:Shared.TypeIs { s with heap:=s.heap.push (newS w) } (.ref s.heap.objs.size) "set" := ⟨_,hS,rfl⟩;have hli:=PySem.F.called_set.init.lookup;have hbi:=PySem.F.called_set.init.bind (.ref s.heap.objs.size)
   repeat (any_goals (first | assumption | wp_step))
   refine codeAny_mono (codeAny_call_builtin (R:=wants (λr s2=>r=.none/\∃ h' tk ks,s2={ s with heap:=h',toks:=tk }/\SetI prog w h' s.heap.objs.size ks/\(∀ z,z ∈ ks↔z ∈ ns) /\
     (∀ b o,b < s.heap.objs.size->s.heap.get? b=some o->h'.get? b=some o)) E) PySem.F.called_set.init.plain PySem.F.entry_set_init (check_set_init_1 hT ?_)) λr₂ s2 hr₂=>?_
   ·obtain ⟨ol,hol,hcl,nl,hdl⟩:=hl;obtain ⟨ocls,odict,odata,oslots⟩:=ol;simp only at hcl hdl;subst hcl; subst hdl;have hol':(s.heap.push (newS w)).get? l=some { cls:=.type "list", dict:=odict,data:=.seq items nl,slots:=oslots }:=Heap.get?_push_of_some _ hol;have hsls:=PySem.F.sub_list_set;have hslf:=PySem.F.sub_list_frozenset;have hne:(Value.type "list" == Value.type "dict")=false:=by decide
    have hl1:(s.heap.push (newS w)).IsList l items:=⟨_,hol',rfl,nl,rfl⟩;unfold Builtin.«set.__init__» noKeywords Builtin.Frozenset.updateFrom;generalize hPI:pyIter=PI
    wp_walk
    subst hPI;refine wpAny_pyIter_list hl1 ?_;refine Ua (wpAny_runValue ?_);have hlS:l < s.heap.objs.size:=Heap.lt_size hol;have hh3:A.in1.in1.in1.handled=none:=by simp [hh]
    have hneI:l≠(s.heap.push (newS w)).objs.size:=by
     rw [Heap.size_push]; exact Ts (Tf hlS)
    have hSf:s.heap.objs.size ∉ [(s.heap.push (newS w)).objs.size,l]:=by
     rw [Heap.size_push]; simp only [Ur,Uj,Rc,or_false,not_or];exact ⟨Ts (Tg _),Nat.ne_of_gt hlS⟩
    have hval:∀ (i:Nat) (v:Value),items[i]?=some v->∃ t,v=.int ((λi=>ns.getD i 0) i) t:=λi v hv =>
     PyProof.Rows.IntsAre.int_at hi i v (by rw [Array.getElem?_toList]; exact hv)
    have hlen:items.size=ns.length:=by
     have e:=(YU hi).1;rw [e]; simp
    refine fill_loop ((Walks.list hh3 _ l hneI items).toS) s.heap.objs.size hSf (λi=>ns.getD i 0) hval hb (items.size - 0) 0 _ [] (by exact Nat.sub_zero (Array.size items)) (Tb _)
     ⟨⟨_,Heap.get?_push_size _ rfl,rfl,rfl⟩,(hl1.push _)⟩ (newS_int (Heap.get?_push_of_some _ hS)) (Ug _) (λz=>⟨λq=>(by cases q),λq=>absurd q.choose_spec.1 (Sk _)⟩) ?hR
    case hR =>
     intro s' ks hm hS' hz;obtain ⟨h',g',d',tk',os'⟩:=s';have eg:g'=s.gens:=hm.gens;have ed:d'=s.drawn:=hm.drawn;have eo:os'=s.os:=hm.os;subst eg; subst ed; subst eo;show wpAny _ _ _ _ _ _;refine Ub ?_;show wpAny _ _ (ret Value.none) _ _ _;refine Ub ⟨rfl,h',tk',ks,rfl,hS',λz=>?_,λb o hb e=>?_⟩
     ·rw [hz,hlen];constructor
      ·rintro ⟨j,hj,rfl⟩;rw [Uu,Ui hj];exact T1 hj
      ·intro q;obtain ⟨j,hj,e⟩:=List.getElem_of_mem q;exact ⟨j,hj,by rw [Uu,Ui hj]; exact e⟩
     have hb1:b≠s.heap.objs.size:=Ts hb
     have hb2:b≠(s.heap.push (newS w)).objs.size:=by
      rw [Heap.size_push]; exact Ts (Tf hb)
     exact hm.heap b o (by simp only [Ur,Uj,Rc,or_false,not_or]; exact ⟨hb1,hb2⟩) (Heap.get?_push_of_some _ (Heap.get?_push_of_some _ e))
   ·cases r₂ with
    | error e=>exact hr₂
    | ok fl2 =>
     cases fl2 with
     | ret r =>
      obtain ⟨rfl,h',tk,ks,rfl,hS',hz,hk'⟩:=hr₂
      repeat (any_goals (first | assumption | wp_step))
      exact h _ _ _ hS' hz hk'
     | _=>exact hr₂.elim
  | _=>exact hr.elim
end Osetlist
section
variable {A:Around} {E:Value->Shared->Prop} {s:Shared}
theorem set_list {A E s l items ns Q}:Osetlist.Px A E s l items ns Q:=eps_all Osetlist.Rx Osetlist.main (A,E,s,l,items,ns,Q)
end
end
section
open PySem PySem.W PyProof.Rows PySem.Calls
theorem Z0b:entryFor table "set.__iter__" = some Builtin.«frozenset.__iter__»:=entryFor_alias (id' := "frozenset.__iter__") (by kernel_rfl) rfl (by decide +kernel) (by kernel_rfl)
theorem args_set_iter (a:Value):argsOk "set.__iter__" ⟨[a], []⟩:=by unfold argsOk; kernel_rfl
theorem Zp:Slot "set_iterator" "__next__" "set_iterator.__next__" :=
 .of (owner := "set_iterator") (n := "__next__") (by rw [typeLookup_type,builtinLookup_eq_fast]; kernel_rfl) (by decide +kernel) (by decide +kernel) (by decide +kernel)
  (by first | exact .inl (by decide +kernel) | exact .inr (by decide +kernel)) (by rw [isSubtype_type]; kernel_rfl)
theorem ZZ:Slot "set_iterator" "__iter__" "set_iterator.__iter__" :=
 .of (owner := "set_iterator") (n := "__iter__") (by rw [typeLookup_type,builtinLookup_eq_fast]; kernel_rfl) (by decide +kernel) (by decide +kernel) (by decide +kernel)
  (by first | exact .inl (by decide +kernel) | exact .inr (by decide +kernel)) (by rw [isSubtype_type]; kernel_rfl)
theorem Yn:entryFor table "set_iterator.__next__" = some Builtin.«set_iterator.__next__»:=entryFor_of_tree (by kernel_rfl)
theorem entry_si_iter:entryFor table "set_iterator.__iter__" = some Builtin.«dict_keyiterator.__iter__»:=entryFor_alias (id' := "dict_keyiterator.__iter__") (by kernel_rfl) rfl (by decide +kernel) (by kernel_rfl)
theorem YA (a:Value):argsOk "set_iterator.__next__" ⟨[a], []⟩:=by unfold argsOk; kernel_rfl
theorem Xu (a:Value):argsOk "set_iterator.__iter__" ⟨[a], []⟩:=by unfold argsOk; kernel_rfl
theorem Ys {α:Type}:∀ (xs:List α) (i:Nat) (h:i < xs.length),(xs[i] :: xs.eraseIdx i).Perm xs
 | x :: xs,0,h=>by simp
 | x :: xs,i+1,h=>by
  simp only [List.getElem_cons_succ,List.eraseIdx_cons_succ];exact (List.Perm.swap ..).trans ((Ys xs i (by simpa using h)).cons x)
section
variable {A:Around} {E:Value->Shared->Prop}
theorem choose_any {M:Model} {src:Source} {n:Nat} {s:Shared} {Q:Nat->Shared->Prop} (hn:n≠0) (h:∀ i dr,i < n->Q i { s with drawn:=dr }):wpAny M A (choose src n) Q E s:=λΓ p hΓ=>by
 show _/\_;exact ⟨hn,h _ _ (Sr _ (Nat.pos_of_ne_zero hn))⟩
theorem draw_any {M:Model} {α:Type}:∀ (n:Nat) (xs:List α) (s:Shared) (Q:List α->Shared->Prop),xs.length<=n->(∀ ys dr,ys.Perm xs->Q ys { s with drawn:=dr })->wpAny M A (drawOrder n xs) Q E s
 | 0, [],s,Q,hl,h=>by unfold drawOrder; exact Ub (h [] s.drawn (.refl _))
 | 0,x :: xs,s,Q,hl,h=>by simp at hl
 | n+1, [],s,Q,hl,h=>by unfold drawOrder; exact Ub (h [] s.drawn (.refl _))
 | n+1,x :: xs,s,Q,hl,h=>by
  unfold drawOrder;refine Ua (choose_any (by simp) λi dr hi=>?_);rw [Ui hi];dsimp only;refine Ua (draw_any n _ _ _ (by rw [List.length_eraseIdx_of_lt hi]; simp at hl ⊢; omega) λys dr' hp=>?_);refine Ub (h _ dr' ?_);exact (List.Perm.cons _ hp).trans (Ys _ _ hi)
theorem pick_perm {α:Type} (next:Nat->Nat):∀ (fuel k:Nat) (left:List α) (out:Array α),left.length<=fuel->(pickOrder.go next fuel k left out).toList.Perm (out.toList++left)
 | 0,k, [],out,h=>by unfold pickOrder.go; simp
 | 0,k,x :: xs,out,h=>by simp at h
 | fuel+1,k,left,out,h=>by
  unfold pickOrder.go
  cases hx:left[next k % left.length]? with
  | none =>
   dsimp only
   have:left=[]:=by
    rw [Sp] at hx
    cases left with
    | nil=>rfl
    | cons a r=>exact absurd (Sr (next k) (show 0 < (a :: r).length by simp)) (by exact ar176 hx)
   rw [this]; simp
  | some x =>
   dsimp only;obtain ⟨hi,e⟩:=Un.mp hx;refine (pick_perm next fuel (k+1) _ _ (by rw [List.length_eraseIdx_of_lt hi]; exact Nat.sub_le_of_le_add h)).trans ?_;rw [Array.toList_push,Sd];refine List.Perm.append_left _ ?_;rw [<- e];exact Ys _ _ hi
end
end
section
open PySem PySem.W PyProof.Rows PySem.Calls
section
variable {A:Around} {E:Value->Shared->Prop} {s:Shared}
noncomputable def itO (first:Value) (i:Nat) (a:Addr) (n ep:Nat):Obj:={ cls:=.type "set_iterator", data:=.fields #[first,rawInt i, .ref a,rawInt n,rawInt ep] }
noncomputable def setO (es:Array (Int × Value)) (ep:Nat) (t:SetTable):Obj:={ cls:=.type "set", data:=.set es ep t }
theorem Z18:isSubtype (.type "StopIteration") (.type "StopIteration")=pure true:=by rw [isSubtype_type]; kernel_rfl
variable {I a T:Addr} {i n ep:Nat} {es:Array (Int × Value)} {t:SetTable} {Q:Option Value->Shared->Prop}
noncomputable def NextIs (prog:Program) (w:World) (a:Addr) (slot i ep:Nat) (r:Option (Value × Nat)) (s:Shared):Prop:=∀ (A:Around) (E:Value->Shared->Prop) (Q:Option (Value × Nat)->Shared->Prop),Q r s->wpAny (model prog w) A (setNext a slot i ep) Q E s
theorem stop_goes {A':Around} {R:Fin->Shared->Prop} {E':Value->Shared->Prop} (hh:A'.handled=none) (q:∀ e h',(∀ b o,s.heap.get? b=some o->h'.get? b=some o)->Shared.TypeIs { s with heap:=h' } e "StopIteration" -> E' e { s with heap:=h' }) :
  wpAny (model prog w) A' (do let e <- newExc (.type "StopIteration") []; raiseNew e:Sem Fin) R E' s:=by
 refine Ua ?_;simp -iota only [newExc,newTuple];refine Ua (wpAny_newObj_type ?_ (by size_fits));refine Ua (m:=firstArgMember _ _) (wpAny_of_eq (a:=Value.none) (by first | rfl | (simp -iota only [firstArgMember]; rfl)) ?_);refine wpAny_newObj_type ?_ (by size_fits);simp -iota only [raiseNew];refine Ua (wpAny_handled ?_);rw [hh];refine Ua (Ub (wpAny_throw ?_));exact q _ _ (λb o e=>Heap.get?_push_of_some _ (Heap.get?_push_of_some _ e)) ⟨_,Heap.get?_push_size _ rfl,rfl⟩
theorem itO_set0 {first x:Value} (hI:s.heap.get? I=some (itO first i a n ep)):(s.heap.update I (Obj.mapFields (·.setIfInBounds 0 x))).get? I=some (itO x i a n ep):=by
 rw [Heap.get?_update_self _ hI rfl]; rfl
theorem itO_set1 {h:Heap} {first:Value} (hI:h.get? I=some (itO first i a n ep)):(h.update I (Obj.mapFields (·.setIfInBounds 1 (rawInt ((i:Int)+1))))).get? I=some (itO first (i+1) a n ep):=by
 rw [Heap.get?_update_self _ hI rfl]; rfl
theorem si_int {slot:Nat} {tk:Tok} {x:Value} {next:Nat} (hI:s.heap.get? I=some (itO (.int slot tk) i a es.size ep)) (ha:s.heap.get? a=some (setO es ep t)) (hf:t.fits es.size=true) (hn:NextIs prog w a slot i ep (some (x,next)) s)
  (h:∀ h',h'.get? I=some (itO (rawInt next) (i+1) a es.size ep)->Heap.SameBut I s.heap h'->Q (some x) { s with heap:=h' }):wpAny (model prog w) A (pyNext (.ref I)) Q E s:=by
 have hT:s.TypeIs (.ref I) "set_iterator" := ⟨_,hI,rfl⟩;unfold pyNext
 refine Ua (wpAny_attempt (wpAny_callSpecial?_slot (name:=Str.ofString "__next__") hT Zp
  (wpAny_call_entry Zp hT Yn ?_ (YA _))))
 refine Ua (Ub ?_);refine Ua (wpAny_fieldsOf hI rfl ?_);unfold setEntries;refine Ua (Ua (wpAny_setState_of ha rfl hf (Ub ?_)));dsimp only;rw [if_neg (by simp -iota)];simp -iota only [T6];refine Ua (hn _ _ _ ?_);dsimp only;refine Ua (wpAny_setField hI rfl (by simp -iota) ?_);have h1:=itO_set0 (x:=rawInt next) hI;refine Ua (wpAny_setField h1 rfl (by simp -iota) ?_);have h2:=itO_set1 h1;exact Ub ⟨_,rfl,Ub (h _ h2 ((Heap.SameBut.update ..).trans (Heap.SameBut.update ..)))⟩
theorem Z0n {slot:Nat} {tk:Tok} (hh:A.handled=none) (hI:s.heap.get? I=some (itO (.int slot tk) i a es.size ep)) (ha:s.heap.get? a=some (setO es ep t)) (hf:t.fits es.size=true) (hn:NextIs prog w a slot i ep none s)
  (h:∀ h',(∀ b o,b≠I->s.heap.get? b=some o->h'.get? b=some o)->Q none { s with heap:=h' }):wpAny (model prog w) A (pyNext (.ref I)) Q E s:=by
 have hT:s.TypeIs (.ref I) "set_iterator" := ⟨_,hI,rfl⟩;unfold pyNext
 refine Ua (wpAny_attempt (wpAny_callSpecial?_slot (name:=Str.ofString "__next__") hT Zp
  (wpAny_call_entry Zp hT Yn ?_ (YA _))))
 refine Ua (Ub ?_);refine Ua (wpAny_fieldsOf hI rfl ?_);unfold setEntries;refine Ua (Ua (wpAny_setState_of ha rfl hf (Ub ?_)));dsimp only;rw [if_neg (by simp -iota)];simp -iota only [T6];refine Ua (hn _ _ _ ?_);dsimp only;refine Ua (wpAny_setField hI rfl (by simp -iota) ?_);refine stop_goes (by exact hh) λe h' k ht=>?_;exact Ua (wpAny_isInstance (T := "StopIteration") (b:=true) ht Z18 (Ub (h h' λb o hb q=>k _ _ ((Heap.get?_update_other _ _ (Ne.symm hb)).trans q))))
theorem si_ref {ps:List Nat} {j:Nat} {x:Value} {hk:Int} (hI:s.heap.get? I=some (itO (.ref T) i a es.size ep)) (ha:s.heap.get? a=some (setO es ep t)) (hf:t.fits es.size=true) (hT':s.heap.get? T=some { cls:=.type "tuple", data:=.seq (ps.map λ(i:Nat)=>rawInt i).toArray })
  (hj:ps[i]?=some j) (hx:es[j]?=some (hk,x))
  (h:∀ h',h'.get? I=some (itO (.ref T) (i+1) a es.size ep)->Heap.SameBut I s.heap h'->Q (some x) { s with heap:=h' }):wpAny (model prog w) A (pyNext (.ref I)) Q E s:=by
 have hT:s.TypeIs (.ref I) "set_iterator" := ⟨_,hI,rfl⟩;unfold pyNext
 refine Ua (wpAny_attempt (wpAny_callSpecial?_slot (name:=Str.ofString "__next__") hT Zp
  (wpAny_call_entry Zp hT Yn ?_ (YA _))))
 refine Ua (Ub ?_);refine Ua (wpAny_fieldsOf hI rfl ?_);unfold setEntries;refine Ua (Ua (wpAny_setState_of ha rfl hf (Ub ?_)));dsimp only;rw [if_neg (by simp -iota)];simp -iota only [T6];refine Ua (wpAny_seqItems hT' rfl ?_);have e:(ps.map λ(i:Nat)=>rawInt i).toArray[i]?=some (rawInt j):=by simp -iota [hj]
 dsimp only;rw [e];unfold setNextDrawn;refine Ua (Ua (wpAny_setState_of ha rfl hf ?_));simp only [rawInt,T6,bne_self_eq_false,U1,if_false,hx];refine Ub ?_;refine Ua (wpAny_setField hI rfl (by simp -iota) ?_);have h2:=itO_set1 hI;exact Ub ⟨_,rfl,Ub (h _ h2 (Heap.SameBut.update ..))⟩
theorem si_ref_end {ps:List Nat} (hh:A.handled=none) (hI:s.heap.get? I=some (itO (.ref T) i a es.size ep)) (ha:s.heap.get? a=some (setO es ep t)) (hf:t.fits es.size=true) (hT':s.heap.get? T=some { cls:=.type "tuple", data:=.seq (ps.map λ(i:Nat)=>rawInt i).toArray })
  (hj:ps[i]?=none)
  (h:∀ h',(∀ b o,b≠I->s.heap.get? b=some o->h'.get? b=some o)->Q none { s with heap:=h' }):wpAny (model prog w) A (pyNext (.ref I)) Q E s:=by
 have hT:s.TypeIs (.ref I) "set_iterator" := ⟨_,hI,rfl⟩;unfold pyNext
 refine Ua (wpAny_attempt (wpAny_callSpecial?_slot (name:=Str.ofString "__next__") hT Zp
  (wpAny_call_entry Zp hT Yn ?_ (YA _))))
 refine Ua (Ub ?_);refine Ua (wpAny_fieldsOf hI rfl ?_);unfold setEntries;refine Ua (Ua (wpAny_setState_of ha rfl hf (Ub ?_)));dsimp only;rw [if_neg (by simp -iota)];simp -iota only [T6];refine Ua (wpAny_seqItems hT' rfl ?_);have e:(ps.map λ(i:Nat)=>rawInt i).toArray[i]?=none:=by simpa -iota using hj
 dsimp only;rw [e];refine Ua (wpAny_setField hI rfl (by simp -iota) ?_);have h1:=itO_set0 (x:=rawInt 0) hI;refine Ua (wpAny_setField h1 rfl (by simp -iota) ?_);refine stop_goes (by exact hh) λe h' k ht=>?_;exact Ua (wpAny_isInstance (T := "StopIteration") (b:=true) ht Z18 (Ub (h h' λb o hb q=>k _ _ ((Heap.get?_update_other _ _ (Ne.symm hb)).trans ((Heap.get?_update_other _ _ (Ne.symm hb)).trans q)))))
end
end
section
open PySem PySem.W PyProof.Rows PySem.Calls
theorem XN:Slot "set" "__iter__" "set.__iter__" :=
 .of (owner := "set") (n := "__iter__") (by rw [typeLookup_type,builtinLookup_eq_fast]; kernel_rfl) (by decide +kernel) (by decide +kernel) (by decide +kernel)
  (by first | exact .inl (by decide +kernel) | exact .inr (by decide +kernel)) (by rw [isSubtype_type]; kernel_rfl)
theorem slot_set_len':Slot "set" "__len__" "set.__len__" :=
 .of (owner := "set") (n := "__len__") (by rw [typeLookup_type,builtinLookup_eq_fast]; kernel_rfl) (by decide +kernel) (by decide +kernel) (by decide +kernel)
  (by first | exact .inl (by decide +kernel) | exact .inr (by decide +kernel)) (by rw [isSubtype_type]; kernel_rfl)
section
variable {A:Around} {E:Value->Shared->Prop} {s:Shared} {I a T:Addr} {i n ep:Nat} {es:Array (Int × Value)} {t:SetTable} {Q:Option Value->Shared->Prop}
noncomputable def YT (t:SetTable) (i:Nat):Nat:=if i=0 then 0 else t.place.getD (i - 1) 0+1
theorem below_slot {t:SetTable} (hr:RisA t.place) {i:Nat} (hi:i<=t.place.size):SetTable.below t.place (YT t i)=i:=by
 unfold YT
 cases i with
 | zero=>exact below_zero hr
 | succ i=>rw [if_neg (Nat.succ_ne_zero i)]; exact below_next hr (by exact ar85 hi)
theorem YV {M:Model} {Q:Bool->Shared->Prop} (h:Q (M.w.params.followText "set-order") s):wpAny M A setsByText Q E s:=by
 unfold setsByText;exact Ua (wpAny_askSetting (Ub h))
theorem fits_size {t:SetTable} {n:Nat} (hf:t.fits n=true):t.place.size=n:=by
 simp only [SetTable.fits,Bool.and_eq_true,beq_iff_eq,decide_eq_true_eq] at hf;exact hf.1
theorem next_led (ha:s.heap.get? a=some (setO es ep t)) (hf:t.fits es.size=true) (ht:TabR true t) (hm:w.params.followText "set-order" = false) (hp:t.plain=true\/es.size<=1) (hi:i<=es.size) :
  NextIs prog w a (YT t i) n ep (es[i]?.map λe=>(e.2,YT t (i+1))) s:=λA E Q q=>by
 unfold setNext;refine Ua (wpAny_setState_of ha rfl hf ?_);dsimp only;refine Ua (YV ?_);show wpAny _ _ (if (w.params.followText "set-order")=true then _ else _) _ _ _;rw [hm,if_neg (by decide)]
 have hd:(!t.plain && decide (es.size > 1))=false:=by
  rcases hp with h | h
  ·rw [h]; rfl
  ·rw [decide_eq_false (by exact ar86 h),Bool.and_false]
 show wpAny _ _ (if (!t.plain && decide (es.size > 1))=true then _ else _) _ _ _;rw [hd,if_neg (by decide)];show wpAny _ _ ((if (!t.led && !es.isEmpty)=true then unsupported "set:maker-not-led" else pure ()) >>= λ_=>_) _ _ _;rw [ht.1];refine Ua (Ub ?_);have hsz:=fits_size hf;rw [below_slot ht.2 (by exact ar87 hi hsz)]
 cases hx:es[i]? with
 | none=>rw [hx] at q; exact Ub q
 | some e =>
  rw [hx] at q;obtain ⟨hk,x⟩:=e;have hlt:i < es.size:=(Array.getElem?_eq_some_iff.mp hx).1
  have hpl:t.place[i]?=some (t.place.getD i 0):=by
   have:i < t.place.size:=by exact ar88 hsz hlt
   simp [Array.getD,this]
  simp only [hpl];have e2:YT t (i+1)=t.place.getD i 0+1:=by unfold YT; rw [if_neg (Nat.succ_ne_zero i)]; rfl
  rw [Rh,e2] at q;exact Ub q
theorem next_text (slot:Nat) (ha:s.heap.get? a=some (setO es ep t)) (hf:t.fits es.size=true) (hm:w.params.followText "set-order" = true) :
  NextIs prog w a slot i ep ((pickOrder (w.params.setOrder a ep) es)[i]?.map λe=>(e.2,slot)) s:=λA E Q q=>by
 unfold setNext;refine Ua (wpAny_setState_of ha rfl hf ?_);dsimp only;refine Ua (YV ?_);show wpAny _ _ (if (w.params.followText "set-order")=true then _ else _) _ _ _;rw [hm,if_pos rfl];simp only [bne_self_eq_false,U1,if_false];refine Ua ?_;unfold setWalk;refine Ua (wpAny_setState_of ha rfl hf ?_);dsimp only;refine Ua (YV ?_);show wpAny _ _ (if (w.params.followText "set-order")=true then _ else _) _ _ _;rw [hm,if_pos rfl];refine Ua (wpAny_askSetting (Ub ?_));exact Ub q
theorem walk_led (hh:A.handled=none) (hne:a≠I) (hf:t.fits es.size=true) (ht:TabR true t) (hm:w.params.followText "set-order" = false) (hp:t.plain=true\/es.size<=1) :
  Walks prog w A I [I,a] [I] es.size (λi v=>(es.toList.map (·.2))[i]?=some v) (λi h=>h.get? I=some (itO (rawInt (YT t i)) i a es.size ep)/\h.get? a=some (setO es ep t)) where
 sub:=λb hb=>by simp at hb; simp [hb]
 frame:=λ_ _ _ st hk=>⟨hk I (by simp) _ st.1,hk a (by simp) _ st.2⟩
 item:=λi s Q E hi st hQ=>by
  have hx:es[i]?=some es[i]:=Array.getElem?_eq_getElem hi;refine si_int (slot:=YT t i) (tk:=0) (next:=YT t (i+1)) (x:=es[i].2) st.1 st.2 hf ?_ λh' h1 sb=>?_
  ·have:=next_led (n:=i) st.2 hf ht hm hp (Tq hi);rw [hx] at this; exact this
  ·refine hQ _ h' s.toks ?_ ⟨h1,(sb.2 a hne).trans st.2⟩ λb o hb e=>sb.extBut b o (λq=>hb (by simp [q])) e;simp [hi]
 done:=λs Q E st hQ=>by
  refine Z0n (slot:=YT t es.size) (tk:=0) hh st.1 st.2 hf ?_ λh' k=>hQ h' s.toks λb o hb e=>k b o (λq=>hb (by simp [q])) e;have:=next_led (n:=es.size) st.2 hf ht hm hp (Ug _);rw [show es[es.size]?=none by simp] at this; exact this
 self:=λi s Q E st hQ=>by
  have hT:s.TypeIs (.ref I) "set_iterator" := ⟨_,st.1,rfl⟩;refine wpAny_pyIter_slot hT ZZ (wpAny_call_entry ZZ hT entry_si_iter ?_ (Xu _));show wpAny _ _ (ret (.ref I)) _ _ s;exact Ub ⟨_,rfl, "set_iterator", _,hT,Zp.lookup,hQ⟩
theorem walk_text (hh:A.handled=none) (hne:a≠I) (hf:t.fits es.size=true) (hm:w.params.followText "set-order" = true) {vs:Array (Int × Value)} (hv:vs=pickOrder (w.params.setOrder a ep) es) (hl:vs.size=es.size) :
  Walks prog w A I [I,a] [I] es.size (λi v=>(vs.toList.map (·.2))[i]?=some v) (λi h=>h.get? I=some (itO (rawInt 0) i a es.size ep)/\h.get? a=some (setO es ep t)) where
 sub:=λb hb=>by simp at hb; simp [hb]
 frame:=λ_ _ _ st hk=>⟨hk I (by simp) _ st.1,hk a (by simp) _ st.2⟩
 item:=λi s Q E hi st hQ=>by
  have hx:vs[i]?=some vs[i]:=Array.getElem?_eq_getElem (by omega);refine si_int (slot:=0) (tk:=0) (next:=0) (x:=vs[i].2) st.1 st.2 hf ?_ λh' h1 sb=>?_
  ·have:=next_text (i:=i) 0 st.2 hf hm;rw [<- hv,hx] at this; exact this
  ·refine hQ _ h' s.toks ?_ ⟨h1,(sb.2 a hne).trans st.2⟩ λb o hb e=>sb.extBut b o (λq=>hb (by simp [q])) e;have:i < vs.size:=by omega
   simp [this]
 done:=λs Q E st hQ=>by
  refine Z0n (slot:=0) (tk:=0) hh st.1 st.2 hf ?_ λh' k=>hQ h' s.toks λb o hb e=>k b o (λq=>hb (by simp [q])) e;have:=next_text (i:=es.size) 0 st.2 hf hm;rw [<- hv,show vs[es.size]?=none by simp [hl]] at this; exact this
 self:=λi s Q E st hQ=>by
  have hT:s.TypeIs (.ref I) "set_iterator" := ⟨_,st.1,rfl⟩;refine wpAny_pyIter_slot hT ZZ (wpAny_call_entry ZZ hT entry_si_iter ?_ (Xu _));show wpAny _ _ (ret (.ref I)) _ _ s;exact Ub ⟨_,rfl, "set_iterator", _,hT,Zp.lookup,hQ⟩
theorem walk_drawn (hh:A.handled=none) (hne:a≠I) (hnT:T≠I) (hf:t.fits es.size=true) {ps:List Nat} (hp:ps.Perm (Um es.size)) :
  Walks prog w A I [I,a,T] [I] es.size (λi v=>(ps.map λj=>(es.getD j (0, .none)).2)[i]?=some v) (λi h=>h.get? I=some (itO (.ref T) i a es.size ep)/\h.get? a=some (setO es ep t)/\h.get? T=some { cls:=.type "tuple", data:=.seq (ps.map λ(i:Nat)=>rawInt i).toArray }) where
 sub:=λb hb=>by simp at hb; simp [hb]
 frame:=λ_ _ _ st hk=>⟨hk I (by simp) _ st.1,hk a (by simp) _ st.2.1,hk T (by simp) _ st.2.2⟩
 item:=λi s Q E hi st hQ=>by
  have hl:ps.length=es.size:=by rw [hp.length_eq]; simp
  have hj:ps[i]?=some ps[i]:=Ui (by omega);have hm:ps[i] ∈ Um es.size:=hp.mem_iff.mp (T1 _);have hlt:ps[i] < es.size:=by simpa using hm
  refine si_ref (j:=ps[i]) (hk:=es[ps[i]].1) (x:=es[ps[i]].2) st.1 st.2.1 hf st.2.2 hj (Array.getElem?_eq_getElem hlt) λh' h1 sb=>?_;refine hQ _ h' s.toks ?_ ⟨h1,(sb.2 a hne).trans st.2.1,(sb.2 T hnT).trans st.2.2⟩ λb o hb e=>sb.extBut b o (λq=>hb (by simp [q])) e;rw [Ul,hj];simp [Array.getD,hlt]
 done:=λs Q E st hQ=>by
  have hl:ps.length=es.size:=by rw [hp.length_eq]; simp
  exact si_ref_end hh st.1 st.2.1 hf st.2.2 (by simp [hl]) λh' k=>hQ h' s.toks λb o hb e=>k b o (λq=>hb (by simp [q])) e
 self:=λi s Q E st hQ=>by
  have hT:s.TypeIs (.ref I) "set_iterator" := ⟨_,st.1,rfl⟩;refine wpAny_pyIter_slot hT ZZ (wpAny_call_entry ZZ hT entry_si_iter ?_ (Xu _));show wpAny _ _ (ret (.ref I)) _ _ s;exact Ub ⟨_,rfl, "set_iterator", _,hT,Zp.lookup,hQ⟩
end
end
section
open PySem PySem.W PyProof.Rows PySem.Calls
section
variable {A:Around} {E:Value->Shared->Prop} {s:Shared} {I a T:Addr} {i n ep:Nat} {es:Array (Int × Value)} {t:SetTable}
theorem pick_all {α:Type} (next:Nat->Nat) (xs:Array α):(pickOrder next xs).toList.Perm xs.toList:=by
 have:=pick_perm next xs.size 0 xs.toList #[] (by simp)
 simpa [pickOrder] using this
theorem map_range {es:Array (Int × Value)}:((Um es.size).map λj=>(es.getD j (0, .none)).2)=es.toList.map (·.2):=by
 apply List.ext_getElem
 ·simp
 ·intro i h1 h2;simp at h1 h2;simp [Array.getD,h1]
inductive VU (prog:Program) (w:World) (A:Around) (s:Shared) (a:Addr) (ks:List Int) (I:Addr) (h':Heap):Prop
 | mk (vs:List Value) (ks':List Int) (fp:List Addr) (St:Nat->Heap->Prop) (W:Walks prog w A I fp [I] vs.length (λi v=>vs[i]?=some v) St) (st:St 0 h') (hfp:∀ b ∈ fp,b=a\/s.heap.objs.size<=b) (hI:s.heap.objs.size<=I) (hlt:∀ b ∈ fp,b < h'.objs.size)
  (keep:∀ b o,s.heap.get? b=some o->h'.get? b=some o) (hi:IntsAre vs ks') (hp:ks'.Perm ks)
theorem sw_two {vs:List Value} {ks ks':List Int} {first:Nat->Value} {I:Addr} {h':Heap} (hl:vs.length=es.size) (hlt:a < s.heap.objs.size) (hI:I=s.heap.objs.size) (hh':h'=s.heap.push (itO (first 0) 0 a es.size ep)) (ho:s.heap.get? a=some (setO es ep t))
  (W:Walks prog w A I [I,a] [I] es.size (λi v=>vs[i]?=some v) (λi h=>h.get? I=some (itO (first i) i a es.size ep)/\h.get? a=some (setO es ep t))) (hi:IntsAre vs ks') (hp:ks'.Perm ks):VU prog w A s a ks I h':=by
 subst hh';subst hI;refine .mk vs ks' [s.heap.objs.size,a] (λi h=>h.get? s.heap.objs.size=some (itO (first i) i a es.size ep)/\h.get? a=some (setO es ep t)) (by rw [hl]; exact W) ⟨Heap.get?_push_size _ rfl,Heap.get?_push_of_some _ ho⟩ (λb hb=>?_) (Ug _) (λb hb=>?_) (λb o e=>Heap.get?_push_of_some _ e) hi hp
 ·simp at hb; rcases hb with rfl | rfl; exact .inr (Ug _); exact .inl rfl
 ·simp at hb;have e1:(s.heap.push (itO (first 0) 0 a es.size ep)).objs.size=s.heap.objs.size+1:=Heap.size_push ..;rw [e1]; rcases hb with rfl | rfl; exact Tg _; exact Tf hlt
theorem sw_drawn {vs:List Value} {ks ks':List Int} {ps:List Nat} {I:Addr} {h':Heap} (hl:vs.length=es.size) (hlt:a < s.heap.objs.size) (hI:I=s.heap.objs.size+1)
  (hh':h'=(s.heap.push (seqObj "tuple" (ps.map λ(i:Nat)=>rawInt i).toArray 0)).push (itO (.ref s.heap.objs.size) 0 a es.size ep)) (ho:s.heap.get? a=some (setO es ep t))
  (W:Walks prog w A I [I,a,s.heap.objs.size] [I] es.size (λi v=>vs[i]?=some v) (λi h=>h.get? I=some (itO (.ref s.heap.objs.size) i a es.size ep)/\h.get? a=some (setO es ep t)/\h.get? s.heap.objs.size=some { cls:=.type "tuple", data:=.seq (ps.map λ(i:Nat)=>rawInt i).toArray }))
  (hi:IntsAre vs ks') (hp:ks'.Perm ks):VU prog w A s a ks I h':=by
 subst hh';subst hI;have e1:(s.heap.push (seqObj "tuple" (ps.map λ(i:Nat)=>rawInt i).toArray 0)).objs.size=s.heap.objs.size+1:=Heap.size_push ..;have eI:((s.heap.push (seqObj "tuple" (ps.map λ(i:Nat)=>rawInt i).toArray 0)).push (itO (.ref s.heap.objs.size) 0 a es.size ep)).get? (s.heap.objs.size+1)=some (itO (.ref s.heap.objs.size) 0 a es.size ep):=by rw [<- e1]; exact Heap.get?_push_size _ rfl
 refine .mk vs ks' _ _ (show Walks prog w A (s.heap.objs.size+1) [s.heap.objs.size+1,a,s.heap.objs.size] [s.heap.objs.size+1] vs.length (λi v=>vs[i]?=some v) (λi h=>h.get? (s.heap.objs.size+1)=some (itO (.ref s.heap.objs.size) i a es.size ep)/\h.get? a=some (setO es ep t)/\h.get? s.heap.objs.size=some { cls:=.type "tuple", data:=.seq (ps.map λ(i:Nat)=>rawInt i).toArray }) by rw [hl]; exact W) ⟨eI,Heap.get?_push_of_some _ (Heap.get?_push_of_some _ ho),Heap.get?_push_of_some _ (Heap.get?_push_size _ rfl)⟩ (λb hb=>?_) (Tr _) (λb hb=>?_) (λb o e=>Heap.get?_push_of_some _ (Heap.get?_push_of_some _ e)) hi hp
 ·simp at hb; rcases hb with rfl | rfl | rfl; exact .inr (Tr _); exact .inl rfl; exact .inr (Ug _)
 ·simp at hb;have e2:((s.heap.push (seqObj "tuple" (ps.map λ(i:Nat)=>rawInt i).toArray 0)).push (itO (.ref s.heap.objs.size) 0 a es.size ep)).objs.size=s.heap.objs.size+1+1:=by rw [Heap.size_push ..]; exact congrArg (·+1) e1
  rw [e2]; rcases hb with rfl | rfl | rfl
  ·exact Tg _
  ·exact Tf (Tf hlt)
  ·exact Tf (Tg _)
theorem set_iter {ks:List Int} {Q:Value->Shared->Prop} (hh:A.handled=none) (hS:SetI prog w s.heap a ks) (h:∀ I dr h',VU prog w A s a ks I h'->Q (.ref I) { s with heap:=h',drawn:=dr }):wpAny (model prog w) A (pyIter (.ref a)) Q E s:=by
 obtain ⟨es,ep,t,ho,hel,hi,hnd,hlen,hf,ht⟩:=hS;have hT:s.TypeIs (.ref a) "set" := ⟨_,ho,rfl⟩;have hlt:a < s.heap.objs.size:=Heap.lt_size ho
 have hsz:es.size=ks.length:=by
  have e:=(YU hi).1;rw [e]; simp
 refine wpAny_pyIter_slot hT XN (wpAny_call_entry XN hT Z0b ?_ (args_set_iter _));unfold Builtin.«frozenset.__iter__» Builtin.Frozenset.slot0 slotArgs;simp only [List.isEmpty_nil,Bool.not_true,U1, ↓reduceIte,bind_assoc,Sy,bne_self_eq_false];unfold Builtin.Frozenset.addrOf Builtin.Frozenset.sizeOf;refine Ua (Ub ?_)
 try dsimp only
 refine Ua (Ub ?_);unfold setEntries;refine Ua (Ua (Ua (wpAny_setState_of ho rfl hf (Ub (Ub ?_)))));unfold setDrawn;refine Ua (Ua (wpAny_setState_of ho rfl hf ?_));dsimp only;refine Ua (YV (Ub ?_));show wpAny _ _ (if (!(w.params.followText "set-order") && (!t.plain && decide (es.size > 1)))=true then _ else _) _ _ _
 have fin:∀ (s':Shared) (dr:Drawn) (first:Value) (ho':s'.heap.get? a=some (setO es ep t)),(s'={ s with heap:=s'.heap,drawn:=dr })->VU prog w A s a ks s'.heap.objs.size (s'.heap.push (itO first 0 a es.size ep)) ->
   wpAny (model prog w) A.in1 (do let e <- setEpoch a; let it <- newFields "set_iterator" [first,rawInt 0, .ref a,rawInt (es.size:Int),rawInt (e:Int)]; ret it:Sem Fin)
    (λfin s'=>∃ v,fin=.done (.ret v)/\∃ T' r,s'.TypeIs v T'/\typeLookup (.type T') (Str.ofString "__next__")=pure (some r)/\Q v s') E s':=λs' dr first ho' es' sw=>by
  unfold setEpoch;refine Ua (Ua (wpAny_setState_of ho' rfl hf (Ub ?_)));dsimp only;refine Ua ?_;simp only [newFields];refine wpAny_newObj_type (Ub ⟨_,rfl, "set_iterator", _,⟨_,Heap.get?_push_size _ rfl,rfl⟩,Zp.lookup,?_⟩);have q:=h _ dr _ sw;rw [es'];exact q
 cases hm:w.params.followText "set-order" with
 | true =>
  rw [Bool.not_true,Bool.false_and,if_neg (by decide)];refine Ua (Ub ?_)
  have hl:(pickOrder (w.params.setOrder a ep) es).size=es.size:=by
   have:=(pick_all (w.params.setOrder a ep) es).length_eq;simpa using this
  obtain ⟨ks',hi',hp'⟩:=W2 hi ((pick_all (w.params.setOrder a ep) es).map (·.2));exact fin s s.drawn _ ho rfl (sw_two (first:=λ_=>rawInt 0) (by simp [hl]) hlt rfl rfl ho (walk_text hh (Ts hlt) hf hm rfl hl) hi' hp')
 | false =>
  have ht':TabR true t:=by rw [hm] at ht; exact ht
  rw [Bool.not_false,S9]
  by_cases hd:(!t.plain && decide (es.size > 1))=true
  ·rw [if_pos hd];refine Ua (draw_any es.size (Um es.size) _ _ (by simp) λps dr hp=>?_);refine Ua (wpAny_newTuple ?_ (by rw [Ut,hp.length_eq,Sx]; exact Uc (Tq (hsz ▸ hlen)) (by decide)));have hl:(ps.map λj=>(es.getD j (0, .none)).2).length=es.size:=by rw [Ut,hp.length_eq]; simp
   obtain ⟨ks',hi',hp'⟩:=W2 hi (show (ps.map λj=>(es.getD j (0, .none)).2).Perm (es.toList.map (·.2)) by rw [<- map_range]; exact hp.map _);refine fin { s with drawn:=dr,heap:=s.heap.push (seqObj "tuple" (ps.map λ(i:Nat)=>rawInt i).toArray 0) } dr _ (Heap.get?_push_of_some _ ho) rfl ?_;have e1:(s.heap.push (seqObj "tuple" (ps.map λ(i:Nat)=>rawInt i).toArray 0)).objs.size=s.heap.objs.size+1:=Heap.size_push ..;refine sw_drawn (ps:=ps) hl hlt e1 rfl ho ?_ hi' hp';show Walks prog w A (s.heap.push (seqObj "tuple" (ps.map λ(i:Nat)=>rawInt i).toArray 0)).objs.size _ _ _ _ _;rw [e1];exact walk_drawn hh (Ts (Tf hlt)) (Ts (Tg _)) hf hp
  ·rw [if_neg hd];refine Ua (Ub ?_)
   have hp:t.plain=true\/es.size<=1:=by
    cases q:t.plain with
    | true=>exact .inl rfl
    | false=>right; simp [q] at hd; omega
   exact fin s s.drawn _ ho rfl (sw_two (first:=λi=>rawInt (YT t i)) (by simp) hlt rfl rfl ho (walk_led hh (Ts hlt) hf ht' hm hp) hi (.refl _))
end
end
section
open PySem PySem.W PyProof.Rows PySem.Calls
section
variable {A:Around} {E:Value->Shared->Prop} {s:Shared} {a:Addr} {ks:List Int}
theorem hint_set {Q:Bool->Shared->Prop} (hT:s.TypeIs (.ref a) "set") (h:Q false s):wpAny (model prog w) A (Builtin.List.listLengthHint (.ref a)) Q E s:=by
 unfold Builtin.List.listLengthHint;refine Ua (wpAny_specialOf hT slot_set_len'.lookup ?_);generalize hid:("set.__len__" : String)=id0
 wp_delta
 rw [show splitId id0=some ("set", "__len__") from by subst hid; decide +kernel];subst hid;refine Ua (wpAny_isInstance (T := "set") (b:=true) hT sub_set_self ?_);refine wpAny_ite_split (λhab=>absurd hab (by decide)) (λ_=>?_);refine wpAny_ite_split (λ_=>?_) (λhab=>absurd (by decide +kernel) hab);refine Ua (wpAny_typeOf hT ?_);exact Ub h
inductive SetGot (s:Shared) (S:Addr) (ks:List Int) (h':Heap):Prop
 | mk (acc:Array Value) (c:Nat) (ks':List Int) (keep:∀ b o,b≠S->s.heap.get? b=some o->h'.get? b=some o) (at_:h'.get? S=some { cls:=.type "list", data:=.seq acc c }) (hi:IntsAre acc.toList ks') (hp:ks'.Perm ks)
theorem items_eq {vs:List Value} {acc:Array Value} (h:ItemsOf (λi v=>vs[i]?=some v) acc vs.length):acc.toList=vs:=by
 apply List.ext_getElem?;intro i
 by_cases hi:i < acc.size
 ·have:=h.2 i acc[i] (Array.getElem?_eq_getElem hi);rw [this]; simp -iota [hi]
 ·have e1:acc.toList[i]?=none:=by simp -iota; exact Ra hi
  have e2:vs[i]?=none:=by
   have:=h.1;simp -iota; exact ar78 hi this
  rw [e1,e2]
theorem SetI.low (hS:SetI prog w s.heap a ks):ks.length < 64/\s.TypeIs (.ref a) "set" /\ a < s.heap.objs.size:=by
 obtain ⟨es,ep,t,ho,hel,hi,hnd,hlen,hf,ht⟩:=hS;exact ⟨hlen,⟨_,ho,rfl⟩,Heap.lt_size ho⟩
theorem set_extend {R:Result->Shared->Prop} (hh:A.handled=none) (hS:SetI prog w s.heap a ks) (S:Addr) (hSa:S≠a) (res:Value) (hSl:s.heap.get? S=some { cls:=.type "list", data:=.seq #[] 0 })
  (hR:∀ h' tk dr,SetGot s S ks h'->R (.ok (.ret res)) { s with heap:=h',toks:=tk,drawn:=dr }) :
  wpAny (model prog w) A.in1 (Builtin.List.listExtendWith (.ref S) (.ref a) res)
   (λfin s'=>match fin with | .done f=>R (.ok f) s' | .again c'=>c'.quiet=true/\codeAny (model prog w) A c' R s') (λe s'=>R (.error e) s') s:=by
 obtain ⟨hlen,hT,hlt⟩:=hS.low;have hSlt:S < s.heap.objs.size:=Heap.lt_size hSl;unfold Builtin.List.listExtendWith;refine Ua (wpAny_typeOf (T := "set") hT ?_);have h1:Builtin.List.listSameRef (.ref S) (.ref a)=false:=by simp [Builtin.List.listSameRef,hSa]
 have h2:(Value.type "set" == Value.type "list")=false:=by decide
 have h3:(Value.type "set" == Value.type "tuple")=false:=by decide
 simp -iota only [h1,h2,h3,Bool.or_false,U1,if_false];refine Ua (set_iter (by exact hh) hS λI dr h₁ sw=>?_);obtain ⟨vs,ks',fp,St,W,st,hfp,hI,hltf,keep,hi,hp⟩:=sw
 have hT₁:Shared.TypeIs { s with heap:=h₁,drawn:=dr } (.ref a) "set" := by
  obtain ⟨o,e,c⟩:=hT;exact ⟨o,keep _ _ e,c⟩
 refine Ua (wpAny_holding (hint_set hT₁ ?_))
 have hSf:S ∉ fp:=λhm=>by
  rcases hfp S hm with e | e
  ·exact hSa e
  ·exact absurd hSlt (Th.mpr e)
 have hvl:vs.length<=sizeLine:=by
  have e:=(YU hi).1;have:vs.length=ks'.length:=by rw [e]; simp -iota
  rw [this,hp.length_eq];exact Uc (Tq hlen) (by decide)
 have key:∀ (h:Heap) (c₁:Nat),St 0 h->(∀ b o,b≠S->s.heap.get? b=some o->h.get? b=some o) ->
   h.get? S=some { cls:=.type "list", data:=.seq #[] c₁ }->codeAny (model prog w) A (.builtin "list.extend.loop" ⟨[.ref S, .ref I,res], []⟩) R { s with heap:=h,drawn:=dr }:=by
  intro h c₁ hst hk hS1;refine codeAny_extend_loopS W.toS hvl S hSf res vs.length 0 _ #[] c₁ rfl (Tb _) hst hS1 (ItemsOf.nil _) λs' acc' c' hm hS' hacc=>?_;rw [Moved.eq_with hm];refine hR s'.heap s'.toks dr (.mk acc' c' ks' (λb o hb e=>hm.heap b o (λhmem=>?_) (hk b o hb e)) hS' (by rw [items_eq hacc]; exact hi) hp);rcases Ur.mp hmem with e' | hmem
  ·exact hb e'
  ·exact absurd (Heap.lt_size e) (by rw [Uj.mp hmem]; exact Th.mpr hI)
 have hS1:=keep _ _ hSl;refine wpAny_ite_split (λ_=>?_) (λ_=>Ub ⟨plainId_quiet PySem.F.plain_extend_loop _,key _ 0 st (λb o _ e=>keep b o e) hS1⟩);refine Ua (wpAny_rule ?_);refine Ua ?_;show wpAny _ _ (updateSeq S (·.push .none) >>= λ_=>updateSeq S (·.pop)) _ _ _;refine Ua (wpAny_updateSeq hS1 rfl ?_);have hS₂:=Heap.get?_update_self (Obj.mapSeq (·.push Value.none)) hS1 rfl;refine wpAny_updateSeq (hz:=by seq_fits) hS₂ rfl ?_;have hS3:=Heap.get?_update_self (Obj.mapSeq (·.pop)) hS₂ rfl;refine Ub ⟨plainId_quiet PySem.F.plain_extend_loop _,key _ _ ?_ (λb o hb e=>?_) hS3⟩
 ·refine W.frame 0 _ _ st λb hb o e=>?_;have hbS:b≠S:=λh=>hSf (h ▸ hb);exact (Heap.get?_update_other _ _ (Ne.symm hbS)).trans ((Heap.get?_update_other _ _ (Ne.symm hbS)).trans e)
 ·exact (Heap.get?_update_other _ _ (Ne.symm hb)).trans ((Heap.get?_update_other _ _ (Ne.symm hb)).trans (keep _ _ e))
end
namespace Osetcollect
noncomputable def Px (A:Around) (E:Value->Shared->Prop) (s:Shared) (a:Addr) (ks:List Int) (Q:List Value->Shared->Prop):Prop:=∀ (hh:A.handled=none) (hS:SetI prog w s.heap a ks) (h:∀ h' tk dr vs ks',(∀ b o,s.heap.get? b=some o->h'.get? b=some o)->IntsAre vs ks'->ks'.Perm ks->Q vs { s with heap:=h',toks:=tk,drawn:=dr }),wpAny (model prog w) A (collect (.ref a)) Q E s
noncomputable def Rx (p:Around × (Value->Shared->Prop) × Shared × Addr × List Int × (List Value->Shared->Prop)):Prop:=Px p.1 p.2.1 p.2.2.1 p.2.2.2.1 p.2.2.2.2.1 p.2.2.2.2.2
noncomputable section
def cx:=eps (neP neA (neP neR (neP neS (neP neNt (neP neL (inferInstance:Nonempty (List Value->Shared->Prop))))))) Rx
def A:=cx.1
def E:=cx.2.1
def s:=cx.2.2.1
def a:=cx.2.2.2.1
def ks:=cx.2.2.2.2.1
def Q:=cx.2.2.2.2.2
end
theorem main:Px A E s a ks Q:=by
 intro hh hS h;obtain ⟨hlen,hT,hlt⟩:=hS.low;unfold collect;refine Ua (wpAny_runValue (codeAny_builtin entry_proto_collect' ?_));rw [Around.under_plainId PySem.F.plain_proto_collect _];show wpAny _ A.in1 (newList [] >>= λl=>again (.builtin "list.__iadd__" ⟨[l, .ref a], []⟩)) _ _ s;refine Ua (wpAny_newObj_type ?_);refine Ub ⟨plainId_quiet PySem.F.plain_list_iadd _,codeAny_builtin entry_list_iadd' ?_⟩;rw [Around.under_plainId PySem.F.plain_list_iadd _];have hS1:(s.heap.push { cls:=.type "list", data:=.seq ([]:List Value).toArray }).get? s.heap.objs.size=some { cls:=.type "list", data:=.seq #[] }:=Heap.get?_push_size _ rfl;show wpAny _ A.in1 (Builtin.List.listExtendWith (.ref s.heap.objs.size) (.ref a) (.ref s.heap.objs.size)) _ _ _
 have key:=set_extend (A:=A) (s:={ s with heap:=s.heap.push { cls:=.type "list", data:=.seq ([]:List Value).toArray } })
  (R:=λ(q:Result) (s':Shared)=>∃ (h':Heap) (tk:Nat) (dr:Drawn) (acc':Array Value) (c':Nat) (ks':List Int),q=.ok (.ret (.ref s.heap.objs.size))/\s'={ s with heap:=h',toks:=tk,drawn:=dr } /\
   (∀ b o,s.heap.get? b=some o->h'.get? b=some o)/\h'.get? s.heap.objs.size=some { cls:=.type "list", dict:=none,data:=.seq acc' c',slots:=#[] }/\IntsAre acc'.toList ks'/\ks'.Perm ks)
  hh (hS.same λo e=>Heap.get?_push_of_some _ e) s.heap.objs.size (Nat.ne_of_gt hlt) (.ref s.heap.objs.size) hS1
  (λh' tk dr hq1=>by obtain ⟨acc',c',ks',hk,hS',hi,hp⟩:=hq1; exact ⟨h',tk,dr,acc',c',ks',rfl,rfl,λb o e=>hk b o (Ts (Heap.lt_size e)) (Heap.get?_push_of_some _ e),hS',hi,hp⟩)
 refine Ud key (λfin s' x=>?_) λe s' x=>?_
 ·cases fin with
  | done f =>
   obtain ⟨h',tk,dr,acc',c',ks',e,rfl,hk,hS',hi,hp⟩:=x
   cases e
   show wpAny _ A (load s.heap.objs.size >>= _) _ _ _;refine Ua (wpAny_load hS' ?_);exact Ub (h h' tk dr _ ks' hk hi hp)
  | again c₁ =>
   refine ⟨x.1,codeAny_mono x.2 λq s2 y=>?_⟩;obtain ⟨h',tk,dr,acc',c',ks',rfl,rfl,hk,hS',hi,hp⟩:=y;show wpAny _ A (load s.heap.objs.size >>= _) _ _ _;refine Ua (wpAny_load hS' ?_);exact Ub (h h' tk dr _ ks' hk hi hp)
 ·obtain ⟨_,_,_,_,_,_,e',_⟩:=x
  cases e'
end Osetcollect
section
variable {A:Around} {E:Value->Shared->Prop} {s:Shared} {a:Addr} {ks:List Int}
theorem set_collect {A E s a ks Q}:Osetcollect.Px A E s a ks Q:=eps_all Osetcollect.Rx Osetcollect.main (A,E,s,a,ks,Q)
theorem set_sorted {Q:Value->Shared->Prop} (hh:A.handled=none) (hS:SetI prog w s.heap a ks)
  (h:∀ D h' tk dr (out:List Value) c ns',s.heap.get? D=none->h'.get? D=some { cls:=.type "list", data:=.seq out.toArray c }->(∀ b o,s.heap.get? b=some o->h'.get? b=some o)->IntsAre out ns'->ns'.Perm ks->ns'.Pairwise (·<=·)->Q (.ref D) { s with heap:=h',toks:=tk,drawn:=dr }) :
  wpAny (model prog w) A (call (.builtin "sorted") [.ref a]) Q E s:=by
 obtain ⟨hlen,hT,hlt⟩:=hS.low;refine Calls.call_function_entry kind_sorted plain_sorted entry_sorted (args_sorted1 _) ?_;unfold Builtin.«sorted»;refine Ua (m:=checkCount "sorted" 1 1 _) (Ub ?_);refine Ua (set_collect (by exact hh) hS λh₁ tk dr vs ks' hk hi hp=>?_)
 have hl:vs.length < 64:=by
  have e:=(YU hi).1;have:vs.length=ks'.length:=by rw [e]; simp -iota
  rw [this,hp.length_eq]; exact hlen
 refine Ua (wpAny_newList ?_ (Uc (Tq hl) (by decide)));have hoL:(h₁.push (seqObj "list" vs.toArray 0)).get? h₁.objs.size=some (seqObj "list" vs.toArray 0):=Heap.get?_push_size _ rfl;refine Ua (wpAny_holding (wpAny_call_entry (s:={ s with heap:=h₁.push (seqObj "list" vs.toArray 0),toks:=tk,drawn:=dr }) slot_list_sort ⟨_,hoL,rfl⟩ entry_list_sort (list_sort_tree hoL hi hl λout ns' a1 a2 a3=>⟨_,rfl,?_⟩) (args_list_sort _)))
 have hn:s.heap.get? h₁.objs.size=none:=by
  cases q:s.heap.get? h₁.objs.size with
  | none=>rfl
  | some o=>exact absurd (Heap.lt_size (hk _ _ q)) (S8 _)
 obtain ⟨c,hc⟩:=sortedHeap_at (vs:=vs) (out:=out) hoL;refine Ub ⟨_,rfl,h h₁.objs.size _ tk dr out.toList c ns' hn (by rw [Array.toArray_toList]; exact hc) (λb o e=>?_) a1 (a2.trans hp) a3⟩;have hb:b < h₁.objs.size:=Heap.lt_size (hk _ _ e);refine (sortedHeap_old (Ts hb) (by rw [size_push']; exact Tf hb)).trans (Heap.get?_push_of_some _ (hk _ _ e))
end
end
section
open PySem PySem.W PyProof.Rows PySem.Calls
theorem RVs.ints {F:FM}:∀ {vs:List Value} {ns:List Int},RVs F vs (ns.map .int)->IntsAre vs ns
 | _, [],h=>by obtain rfl:=h.n0; exact .nil
 | _,n :: ns,h=>by
  cases h with
  | cons h r =>
   obtain ⟨_,rfl⟩:=h.isInt;exact .cons _ _ r.ints
theorem ints_RVs {F:FM}:∀ {vs:List Value} {ns:List Int},IntsAre vs ns->RVs F vs (ns.map .int)
 | _,_, .nil=>.nil
 | _,_, .cons n t r=>.cons (.int n t) (ints_RVs r)
section
variable {d u:Nat} {f:Value} {as:List AV} {ks:List (Str × AV)}
theorem FN.madeD {P:AV->Prop} (h:∀ A F s vs kvs (Q:Value->Shared->Prop),AOK d u A->Inv B s->F.le s.heap.get?->RVs F vs as->KR F kvs ks ->
   (∀ c D o h' tk dr,P c->(∀ b ob,s.heap.get? b=some ob->h'.get? b=some ob)->s.heap.get? D=none->h'.get? D=some o->RV (F.set D o) (.ref D) c->Q (.ref D) { s with heap:=h',toks:=tk,drawn:=dr }) ->
   wpAny (model prog w) A (call f vs kvs) Q FF s) :
  FN prog w B d u f as ks [] (λav m ex=>P av/\m=[]/\ex=[]):=λA F s vs kvs hA I hn hF hT hTF ha hk _ =>
 h A F s vs kvs _ hA I hF ha hk λc D o h' tk dr hP k hD hD' r=>by
  have hFD:F D=none:=by
   cases q:F D with
   | none=>rfl
   | some o'=>have:=hF _ _ q; rw [hD] at this; exact Z6 this
  have nt:D ∉ B.tabs:=λhP=>by
   obtain ⟨vs,e⟩:=I.tb _ hP;rw [hD] at e; exact Z6 e
  exact ⟨c, [], [],F.set D o, {
   inv:=⟨I.ok,λb o e hb=>k _ _ (I.keep b o e hb),λP hP=>by obtain ⟨vs,e⟩:=I.tb P hP; exact ⟨vs,k _ _ e⟩,I.os,I.gens⟩
   kp:=λb o e _ _=>k b o e
   le:=FM.set_le hFD
   le':=λa o' e=>by
    unfold FM.set at e
    by_cases q:a=D
    ·subst q; rw [if_pos rfl] at e; obtain rfl:=Up.inj e; exact hD'
    ·rw [if_neg q] at e; exact k _ _ (hF a o' e)
   fresh:=λa o' e=>by
    unfold FM.set at e
    by_cases q:a=D
    ·subst q; exact .inr hD
    ·rw [if_neg q] at e; exact .inl e
   offT:=λa o' e=>by
    unfold FM.set at e
    by_cases q:a=D
    ·subst q; exact nt
    ·rw [if_neg q] at e; exact hT a o' e
   tf:=hTF.keeps (λP _ o e=>k _ _ e) (FM.set_le hFD)
   rv:=r
   pl:=rfl
   ok:=⟨(λp hp=>nomatch hp),Tz,(λa ha=>nomatch ha)⟩
   exn:=λa ha=>nomatch ha },hP,rfl,rfl⟩
noncomputable def SetT (prog:Program) (w:World) (ns:List Int) (F:FM) (v:Value):Prop:=∃ a o ks,v=.ref a/\F a=some o/\(∀ h:Heap,h.get? a=some o->SetI prog w h a ks)/\∀ z,z ∈ ks↔z ∈ ns
noncomputable def setA (prog:Program) (w:World) (ns:List Int):AV:=.pred (SetT prog w ns)
theorem SetI.obj {h:Heap} {a:Addr} {ks:List Int} (x:SetI prog w h a ks):∃ o,h.get? a=some o/\∀ h':Heap,h'.get? a=some o->SetI prog w h' a ks :=
 let ⟨es,ep,t,ho,r⟩:=x; ⟨_,ho,λh' e=>⟨es,ep,t,e,r⟩⟩
theorem f_set {ns:List Int} (hl:ns.length < 60):FN prog w B d u (.type "set") [.lst (ns.map .int)] [] [] (λav m ex=>av=setA prog w ns/\m=[]/\ex=[]) :=
 FN.made λA F s vs kvs Q hA I hF ha hk q=>by
  obtain rfl:=hk.n0;obtain ⟨v1,rfl,r1⟩:=ha.n1;obtain ⟨a,vs,rfl,hl',r⟩:=r1.lst_at hF;have hi:=r.ints;have hlen:=r.length;refine set_list hA.hd hl' hi (by simp [hlen]; exact hl) λh' tk ks hS hm keep=>?_;obtain ⟨o,e,ho⟩:=hS.obj;exact q _ o h' tk (λb ob e=>keep b ob (Heap.lt_size e) e) (Zy _) e (.pred _ _ λG kG=>⟨_,o,ks,rfl,kG _ _ FM.set_same,ho,hm⟩)
theorem f_sorted {ns:List Int}:FN prog w B d u (.builtin "sorted") [setA prog w ns] [] [] (λav m ex=>(∃ ms:List Int,av=.lst (ms.map .int)/\ms.Pairwise (· < ·)/\∀ z,z ∈ ms↔z ∈ ns)/\m=[]/\ex=[]) :=
 FN.madeD (P:=λav=>∃ ms:List Int,av=.lst (ms.map .int)/\ms.Pairwise (· < ·)/\∀ z,z ∈ ms↔z ∈ ns) λA F s vs kvs Q hA I hF ha hk q=>by
  obtain rfl:=hk.n0;obtain ⟨v1,rfl,r1⟩:=ha.n1;unfold setA at r1
  cases r1 with
  | pred _ _ hT =>
   obtain ⟨a,o,ks,rfl,e,hS,hm⟩:=hT F (.refl F);have hS':=hS s.heap (hF _ _ e);have hnd:ks.Nodup:=by obtain ⟨_,_,_,_,_,_,h,_⟩:=hS'; exact h
   refine set_sorted hA.hd hS' λD h' tk dr out c ns' hD hD' keep hi hp hs=>?_;refine q (.lst (ns'.map .int)) D _ h' tk dr ⟨ns',rfl,?_,λz=>by rw [hp.mem_iff]; exact hm z⟩ keep hD hD' (.lst D out _ c FM.set_same (ints_RVs hi));have hn':ns'.Nodup:=hp.nodup_iff.mpr hnd
   exact (List.pairwise_and_iff.mpr ⟨hs,hn'⟩).imp λ{x y} h=>by
    have h1:=h.1;have h2:x≠y:=h.2;exact ar63 h h2
theorem f_listRange {n:Nat} (hs:Builtin.Range.small 0 (n:Int) 1=true) (hr:Builtin.Range.rangeSize 0 (n:Int) 1=((n:Nat):Int)) (hn:n<=2 ^ 24) :
  FN prog w B d u (.type "list") [rngAV 0 (n:Int) 1] [] [] (λav m ex=>av=.lst (Z0 (Um n))/\m=[]/\ex=[]) :=
 FN.made λA F s vs kvs Q hA I hF ha hk q=>by
  obtain rfl:=hk.n0;obtain ⟨v1,rfl,r1⟩:=ha.n1;unfold rngAV at r1
  cases r1 with
  | pred _ _ hT =>
   obtain ⟨r,t,u',z,rfl,e⟩:=hT F (.refl F);refine call_list_range hA.hd (hF _ _ e) hs hr hn λh' tk acc c keep hS hacc=>?_;refine q _ _ h' tk keep (Zy _) (show h'.get? s.heap.objs.size=some { cls:=.type "list", data:=.seq acc.toList.toArray c } by rw [Array.toArray_toList]; exact hS) (.lst _ acc.toList _ c (by exact FM.set_same) ?_)
   have key:∀ (l:List Value) (k:Nat),(∀ j v,l[j]?=some v->∃ t,v=Value.int (0+((k+j:Nat):Int)*1) t)->RVs (F.set s.heap.objs.size { cls:=.type "list", data:=.seq acc.toList.toArray c }) l ((List.range' k l.length).map λn:Nat=>AV.int (n:Int)):=by
    intro l
    induction l with
    | nil=>intro k _; exact .nil
    | cons v l ih =>
     intro k hk;obtain ⟨t,rfl⟩:=hk 0 v rfl;rw [Td,List.range'_succ,To];refine .cons ?_ (ih (k+1) λj v hj=>?_)
     ·simpa using RV.int (F:=F.set s.heap.objs.size _) (k:Int) t
     ·obtain ⟨t,e⟩:=hk (j+1) v (by simpa using hj);exact ⟨t,e.trans (congrArg (λz=>Value.int z t) (by exact ar65))⟩
   have hl:acc.toList.length=n:=by rw [Array.length_toList]; exact hacc.1
   have:=key acc.toList 0 λj v hj=>by
    obtain ⟨t,e⟩:=hacc.2 j v (by rw [<- Array.getElem?_toList]; exact hj);exact ⟨t,e.trans (congrArg (λz=>Value.int z t) (by exact Eq.symm (Int.add_comm 0 (↑(0+j)*1))))⟩
   rw [hl, <- List.range_eq_range'] at this;exact this
section
variable {env:Env} {loc:Loc} {mem:List (Addr × AO)}
theorem vo_inInts {ns:List Int} {k:Int}:VO2 prog w B d u (compareOp .In) (.int k) (.lst (ns.map .int)) (.bool (ns.any (· == k))):=λA E F env loc tmp mem s va vb hA ha hb R=>by
 obtain ⟨_,rfl⟩:=ha.isInt;obtain ⟨a,vs,rfl,hl,r⟩:=hb.lst_at R.le;exact in_list_ints hl r.ints ⟨F, .refl F, .bool _,R⟩
theorem vo_inStrs {xs:List Str} {k:Str}:VO2 prog w B d u (compareOp .In) (.str k) (.lst (Z3 xs)) (.bool (xs.any (· == k))):=λA E F env loc tmp mem s va vb hA ha hb R=>by
 obtain ⟨_,rfl⟩:=ha.isStr;obtain ⟨a,vs,rfl,hl,r⟩:=hb.lst_at R.le;exact in_list_strs hl r.strs ⟨F, .refl F, .bool _,R⟩
theorem e_mulM {l r:Expr} {pos:Pos} {Q:PE}
  (h:WE prog w B d u env loc mem l λa m1=>WE prog w B d u env loc m1 r λb m2=>∃ (x:AV) (n:Nat),a=.lst [x]/\b=.int (n:Int)/\n<=2 ^ 20/\∀ D,Q (.raw (.ref D)) (m2++[(D, .list (Te n x))])) :
  WE prog w B d u env loc mem (.BinOp l .Mult r pos) Q:=λA E F tmp s hA R =>
 VO (op:=binaryOp .Mult) (λh=>wpAny_BinOp h) hA R h λa m1 b m2 F2 va vb s2 ⟨x,n,ea,eb,hn,q⟩ k ra rb R₂=>by
  subst ea;obtain ⟨z,hz⟩:∃ z:Int,z=(n:Int):=⟨_,rfl⟩;rw [<- hz] at eb;subst eb
  cases rb with
  | int _ tk =>
   cases ra with
   | lst a vs _ c e r =>
    obtain ⟨v,rfl,r1⟩:=r.n1;have hl:=R₂.le _ _ e
    refine wpAny_binaryOp_repeat_ref (T := "list") (U := "int") (by decide) ⟨_,hl,rfl⟩ (λs'=>typeIs_int s' z tk) noFill_list_mul PySem.F.fills_int_mul PySem.F.slot_int_rmul repeat_list PySem.F.slot_int_index.lookup
     (call_meets PySem.F.slot_int_rmul (typeIs_int _ z tk) PySem.F.entry_int_rmul (PySem.F.args_int_rmul_2 _ _) (int___rmul___int_list z tk a [v].toArray c)
      ⟨hl,rfl,⟨_,hl,rfl⟩,call_meets PySem.F.slot_list_mul ⟨_,hl,rfl⟩ PySem.F.entry_list_mul (PySem.F.args_list_mul_2 _ _)
       (AutoListH.list___mul___list_int_3 a [v].toArray c z tk (by simp [Builtin.List.listFitsIndex]; omega) (by simp; omega) (by simp [Builtin.List.listTooLong,sizeLine]; omega))
       ⟨hl,?_⟩⟩)
    have ev:(List.foldl (λx1 x2=>x1++x2) #[] (Te (if ([v].toArray).isEmpty=true then 0 else z.toNat) [v].toArray))=(Te n v).toArray:=by
     have e1:(if ([v].toArray).isEmpty=true then 0 else z.toNat)=n:=by rw [if_neg (by simp)]; omega
     rw [e1]
     have key:∀ (n:Nat) (acc:Array Value),List.foldl (λx1 x2=>x1++x2) acc (Te n [v].toArray)=acc++(Te n v).toArray:=by
      intro n
      induction n with
      | zero=>intro acc; simp
      | succ n ih=>intro acc; rw [List.replicate_succ,Sm,ih,List.replicate_succ]; apply Array.ext'; simp
     rw [key]; simp
    rw [ev]
    have R3:=R₂.track (a:=s2.heap.objs.size) (ao:=.list (Te n x)) (tk:=s2.toks) (h':=s2.heap.push { cls:=.type "list", data:=.seq (Te n v).toArray }) (λb o e=>Heap.get?_push_of_some _ e) (λb hb=>by
     simp [AO.places] at hb; subst hb; exact Hid.new R₂ (Ug _)) (by simp [AO.places]) ⟨Te n v,_,Heap.get?_push_size _ rfl,by
      clear ev hn q hz
      induction n with
      | zero=>exact .nil
      | succ n ih=>exact .cons r1 ih⟩
    exact ⟨_,_,F2,k,R3.push (.raw _),q _⟩
end
end
end
section
open PySem PySem.W PyProof.Rows PySem.Calls
theorem entry_iter':entryFor table "iter" = some Builtin.«iter»:=entryFor_of_fast (by kernel_rfl)
theorem VE:entryFor table "next" = some Builtin.«next»:=entryFor_of_fast (by kernel_rfl)
theorem args_iter' (a:Value):argsOk "iter" ⟨[a], []⟩:=by unfold argsOk; kernel_rfl
theorem Z0q (a:Value):argsOk "next" ⟨[a], []⟩:=by unfold argsOk; kernel_rfl
noncomputable def ItT (octs:List Nat) (i:Nat) (F:FM) (o:Obj):Prop:=∃ ax vs n,o.cls=.type "list_iterator" /\ o.data=.fields #[.ref ax, .int i 0]/\F ax=some { cls:=.type "list", data:=.seq vs.toArray n }/\RVs F vs (Z0 octs)
noncomputable def itAO (octs:List Nat) (i:Nat):AO:=.any (ItT octs i)
theorem ItT.mono {octs:List Nat} {i:Nat} {F G:FM} {o:Obj} (k:F.le G) (h:ItT octs i F o):ItT octs i G o:=by
 obtain ⟨ax,vs,n,h1,h2,h3,h4⟩:=h;exact ⟨ax,vs,n,h1,h2,k _ _ h3,h4.mono k⟩
section
variable {d u:Nat} {env:Env} {loc:Loc} {mem:List (Addr × AO)}
theorem c_iter {octs:List Nat} {Q:PE} (q:∀ I,Q (.raw (.ref I)) (mem++[(I,itAO octs 0)])):CALL prog w B d u env loc (.raw (.builtin "iter")) [.lst (Z0 octs)] [] mem Q:=λA E F tmp s fv vs kvs hA R hf ha hk=>by
 obtain rfl:=hf.isRaw;obtain rfl:=hk.n0;obtain ⟨v1,rfl,r1⟩:=ha.n1
 cases r1 with
 | lst a vs' _ n e r =>
  refine call_function_entry (by decide +kernel) (by decide +kernel) entry_iter' (args_iter' _) ?_;unfold Builtin.«iter»;refine Ua (m:=someArgs "iter" 1 2 _) (wpAny_of_eq (a:=[Value.ref a]) (by first | rfl | kernel_rfl!) ?_);show wpAny _ _ (pyIter (.ref a) >>= _) _ _ _;have hl:s.heap.IsList a vs'.toArray:=⟨_,R.le _ _ e,rfl,n,rfl⟩;refine Ua (wpAny_pyIter_list hl (Ub ⟨_,rfl,?_⟩))
  have R₂:=R.track (a:=s.heap.objs.size) (ao:=itAO octs 0) (tk:=s.toks) (h':=s.heap.push { cls:=.type "list_iterator", data:=.fields #[.ref a, .int 0 0] }) (λb o e=>Heap.get?_push_of_some _ e) (λb hb=>by
   simp [AO.places,itAO] at hb; subst hb; exact Hid.new R (Ug _)) (by simp [AO.places,itAO]) ⟨_,Heap.get?_push_size _ rfl,λG kG=>⟨a,vs',n,rfl,rfl,kG _ _ e,r.mono kG⟩⟩
  exact ⟨_,_,F, .refl F, .raw _,R₂,q _⟩
theorem c_next {I:Addr} {octs:List Nat} {i o:Nat} {Q:PE} (k:Nat) (hk0:mem[k]?=some (I,itAO octs i)) (ho:octs[i]?=some o) (q:Q (.int (o:Int)) (mem.set k (I,itAO octs (i+1)))) :
  CALL prog w B d u env loc (.raw (.builtin "next")) [.raw (.ref I)] [] mem Q:=λA E F tmp s fv vs kvs hA R hf ha hk=>by
 obtain rfl:=hf.isRaw;obtain rfl:=hk.n0;obtain ⟨v1,rfl,r1⟩:=ha.n1;obtain rfl:=r1.isRaw;obtain ⟨ob,eo,hT⟩:=R.mr _ (Uk hk0);obtain ⟨ax,vs',n,h1,h2,h3,h4⟩:=hT F (.refl F);have hit:s.heap.IsListIter I ax i:=⟨ob,eo,h1,h2⟩;have hl:s.heap.IsList ax vs'.toArray:=⟨_,R.le _ _ h3,rfl,n,rfl⟩;obtain ⟨v,e1,e2⟩:=h4.get (Xf ho);refine call_function_entry (by decide +kernel) (by decide +kernel) VE (Z0q _) ?_;unfold Builtin.«next»
 refine Ua (m:=someArgs "next" 1 2 _) (wpAny_of_eq (a:=[Value.ref I]) (by first | rfl | kernel_rfl!) ?_);dsimp only;refine Ua (wpAny_specialOf (name:=Str.ofString "__next__") hit.typeIs slot_listiter_next.lookup ?_);refine wpAny_ite_split (λhab=>absurd hab (by decide)) (λ_=>?_)
 refine Ua (wpAny_callSpecial?_slot (name:=Str.ofString "__next__") hit.typeIs slot_listiter_next
  (wpAny_call_entry slot_listiter_next hit.typeIs entry_listiter_next ?_ (args_listiter_next _)))
 show wpAny _ _ (field (.ref I) 0 >>= _) _ _ s;refine Ua (wpAny_field eo h2 (x:=.ref ax) rfl ?_);show wpAny _ _ (if (Value.ref ax == Value.none)=true then _ else _) _ _ s;rw [if_neg (show ¬ ((Value.ref ax == Value.none)=true) from S3)];show wpAny _ _ (field (.ref I) 1 >>= _) _ _ s;refine Ua (wpAny_field eo h2 (x:=.int i 0) rfl ?_);show wpAny _ _ (seqItems? (.ref ax) >>= _) _ _ s;refine Ua (wpAny_seqItems (R.le _ _ h3) rfl ?_);have e1':vs'.toArray[i]?=some v:=by simpa using e1
 simp only [T6,e1'];refine Ua (wpAny_setField eo h2 (by simp) (Ub ⟨v,rfl,Ub ⟨v,rfl,?_⟩⟩));have hn:=Heap.get?_update_self (h:=s.heap) (a:=I) (Obj.mapFields (·.setIfInBounds 1 (rawInt ((i:Int)+1)))) eo (Obj.isFreed_of_fields (Obj.data_mapFields h2 _));refine ⟨_,_,F, .refl F,e2,R.setMem (tk:=s.toks) (ao':=itAO octs (i+1)) hk0 rfl (λb hb=>(Heap.SameBut.update ..).2 b (by simpa [AO.places,itAO] using hb)) ⟨_,hn,λG kG=>⟨ax,vs',n,(Obj.cls_mapFields ..).trans h1,?_,kG _ _ h3,h4.mono kG⟩⟩,q⟩;rw [Obj.data_mapFields h2]; simp [rawInt]
structure NewStop (I:Addr) (h h':Heap) (e:Addr):Prop where
 new:h.get? e=none
 at_:∃ t0,h'.get? e=some { cls:=.type "StopIteration", data:=.fields #[.ref t0, .none, .none, .none, .bool false, .none] }
 keep:∀ b o,b≠I->h.get? b=some o->h'.get? b=some o
 it:∃ o,h'.get? I=some o
theorem next_stop {A:Around} {s:Shared} {I ax:Addr} {i:Nat} {items:Array Value} {Q Er:Value->Shared->Prop} (hh:A.handled=none) (hit:s.heap.IsListIter I ax i) (hl:s.heap.IsList ax items) (hx:items[i]?=none)
  (h:∀ e h',NewStop I s.heap h' e->Er (.ref e) { s with heap:=h' }):wpAny (model prog w) A (call (.builtin "next") [.ref I]) Q Er s:=by
 obtain ⟨o,ho,hc,hd⟩:=id hit;obtain ⟨ol,hol,_,nl,hdl⟩:=hl;refine call_function_entry (by decide +kernel) (by decide +kernel) VE (Z0q _) ?_;unfold Builtin.«next»
 refine Ua (m:=someArgs "next" 1 2 _) (wpAny_of_eq (a:=[Value.ref I]) (by first | rfl | kernel_rfl!) ?_);dsimp only;refine Ua (wpAny_specialOf (name:=Str.ofString "__next__") hit.typeIs slot_listiter_next.lookup ?_);refine wpAny_ite_split (λhab=>absurd hab (by decide)) (λ_=>?_)
 refine Ua (wpAny_callSpecial?_slot (name:=Str.ofString "__next__") hit.typeIs slot_listiter_next
  (wpAny_call_entry slot_listiter_next hit.typeIs entry_listiter_next ?_ (args_listiter_next _)))
 show wpAny _ _ (field (.ref I) 0 >>= _) _ _ s;refine Ua (wpAny_field ho hd (x:=.ref ax) rfl ?_);show wpAny _ _ (if (Value.ref ax == Value.none)=true then _ else _) _ _ s;rw [if_neg (show ¬ ((Value.ref ax == Value.none)=true) from S3)];show wpAny _ _ (field (.ref I) 1 >>= _) _ _ s;refine Ua (wpAny_field ho hd (x:=.int i 0) rfl ?_);show wpAny _ _ (seqItems? (.ref ax) >>= _) _ _ s;refine Ua (wpAny_seqItems hol hdl ?_);simp only [T6,hx];refine Ua (wpAny_rule (Ua (wpAny_setField ho hd (by simp) ?_)));show wpAny _ _ (newExc (.type "StopIteration") [] >>= _) _ _ _;refine Ua ?_;simp only [newExc,newTuple];refine Ua (wpAny_newObj_type ?_ (by size_fits));refine Ua (m:=firstArgMember _ _) (wpAny_of_eq (a:=Value.none) (by first | rfl | (simp only [firstArgMember]; rfl)) ?_);refine wpAny_newObj_type ?_ (by size_fits);simp only [raiseNew];refine Ua (wpAny_handled ?_);rw [show A.in1.in1.handled=none from hh];refine Ua (Ub (wpAny_throw ?_));refine h _ _ ⟨?_,⟨_,Heap.get?_push_size _ rfl⟩,λb o hb e=>?_,?_⟩
 ·have:∀ a,s.heap.objs.size<=a->s.heap.get? a=none:=λa ha=>by
   cases q:s.heap.get? a with
   | none=>rfl
   | some o'=>exact absurd (Heap.lt_size q) (Th.mpr ha)
  refine this _ ?_;rw [Heap.size_push,Heap.size_update];exact Tr _
 ·exact Heap.get?_push_of_some _ (Heap.get?_push_of_some _ ((Heap.get?_update_other _ _ (Ne.symm hb)).trans e))
 ·exact ⟨_,Heap.get?_push_of_some _ (Heap.get?_push_of_some _ (Heap.get?_update_self _ ho (Obj.isFreed_of_fields (Obj.data_mapFields hd _))))⟩
end
end
section
open PySem PySem.W PyProof.Rows PySem.Calls
noncomputable def Sl (fs X:List Addr) (h h':Heap):Prop:=∀ b o,h.get? b=some o->b ∉ X->∃ sl,h'.get? b=some { o with slots:=sl }/\(b ∉ fs->sl=o.slots)
theorem Sl.refl {fs X:List Addr} {h:Heap}:Sl fs X h h:=λb o e _=>⟨o.slots,e,λ_=>rfl⟩
theorem Sl.trans {fs X:List Addr} {h₁ h₂ h₃:Heap} (x:Sl fs X h₁ h₂) (y:Sl fs X h₂ h₃):Sl fs X h₁ h₃:=λb o e hb =>
 let ⟨sl,e1,q1⟩:=x b o e hb;let ⟨sl',e2,q2⟩:=y b _ e1 hb
 ⟨sl',e2,λhf=>(q2 hf).trans (q1 hf)⟩
theorem Sl.of {fs X:List Addr} {h h':Heap} (k:∀ b o,b ∉ X->h.get? b=some o->h'.get? b=some o):Sl fs X h h':=λb o e hb=>⟨o.slots,k b o hb e,λ_=>rfl⟩
theorem Sl.mono {fs fs' X X':List Addr} {h h':Heap} (x:Sl fs X h h') (h1:∀ b ∈ fs,b ∈ fs') (h2:∀ b ∈ X,b ∈ X'):Sl fs' X' h h':=λb o e hb =>
 let ⟨sl,e1,q⟩:=x b o e (λz=>hb (h2 b z)); ⟨sl,e1,λhf=>q λz=>hf (h1 b z)⟩
theorem Sl.slots {fs S X:List Addr} {h h':Heap} (x:Heap.SlotsOnly S h h') (hs:∀ b ∈ S,b ∈ fs):Sl fs X h h':=λb o e _=>by
 obtain ⟨sl,e1⟩:=x.2.2 b o e;refine ⟨sl,e1,λhf=>?_⟩;have e2:=x.2.1 b λz=>hf (hs b z);rw [e1,e] at e2;exact congrArg Obj.slots (Up.inj e2)
noncomputable def Traced (e:Addr) (T:Option Addr) (h:Heap):Prop:=∃ vs:Array Value,h.get? e=some { cls:=.type "StopIteration", data:=.fields vs }/\vs.size=6/\match T with
 | none=>vs[1]?=some .none
 | some T=>vs[1]?=some (.ref T)/\T≠e/\∃ ts:Array Value,h.get? T=some { cls:=.type "traceback", data:=.fields ts }/\3 < ts.size/\ts[3]?=some .none
section
variable {M:Model} {A:Around} {E:Value->Shared->Prop} {s:Shared}
noncomputable def frs (l:List Env):List Addr:=l.filterMap (·.frame)
noncomputable def V8:Heap:=⟨#[],default⟩
theorem noHeap_get (b:Addr):V8.get? b=none:=by
 cases q:V8.get? b with
 | none=>rfl
 | some o=>exact absurd (Heap.lt_size q) (Sk _)
end
namespace Otracegoes
noncomputable def Px (A:Around) (E:Value->Shared->Prop) (s:Shared) (env:Env) (outer:List Env) (L e:Addr) (Q:Unit->Shared->Prop):Prop:=∀ {M:Model} {T:Option Addr} (hfr:A.frames=some (env :: outer)) (hl:s.heap.FunFrames V8 (env :: outer)) (hf:env.frame=some L) (ht:Traced e T s.heap) (h:∀ h' T',s.heap.get? T'=none->Traced e (some T') h'->Sl (frs (env :: outer)) (e :: T.toList) s.heap h'->Q () { s with heap:=h' }),wpAny M A (noteFrame (.ref e) env) (λ_ s2=>wpAny M A (setFlight (.ref e) none) Q E s2) E s
noncomputable def Rx (p:Around × (Value->Shared->Prop) × Shared × Env × List Env × Addr × Addr × (Unit->Shared->Prop)):Prop:=Px p.1 p.2.1 p.2.2.1 p.2.2.2.1 p.2.2.2.2.1 p.2.2.2.2.2.1 p.2.2.2.2.2.2.1 p.2.2.2.2.2.2.2
noncomputable section
def cx:=eps (neP neA (neP neR (neP neS (neP neI (neP neL (neP neNt (neP neNt neR))))))) Rx
def A:=cx.1
def E:=cx.2.1
def s:=cx.2.2.1
def env:=cx.2.2.2.1
def outer:=cx.2.2.2.2.1
def L:=cx.2.2.2.2.2.1
def e:=cx.2.2.2.2.2.2.1
def Q:=cx.2.2.2.2.2.2.2
end
theorem main:Px A E s env outer L e Q:=by
 intro M T hfr hl hf ht h;obtain ⟨vs,he,hsz,hT⟩:=ht
 have hene:∀ b o us,s.heap.get? b=some o->o.data=.fields us->b ∉ frs (env :: outer):=λb o us hb hd hm=>by
  obtain ⟨_,o',ho,hnf⟩:=hl.mem hm;rw [hb] at ho; obtain rfl:=Up.inj ho; exact hnf us hd
 have core:∀ (s₁:Shared) (head:Value) (hadNext:Bool),(∃ k:Heap,s₁={ s with heap:=k })->s₁.heap.FunFrames V8 (env :: outer)->s₁.heap.get? e=some { cls:=.type "StopIteration", data:=.fields vs } ->
   (∀ T',s₁.heap.get? T'=none->s.heap.get? T'=none)->Sl (frs (env :: outer)) (e :: T.toList) s.heap s₁.heap ->
   wpAny M A (do let a <- frameOf env; let pl <- entryPlaceOf L hadNext; let b <- EntryCells.newEntry head a .none (rawInt L) .none pl; setField (.ref e) 1 b) (λ_ s'=>wpAny M A (setFlight (.ref e) none) Q E s') E s₁:=by
  intro s₁ head hadNext hs₁ hl₁ he1 hnew sl1;obtain ⟨k,rfl⟩:=hs₁;refine Ua (wpAny_frameOf_fun hfr hl₁ hf λh₁ hs=>?_);refine Ua (wpAny_entryPlaceOf λpl hpl=>?_);unfold EntryCells.newEntry newFields;refine Ua (wpAny_newObj_type ?_ (hpl.sizeOk5 _ _ _ _ _));have he2:h₁.get? e=some { cls:=.type "StopIteration", data:=.fields vs }:=(hs.2.1 e (hene e _ vs he rfl)).trans he1;have he3:=Heap.get?_push_of_some (h:=h₁) { cls:=.type "traceback", dict:=none,data:=.fields ([head, .ref L, .none,rawInt L, .none]++(if pl.isEmpty then Te 6 Value.none else pl)).toArray } he2;refine wpAny_setField he3 rfl (by exact ar111 hsz) ?_;have hTe:h₁.objs.size≠e:=Nat.ne_of_gt (Heap.lt_size he2);have he4:=Heap.get?_update_self (Obj.mapFields (·.setIfInBounds 1 (Value.ref h₁.objs.size))) he3 rfl
  have hT3:=(Heap.get?_update_other (h₁.push { cls:=.type "traceback", dict:=none,data:=.fields ([head, .ref L, .none,rawInt L, .none]++(if pl.isEmpty then Te 6 Value.none else pl)).toArray })
   (Obj.mapFields (·.setIfInBounds 1 (Value.ref h₁.objs.size))) (Ne.symm hTe)).trans (Heap.get?_push_size h₁ rfl)
  unfold setFlight;refine Ua (wpAny_field he4 rfl (x:=.ref h₁.objs.size) (by simp [hsz]) ?_);rw [if_pos (show (Value.ref h₁.objs.size != Value.none)=true from by simp)];refine wpAny_setField hT3 rfl (by simp only [Uz,U8,Td,Sy] <;> exact ar120) ?_;have hT5:=Heap.get?_update_self (Obj.mapFields (·.setIfInBounds 3 Value.none)) hT3 rfl;have he5:=(Heap.get?_update_other ((h₁.push { cls:=.type "traceback", dict:=none,data:=.fields ([head, .ref L, .none,rawInt L, .none]++(if pl.isEmpty then Te 6 Value.none else pl)).toArray }).update e (Obj.mapFields (·.setIfInBounds 1 (Value.ref h₁.objs.size)))) (Obj.mapFields (·.setIfInBounds 3 Value.none)) hTe).trans he4;refine h _ h₁.objs.size (hnew _ ?_) ⟨_,he5,by simp [hsz],by simp [hsz],hTe,_,hT5,?_,?_⟩ (sl1.trans ?_)
  ·show k.get? h₁.objs.size=none
   cases q:k.get? h₁.objs.size with
   | none=>rfl
   | some o =>
    have:=Heap.lt_size q;rw [hs.1] at this;exact absurd this (S8 _)
  ·simp only [Array.size_setIfInBounds,Uz,U8,Td,Sy] <;> exact ar120
  ·rw [Array.getElem?_setIfInBounds_self_of_lt (by simp only [Uz,U8,Td,Sy] <;> exact ar120)]
  ·have sl₂:Sl (frs (env :: outer)) (e :: T.toList) k h₁:=Sl.slots hs λb hb=>hb;refine sl₂.trans (Sl.of λb o hb hbo=>?_);have hbT:h₁.objs.size≠b:=Nat.ne_of_gt (Heap.lt_size hbo);have hbe:e≠b:=λq=>hb (by simp [q]);exact (Heap.get?_update_other _ _ hbT).trans ((Heap.get?_update_other _ _ hbe).trans (Heap.get?_push_of_some _ hbo))
 unfold noteFrame;simp only [hf]
 cases T with
 | none =>
  refine Ua (wpAny_field he rfl hT ?_);rw [if_neg (by decide)];exact core s .none _ ⟨_,rfl⟩ hl he (λ_ q=>q) Sl.refl
 | some T =>
  obtain ⟨h1,hTe,ts,hT1,hts,h3⟩:=hT;refine Ua (wpAny_field he rfl h1 ?_);rw [if_pos (show (Value.ref T != Value.none)=true from by simp)];refine Ua ?_;refine wpAny_field hT1 rfl h3 ?_;rw [if_neg (by simp [rawInt])];refine Ua (wpAny_setField hT1 rfl hts ?_);have hb:∀ b,T≠b->(s.heap.update T (Obj.mapFields (·.setIfInBounds 3 Value.none))).get? b=s.heap.get? b:=λb q=>Heap.get?_update_other _ _ q;have hTT:=Heap.get?_update_self (Obj.mapFields (·.setIfInBounds 3 Value.none)) hT1 rfl;refine core _ (.ref T) _ ⟨_,rfl⟩ ?_ ((hb e hTe).trans he) (λT' q=>?_) (Sl.of λb o hx e=>(hb b λq=>hx (by simp [q])).trans e)
  ·refine hl.of_keeps λb o e hd=>⟨o,(hb b λq=>?_).trans e,rfl⟩
   subst q;rw [hT1] at e; obtain rfl:=Up.inj e;exact hd ts rfl
  ·by_cases q':T=T'
   ·subst q';have q:(s.heap.update T (Obj.mapFields (·.setIfInBounds 3 Value.none))).get? T=none:=q;rw [hTT] at q; exact no_sn q
   ·exact (hb T' q').symm.trans q
end Otracegoes
section
variable {M:Model} {A:Around} {E:Value->Shared->Prop} {s:Shared}
theorem trace_goes {A E s env outer L e Q}:Otracegoes.Px A E s env outer L e Q:=eps_all Otracegoes.Rx Otracegoes.main (A,E,s,env,outer,L,e,Q)
end
end
section
open PySem PySem.W PyProof.Rows PySem.Calls
structure Wa (B:Base) (F:FM) (h:Heap) (outer:List Env):Prop where
 alive:h.FunFrames V8 outer
 off:∀ a ∈ frs outer,F a=none/\B.n<=a
structure LeftX (B:Base) (F:FM) (outer:List Env) (X:List Addr) (s:Shared) (v:Value) (s':Shared) (av:AV) (F':FM):Prop where
 inv:Inv B s'
 kp:Sl (frs outer) (X++B.tabs) s.heap s'.heap
 le:F.le F'
 le':F'.le s'.heap.get?
 fresh:∀ a o,F' a=some o->F a=some o\/s.heap.get? a=none
 offT:∀ a o,F' a=some o->a ∉ B.tabs
 tf:TabF B F' s'.heap
 rv:RV F' v av
section
variable {E:Ent} {F F':FM} {env:Env} {loc:Loc} {tmp:List (Value × AV)} {mem:List (Addr × AO)} {s s':Shared} {X fs:List Addr} {h':Heap} {tk:Nat}
theorem Inv.sl (I:Inv B s) (x:Sl fs X s.heap h') (hf:∀ a ∈ fs,B.n<=a) (hX:∀ a ∈ X,B.n<=a):Inv B { s with heap:=h',toks:=tk }:=by
 have k:∀ b o,b < B.n->s.heap.get? b=some o->h'.get? b=some o:=λb o hb e=>by
  obtain ⟨sl,e1,q⟩:=x b o e λz=>Th.mpr (hX b z) hb;rw [q λz=>Th.mpr (hf b z) hb] at e1;exact e1
 exact ⟨I.ok,λb o e hb=>k b o (by rw [<- I.ok.size]; exact Heap.lt_size e) (I.keep b o e hb),λP hP=>by obtain ⟨vs,e⟩:=I.tb P hP; exact ⟨vs,k P _ (I.ok.t0 P hP).2.1 e⟩,I.os,I.gens⟩
theorem TabF.sl {h:Heap} (x:TabF B F h) (I:Inv B s) (k:Sl fs X h h') (hf:∀ a ∈ fs,B.n<=a) (hX:∀ a ∈ X,B.n<=a):TabF B F h':=λP hP=>by
 obtain ⟨vs,e,r⟩:=x P hP;have hlt:=(I.ok.t0 P hP).2.1;obtain ⟨sl,e1,q⟩:=k P _ e λz=>Th.mpr (hX P z) hlt;rw [q λz=>Th.mpr (hf P z) hlt] at e1;exact ⟨vs,e1,r⟩
theorem le_sl {h:Heap} (k:F.le h.get?) (x:Sl fs X h h') (hf:∀ a ∈ fs,F a=none) (hX:∀ a ∈ X,F a=none):F.le h'.get?:=λa o e=>by
 obtain ⟨sl,e1,q⟩:=x a o (k a o e) λz=>by rw [hX a z] at e; exact Z6 e
 rw [q λz=>by rw [hf a z] at e; cases e] at e1;exact e1
theorem Ns.sl {h:Heap} {L:Addr} {m:Str->Option Value} (hn:h.Ns L m) (x:Sl fs X h h') (hX:L ∉ X):h'.Ns L m:=by
 obtain ⟨o,es,ep,e,hd,r⟩:=hn;obtain ⟨sl,e1,_⟩:=x L o e hX;exact ⟨_,es,ep,e1,hd,r⟩
theorem FunFrames.sl {h base:Heap} {l:List Env} (hl:h.FunFrames base l) (x:Sl fs X h h') (hX:∀ a ∈ X,h.get? a=none\/∃ o vs,h.get? a=some o/\o.data=.fields vs):h'.FunFrames base l :=
 hl.of_keeps λb o e hd=>by
  obtain ⟨sl,e1,_⟩:=x b o e λz=>by
   rcases hX b z with q | ⟨o',vs,q1,q2⟩
   ·rw [q] at e; exact Z6 e
   ·rw [q1] at e; obtain rfl:=Up.inj e; exact hd vs q2
  exact ⟨_,e1,rfl⟩
theorem frs_env (hf:env.frame=some env.locals):frs [env]=[env.locals]:=by simp [frs,hf]
theorem Rel.afterX {v:Value} {av:AV} (R:Rel B E F env loc tmp mem s) (hf:env.frame=some env.locals) (L:LeftX B F [env] [] s v s' av F'):Rel B E F' env loc tmp mem s':=by
 have kx:=L.kp;rw [frs_env hf,List.nil_append] at kx
 have k:∀ b o,b ∉ B.tabs->b≠env.locals->s.heap.get? b=some o->s'.heap.get? b=some o:=λb o h1 h2 e=>by
  obtain ⟨sl,e1,q⟩:=kx b o e h1;rw [q λz=>h2 (Uj.mp z)] at e1;exact e1
 have n1:=ZE R
 exact {
  inv:=L.inv
  keep:=λb o e h1 h2=>k b o h1 (λq=>by
   subst q;rcases (R.off _ (.head _)).2.2 with z | z
   ·rw [z] at e; exact Z6 e
   ·exact h2 z) (R.keep b o e h1 h2)
  sub:=R.sub.trans L.le
  le:=L.le'
  fresh:=λa o e=>by
   rcases L.fresh a o e with q | q
   ·exact R.fresh a o q
   ·right;refine ZP R q (λhm=>?_) (L.offT a o e);obtain ⟨o,e⟩:=R.mex a hm; rw [q] at e; exact Z6 e
  fr:={
   kind:=R.fr.kind
   glob:=R.fr.glob
   blt:=R.fr.blt
   ns:=by
    obtain ⟨m,hn,r⟩:=R.fr.ns;exact ⟨m,Ns.sl hn kx (R.lowT _ (.head _)),λy av hk hl=>by obtain ⟨v,e1,e2⟩:=r y av hk hl; exact ⟨v,e1,e2.mono L.le⟩⟩
   cl:=λy av hk hl=>by
    obtain ⟨c,v,e1,⟨o,e2,e3⟩,e4⟩:=R.fr.cl y av hk hl;have hc:=Y9 hk (Z7 e1);exact ⟨c,v,e1,⟨o,k c o (R.lowT c (.tail _ (Ue.mpr (.inl hc)))) (λq=>n1.1 (q ▸ hc)) e2,e3⟩,e4.mono L.le⟩
   fz:=λy av hk hl=>by obtain ⟨c,v,o,e1,e2,e3,e4⟩:=R.fr.fz y av hk hl; exact ⟨c,v,o,e1,e2.imp_left (L.le _ _),e3,e4.mono L.le⟩
   ex:=λc hc=>by
    obtain ⟨v,o,e1,e2⟩:=R.fr.ex c hc
    exact ⟨v,o,k c o (R.lowT c (.tail _ (Ue.mpr (.inl hc)))) (λq=>n1.1 (q ▸ hc)) e1,e2⟩ }
  tv:=λp hp=>(R.tv p hp).mono L.le
  mr:=λp hp=>(R.mr p hp).keepsOn (λb hb ob e=>by
   have hm:b ∈ Z1 mem:=U4.mpr ⟨p,hp,hb⟩
   exact k b ob (R.lowT b (.tail _ (Ue.mpr (.inr hm)))) (λq=>n1.2 (q ▸ hm)) e) L.le
  nd:=R.nd
  off:=λa ha=>by
   obtain ⟨h1,h2,h3⟩:=R.off a ha;refine ⟨?_,h2,h3⟩
   cases q:F' a with
   | none=>rfl
   | some o =>
    rcases L.fresh a o q with z | z
    ·rw [h1] at z; exact Z6 z
    ·obtain ⟨o',e⟩:=R.exAt a ha;rw [z] at e; exact Z6 e
  offT:=L.offT
  mex:=λa ha=>by
   obtain ⟨o,e⟩:=R.mex a ha
   by_cases q:a ∈ B.tabs
   ·obtain ⟨vs,e⟩:=L.inv.tb a q;exact ⟨_,e⟩
   ·obtain ⟨sl,e1,_⟩:=kx a o e q;exact ⟨_,e1⟩
  tf:=L.tf }
end
section
variable {d u:Nat}
theorem XA {env:Env} {loc:Loc} {mem:List (Addr × AO)} {A:Around} {E:Ent} {F:FM} {tmp:List (Value × AV)} {s:Shared} {st:Stmt} {rest:List Stmt} {K:Flow->Shared->Prop} {Er:Value->Shared->Prop} {P:Loc->List (Addr × AO)->Prop}
  (hA:AOK d u A) (R:Rel B E F env loc tmp mem s) (h:WS prog w B d u env loc mem st (λf l m=>f=.next/\P l m)) (k:∀ s' F' l m,F.le F'->Rel B E F' env l tmp m s'->P l m->wpAny (model prog w) A (execs rest env) K Er s') :
  wpAny (model prog w) A (execs (st :: rest) env) K Er s:=by
 refine wpAny_execs_cons (Ud (h A E F tmp s hA R) (λf s' x=>?_) λ_ _ x=>x.elim);obtain ⟨af,l,m,F',kF,rf,R',rfl,p⟩:=x;obtain rfl:=rf.isNext;exact k s' F' l m kF R' p
end
end
section
open PySem PySem.W PyProof.Rows PySem.Calls
section
variable {E:Ent} {F F':FM} {env:Env} {loc:Loc} {tmp:List (Value × AV)} {mem:List (Addr × AO)} {s s':Shared} {d u:Nat}
theorem AOK.deeper {A:Around} (h:AOK d u A) (env:Env):AOK (d+1) (u+3) (A.deeper env):=⟨h.hd,T7 h.dp,Uv h.un 3⟩
theorem AOK.low {d' u':Nat} {A:Around} (h:AOK d u A) (hd:d<=d') (hu:u<=u'):AOK d' u' A:=⟨h.hd,Uc h.dp hd,Uc h.un hu⟩
theorem Rel.newL (R:Rel B E F env loc tmp mem s) (hE:E.muts=Z1 mem):E.he.get? env.locals=none:=by
 rcases (R.off _ (.head _)).2.2 with q | q
 ·exact q
 ·exact absurd (hE ▸ q) (ZE R).2
theorem Ve {K:Frag} {fa:Addr} {oc:Value} {od:Option Addr} {osl:Array (Option Value)} {name qual:Str} {params:Arguments} {body:List Stmt} {scope:Scope} {dV kV doc pm cdv ct:Value} {an:Option Addr}
  {mem:List (Addr × AO)} {A:Around} {vs:List Value} {kvs:List (Str × Value)} {Q Er:Value->Shared->Prop} (hB:B.K=K) (D:Option (Arguments × List Stmt × Scope)) (bs:List (Str × AV)) (hst:D=some (params,body,scope))
  (hK:K.lookup fa=some ⟨oc,od, .func (fnX name qual params body scope [] dV kV doc pm an cdv ct),osl⟩) (hcd:codeIn K cdv qual=true) (hd:A.depth < recursionLimit)
  (hbind:∃ binds,(∀ S,peek K S (bindArgs (fnX name qual params body scope [] dV kV doc pm an cdv ct) ⟨vs,kvs⟩)=some binds)/\KR F binds bs)
  (hsb:∀ L,VC (envF qual scope L fa cdv []) bs)
  (hco:scope.isCoroutine=false) (hgen:scope.isGenerator=false) (hk:scope.kind=.function) (hsub:Sub bs (YE [] bs))
  (I:Inv B s) (hn:B.n<=s.heap.objs.size) (hF:F.le s.heap.get?) (hT:∀ a o,F a=some o->a ∉ B.tabs) (hTF:TabF B F s.heap) (hm:Vl B F mem s.heap)
  (h:∀ L s',Rel B ⟨s.heap,F,Z1 mem⟩ F (envF qual scope L fa cdv []) bs [] mem s'->wpAny (model prog w) (A.deeper (envF qual scope L fa cdv [])) (execs body (envF qual scope L fa cdv []))
   (λf s'=>Q (match f with | .ret v=>v | _=>.none) s') (λe s'=>wpAny (model prog w) (A.deeper (envF qual scope L fa cdv [])) (leaving (envF qual scope L fa cdv []) e) (λ_ s''=>Er e s'') (λe' s''=>Er e' s'') s') s') :
  wpAny (model prog w) A (call (.ref fa) vs kvs) Q Er s:=by
 subst hB;obtain ⟨binds,hbd,hkr⟩:=hbind;refine wpAny_call ?_;refine codeAny_call_function (fd:=fnX name qual params body scope [] dV kV doc pm an cdv ct) (body:=body) hd (I.kin _ _ hK) rfl hco hgen rfl (codeRec_of I.kin hcd) (kp_binds I.kin hbd _ _ _ _ ?_);exact Xn [] I hn hF hT hTF hm hkr hk (λL=>(hsb L).get) (λ_ h=>nomatch h) (λ_ h=>nomatch h) (λ_ _ _ h=>nomatch h) λL s' R=>⟨R.inv.lim,codeAny_func (h L s' (R.less hsub.get))⟩
theorem call_E {x:Str} {p:Pos} {args:List Expr} {pos:Pos} {A:Around} {P:AV->List AV->List (Addr × AO)->Prop} {Q Er:Value->Shared->Prop} (hst:∀ env,(backTo pos (starEach args env)).any (·.1)=false)
  (hA:AOK d u A) (R:Rel B E F env loc tmp mem s)
  (h:WE prog w B d u env loc mem (.Name x p) λa mem1=>Callee prog w B a/\WL prog w B d u env loc mem1 args λas mem2=>P a as mem2)
  (k:∀ F' s' v vs a as mem2,F.le F'->Rel B E F' env loc tmp mem2 s'->RV F' v a->RVs F' vs as->P a as mem2->wpAny (model prog w) A (call v vs []) Q Er s') :
  wpAny (model prog w) A (eval (.Call (.Name x p) args [] pos) env) Q Er s:=by
 show wpAny (model prog w) A (do callWith pos (<- eval (.Name x p) env) [] (backTo pos (starEach args env)) (backToKw pos (keywordEach [] env))) _ _ s;refine Ua (Ud (h A E F tmp s hA R) (λv s₁ h₁=>?_) λ_ _ x=>x.elim);obtain ⟨a,mem1,F1,k₁,R1,hc,h₁⟩:=h₁;refine Zt (hst env) rfl (Ud (h₁ A E F1 _ s₁ pos hA R1) (λvs s2 h₂=>?_) λ_ _ x=>x.elim);obtain ⟨as,mem2,F2,k₂,r₂,R₂,h₂⟩:=h₂;refine wpAny_evalAll_nil ⟨hc F2 v s2 R₂.inv R₂.le R₂.top,?_⟩;exact k F2 s2 v vs a as mem2 (k₁.trans k₂) R₂.pop R₂.top r₂ h₂
theorem meth_E {o e:Expr} {name:Str} {apos pos:Pos} (pl:Sem Bool) {A:Around} {P:List (Addr × AO)->Prop} {Q Er:Value->Shared->Prop} (hst:∀ env,(backTo pos (starEach [e] env)).any (·.1)=false) (he':starEach [e] env=(false,eval e env) :: starEach [] env)
  (he:eval (.Call (.Attribute o name apos) [e] [] pos) env=(do
   let ov <- eval o env
   standAt apos.atName
   let (f,first) <- holding [ov] (getMethod ov name pl)
   callWith pos f first (backTo pos (starEach [e] env)) []))
  (hA:AOK d u A) (R:Rel B E F env loc tmp mem s)
  (h:WE prog w B d u env loc mem o λa mem1=>∃ fa,METH prog w B mem1 a name fa/\P mem1)
  (k:∀ F' s' v a mem2 Q',F.le F'->Rel B E F' env loc ((v,a) :: tmp) mem2 s'->P mem2->wpAny (model prog w) A (eval e env) Q' Er s') :
  wpAny (model prog w) A (eval (.Call (.Attribute o name apos) [e] [] pos) env) Q Er s:=by
 refine MethodCall_ (pl:=pl) (Ud (h A E F tmp s hA R) (λv s₁ h₁=>?_) λ_ _ x=>x.elim) he;obtain ⟨a,mem1,F1,k₁,R1,fa,hm,p⟩:=h₁;refine Ud (hm A E F1 env loc _ s₁ v pl hA.hd R1.top R1 (λx s'=>s'=s₁) λfv rf=>rfl) (λfx s' q=>?_) λ_ _ x=>x.elim;subst q;exact Zt (hst env) rfl (wpAny_items_cons (k F1 _ v a mem1 _ k₁ R1 p) he')
end
end
section
open PySem PySem.W PyProof.Rows PySem.Calls
theorem Sl.drop {fs fs' X Y:List Addr} {h h':Heap} (x:Sl fs X h h') (h1:∀ b ∈ fs,b ∈ fs'\/h.get? b=none) (h2:∀ b ∈ X,b ∈ Y\/h.get? b=none):Sl fs' Y h h':=λb o e hb=>by
 obtain ⟨sl,e1,q⟩:=x b o e λz=>by rcases h2 b z with q | q; exact hb q; rw [q] at e; exact Z6 e
 exact ⟨sl,e1,λhf=>q λz=>by rcases h1 b z with q | q; exact hf q; rw [q] at e; cases e⟩
theorem Sl.none {fs X:List Addr} {h h':Heap} (x:Sl fs X h h') {b:Addr} (hb:b ∉ X) (e:h'.get? b=none):h.get? b=none:=by
 cases q:h.get? b with
 | none=>rfl
 | some o=>obtain ⟨_,e1,_⟩:=x b o q hb; rw [e1] at e; exact no_sn e
theorem Inv.no {s:Shared} (I:Inv B s) {a:Addr} (h:s.heap.get? a=none):a ∉ B.tabs/\B.h₁.get? a=none:=by
 have ht:a ∉ B.tabs:=λz=>by obtain ⟨vs,e⟩:=I.tb a z; rw [h] at e; exact Z6 e
 refine ⟨ht,?_⟩
 cases q:B.h₁.get? a with
 | none=>rfl
 | some o=>have:=I.keep a o q ht; rw [h] at this; exact Z6 this
section
variable {E:Ent} {F F':FM} {env:Env} {loc:Loc} {tmp:List (Value × AV)} {mem:List (Addr × AO)} {s s₁ s':Shared} {d u:Nat} {X fs:List Addr} {e:Addr} {T:Option Addr} {A:Around} {outer:List Env} {h':Heap} {tk:Nat}
theorem Inv.sl2 (I0:Inv B s₁) (I:Inv B s) (x:Sl fs X s.heap h') (hf:∀ a ∈ fs,B.n<=a) (hX:∀ a ∈ X,B.n<=a\/s₁.heap.get? a=none):Inv B { s with heap:=h',toks:=tk }:=by
 refine ⟨I.ok,λb o e ht=>?_,λP hP=>?_,I.os,I.gens⟩
 ·have hlt:b < B.n:=by rw [<- I.ok.size]; exact Heap.lt_size e
  obtain ⟨sl,e1,q⟩:=x b o (I.keep b o e ht) λz=>by
   rcases hX b z with q | q
   ·exact Th.mpr q hlt
   ·rw [(I0.no q).2] at e; exact Z6 e
  rw [q λz=>Th.mpr (hf b z) hlt] at e1;exact e1
 ·obtain ⟨vs,e⟩:=I.tb P hP;have hlt:=(I.ok.t0 P hP).2.1
  obtain ⟨sl,e1,q⟩:=x P _ e λz=>by
   rcases hX P z with q | q
   ·exact Th.mpr q hlt
   ·exact (I0.no q).1 hP
  rw [q λz=>Th.mpr (hf P z) hlt] at e1;exact ⟨vs,e1⟩
theorem TabF.sl2 {h:Heap} (x:TabF B F h) (I0:Inv B s₁) (k:Sl fs X h h') (hf:∀ a ∈ fs,B.n<=a) (hX:∀ a ∈ X,B.n<=a\/s₁.heap.get? a=none):TabF B F h':=λP hP=>by
 obtain ⟨vs,e,r⟩:=x P hP;have hlt:=(I0.ok.t0 P hP).2.1
 obtain ⟨sl,e1,q⟩:=k P _ e λz=>by
  rcases hX P z with q | q
  ·exact Th.mpr q hlt
  ·exact (I0.no q).1 hP
 rw [q λz=>Th.mpr (hf P z) hlt] at e1;exact ⟨vs,e1,r⟩
structure Fly (B:Base) (F:FM) (s:Shared) (fs X:List Addr) (e:Addr) (T:Option Addr) (F':FM) (s':Shared):Prop where
 inv0:Inv B s
 inv:Inv B s'
 kp:Sl fs X s.heap s'.heap
 new:∀ a ∈ e :: T.toList,s.heap.get? a=none/\F' a=none
 tr:Traced e T s'.heap
 le:F.le F'
 le':F'.le s'.heap.get?
 fresh:∀ a o,F' a=some o->F a=some o\/s.heap.get? a=none
 offT:∀ a o,F' a=some o->a ∉ B.tabs
 tf:TabF B F' s'.heap
 ex:∀ a ∈ X,∃ o,s'.heap.get? a=some o
theorem Wa.f' (O:Wa B F s.heap outer) (fr:∀ a o,F' a=some o->F a=some o\/s.heap.get? a=none):∀ a ∈ frs outer,F' a=none:=λa ha=>by
 cases q:F' a with
 | none=>rfl
 | some o =>
  obtain ⟨_,o',ho,_⟩:=O.alive.mem ha;rcases fr a o q with z | z
  ·rw [(O.off a ha).1] at z; exact Z6 z
  ·rw [ho] at z; exact no_sn z
theorem Fly.later {G:FM} {fs' Y:List Addr} (f:Fly B F' s₁ fs X e T G s') (I:Inv B s) (k:Sl fs X s.heap s₁.heap) (kF:F.le F') (hX:∀ a ∈ X,∃ o,s₁.heap.get? a=some o) (fr:∀ a o,F' a=some o->F a=some o\/s.heap.get? a=none)
  (h1:∀ b ∈ fs,b ∈ fs'\/s.heap.get? b=none) (h2:∀ b ∈ X,b ∈ Y\/s.heap.get? b=none) (hY:∀ b ∈ Y,b ∈ X):Fly B F s fs' Y e T G s':=by
 have hn:∀ a,s₁.heap.get? a=none->s.heap.get? a=none:=λa q=>k.none (λz=>by obtain ⟨o,e⟩:=hX a z; rw [q] at e; exact Z6 e) q;exact ⟨I,f.inv,(k.trans f.kp).drop h1 h2,λa ha=>⟨hn _ (f.new a ha).1,(f.new a ha).2⟩,f.tr,kF.trans f.le,f.le',λa o q=>(f.fresh a o q).elim (fr a o) λz=>.inr (hn _ z),f.offT,f.tf,λa ha=>f.ex a (hY a ha)⟩
theorem Fly.traced {Q:Unit->Shared->Prop} {Er:Value->Shared->Prop} {M:Model} {L:Addr} (f:Fly B F s fs X e T F' s') (hfr:A.frames=some (env :: outer)) (hL:env.frame=some L) (O:Wa B F s.heap (env :: outer))
  (hX:∀ a ∈ X,∃ o vs,s.heap.get? a=some o/\o.data=.fields vs) (hfs:∀ b ∈ fs,b ∈ frs (env :: outer))
  (h:∀ h' T',Fly B F s (frs (env :: outer)) X e (some T') F' { s' with heap:=h' }->Q () { s' with heap:=h' }) :
  wpAny M A (noteFrame (.ref e) env) (λ_ s2=>wpAny M A (setFlight (.ref e) none) Q Er s2) Er s':=by
 have al:s'.heap.FunFrames V8 (env :: outer):=FunFrames.sl O.alive f.kp λa ha=>.inr (hX a ha);refine trace_goes hfr al hL f.tr λh' T' hT' tr sl=>h h' T' ?_;have hf:∀ a ∈ frs (env :: outer),B.n<=a:=λa ha=>(O.off a ha).2;have hY:∀ a ∈ e :: T.toList,B.n<=a\/s.heap.get? a=none:=λa ha=>.inr (f.new a ha).1
 exact {
  inv0:=f.inv0
  inv:=f.inv0.sl2 (tk:=s'.toks) f.inv sl hf hY
  kp:=((f.kp.mono (X':=X++(e :: T.toList)) hfs λb hb=>Ue.mpr (.inl hb)).trans (sl.mono (λ_ h=>h) λb hb=>Ue.mpr (.inr hb))).drop (λb hb=>.inl hb) λb hb =>
   (Ue.mp hb).imp id λz=>(f.new b z).1
  new:=λa ha=>by
   rcases Ur.mp ha with rfl | ha
   ·exact f.new _ (.head _)
   ·have:a=T':=by simpa using ha
    subst this
    have e2:F' a=none:=by
     cases q:F' a with
     | none=>rfl
     | some o=>have:=f.le' _ _ q; rw [hT'] at this; exact Z6 this
    refine ⟨?_,e2⟩
    cases q:s.heap.get? a with
    | none=>rfl
    | some o =>
     by_cases z:a ∈ X
     ·obtain ⟨o',y⟩:=f.ex a z;rw [hT'] at y; exact Z6 y
     ·obtain ⟨_,y,_⟩:=f.kp a o q z;rw [hT'] at y; exact Z6 y
  tr:=tr
  le:=f.le
  le':=le_sl f.le' sl (O.f' f.fresh) λa ha=>(f.new a ha).2
  fresh:=f.fresh
  offT:=f.offT
  tf:=f.tf.sl2 f.inv0 sl hf hY
  ex:=λa ha=>by
   obtain ⟨o,y⟩:=f.ex a ha
   obtain ⟨_,y',_⟩:=sl a o y λz=>by
    obtain ⟨o',vs,q,_⟩:=hX a ha;rw [(f.new a z).1] at q; exact Z6 q
   exact ⟨_,y'⟩ }
theorem XK (I:Inv B s):∀ P ∈ B.tabs,∃ o vs,s.heap.get? P=some o/\o.data=.fields vs:=λP hP=>by obtain ⟨vs,e⟩:=I.tb P hP; exact ⟨_,_,e,rfl⟩
theorem WO (hL:env.frame=some env.locals) {a:Addr}:a ∈ frs (env :: outer)↔a=env.locals\/a ∈ frs outer:=by
 unfold frs; rw [List.filterMap_cons,hL]; exact Ur
theorem Rel.out {Y:List Addr} (R:Rel B ⟨s.heap,F,Y⟩ F' env loc tmp mem s₁) (O:Wa B F s.heap outer) (Iv:Inv B s) (hY:∀ a ∈ Y,∃ o vs,s.heap.get? a=some o/\o.data=.fields vs) (hL:env.frame=some env.locals):Wa B F' s₁.heap (env :: outer):=by
 have kE:Sl [] (Y++B.tabs) s.heap s₁.heap:=Sl.of λb ob hb eb=>R.keep b ob eb (λz=>hb (Ue.mpr (.inr z))) λz=>hb (Ue.mpr (.inl z));obtain ⟨m,hn,_⟩:=R.fr.ns;refine ⟨.cons (by rw [R.fr.kind]; decide) hL hn (noHeap_get _) (FunFrames.sl O.alive kE λa ha=>.inr ?_),λa ha=>?_⟩
 ·exact (Ue.mp ha).elim (hY a) (XK Iv a)
 ·rcases (WO hL).mp ha with rfl | ha
  ·exact ⟨(R.off _ (.head _)).1,(R.off _ (.head _)).2.1⟩
  ·exact ⟨O.f' R.fresh a ha,(O.off a ha).2⟩
theorem stop_leaves {M:Model} {I:Addr} {octs:List Nat} {i:Nat} {Er:Value->Shared->Prop} {Er':Value->Shared->Prop} {o:Obj} {us:Array Value} (R:Rel B ⟨s.heap,F, [I]⟩ F' env loc tmp mem s₁) (O:Wa B F s.heap outer) (Iv:Inv B s) (hI:s.heap.get? I=some o) (hIo:o.data=.fields us) (hIB:B.n<=I/\F I=none) (hm:(I,itAO octs i) ∈ mem)
  (hL:env.frame=some env.locals) (hfr:A.frames=some outer) (N:NewStop I s₁.heap h' e) (h:∀ T F' s',Fly B F s (frs outer) (I :: B.tabs) e (some T) F' s'->Er (.ref e) s') :
  wpAny M (A.deeper env) (leaving env (.ref e)) (λ_ s''=>Er (.ref e) s'') Er' { s₁ with heap:=h' }:=by
 have n1:=ZE R;have kE:Sl (frs outer) (I :: B.tabs) s.heap s₁.heap:=Sl.of λb ob hb eb=>R.keep b ob eb (λz=>hb (.tail _ z)) λz=>hb (Uj.mp z ▸ .head _);obtain ⟨o₁,hI1⟩:=R.mex I (.head _)
 have fI:F' I=none:=by
  cases q:F' I with
  | none=>rfl
  | some ob =>
   rcases R.fresh I ob q with z | z
   ·have z:F I=some ob:=z;rw [hIB.2] at z; exact Z6 z
   ·rw [show s.heap.get? I=none from z] at hI; exact Z6 hI
 have kI:Sl [] (I :: B.tabs) s₁.heap h':=Sl.of λb ob hb eb=>N.keep b ob (λz=>hb (z ▸ .head _)) eb;have kI':Sl [] [I] s₁.heap h':=Sl.of λb ob hb eb=>N.keep b ob (λz=>hb (z ▸ .head _)) eb;have fr:∀ a ob,F' a=some ob->F a=some ob\/s.heap.get? a=none:=R.fresh;have In:B.n<=I:=hIB.1
 have f₀:Fly B F' s₁ [] (I :: B.tabs) e none F' { s₁ with heap:=h' }:={
  inv0:=R.inv
  inv:=R.inv.sl2 (tk:=s₁.toks) R.inv kI' (λ_ h=>nomatch h) λa ha=>.inl (Uj.mp ha ▸ In)
  kp:=kI
  new:=λa ha=>by
   have:a=e:=by simpa using ha
   subst this;refine ⟨N.new,?_⟩
   cases q:F' a with
   | none=>rfl
   | some ob=>have:=R.le _ _ q; rw [N.new] at this; exact Z6 this
  tr:=by obtain ⟨t0,q⟩:=N.at_; exact ⟨_,q,rfl,rfl⟩
  le:=.refl _
  le':=le_sl R.le kI' (λ_ h=>nomatch h) λa ha=>Uj.mp ha ▸ fI
  fresh:=λ_ _ q=>.inl q
  offT:=R.offT
  tf:=R.tf.sl2 R.inv kI' (λ_ h=>nomatch h) λa ha=>.inl (Uj.mp ha ▸ In)
  ex:=λa ha=>by
   rcases Ur.mp ha with rfl | ha
   ·exact N.it
   ·obtain ⟨vs,q⟩:=R.inv.tb a ha
    by_cases z:a=I
    ·exact z ▸ N.it
    ·exact ⟨_,N.keep a _ z q⟩ }
 have O':Wa B F' s₁.heap (env :: outer):=R.out O Iv (λa ha=>Uj.mp ha ▸ ⟨_,_,hI,hIo⟩) hL
 have newL:s.heap.get? env.locals=none:=by
  rcases (R.off _ (.head _)).2.2 with q | q
  ·exact q
  ·have q:env.locals=I:=Uj.mp q;exact absurd (U4.mpr ⟨_,hm,by rw [q]; exact .head _⟩) n1.2
 unfold leaving;refine Ua (f₀.traced (Around.frames_deeper hfr) hL O' (λa ha=>?_) (λ_ h=>nomatch h) λh'' T' f₁=>?_)
 ·rcases Ur.mp ha with rfl | ha
  ·obtain ⟨ob,eo,hT⟩:=R.mr _ hm;obtain ⟨_,_,_,_,h2,_⟩:=hT _ (.refl _);exact ⟨ob,_,eo,h2⟩
  ·exact XK R.inv a ha
 ·refine h T' F' _ (f₁.later Iv (kE.mono (λb hb=>?_) λ_ h=>h) R.sub (λa ha=>?_) fr (λb hb=>?_) (λb hb=>.inl hb) λ_ h=>h)
  ·exact (WO hL).mpr (.inr hb)
  ·rcases Ur.mp ha with rfl | ha
   ·exact ⟨_,hI1⟩
   ·obtain ⟨vs,q⟩:=R.inv.tb a ha; exact ⟨_,q⟩
  ·rcases (WO hL).mp hb with rfl | hb
   ·exact .inr newL
   ·exact .inl hb
theorem Fly.flight {M:Model} {Q:Unit->Shared->Prop} {Er:Value->Shared->Prop} {T:Addr} (f:Fly B F s fs X e (some T) F' s') (hf:∀ a ∈ fs,B.n<=a) (hff:∀ a ∈ fs,F' a=none) (hX:∀ a ∈ X,∃ o,s.heap.get? a=some o)
  (h:∀ h',Fly B F s fs X e (some T) F' { s' with heap:=h' }->Q () { s' with heap:=h' }):wpAny M A (setFlight (.ref e) none) Q Er s':=by
 obtain ⟨vs,h1,h2,h3,h4,ts,h5,h6,h7⟩:=f.tr;have sl:Sl fs [T] s'.heap (s'.heap.update T (Obj.mapFields (·.setIfInBounds 3 Value.none))):=Sl.of λb o hb q=>(Heap.get?_update_other _ _ λz=>hb (by simp [z])).trans q;have hY:∀ a ∈ [T],B.n<=a\/s.heap.get? a=none:=λa ha=>.inr (f.new a (.tail _ ha)).1;unfold setFlight;refine Ua (wpAny_field h1 rfl h3 ?_);rw [if_pos (show (Value.ref T != Value.none)=true from by simp)];refine wpAny_setField h5 rfl h6 (h _ ?_)
 exact {
  inv0:=f.inv0
  inv:=f.inv0.sl2 (tk:=s'.toks) f.inv sl hf hY
  kp:=(f.kp.mono (X':=X++[T]) (λ_ h=>h) (λb hb=>Ue.mpr (.inl hb))).trans (sl.mono (λ_ h=>h) λb hb=>Ue.mpr (.inr hb)) |>.drop (λb hb=>.inl hb) λb hb =>
   (Ue.mp hb).imp id λz=>(f.new b (.tail _ z)).1
  new:=f.new
  tr:=⟨vs,(Heap.get?_update_other _ _ h4).trans h1,h2,h3,h4,_,Heap.get?_update_self _ h5 rfl,by simpa using h6,by simp [h6]⟩
  le:=f.le
  le':=le_sl f.le' sl hff λa ha=>(f.new a (.tail _ ha)).2
  fresh:=f.fresh
  offT:=f.offT
  tf:=f.tf.sl2 f.inv0 sl hf hY
  ex:=λa ha=>by
   obtain ⟨o,q⟩:=f.ex a ha;refine ⟨o,(Heap.get?_update_other _ _ ?_).trans q⟩;rintro rfl;obtain ⟨o',q'⟩:=hX _ ha
   rw [(f.new _ (.tail _ (.head _))).1] at q'; cases q' }
theorem Fly.name {x:Str} {av:AV} {Q:Value->Shared->Prop} {Er:Value->Shared->Prop} {E:Ent} {G:FM} (f:Fly B F' s₁ fs X e T G s') (R:Rel B E F' env loc tmp mem s₁) (hX:env.locals ∉ X) (hk:env.kindOf x=some .local) (hl:loc.lookup x=some av)
  (h:∀ v,RV G v av->Q v s'):wpAny (model prog w) A (loadName env x) Q Er s':=by
 obtain ⟨m,hn,r⟩:=R.fr.ns;obtain ⟨v,e1,e2⟩:=r x av hk hl;exact wpAny_loadName_local R.fr.kind hk (Ns.sl hn f.kp hX) e1 (h v (e2.mono f.le))
end
end
section
open PySem PySem.W PyProof.Rows PySem.Calls
section
variable {d u:Nat} {env:Env} {loc:Loc} {mem:List (Addr × AO)}
theorem comp_mapM {elt target iter:Expr} {e:Expr} {scope:Scope} {cl:List (Str × Addr)} {Q:PU} (mf:Nat->List (Addr × AO))
  (h:WI prog w B d u env loc mem iter target λM xs mem1=>MapH prog w B d u env loc scope cl target elt Q mf (mem1=mf 0/\∀ i,M (mf i)) xs) :
  Wb prog w B d u env loc mem e scope cl iter target (Yy prog w elt []) Q:=λA E F tmp s hA R=>by
 refine Ud (h A E F tmp s hA R) (λx s₁ h₁=>Ud h₁ (λit s2 h₂=>?_) λ_ _ x=>x) λ_ _ x=>x;obtain ⟨I,wr,St,M,xs,m2,F2,e1,mc,k₂,R₂,st2,hw2,outs,hlen,hsz,⟨hm,hM⟩,step,q⟩:=h₂;refine ⟨I,wr,St,M,xs,m2,F2,e1,mc,k₂,R₂,st2,hw2,λi ys m=>m=mf i/\ys=outs.take i,⟨hm,by simp⟩,λi ys m hj=>hj.1 ▸ hM i,λL i a ys m hx hj=>?_,λys m hj=>?_⟩
 ·obtain ⟨rfl,rfl⟩:=hj;have hlt:i < outs.length:=by rw [hlen]; exact (Un.mp hx).1
  obtain ⟨l',asg,und,we⟩:=step L i a outs[i] hx (Ui hlt);refine ⟨l',asg,wu_emit ?_ und (WE.mono we λy m hq1=>by obtain ⟨z1,z2⟩:=hq1; exact ⟨z2,by rw [z1,Sh hlt]⟩)⟩;rw [Ti]; exact ar24 hlen hsz hlt
 ·obtain ⟨rfl,rfl⟩:=hj;rw [<- hlen,S1,hlen]; exact q
end
end
section
open PySem PySem.W PyProof.Rows PySem.Calls
inductive IsI (C d:Addr) (as:List (Str × AV)):AO->Prop where
 | obj:IsI C d as (.obj C d as)
 | acc (xs:List AV):IsI C d as (.acc C d xs as)
noncomputable def Hand:AV->Prop
 | .raw v=>handedIn v=true
 | .pred _=>False
 | _=>True
theorem Hand.of {F:FM} {v:Value} {a:AV} (h:Hand a) (r:RV F v a):handedIn v=true:=by
 cases r <;> first | rfl | exact h | exact h.elim
structure Keys (es:List DictEntry) (as:List (Str × AV)):Prop where
 len:es.length<=as.length
 key:∀ e ∈ es,∃ x t,e.key=.str x t/\(as.lookup x).isSome=true
theorem ZQ {F:FM} {h:Heap} {x C d:Addr} {ao:AO} {as:List (Str × AV)} (hi:IsI C d as ao) (m:MR F h x ao) :
  ∃ ox es n,InstAt h x ox C (some (dictOf es n))/\ox.dict=some d/\h.get? d=some (dictOf es n)/\Keys es as/\∀ y a,as.lookup y=some a->∃ v,getL y es=some (some v)/\RV F v a:=by
 cases hi with
 | obj=>obtain ⟨h1,es,n,h2,⟨h3,h3'⟩,h4⟩:=m; exact ⟨_,es,n,⟨h1,rfl,rfl,h2⟩,rfl,h2,⟨h3,h3'⟩,h4⟩
 | acc xs=>obtain ⟨⟨vs,k,h1,r⟩,es,n,h2,⟨h3,h3'⟩,h4⟩:=m; exact ⟨_,es,n,⟨h1,rfl,rfl,h2⟩,rfl,h2,⟨h3,h3'⟩,h4⟩
theorem Keys.is {es:List DictEntry} {as:List (Str × AV)} (K:Keys es as) {x:Str} {e:DictEntry} (he:e ∈ es) (hx:e.key.isStr x=true):(as.lookup x).isSome=true:=by
 obtain ⟨y,t,q,h⟩:=K.key e he;rw [q] at hx;have:y=x:=by simpa [Value.isStr] using hx
 exact this ▸ h
theorem Keys.plain {es:List DictEntry} {as:List (Str × AV)} (K:Keys es as):es.any (·.refKey)=false:=by
 rw [List.any_eq_false];intro e he;obtain ⟨y,t,q,h⟩:=K.key e he;simp [DictEntry.refKey,q]
theorem Keys.none {es:List DictEntry} {as:List (Str × AV)} (K:Keys es as) {x:Str} (h:as.lookup x=.none):getL x es=some .none:=by
 have:es.find? (·.key.isStr x)=.none:=List.find?_eq_none.mpr λe he hx=>by
  have:=K.is he hx;rw [h] at this; exact no_ft this
 unfold getL;rw [this,K.plain]; rfl
noncomputable def GETA (prog:Program) (w:World) (B:Base) (mem:List (Addr × AO)) (a:AV) (name:Str) (c:AV):Prop :=
 ∀ A E F env loc tmp s v expr,A.handled=none->RV F v a->Rel B E F env loc tmp mem s->∀ Q:Value->Shared->Prop,(∀ r tk,s.toks<=tk->RV F r c->Q r { s with toks:=tk })->wpAny (model prog w) A (getAttr v name expr) Q FF s
section
variable {d u:Nat} {env:Env} {loc:Loc} {mem:List (Addr × AO)}
theorem geta_own {x C dx:Addr} {ao:AO} {as:List (Str × AV)} {name:Str} {c:AV} {attr:Option Value} {K:Frag} (hB:B.K=K) (hm:(x,ao) ∈ mem) (hi:IsI C dx as ao) (hl:as.lookup name=some c) (hc:Hand c)
  (hg:plainGet K C name=true) (hh:hasDictIn K C=true) (ha:findIn K (.ref C) name=some attr) (hn:noGet K attr=true):GETA prog w B mem (.raw (.ref x)) name c:=λA E F env loc tmp s v expr hA hv R Q q=>by
 subst hB;obtain rfl:=hv.isRaw;obtain ⟨ox,es,n,I,hd,hD,hk,hv⟩:=ZQ hi (R.mr _ hm);obtain ⟨v,e1,e2⟩:=hv name c hl;exact get_value R.inv.kin I (plainGet_of hg).1 (findObj_own hh ha hn e1) (hc.of e2) (q v _ (Tr _) e2)
theorem e_attr {o:Expr} {name:Str} {pos:Pos} {Q:PE} (he:eval (.Attribute o name pos) env=(do
   let ov <- eval o env
   standAt pos.atName
   let r <- holding [ov] (getAttr ov name true)
   letTemporaryGo o ov r
   pure r)) (h:WE prog w B d u env loc mem o λa mem1=>Ex1 (GETA prog w B mem1 a name) λc=>Q c mem1):WE prog w B d u env loc mem (.Attribute o name pos) Q:=λA E F tmp s hA R=>by
 refine Attribute_any_ (Ud (h A E F tmp s hA R) (λv s₁ h₁=>?_) λ_ _ x=>x) he;obtain ⟨a,mem1,F1,k₁,R1,c,g,q⟩:=h₁;refine g A E F1 env loc _ s₁ v true hA.hd R1.top R1 _ λr tk _ rc=>⟨c,mem1,F1,k₁,?_,q⟩
 exact (R1.pop.ext (h':=s₁.heap) (tk:=tk) λ_ _ e=>e).push rc
structure MethIn (K:Frag) (C:Addr) (name:Str) (f:Value):Prop where
 ga:∃ g,findIn K (.ref C) "__getattribute__" = some (some (.builtin g))/\(Manifest.canonical g != "object.__getattribute__")=false
 no:findIn K (.ref C) "__getattr__" = some none
 fn:findIn K (.ref C) name=some (some f)
 ty:∃ t,typeIn K f=some t/\(t != .type "function" && t != .type "method_descriptor" && t != .type "wrapper_descriptor")=false
theorem Zh {x C dx:Addr} {f:Value} {ao:AO} {as:List (Str × AV)} {name:Str} {K:Frag} (hB:B.K=K) (hm:(x,ao) ∈ mem) (hi:IsI C dx as ao) (hl:as.lookup name=none) (hf:MethIn K C name f) :
  METH prog w B mem (.raw (.ref x)) name (.raw f):=λA E F env loc tmp s v pl hA hv R Q q=>by
 subst hB;obtain rfl:=hv.isRaw;obtain ⟨ox,es,n,I,hd,hD,hk,hv⟩:=ZQ hi (R.mr _ hm);obtain ⟨⟨g,h1,h2⟩,h3,h4,t,h5,h6⟩:=hf;have X:=R.inv.kin;have hn:lookIn name (dictOf es n)=some none:=by rw [lookIn_dict]; exact hk.none hl
 unfold getMethod specialOf;refine Ua (Ua (I.type.here ((looks_findIn X h1).here ?_)));dsimp only;rw [h2,if_neg (by decide)];refine Ua (Ua (I.type.here ((looks_findIn X h3).here ?_)));refine Ua (Ua (I.type.here ((looks_findIn X h4).here (Ua ((looks_typeIn X h5).here ?_)))));rw [h6,if_neg (by decide)];refine Ua (wpAny_loadPart I.at_ ?_);rw [hd];refine Ua (Ua (wpAny_loadPart hD ?_));rw [nsLook_of hn];exact Ub (Ua (wpAny_rule (Ub (q _ (.raw _)))))
end
end
section
open PySem PySem.W PyProof.Rows PySem.Calls Builtin Builtin.ObjectAttr
theorem Xj {x y:Str} {t:Tok}:(Value.str x t).isStr y=(x == y):=rfl
theorem put_find {name y:Str} {hsh:Int} {tk:Tok} {v:Value}:∀ {es:List DictEntry} {as:List (Str × AV)},Keys es as->((putL name hsh (.str name tk) v es).find? (·.key.isStr y)).map (·.val)=if y=name then some v else (es.find? (·.key.isStr y)).map (·.val)
 | [],as,_=>by
  show (List.find? _ [_]).map _=_;rw [List.find?_cons]
  by_cases h:y=name
  ·subst h; simp [Xj]
  ·have:(name == y)=false:=beq_eq_false_iff_ne.mpr (Ne.symm h);simp [Xj,this,h]
 | e :: r,as,K=>by
  have K':Keys r as:=⟨U6 K.len,λe he=>K.key e (.tail _ he)⟩;obtain ⟨z,t,q,_⟩:=K.key e (.head _);show ((if e.key.isStr name then ⟨e.hash,e.key,v⟩ :: r else e :: putL name hsh (.str name tk) v r).find? _).map _=_;rw [q,Xj]
  by_cases hz:z=name
  ·subst hz;rw [if_pos (by simp -iota),List.find?_cons,List.find?_cons];simp -iota only [q,Xj]
   by_cases h:y=z
   ·subst h; simp
   ·have:(z == y)=false:=beq_eq_false_iff_ne.mpr (Ne.symm h);simp [this,h]
  ·rw [if_neg (by simp -iota [hz]),List.find?_cons,List.find?_cons,q,Xj]
   by_cases h:z=y
   ·subst h; simp [hz]
   ·have:(z == y)=false:=beq_eq_false_iff_ne.mpr h;simp only [this];exact put_find K'
theorem put_mem {name:Str} {hsh:Int} {key v:Value} {e:DictEntry}:∀ {es:List DictEntry},e ∈ putL name hsh key v es->e.key=key\/∃ e' ∈ es,e.key=e'.key
 | [],h=>.inl (by rw [Uj.mp h])
 | e' :: r,h=>by
  have h:e ∈ if e'.key.isStr name then (⟨e'.hash,e'.key,v⟩:DictEntry) :: r else e' :: putL name hsh key v r:=h
  split at h
  ·rcases Ur.mp h with rfl | h
   ·exact .inr ⟨e', .head _,rfl⟩
   ·exact .inr ⟨e, .tail _ h,rfl⟩
  ·rcases Ur.mp h with rfl | h
   ·exact .inr ⟨_, .head _,rfl⟩
   ·rcases put_mem h with q | ⟨x,hx,q⟩
    ·exact .inl q
    ·exact .inr ⟨x, .tail _ hx,q⟩
theorem put_len {name:Str} {hsh:Int} {key v:Value}:∀ {es:List DictEntry},(putL name hsh key v es).length=if es.any (·.key.isStr name) then es.length else es.length+1
 | []=>rfl
 | e :: r=>by
  show (if e.key.isStr name then _ else _:List DictEntry).length=_;rw [List.any_cons]
  cases h:e.key.isStr name with
  | true=>simp -iota
  | false =>
   simp -iota only [U1,if_false,Bool.false_or,Td,put_len (es:=r)]
   split <;> rfl
theorem setL_len {name:Str} {a:AV}:∀ {as:List (Str × AV)},(setL name a as).length=if (as.lookup name).isSome then as.length else as.length+1
 | []=>rfl
 | p :: r=>by
  unfold setL;rw [S0,Bool.beq_comm (a:=name)]
  cases h:p.1 == name with
  | true=>simp
  | false =>
   simp only [U1,if_false,Td,setL_len (as:=r)]
   split <;> rfl
theorem getL_of {es:List DictEntry} {as:List (Str × AV)} (K:Keys es as) {x:Str}:getL x es=some ((es.find? (·.key.isStr x)).map (·.val)):=by
 unfold getL
 cases es.find? (·.key.isStr x) with
 | some e=>rfl
 | none=>simp only [K.plain]; rfl
theorem put_keys {name:Str} {hsh:Int} {tk:Tok} {v:Value} {a:AV} {F:FM} {es:List DictEntry} {as:List (Str × AV)} (K:Keys es as) (hs:∀ y a,as.lookup y=some a->∃ v,getL y es=some (some v)/\RV F v a) (hv:RV F v a) :
  Keys (putL name hsh (.str name tk) v es) (setL name a as)/\∀ y b,(setL name a as).lookup y=some b->∃ v',getL y (putL name hsh (.str name tk) v es)=some (some v')/\RV F v' b:=by
 have K2:Keys (putL name hsh (.str name tk) v es) (setL name a as):=by
  refine ⟨?_,λe he=>?_⟩
  ·rw [put_len,setL_len];have:=K.len
   by_cases h:es.any (·.key.isStr name)=true
   ·rw [if_pos h]; split <;> omega
   ·rw [if_neg h]
    have hn:(as.lookup name).isSome=false:=by
     cases q:as.lookup name with
     | none=>rfl
     | some b =>
      obtain ⟨v',e1,_⟩:=hs name b q;rw [getL_of K] at e1;obtain ⟨e,he,_⟩:=Ux.mp (Up.inj e1);exact absurd (List.any_eq_true.mpr ⟨e,List.mem_of_find?_eq_some he,List.find?_some he⟩) h
    rw [hn,if_neg (by decide)]; exact Uv this 1
  ·rcases put_mem he with q | ⟨e',he',q⟩
   ·exact ⟨name,tk,q,by rw [ZH,if_pos rfl]; rfl⟩
   ·obtain ⟨x,t,q',h⟩:=K.key e' he';refine ⟨x,t,q.trans q',?_⟩;rw [ZH]
    split
    ·rfl
    ·exact h
 refine ⟨K2,λy b h=>?_⟩;rw [ZH] at h;rw [getL_of K2,put_find K]
 by_cases hy:y=name
 ·rw [if_pos hy] at h ⊢;obtain rfl:=Up.inj h; exact ⟨v,rfl,hv⟩
 ·rw [if_neg hy] at h ⊢;obtain ⟨v',e1,e2⟩:=hs y b h;rw [getL_of K] at e1;exact ⟨v',e1,e2⟩
structure WQ (K:Frag) (C:Addr) (name:Str):Prop where
 sa:findIn K (.ref C) "__setattr__" = some (some (.builtin "object.__setattr__"))
 top:mroIn K C (.type "object")=some true
 mro:∃ cd,clsIn K C=some cd/\cd.hasDict=true/\∀ self,refuseLoop self "__setattr__" cd.mro=pure ()
 no:findIn K (.ref C) name=some none
theorem set_attr {A:Around} {Er:Value->Shared->Prop} {s:Shared} {K:Frag} {x C dx:Addr} {ox:Obj} {es:List DictEntry} {as:List (Str × AV)} {n:Nat} {name:Str} {v:Value} {Q:Unit->Shared->Prop} (X:K.In s.heap) (I:InstAt s.heap x ox C (some (dictOf es n))) (hd:ox.dict=some dx) (hD:s.heap.get? dx=some (dictOf es n)) (hk:Keys es as)
  (T:WQ K C name) (hz:(putL name (PyData.keyHash w.params name) (.str name (s.toks+1)) v es).length<=1000)
  (h:Q () { s with heap:=s.heap.update dx (Obj.putName name (PyData.keyHash w.params name) (.str name (s.toks+1)) v),toks:=s.toks+2 }):wpAny (model prog w) A (setAttr (.ref x) name v) Q Er s:=by
 obtain ⟨hp,g,dr,tk,os⟩:=s;dsimp only at X I hD hz h;refine set_plain (s:=⟨hp,g,dr,tk,os⟩) X I T.sa ?_;have SF:=PySem.F.store_object;obtain ⟨cd,hc,hdd,hr⟩:=T.mro;have sub:Looks (model prog w) hp (isInstance (.ref x) (.type "object")) true:=I.type.andThen (looks_mroIn X T.top);refine codeAny_call_builtin SF.slot.plain SF.entry (@check_slot (model prog w) _ _ ⟨hp,g,dr,tk+1,os⟩ "object.__setattr__" "object" "__setattr__" (.ref x) [.str name tk,v] [] _ SF.kind SF.split sub (SF.args (.ref x) (.str name tk) v) ?_);have hm:Looks (model prog w) hp (mroOf (.ref C)) cd.mro:=(looks_clsIn X hc).andThen .now;rw [osa_eq,refuse_eq];refine Ua (Ua (Looks.at I.type (Ua (Looks.at hm ?_))));rw [hr];refine Ub (Ua (Looks.at I.type (Ua (Looks.at (looks_findIn X T.no) (Ua (Ub ?_))))));have hx:=I.at_;have hcl:=I.cls;obtain ⟨oc,odi,oda,osl⟩:=ox;dsimp only at hcl hd;subst hcl hd;refine Ua (Ub (Ua (Ua (wpAny_loadPart hx (Ua (Looks.at (looks_clsIn X hc) ?_))))));rw [hdd];refine Ub (a:=some dx) (Ua (Ub (Ua ?_)));unfold nsSet;refine Ua (Ua (wpAny_askSetting (Ub (Ua (wpAny_mkText (Ua (wpAny_loadPart hD ?_)))))))
 have c:(!es.toArray.any (·.key.isStr name) && es.toArray.any (·.refKey))=false:=by
  rw [<- Array.any_toList, <- Array.any_toList,List.toList_toArray,hk.plain,Bool.and_false]
 dsimp only;rw [aRefKeyMayBeTheName_at,c];refine wpAny_updatePart hD ?_;have hD':=Heap.get?_update_self (h:=hp) (Obj.putName name (PyData.keyHash w.params name) (.str name (tk+1)) v) hD (by rw [putName_dict]; rfl);refine Ua (wpAny_lookBehind hD' (by rw [putName_dict]; exact pastItsLine_dict (by rw [Uz,sizeLine_eq]; exact ar112 hz)) ?_);exact Ub h
end
section
open PySem PySem.W PyProof.Rows PySem.Calls
noncomputable def AO.setA (name:Str) (a:AV):AO->AO
 | .obj C d as=>.obj C d (setL name a as)
 | .acc C d xs as=>.acc C d xs (setL name a as)
 | o=>o
section
variable {d u:Nat} {env:Env} {loc:Loc} {mem:List (Addr × AO)}
theorem IsI.places {C dx:Addr} {as:List (Str × AV)} {ao:AO} (hi:IsI C dx as ao) (x:Addr):ao.places x=[x,dx]:=by cases hi <;> rfl
theorem IsI.set {C dx:Addr} {as:List (Str × AV)} {ao:AO} (hi:IsI C dx as ao) (name:Str) (a:AV):IsI C dx (setL name a as) (ao.setA name a):=by cases hi <;> constructor
theorem Rel.setAttr {E:Ent} {F:FM} {tmp:List (Value × AV)} {s:Shared} {A:Around} {Er:Value->Shared->Prop} {x C dx:Addr} {ao:AO} {as:List (Str × AV)} {name:Str} {v:Value} {a:AV} {i:Nat} {Q:Unit->Shared->Prop} (R:Rel B E F env loc tmp mem s)
  (hm:mem[i]?=some (x,ao)) (hi:IsI C dx as ao) (T:WQ B.K C name) (hl:as.length<=100) (hv:RV F v a) (h:∀ h' tk,Rel B E F env loc tmp (mem.set i (x,ao.setA name a)) { s with heap:=h',toks:=tk }->Q () { s with heap:=h',toks:=tk }) :
  wpAny (model prog w) A (setAttr (.ref x) name v) Q Er s:=by
 have hmr:=R.mr _ (Uk hm);obtain ⟨ox,es,n,I,hd,hD,hk,hvs⟩:=ZQ hi hmr;have P:=λhsh tk=>put_keys (name:=name) (hsh:=hsh) (tk:=tk) hk hvs hv
 have hne:x≠dx:=by
  have nd:=R.nd;unfold fp at nd;have nd:=(Uy.mp (U3.mp nd).2).2.1
  have:(ao.places x).Nodup:=by
   have z:(Z1 [(x,ao)]).Sublist (Z1 mem):=Zq (by simpa using Uk hm);have:=nd.sublist z;simpa [Z1] using this
  rw [hi.places] at this;simp at this; exact this
 refine set_attr R.inv.kin I hd hD hk T ?_ (h _ _ ?_)
 ·refine Uc (P _ _).1.len ?_;rw [setL_len]; split <;> omega
 ·have hD':=Heap.get?_update_self (h:=s.heap) (Obj.putName name (PyData.keyHash w.params name) (.str name (s.toks+1)) v) hD (by rw [putName_dict]; rfl);rw [putName_dict] at hD';obtain ⟨k1,k2⟩:=P (PyData.keyHash w.params name) (s.toks+1);have D:Yv F (s.heap.update dx (Obj.putName name (PyData.keyHash w.params name) (.str name (s.toks+1)) v)) dx (setL name a as):=⟨_,_,hD',⟨k1.len,k1.key⟩,k2⟩;refine R.setMem hm (by rw [hi.places,(hi.set name a).places]) (λb hb=>?_) ?_
  ·rw [hi.places] at hb;exact Heap.get?_update_other _ _ λe=>hb (by simp [e])
  ·have hx:(s.heap.update dx (Obj.putName name (PyData.keyHash w.params name) (.str name (s.toks+1)) v)).get? x=s.heap.get? x:=Heap.get?_update_other _ _ (Ne.symm hne)
   cases hi with
   | obj=>exact ⟨hx.trans hmr.1,D⟩
   | acc xs=>obtain ⟨⟨vs,k,e,r⟩,_⟩:=hmr; exact ⟨⟨vs,k,hx.trans e,r⟩,D⟩
inductive SetAH (B:Base) (Q:PF) (loc:Loc) (name:Str) (a b:AV) (m:List (Addr × AO)):Prop where
 | mk (x:Addr) (i:Nat) (ao:AO) (C dx:Addr) (as:List (Str × AV)) (e:b=.raw (.ref x)) (hm:m[i]?=some (x,ao)) (hi:IsI C dx as ao) (T:WQ B.K C name) (hl:as.length<=100) (q:Q .next loc (m.set i (x,ao.setA name a)))
theorem Y1 {o value:Expr} {name:Str} {apos pos:Pos} {Q:PF} (hs:swapsWith value (some (.Attribute o name apos)) pos.line env=pure false)
  (h:WE prog w B d u env loc mem value λa m1=>WE prog w B d u env loc m1 o λb m2=>SetAH B Q loc name a b m2) :
  WS prog w B d u env loc mem (.Assign [.Attribute o name apos] value pos) Q:=λA E F tmp s hA R=>by
 refine plainObj_wpAny_Assign_Attribute (Ud (h A E F tmp s hA R) (λv s₁ h₁=>?_) λ_ _ x=>x) hs;obtain ⟨a,m1,F1,k₁,R1,h₁⟩:=h₁;refine Ud (h₁ A E F1 _ s₁ hA R1) (λov s2 h₂=>?_) λ_ _ x=>x;obtain ⟨b,m2,F2,k₂,R₂,x,i,ao,C,dx,as,rfl,hm,hi,T,hl,q⟩:=h₂;have hb:=R₂.top;obtain rfl:=hb.isRaw;exact R₂.pop.pop.setAttr hm hi T hl R₂.pop.top λh' tk R3=>⟨.next,loc,_,F2,k₁.trans k₂, .next,R3,q⟩
end
end
section
open PySem PySem.W PyProof.Rows PySem.Calls Builtin Builtin.ObjectAttr Builtin.List
theorem Xd {A:Around} {Er:Value->Shared->Prop} {s:Shared} {id n:String} {b:Builtin} {self:Value} {rest:List Value} {Q:Value->Shared->Prop} (hk:builtinKind id=some .method\/builtinKind id=some .slot) (hs:splitId id=some ("list", n)) (hp:plainId id=true)
  (he:entryFor table id=some b) (ha:argsOk id ⟨self :: rest, []⟩) (hi:Looks (model prog w) s.heap (isInstance self (.type "list")) true)
  (hc:wpAny (model prog w) A.in1 (b ⟨self :: rest, []⟩) (λfin s'=>∃ v,fin=.done (.ret v)/\Q v s') Er s):wpAny (model prog w) A (call (.builtin id) (self :: rest)) Q Er s:=by
 have hc':=Ud hc (Q':=λfin s'=>match fin with
   | .done f=>(match (Except.ok f:Result) with | .ok (.ret v)=>Q v s' | .ok _=>False | .error e=>Er e s')
   | .again c'=>c'.quiet=true/\codeAny (model prog w) A c' (λr s'=>match r with | .ok (.ret v)=>Q v s' | .ok _=>False | .error e=>Er e s') s')
  (λfin s' h'=>by obtain ⟨v,rfl,hv⟩:=h'; exact hv) λ_ _ h'=>h'
 refine wpAny_call (codeAny_call_builtin hp he ?_);rcases hk with hk | hk
 ·exact kfo_check hk hs hi ha hc'
 ·exact check_slot hk hs hi ha hc'
section
variable {d u:Nat} {env:Env} {loc:Loc} {mem:List (Addr × AO)}
theorem acc_is {E:Ent} {F:FM} {tmp:List (Value × AV)} {s:Shared} {x C dx:Addr} {xs:List AV} {as:List (Str × AV)} (R:Rel B E F env loc tmp mem s) (hm:(x,AO.acc C dx xs as) ∈ mem) (hl:mroIn B.K C (.type "list")=some true):Looks (model prog w) s.heap (isInstance (.ref x) (.type "list")) true:=by
 obtain ⟨ox,es,n,I,_⟩:=ZQ (.acc xs) (R.mr _ hm);exact I.type.andThen (looks_mroIn R.inv.kin hl)
theorem YF {E:Ent} {F:FM} {tmp:List (Value × AV)} {s:Shared} {x C dx:Addr} {xs:List AV} {as:List (Str × AV)} (R:Rel B E F env loc tmp mem s) (hm:(x,AO.acc C dx xs as) ∈ mem):∃ vs n,s.heap.get? x=some { cls:=.ref C,dict:=some dx,data:=.seq vs.toArray n }/\RVs F vs xs:=(R.mr _ hm).1
theorem Rel.setAcc {E:Ent} {F:FM} {tmp:List (Value × AV)} {s:Shared} {x C dx:Addr} {xs ys:List AV} {as:List (Str × AV)} {i:Nat} {h':Heap} {tk:Nat} {vs:List Value} {n:Nat} (R:Rel B E F env loc tmp mem s) (hm:mem[i]?=some (x, .acc C dx xs as))
  (hx:h'.get? x=some { cls:=.ref C,dict:=some dx,data:=.seq vs.toArray n }) (hr:RVs F vs ys) (hs:∀ b,b≠x->h'.get? b=s.heap.get? b):Rel B E F env loc tmp (mem.set i (x, .acc C dx ys as)) { s with heap:=h',toks:=tk }:=by
 have hne:x≠dx:=by
  have nd:=R.nd;unfold fp at nd;have nd:=(Uy.mp (U3.mp nd).2).2.1;have z:(Z1 [(x,AO.acc C dx xs as)]).Sublist (Z1 mem):=Zq (by simpa using Uk hm);have:=nd.sublist z;simp [Z1,AO.places] at this;exact this
 obtain ⟨_,D⟩:=R.mr _ (Uk hm);refine R.setMem hm rfl (λb hb=>hs b λe=>hb (by simp [AO.places,e])) ⟨⟨vs,n,hx,hr⟩,D.at' (hs dx (Ne.symm hne))⟩
theorem c_accAppend {x C dx:Addr} {xs:List AV} {as:List (Str × AV)} {y:AV} {Q:PE} (i:Nat) (hi:mem[i]?=some (x, .acc C dx xs as)) (hK:mroIn B.K C (.type "list")=some true) (hl:xs.length<=2 ^ 20) (q:Q .none (mem.set i (x, .acc C dx (xs++[y]) as))) :
  CALL prog w B d u env loc (.raw (.builtin "list.append")) [.raw (.ref x),y] [] mem Q:=λA E F tmp s fv vs kvs hA R hf ha hk=>by
 obtain rfl:=hf.isRaw;obtain rfl:=hk.n0;obtain ⟨v1,v2,rfl,r1,r2⟩:=ha.n2;obtain rfl:=r1.isRaw;obtain ⟨vs,n,e,r⟩:=YF R (Uk hi);have hlen:=r.length
 have hz:vs.toArray.size<=sizeLine:=by
  show vs.toArray.size<=2 ^ 24;rw [Uz,hlen]; exact Uc hl (by decide)
 refine Xd (n := "append") (.inl (by decide +kernel)) (by decide +kernel) (by decide +kernel) entry_list_append (args_list_append _ _) (acc_is R (Uk hi) hK) ?_;show wpAny _ _ (updateSeq x (·.push v2) >>= λ_=>ret .none) _ _ s;refine Ua (wpAny_updateSeq e rfl (Ub ⟨.none,rfl,?_⟩) hz (by rw [Array.size_push]; exact T7 hz));have up:=Heap.get?_update_self (h:=s.heap) (Obj.mapSeq (·.push v2)) e (by simp [Obj.mapSeq]; rfl);refine ⟨.none,_,F, .refl F, .none,R.setAcc (vs:=vs++[v2]) (n:=n+1) (tk:=s.toks) hi (up.trans ?_) (r.append (.one r2)) (λb hb=>Heap.get?_update_other _ _ (Ne.symm hb)),q⟩;simp [Obj.mapSeq]
end
end
section
open PySem PySem.W PyProof.Rows PySem.Calls Builtin Builtin.ObjectAttr Builtin.List
theorem slot_lga:Slot "list" "__getattribute__" "list.__getattribute__" := .of (owner := "list") (n := "__getattribute__") (by rw [typeLookup_type,builtinLookup_eq_fast]; kernel_rfl) (by decide +kernel) (by decide +kernel) (by decide +kernel)
 (by first | exact .inl (by decide +kernel) | exact .inr (by decide +kernel)) (by rw [isSubtype_type]; kernel_rfl)
theorem args_lga (a b:Value):argsOk "list.__getattribute__" ⟨[a,b], []⟩:=by unfold argsOk; kernel_rfl
section
variable {d u:Nat} {env:Env} {loc:Loc} {mem:List (Addr × AO)}
theorem geta_acc {x C dx:Addr} {xs:List AV} {as:List (Str × AV)} {name:Str} {c:AV} {attr:Option Value} {K:Frag} (hB:B.K=K) (hm:(x,AO.acc C dx xs as) ∈ mem) (hl:as.lookup name=some c) (hc:Hand c)
  (hg:findIn K (.ref C) "__getattribute__" = some (some (.builtin "list.__getattribute__"))) (hno:findIn K (.ref C) "__getattr__" = some none) (hli:mroIn K C (.type "list")=some true) (hh:hasDictIn K C=true) (ha:findIn K (.ref C) name=some attr) (hn:noGet K attr=true) :
  GETA prog w B mem (.raw (.ref x)) name c:=λA E F env loc tmp s v expr hA hv R Q q=>by
 subst hB;obtain rfl:=hv.isRaw;have hi:=acc_is R hm hli;obtain ⟨ox,es,n,I,hd,hD,hk,hv⟩:=ZQ (.acc xs) (R.mr _ hm);obtain ⟨v,e1,e2⟩:=hv name c hl;have X:=R.inv.kin;have L0:=I.type (M:=model prog w);have L1:=looks_findIn (M:=model prog w) X hg;have L2:=looks_findIn (M:=model prog w) X hno;have L3:=looks_find (M:=model prog w) X I (findObj_own hh ha hn e1);have q':=q v (s.toks+1) (Tr _) e2;obtain ⟨hp,g,dr,tk,os⟩:=s;unfold getAttr getAttrBy;refine Ua (wpAny_mkText (wpAny_holding (Ua (L0.at (Ua (L1.at ?_))))));dsimp only;rw [if_neg (by simp [onTheHeap])];unfold getAttrByItsOwn;refine Ua (m:=hookBefore (.ref C)) (L2.at (Ua (wpAny_attempt (wpAny_holding ?_))));unfold callGetattribute;rw [if_neg (by simp [onTheHeap])];unfold boundAndCalled;rw [slot_lga.bind];refine Ua (Ub ?_);show wpAny _ _ (call (.builtin "list.__getattribute__") [.ref x, .str name tk]) _ _ _;refine Xd (n := "__getattribute__") (.inr (by decide +kernel)) (by decide +kernel) (by decide +kernel) PySem.am_entry_list_getattribute (args_lga _ _) (s:=⟨hp,g,dr,tk+1,os⟩) hi ?_;refine Ua (Ub (Ua (Ub (Ua (L0.at (Ua (L3.at (Ub ⟨v,rfl,?_⟩))))))));show wpAny _ _ (handedOut v) _ _ _;rw [handedOut_of (hc.of e2)];exact Ub q'
end
end
section
open PySem PySem.W PyProof.Rows PySem.Calls Builtin Builtin.ObjectAttr Builtin.List
theorem slot_md_get:Slot "method_descriptor" "__get__" "method_descriptor.__get__" := .of (owner := "method_descriptor") (n := "__get__") (by rw [typeLookup_type,builtinLookup_eq_fast]; kernel_rfl) (by decide +kernel) (by decide +kernel) (by decide +kernel)
 (by first | exact .inl (by decide +kernel) | exact .inr (by decide +kernel)) (by rw [isSubtype_type]; kernel_rfl)
theorem Vy:Slot "wrapper_descriptor" "__get__" "wrapper_descriptor.__get__" := .of (owner := "wrapper_descriptor") (n := "__get__") (by rw [typeLookup_type,builtinLookup_eq_fast]; kernel_rfl) (by decide +kernel) (by decide +kernel) (by decide +kernel)
 (by first | exact .inl (by decide +kernel) | exact .inr (by decide +kernel)) (by rw [isSubtype_type]; kernel_rfl)
theorem entry_md_get:entryFor table "method_descriptor.__get__" = some Builtin.«method_descriptor.__get__»:=entryFor_of_tree (by kernel_rfl)
theorem Wv:entryFor table "wrapper_descriptor.__get__" = some Builtin.«wrapper_descriptor.__get__»:=entryFor_of_tree (by kernel_rfl)
theorem args_md_get (a b c:Value):argsOk "method_descriptor.__get__" ⟨[a,b,c], []⟩:=by unfold argsOk; kernel_rfl
theorem VH (a b c:Value):argsOk "wrapper_descriptor.__get__" ⟨[a,b,c], []⟩:=by unfold argsOk; kernel_rfl
section
variable {A:Around} {Er:Value->Shared->Prop} {s:Shared} {x C:Addr} {id:String}
theorem Wf {T:String} {name:Str} {id:String} {b:Builtin} {self:Value} {rest:List Value} {R:Result->Shared->Prop} (h:Slot T name id) (hT:s.TypeIs self T) (hb:entryFor table id=some b)
  (ha:argsOk id ⟨self :: rest, []⟩) (hc:wpAny (model prog w) A.in1 (b ⟨self :: rest, []⟩) (λfin s'=>∃ v,fin=.done (.ret v)/\R (.ok (.ret v)) s') (λe s'=>R (.error e) s') s):codeAny (model prog w) A (.call (.builtin id) ⟨self :: rest, []⟩) R s:=by
 refine codeAny_call_builtin h.plain hb (h.check _ _ _ _ _ _ _ _ hT ha (Ud hc (λfin s' h'=>?_) λ_ _ h'=>h'));obtain ⟨v,rfl,hv⟩:=h'; exact hv
theorem get_pop {R:Result->Shared->Prop} (hi:Looks (model prog w) s.heap (isInstance (.ref x) (.type "list")) true)
  (hq:R (.ok (.ret (.ref s.heap.objs.size))) { s with heap:=s.heap.push { cls:=.type "builtin_function_or_method", data:=.fields #[.builtin "list.pop", .ref x] } }):codeAny (model prog w) A (.call (.builtin "method_descriptor.__get__") ⟨[.builtin "list.pop", .ref x, .ref C], []⟩) R s:=by
 refine Wf slot_md_get (show typeOf (.builtin "list.pop")=pure (.type "method_descriptor") by kernel_rfl) entry_md_get (args_md_get _ _ _) ?_;unfold Builtin.«method_descriptor.__get__»;refine Ua (Ub ?_);show wpAny _ _ (if Manifest.toldItsClass.contains "list.pop" = true then _ else _) _ _ _;rw [if_neg (by decide +kernel)];refine Ua (Ua (wpAny_of_eq (a:=(Str.ofString "pop", Value.type "list")) (by kernel_rfl) ?_));dsimp only;refine Ua (hi.here ?_);rw [if_neg (by decide)];refine Ub (Ua ?_);exact wpAny_newObj_type (Ub ⟨_,rfl,hq⟩) (by size_fits)
theorem get_len {R:Result->Shared->Prop} (hi:Looks (model prog w) s.heap (isInstance (.ref x) (.type "list")) true)
  (hq:R (.ok (.ret (.ref s.heap.objs.size))) { s with heap:=s.heap.push { cls:=.type "method-wrapper", data:=.fields #[.builtin "list.__len__", .ref x] } }):codeAny (model prog w) A (.call (.builtin "wrapper_descriptor.__get__") ⟨[.builtin "list.__len__", .ref x, .ref C], []⟩) R s:=by
 refine Wf Vy (show typeOf (.builtin "list.__len__")=pure (.type "wrapper_descriptor") by kernel_rfl) Wv (VH _ _ _) ?_;unfold Builtin.«wrapper_descriptor.__get__»;refine Ua (Ub ?_);refine Ua (Ua (wpAny_of_eq (a:=(Str.ofString "__len__", Value.type "list")) (by kernel_rfl) ?_));dsimp only;refine Ua (hi.here ?_);rw [if_neg (by decide)];refine Ub (Ua ?_);exact wpAny_newObj_type (Ub ⟨_,rfl,hq⟩) (by size_fits)
theorem get_init {R:Result->Shared->Prop} (hi:Looks (model prog w) s.heap (isInstance (.ref x) (.type "list")) true)
  (hq:R (.ok (.ret (.ref s.heap.objs.size))) { s with heap:=s.heap.push { cls:=.type "method-wrapper", data:=.fields #[.builtin "list.__init__", .ref x] } }):codeAny (model prog w) A (.call (.builtin "wrapper_descriptor.__get__") ⟨[.builtin "list.__init__", .ref x, .ref C], []⟩) R s:=by
 refine Wf Vy (show typeOf (.builtin "list.__init__")=pure (.type "wrapper_descriptor") by kernel_rfl) Wv (VH _ _ _) ?_;unfold Builtin.«wrapper_descriptor.__get__»;refine Ua (Ub ?_);refine Ua (Ua (wpAny_of_eq (a:=(Str.ofString "__init__", Value.type "list")) (by kernel_rfl) ?_));dsimp only;refine Ua (hi.here ?_);rw [if_neg (by decide)];refine Ub (Ua ?_);exact wpAny_newObj_type (Ub ⟨_,rfl,hq⟩) (by size_fits)
end
namespace Osupga
noncomputable def Px (A:Around) (Er:Value->Shared->Prop) (h:Heap) (g:Array GenState) (d:Drawn) (t:Nat) (os:OsState) (so D x C:Addr) (id gid dt:String) (l₀ l:List Value) (K:Frag) (name:Str) (tk:Tok) (Q:Fin->Shared->Prop) (P:Value->Shared->Prop):Prop:=∀ (hso:h.get? so=some (ks_superObj D x C)) (hno:Looks (model prog w) h (opaqueClassAbove (.ref C)) none) (hC:Looks (model prog w) h (mroOf (.ref C)) l₀) (hl:(l₀.dropWhile (· != .ref D)).drop 1=l) (X:K.In h) (hf:alongIn K name l=some (some (.builtin id))) (ht:typeOf (.builtin id)=pure (.type dt)) (hg:typeLookup (.type dt) "__get__" = pure (some (.builtin gid))) (hxC:x≠C) (hn:(name == ("__class__" : Str))=false) (hcall:∀ (A:Around) (R:Result->Shared->Prop),(∀ v s',P v s'->R (.ok (.ret v)) s')->codeAny (model prog w) A (.call (.builtin gid) ⟨[.builtin id, .ref x, .ref C], []⟩) R ⟨h,g,d,t,os⟩) (hq:∀ v s',P v s'->Q (.done (.ret v)) s'),wpAny (model prog w) A (Builtin.«super.__getattribute__» ⟨[.ref so, .str name tk], []⟩) Q Er ⟨h,g,d,t,os⟩
noncomputable def Rx (p:Around × (Value->Shared->Prop) × Heap × Array GenState × Drawn × Nat × OsState × Addr × Addr × Addr × Addr × String × String × String × List Value × List Value × Frag × Str × Tok × (Fin->Shared->Prop) × (Value->Shared->Prop)):Prop:=Px p.1 p.2.1 p.2.2.1 p.2.2.2.1 p.2.2.2.2.1 p.2.2.2.2.2.1 p.2.2.2.2.2.2.1 p.2.2.2.2.2.2.2.1 p.2.2.2.2.2.2.2.2.1 p.2.2.2.2.2.2.2.2.2.1 p.2.2.2.2.2.2.2.2.2.2.1 p.2.2.2.2.2.2.2.2.2.2.2.1 p.2.2.2.2.2.2.2.2.2.2.2.2.1 p.2.2.2.2.2.2.2.2.2.2.2.2.2.1 p.2.2.2.2.2.2.2.2.2.2.2.2.2.2.1 p.2.2.2.2.2.2.2.2.2.2.2.2.2.2.2.1 p.2.2.2.2.2.2.2.2.2.2.2.2.2.2.2.2.1 p.2.2.2.2.2.2.2.2.2.2.2.2.2.2.2.2.2.1 p.2.2.2.2.2.2.2.2.2.2.2.2.2.2.2.2.2.2.1 p.2.2.2.2.2.2.2.2.2.2.2.2.2.2.2.2.2.2.2.1 p.2.2.2.2.2.2.2.2.2.2.2.2.2.2.2.2.2.2.2.2
noncomputable section
def cx:=eps (neP neA (neP neR (neP neI (neP neAr (neP neDr (neP neNt (neP neI (neP neNt (neP neNt (neP neNt (neP neNt (neP neI (neP neI (neP neI (neP neL (neP neL (neP neL (neP neI (neP neI (neP neR neR)))))))))))))))))))) Rx
def A:=cx.1
def Er:=cx.2.1
def h:=cx.2.2.1
def g:=cx.2.2.2.1
def d:=cx.2.2.2.2.1
def t:=cx.2.2.2.2.2.1
def os:=cx.2.2.2.2.2.2.1
def so:=cx.2.2.2.2.2.2.2.1
def D:=cx.2.2.2.2.2.2.2.2.1
def x:=cx.2.2.2.2.2.2.2.2.2.1
def C:=cx.2.2.2.2.2.2.2.2.2.2.1
def id:=cx.2.2.2.2.2.2.2.2.2.2.2.1
def gid:=cx.2.2.2.2.2.2.2.2.2.2.2.2.1
def dt:=cx.2.2.2.2.2.2.2.2.2.2.2.2.2.1
def l₀:=cx.2.2.2.2.2.2.2.2.2.2.2.2.2.2.1
def l:=cx.2.2.2.2.2.2.2.2.2.2.2.2.2.2.2.1
def K:=cx.2.2.2.2.2.2.2.2.2.2.2.2.2.2.2.2.1
def name:=cx.2.2.2.2.2.2.2.2.2.2.2.2.2.2.2.2.2.1
def tk:=cx.2.2.2.2.2.2.2.2.2.2.2.2.2.2.2.2.2.2.1
def Q:=cx.2.2.2.2.2.2.2.2.2.2.2.2.2.2.2.2.2.2.2.1
def P:=cx.2.2.2.2.2.2.2.2.2.2.2.2.2.2.2.2.2.2.2.2
end
theorem main:Px A Er h g d t os so D x C id gid dt l₀ l K name tk Q P:=by
 intro hso hno hC hl X hf ht hg hxC hn hcall hq;have hne:(Value.ref x == Value.ref C)=false:=by simp [hxC]
 have hdt:(ks_superObj D x C).data=.fields #[.ref D, .ref x, .ref C]:=rfl;have f0:(#[.ref D, .ref x, .ref C]:Array Value)[0]?=some (.ref D):=rfl;have f1:(#[.ref D, .ref x, .ref C]:Array Value)[1]?=some (.ref x):=rfl;have f2:(#[.ref D, .ref x, .ref C]:Array Value)[2]?=some (.ref C):=rfl;unfold Builtin.«super.__getattribute__»
 repeat (first
  | (with_reducible refine wpAny_field hso hdt f0 ?_) | (with_reducible refine wpAny_field hso hdt f1 ?_) | (with_reducible refine wpAny_field hso hdt f2 ?_)
  | (with_reducible refine ks_wpAny_notOpaque hno ?_)
  | (with_reducible refine Looks.at hC ?_; rw [hl])
  | (refine ks_forIn_along X (λ_ _=>rfl) rfl ?_ hf)
  | (simp only [hn,hne,Bool.or_false,U1,if_false])
  | wp_step
  | dsimp only)
 refine hcall _ _ λv s' hp=>?_;exact Ua (Ub (Ub (Ub (hq v s' hp))))
end Osupga
section
variable {A:Around} {Er:Value->Shared->Prop} {h:Heap} {g:Array GenState} {d:Drawn} {t:Nat} {os:OsState}
theorem sup_ga {A Er h g d t os so D x C id gid dt l₀ l K name tk Q P}:Osupga.Px A Er h g d t os so D x C id gid dt l₀ l K name tk Q P:=eps_all Osupga.Rx Osupga.main (A,Er,h,g,d,t,os,so,D,x,C,id,gid,dt,l₀,l,K,name,tk,Q,P)
end
end
section
open PySem PySem.W PyProof.Rows PySem.Calls Builtin Builtin.ObjectAttr Builtin.List
section
variable {A:Around} {Er:Value->Shared->Prop} {h:Heap} {g:Array GenState} {d:Drawn} {t:Nat} {os:OsState}
theorem sup_meth {so D x C:Addr} {id gid dt:String} {l₀ l:List Value} {K:Frag} {name:Str} {pl:Sem Bool} {Q:Value × List Value->Shared->Prop} {P:Value->Shared->Prop}
  (hso:h.get? so=some (ks_superObj D x C)) (hno:Looks (model prog w) h (opaqueClassAbove (.ref C)) none)
  (hC:Looks (model prog w) h (mroOf (.ref C)) l₀) (hl:(l₀.dropWhile (· != .ref D)).drop 1=l) (X:K.In h)
  (hf:alongIn K name l=some (some (.builtin id))) (ht:typeOf (.builtin id)=pure (.type dt)) (hg:typeLookup (.type dt) "__get__" = pure (some (.builtin gid))) (hxC:x≠C) (hn:(name == ("__class__" : Str))=false)
  (hcall:∀ (A:Around) (R:Result->Shared->Prop),(∀ v s',P v s'->R (.ok (.ret v)) s')->codeAny (model prog w) A (.call (.builtin gid) ⟨[.builtin id, .ref x, .ref C], []⟩) R ⟨h,g,d,t+1,os⟩)
  (hq:∀ v s',P v s'->handedIn v=true/\Q (v, []) s'):wpAny (model prog w) A (getMethod (.ref so) name pl) Q Er ⟨h,g,d,t,os⟩:=by
 have hlk:=PySem.F.ks_slot_super_ga.lookup;have hcan:=PySem.F.ks_canon_super_ga;have hT:∀ t',(⟨h,g,d,t',os⟩:Shared).TypeIs (.ref so) "super" := λ_=>⟨_,hso,rfl⟩
 unfold getMethod;refine Ua (wpAny_specialOf (hT _) hlk ?_);show wpAny _ _ (if (Manifest.canonical "super.__getattribute__" != "object.__getattribute__")=true then _ else _) _ _ _;rw [if_pos hcan];unfold getAttr getAttrBy;refine Ua (Ua (wpAny_mkText (wpAny_holding (Ua (wpAny_typeOf (hT _) (Ua (wpAny_of_eq hlk ?_)))))));show wpAny _ _ (getAttrByItsOwn (.ref so) (.str name t) (.type "super") (.builtin "super.__getattribute__") true false) _ _ _;unfold getAttrByItsOwn hookBefore callGetattribute boundAndCalled;refine Ua (wpAny_of_eq (show (if onTheHeap (.type "super") then typeLookup (.type "super") "__getattr__" else pure none)=pure none from rfl) ?_);refine Ua (wpAny_attempt (wpAny_holding ?_));show wpAny _ _ (bindSpecial (.builtin "super.__getattribute__") (.ref so) >>= _) _ _ _;refine Ua (wpAny_of_eq (PySem.F.ks_slot_super_ga.bind _) ?_)
 refine Ud (Q:=λv s'=>P v s') (E:=λ_ _=>False)
  (wpAny_call_entry PySem.F.ks_slot_super_ga (hT _) PySem.F.ks_entry_super_ga (sup_ga hso hno hC hl X hf ht hg hxC hn hcall λv s' hp=>⟨v,rfl,hp⟩) (PySem.F.ks_gaArgs_super _ _)) (λv s' hv=>?_) λ_ _ z=>z.elim
 obtain ⟨h1,h2⟩:=hq v s' hv;show wpAny _ _ (handedOut v) _ _ _;rw [handedOut_of h1];exact Ub (Ub h2)
end
section
variable {A:Around} {Er:Value->Shared->Prop} {s:Shared}
noncomputable def YZ (h:Heap) (q:Addr) (id:String) (x:Addr):Prop:=∃ bt,(bt = "builtin_function_or_method" \/ bt = "method-wrapper")/\h.get? q=some { cls:=.type bt,data:=.fields #[.builtin id, .ref x] }
theorem YZ.keeper {q x:Addr} {id:String} (hb:YZ s.heap q id x):Vj prog w (.ref q) s:=λA Q Er hk=>by
 obtain ⟨bt,hbt,e⟩:=hb;unfold keeperOf;refine Ua (wpAny_load e ?_);rcases hbt with rfl | rfl <;> exact Ub (hk _)
theorem Wh {q x:Addr} {id:String} {b:Builtin} {args:List Value} {Q:Value->Shared->Prop} (hb:YZ s.heap q id x) (hp:plainId id=true) (he:entryFor table id=some b)
  (hc:∀ (A:Around) {Q':Unit->Shared->Prop} {E':Value->Shared->Prop},Q' () s->wpAny (model prog w) A (checkBoundCall id ⟨.ref x :: args, []⟩) Q' E' s)
  (h:wpAny (model prog w) A.in1 (b ⟨.ref x :: args, []⟩) (λfin s'=>∃ v,fin=.done (.ret v)/\Q v s') Er s):wpAny (model prog w) A (call (.ref q) args) Q Er s:=by
 refine wpAny_call (codeAny_of_tree ?_);show wpAny _ A.in1 (callAny (.ref q) _) _ _ _;obtain ⟨bt,hbt,e⟩:=hb;unfold callAny;refine Ua (wpAny_load e ?_);dsimp only;have hc1:(Value.type bt == Value.type "method" || Value.type bt == Value.type "builtin_function_or_method" || Value.type bt == Value.type "method-wrapper")=true:=by rcases hbt with rfl | rfl <;> decide
 have hc2:(Value.type bt != Value.type "method")=true:=by rcases hbt with rfl | rfl <;> decide
 rw [hc1,if_pos rfl];show wpAny _ _ (if (Value.type bt != Value.type "method")=true then _ else _) _ _ _;rw [hc2,if_pos rfl];refine Ua (hc _ (Ua (Ub (Ub ⟨plainId_quiet hp _,codeAny_builtin he ?_⟩))));rw [Around.under_plainId hp _];exact Ud h (λfin s' hf=>by obtain ⟨v,rfl,hv⟩:=hf; exact hv) λ_ _ e=>e
end
end
section
open PySem PySem.W PyProof.Rows PySem.Calls Builtin Builtin.ObjectAttr Builtin.List
theorem Z0l (vs:List Value) (v:Value):(vs++[v]).toArray.eraseIdxIfInBounds vs.length=vs.toArray:=by
 unfold Array.eraseIdxIfInBounds;rw [dif_pos (by simp -iota)];apply Array.ext';rw [Array.toList_eraseIdx];simp -iota [List.eraseIdx_append_of_length_le]
section
variable {A:Around} {Er:Value->Shared->Prop} {s:Shared} {x C:Addr} {o:Obj} {vs:List Value} {n:Nat}
theorem chk_len {M:Model} {Q:Unit->Shared->Prop} (q:Q () s):wpAny M A (checkBoundCall "list.__len__" ⟨[.ref x], []⟩) Q Er s:=wpAny_of_eq (show checkBoundCall "list.__len__" ⟨[.ref x], []⟩=pure () by kernel_rfl) q
theorem chk_init {M:Model} {Q:Unit->Shared->Prop} (q:Q () s):wpAny M A (checkBoundCall "list.__init__" ⟨[.ref x], []⟩) Q Er s:=wpAny_of_eq (show checkBoundCall "list.__init__" ⟨[.ref x], []⟩=pure () by kernel_rfl) q
theorem args_pop (sig:Manifest.Signature) (h:Manifest.signature? "list.pop" = some sig):Bind.checkArgs "list.pop" { sig with full:=(toString (Str.ofString "_Accumulator").toString++toString "." ++ toString (Bind.lastOf "list.pop")) } ⟨[.ref x], []⟩=pure ():=by
 have e:(Manifest.signature? "list.pop").map (λsig=>Bind.checkArgs "list.pop" { sig with full:=(toString (Str.ofString "_Accumulator").toString++toString "." ++ toString (Bind.lastOf "list.pop")) } ⟨[.ref x], []⟩)=some (pure ()):=by kernel_rfl
 rw [h] at e;exact Up.inj e
theorem chk_pop {K:Frag} {cd:ClassData} {Q:Unit->Shared->Prop} (X:K.In s.heap) {od:Option Obj} (I:InstAt s.heap x o C od) (hm:mroIn K C (.type "module")=some false) (hc:clsIn K C=some cd) (hq:cd.qualname=Str.ofString "_Accumulator") (ht:typeIn K (.ref C)=some (.type "type")) (q:Q () s) :
  wpAny (model prog w) A (checkBoundCall "list.pop" ⟨[.ref x], []⟩) Q Er s:=by
 unfold checkBoundCall
 cases hsig:Manifest.signature? "list.pop" with
 | none=>exact Ub q
 | some sig =>
  have ha:=args_pop (x:=x) sig hsig;have hk:builtinKind "list.pop" = some .method:=by decide +kernel
  have hv:Manifest.varargsMethods.contains "list.pop" = false:=by decide +kernel
  have hi:Looks (model prog w) s.heap (isInstance (.ref x) (.type "module")) false:=I.type.andThen (looks_mroIn X hm);obtain ⟨hp,g,dr,tk,os⟩:=s;simp -iota only [hk];show wpAny _ _ (if _ then _ else _) _ _ _;rw [if_neg (by decide)];refine Ua (hi.at ?_);rw [hv];show wpAny _ _ (if _ then _ else _) _ _ _;rw [if_neg (by decide)];refine Ua (ks_wpAny_isType_inst I.at_ (λc e=>?_) ?_)
  ·have:=I.no; unfold notCls at this; rw [e] at this; exact no_ft this
  rw [if_neg (by decide)];refine Ua (I.type.at ?_);dsimp only;refine Ua ((looks_clsIn X hc).at (Ua ((looks_typeIn X ht).at ?_)));rw [if_pos (by decide),hq,ha];exact Ub q
theorem run_len {Q:Fin->Shared->Prop} (e:s.heap.get? x=some o) (hd:o.data=.seq vs.toArray n) (q:∀ tk tk',Q (.done (.ret (.int vs.length tk))) { s with toks:=tk' }):wpAny (model prog w) A (Builtin.«list.__len__» ⟨[.ref x], []⟩) Q Er s:=by
 show wpAny _ _ (seqSize x >>= λn=>retInt n) _ _ s;unfold seqSize;refine Ua (Ua (wpAny_loadPart e ?_));rw [hd];refine Ub ?_;rw [Uz];unfold retInt;refine Ua (wpAny_mkInt (Ub (q _ _)))
theorem run_init {Q:Fin->Shared->Prop} (e:s.heap.get? x=some o) (hd:o.data=.seq #[] n) (q:Q (.done (.ret .none)) { s with heap:=s.heap.update x (Obj.mapSeq λ_=>#[]) }):wpAny (model prog w) A (Builtin.«list.__init__» ⟨[.ref x], []⟩) Q Er s:=by
 show wpAny _ _ (listItems (.ref x) >>= λold=>updateSeq x (λ_=>#[]) >>= λ_=>letGo old.toList.reverse >>= λ_=>ret .none) _ _ s;unfold listItems;refine Ua (Ua (wpAny_seqItems e hd (Ub ?_)));refine Ua (wpAny_updateSeq e hd ?_ (by decide) (by decide));refine Ua (wpAny_of_eq (show letGo (#[]:Array Value).toList.reverse=pure () by kernel_rfl) (Ub q))
theorem run_pop {Q:Fin->Shared->Prop} {v:Value} (e:s.heap.get? x=some o) (hd:o.data=.seq (vs++[v]).toArray n) (hz:vs.length<=2 ^ 20) (q:Q (.done (.ret v)) { s with heap:=s.heap.update x (Obj.mapSeq (·.eraseIdxIfInBounds vs.length)) }):wpAny (model prog w) A (Builtin.«list.pop» ⟨[.ref x], []⟩) Q Er s:=by
 unfold Builtin.«list.pop»;refine Ua (wpAny_of_eq (a:=(Value.ref x, [])) (by first | rfl | kernel_rfl!) ?_);dsimp only;refine Ua (Ub ?_);rw [if_neg (by decide)];unfold listItems;refine Ua (Ua (wpAny_seqItems e hd (Ub ?_)));rw [if_neg (by simp -iota)]
 have hk:((seqIndex? (-1) (vs++[v]).toArray.size).bind λk=>(vs++[v]).toArray[k]?.map (k, ·))=some (vs.length,v):=by
  have:seqIndex? (-1) (vs++[v]).toArray.size=some vs.length:=by
   unfold seqIndex?;rw [if_pos (show (-1:Int) < 0 by decide)];simp -iota;exact ar164 hz
  rw [this];simp -iota
 rw [hk];exact Ua (wpAny_updateSeq e hd (Ub q) (by show _<=2 ^ 24; simp -iota; exact leb hz rfl) (by show _<=2 ^ 24+1; rw [Z0l]; simp -iota; exact leb hz rfl))
end
end
section
open PySem PySem.W PyProof.Rows PySem.Calls Builtin Builtin.ObjectAttr Builtin.List
noncomputable def WBa (prog:Program) (w:World) (B:Base) (d u:Nat) (body:List Stmt) (env:Env) (loc:Loc) (mem:List (Addr × AO)) (sts:List Stmt) (Q:PF):Prop :=
 ∀ A E F tmp s,AOK d u A->Rel B E F env loc tmp mem s->PySem.wpAt (model prog w) A (.func body env) (execs sts env) (PoS B E F env tmp Q) FF s
noncomputable def WEa (prog:Program) (w:World) (B:Base) (d u:Nat) (body:List Stmt) (env:Env) (loc:Loc) (mem:List (Addr × AO)) (e:Expr) (Q:PE):Prop :=
 ∀ A E F tmp s,AOK d u A->Rel B E F env loc tmp mem s->PySem.wpAt (model prog w) A (.func body env) (eval e env) (PoE B E F env loc tmp Q) FF s
section
variable {d u:Nat} {body:List Stmt} {env:Env} {loc:Loc} {mem:List (Addr × AO)}
theorem ba_cons {st:Stmt} {r:List Stmt} {Q:PF} (h:WS prog w B d u env loc mem st (SeqP (λloc1 mem1=>WBa prog w B d u body env loc1 mem1 r Q) Q)):WBa prog w B d u body env loc mem (st :: r) Q:=λA E F tmp s hA R=>by
 refine ks_wpAt_execs_cons (PySem.wpAt_of_wpAny (Ud (h A E F tmp s hA R) (λf s₁ h₁=>?_) λ_ _ x=>x));obtain ⟨af,loc1,mem1,F1,k₁,rf,R1,h₁⟩:=h₁
 cases rf with
 | next=>exact PySem.wpAt_mono (h₁ A E F1 tmp s₁ hA R1) (λ_ _ x=>x.up k₁) λ_ _ x=>x
 | brk=>exact ⟨_,loc1,mem1,F1,k₁, .brk,R1,h₁⟩
 | cont=>exact ⟨_,loc1,mem1,F1,k₁, .cont,R1,h₁⟩
 | ret hv=>exact ⟨_,loc1,mem1,F1,k₁, .ret hv,R1,h₁⟩
theorem ba_ret {e:Expr} {pos:Pos} {Q:PF} (h:WEa prog w B d u body env loc mem e λa mem1=>Q (.ret a) loc mem1):WBa prog w B d u body env loc mem [.Return (some e) pos] Q:=λA E F tmp s hA R=>by
 refine ks_wpAt_execs_cons (ks_wpAt_Return_some (PySem.wpAt_mono (h A E F tmp s hA R) (λv s₁ h₁=>?_) λ_ _ x=>x));obtain ⟨a,mem1,F1,k₁,R1,q⟩:=h₁;exact ⟨_,loc,mem1,F1,k₁, .ret R1.top,R1.pop,q⟩
theorem ba_expr {e:Expr} {pos:Pos} {Q:PF} (hi:interactive env=false) (hs:swapsWith e none pos.line env=pure false) (h:WEa prog w B d u body env loc mem e λa mem1=>Q .next loc mem1):WBa prog w B d u body env loc mem [.Expr e pos] Q:=λA E F tmp s hA R=>by
 refine ks_wpAt_execs_cons (ks_wpAt_Expr_any (PySem.wpAt_mono (h A E F tmp s hA R) (λv s₁ h₁=>?_) λ_ _ x=>x) hi hs);obtain ⟨a,mem1,F1,k₁,R1,q⟩:=h₁;exact PySem.wpAt_of_wpAny (wpAny_execs_nil ⟨_,loc,mem1,F1,k₁, .next,R1.pop,q⟩)
theorem fn_goS {K:Frag} {fa:Addr} {oc:Value} {od:Option Addr} {osl:Array (Option Value)} {name qual:Str} {params:Arguments} {scope:Scope} {dV kV doc pm cdv ct:Value} {an:Option Addr} {clo:List (Str × Addr)}
  {as:List AV} {ks:List (Str × AV)} {P:PR3} (hB:B.K=K) (D:Option (Arguments × List Stmt × Scope)) (bs:List (Str × AV)) (hst:D=some (params,body,scope))
  (hK:K.lookup fa=some ⟨oc,od, .func (fnX name qual params body scope clo dV kV doc pm an cdv ct),osl⟩) (hcd:codeIn K cdv qual=true) (hd:d+1 < recursionLimit)
  (hbind:∀ F vs kvs,RVs F vs as->KR F kvs ks->∃ binds,(∀ S,peek K S (bindArgs (fnX name qual params body scope clo dV kV doc pm an cdv ct) ⟨vs,kvs⟩)=some binds)/\KR F binds bs)
  (hsb:∀ L,VC (envF qual scope L fa cdv clo) bs) (hclo:∀ p ∈ clo,scope.names.lookup p.1≠some .cell)
  (hco:scope.isCoroutine=false) (hgen:scope.isGenerator=false) (hk:scope.kind=.function) (hsub:Sub bs (YE [] bs))
  (hb:∀ L,WBa prog w B (d+1) (u+3) body (envF qual scope L fa cdv clo) bs mem body (PB3 mem P)) :
  FN prog w B d u (.ref fa) as ks mem P:=λA F s vs kvs hA I hn hF hT hTF ha hkw hm=>by
 subst hB;obtain ⟨binds,hbd,hkr⟩:=hbind F vs kvs ha hkw;refine wpAny_call ?_;refine codeAny_call_function (fd:=fnX name qual params body scope clo dV kV doc pm an cdv ct) (body:=body) (Uo hA.dp (S7 hd)) (I.kin _ _ hK) rfl hco hgen rfl (codeRec_of I.kin hcd) (kp_binds I.kin hbd _ _ _ _ ?_);refine Xn [] I hn hF hT hTF hm hkr hk (λL=>(hsb L).get) hclo (λ_ h=>nomatch h) (λ_ _ _ h=>nomatch h) λL s' R=>⟨R.inv.lim,ks_codeAny_funcAt ?_⟩
 refine PySem.wpAt_mono (hb L _ _ _ _ _ (hA.deeper _) (R.less hsub.get)) (λf s' h'=>?_) λ_ _ x=>x.elim;obtain ⟨af,loc',mem',F',k',rf,R',m,ex,hsub,epl,q⟩:=h'
 cases rf with
 | next=>exact ⟨_,m,ex,F',XC k' R' hsub epl .none,q⟩
 | brk=>exact q.elim
 | cont=>exact q.elim
 | ret hv=>exact ⟨_,m,ex,F',XC k' R' hsub epl hv,q⟩
end
structure SupIn (prog:Program) (K:Frag) (env:Env) (f C cc:Addr) (x:Str):Prop where
 ks:env.kindOf "super" = some .globalImplicit
 kc:env.kindOf "__class__" = some .free
 kx:env.kindOf x=some .local
 fu:env.func=some f
 fn:∃ of fd ar,K.lookup f=some of/\of.data=.func fd/\(fd.params.posonlyargs++fd.params.args).head?=some ar/\ar.arg=x
 co:∃ c oc vs file tf,env.code=.ref c/\K.lookup c=some oc/\oc.data=.fields vs/\vs[2]?=some (.str file tf)/\((prog.main.file:Str) == file)=true
 top:(prog.main.scope.names.lookup ("super" : Str)).isSome=false
 no:nsIn K mainGlobals "super" = some none
 ce:env.cells.lookup ("__class__" : Str)=some cc/\∃ o,K.lookup cc=some o/\o.data=.cell (some (.ref C))
 sub:mroIn K C (.ref C)=some true
 li:mroIn K C (.type "list")=some true
 op:nsIn K cStatics "thirdparty.any" = some none
structure SupFn (K:Frag) (C:Addr) (name:Str) (id gid dt:String):Prop where
 cd:∃ cd l,clsIn K C=some cd/\(cd.mro.dropWhile (· != .ref C)).drop 1=l/\alongIn K name l=some (some (.builtin id))
 ty:typeOf (.builtin id)=pure (.type dt)
 get:typeLookup (.type dt) "__get__" = pure (some (.builtin gid))
 nc:(name == ("__class__" : Str))=false
end
section
open PySem PySem.W PyProof.Rows PySem.Calls Builtin Builtin.ObjectAttr Builtin.List
namespace Oeasuper
noncomputable def Px (d u:Nat) (body:List Stmt) (env:Env) (loc:Loc) (mem:List (Addr × AO)) (f C cc x dx:Addr) (v name:Str) (id gid dt:String) (xs:List AV) (as:List (Str × AV)) (p0 p1 apos pos:Pos) (Q:PE):Prop:=∀ {K:Frag} (hB:B.K=K) (S:SupIn prog K env f C cc v) (T:SupFn K C name id gid dt) (hv:loc.lookup v=some (.raw (.ref x))) (hm:(x,AO.acc C dx xs as) ∈ mem) (hget:∀ (A:Around) (s:Shared) (R:Result->Shared->Prop),Looks (model prog w) s.heap (isInstance (.ref x) (.type "list")) true ->
   (∀ h' q,YZ h' q id x->(∀ b o,s.heap.get? b=some o->h'.get? b=some o)->R (.ok (.ret (.ref q))) { s with heap:=h' })->codeAny (model prog w) A (.call (.builtin gid) ⟨[.builtin id, .ref x, .ref C], []⟩) R s) (he:eval (.Call (.Attribute (.Call (.Name "super" p0) [] [] p1) name apos) [] [] pos) env=(do
   let ov <- attributeBase (.Call (.Name "super" p0) [] [] p1) name env (eval (.Call (.Name "super" p0) [] [] p1) env)
   standAt apos.atName
   let (f,first) <- holding [ov] (getMethod ov name (pure false))
   callWith pos f first (backTo pos (starEach [] env)) [])) (h:∀ A E F tmp s q,AOK d u A->Rel B E F env loc tmp mem s->YZ s.heap q id x->wpAny (model prog w) A (call (.ref q) []) (PoC B E F env loc tmp Q) FF s),WEa prog w B d u body env loc mem (.Call (.Attribute (.Call (.Name "super" p0) [] [] p1) name apos) [] [] pos) Q
noncomputable def Rx (p:Nat × Nat × List Stmt × Env × Loc × (List (Addr × AO)) × Addr × Addr × Addr × Addr × Addr × Str × Str × String × String × String × List AV × (List (Str × AV)) × Pos × Pos × Pos × Pos × PE):Prop:=Px p.1 p.2.1 p.2.2.1 p.2.2.2.1 p.2.2.2.2.1 p.2.2.2.2.2.1 p.2.2.2.2.2.2.1 p.2.2.2.2.2.2.2.1 p.2.2.2.2.2.2.2.2.1 p.2.2.2.2.2.2.2.2.2.1 p.2.2.2.2.2.2.2.2.2.2.1 p.2.2.2.2.2.2.2.2.2.2.2.1 p.2.2.2.2.2.2.2.2.2.2.2.2.1 p.2.2.2.2.2.2.2.2.2.2.2.2.2.1 p.2.2.2.2.2.2.2.2.2.2.2.2.2.2.1 p.2.2.2.2.2.2.2.2.2.2.2.2.2.2.2.1 p.2.2.2.2.2.2.2.2.2.2.2.2.2.2.2.2.1 p.2.2.2.2.2.2.2.2.2.2.2.2.2.2.2.2.2.1 p.2.2.2.2.2.2.2.2.2.2.2.2.2.2.2.2.2.2.1 p.2.2.2.2.2.2.2.2.2.2.2.2.2.2.2.2.2.2.2.1 p.2.2.2.2.2.2.2.2.2.2.2.2.2.2.2.2.2.2.2.2.1 p.2.2.2.2.2.2.2.2.2.2.2.2.2.2.2.2.2.2.2.2.2.1 p.2.2.2.2.2.2.2.2.2.2.2.2.2.2.2.2.2.2.2.2.2.2
noncomputable section
def cx:=eps (neP neNt (neP neNt (neP neL (neP neI (neP neL (neP neL (neP neNt (neP neNt (neP neNt (neP neNt (neP neNt (neP neI (neP neI (neP neI (neP neI (neP neI (neP neL (neP neL (neP neI (neP neI (neP neI (neP neI (inferInstance:Nonempty (PE)))))))))))))))))))))))) Rx
def d:=cx.1
def u:=cx.2.1
def body:=cx.2.2.1
def env:=cx.2.2.2.1
def loc:=cx.2.2.2.2.1
def mem:=cx.2.2.2.2.2.1
def f:=cx.2.2.2.2.2.2.1
def C:=cx.2.2.2.2.2.2.2.1
def cc:=cx.2.2.2.2.2.2.2.2.1
def x:=cx.2.2.2.2.2.2.2.2.2.1
def dx:=cx.2.2.2.2.2.2.2.2.2.2.1
def v:=cx.2.2.2.2.2.2.2.2.2.2.2.1
def name:=cx.2.2.2.2.2.2.2.2.2.2.2.2.1
def id:=cx.2.2.2.2.2.2.2.2.2.2.2.2.2.1
def gid:=cx.2.2.2.2.2.2.2.2.2.2.2.2.2.2.1
def dt:=cx.2.2.2.2.2.2.2.2.2.2.2.2.2.2.2.1
def xs:=cx.2.2.2.2.2.2.2.2.2.2.2.2.2.2.2.2.1
def as:=cx.2.2.2.2.2.2.2.2.2.2.2.2.2.2.2.2.2.1
def p0:=cx.2.2.2.2.2.2.2.2.2.2.2.2.2.2.2.2.2.2.1
def p1:=cx.2.2.2.2.2.2.2.2.2.2.2.2.2.2.2.2.2.2.2.1
def apos:=cx.2.2.2.2.2.2.2.2.2.2.2.2.2.2.2.2.2.2.2.2.1
def pos:=cx.2.2.2.2.2.2.2.2.2.2.2.2.2.2.2.2.2.2.2.2.2.1
def Q:=cx.2.2.2.2.2.2.2.2.2.2.2.2.2.2.2.2.2.2.2.2.2.2
end
theorem main:Px d u body env loc mem f C cc x dx v name id gid dt xs as p0 p1 apos pos Q:=by
 intro K hB S T hv hm hget he h;intro A E F tmp s hA R;subst hB;have X:=R.inv.kin;obtain ⟨of,fd,ar,hf,hfd,hp,harv⟩:=S.fn;obtain ⟨c,oc,vs,file,tf,hco,hcc,hoc,hvs,hfile⟩:=S.co;obtain ⟨hcl,ocell,hce,hcd⟩:=S.ce;obtain ⟨cd,l,hc,hl,hal⟩:=T.cd
 have ho:∃ oD,B.K.lookup C=some oD/\oD.data=.cls cd:=by
  unfold clsIn at hc
  split at hc
  ·rename_i ho; obtain rfl:=Up.inj hc; exact ⟨_,ho,rfl⟩
  ·exact Z6 hc
 obtain ⟨oD,hoD,hoDd⟩:=ho;refine ks_wpAt_MethodCall (pl:=pure false) (ks_wpAt_super_base S.ks S.kc T.nc S.fu (X _ _ hf) hfd hp hco (X _ _ hcc) hoc hvs hfile S.top ?_) he;refine ks_loadName_global R.fr.kind S.ks (loadGlobal_builtin (by rw [R.fr.glob]; exact R.inv.g) (mg_none_of R.inv.ok.kin R.inv.ok.g S.no) (by rw [R.fr.blt]; exact R.inv.b) ((R.inv.ok.bi _ (by decide)).trans bf_super) ⟨rfl,?_⟩);refine wpAny_loadName_free R.fr.kind S.kc hcl ⟨_,X _ _ hce,hcd⟩ ?_;refine XD R (.inl (harv ▸ S.kx)) (harv ▸ hv) λv' rv=>?_;obtain rfl:=rv.isRaw;obtain ⟨ox,es,n,I,hd,hD,hk,hvs'⟩:=ZQ (.acc xs) (R.mr _ hm);have hnc:∀ c,ox.data≠.cls c:=λc e=>by have:=I.no; unfold notCls at this; rw [e] at this; exact no_ft this
 obtain ⟨hp',g,dr,tk,os⟩:=s;refine ks_wpAny_isType_cls (X _ _ hoD) hoDd ⟨rfl,?_⟩;refine ks_wpAny_call_super (X _ _ hoD) hoDd I.at_ I.cls hnc (looks_mroIn X S.sub) λh₁ hso k₁=>?_;have R1:Rel B E F env loc tmp mem ⟨h₁,g,dr,tk,os⟩:=R.ext (tk:=tk) k₁;have X₁:=R1.inv.kin;have hi₁:=acc_is R1 hm S.li;refine sup_meth (P:=λv s'=>∃ h' q,v=.ref q/\s'=⟨h',g,dr,tk+1,os⟩/\YZ h' q id x/\∀ b o,h₁.get? b=some o->h'.get? b=some o) hso (looks_opaque X₁ S.op) ((looks_clsIn X₁ hc).andThen .now) hl X₁ hal T.ty T.get (ks_ne X I hc) T.nc (λA R' hR=>?_) λv s' hP=>?_
 ·exact hget A ⟨h₁,g,dr,tk+1,os⟩ R' hi₁ λh' q hb k=>hR _ _ ⟨h',q,rfl,rfl,hb,k⟩
 ·obtain ⟨h',q,rfl,rfl,hb,k⟩:=hP;refine ⟨rfl,?_⟩;have R₂:Rel B E F env loc tmp mem ⟨h',g,dr,tk+1,os⟩:=R1.ext (tk:=tk+1) k;refine Zt rfl rfl (Ub (wpAny_evalAll_nil ⟨hb.keeper,?_⟩));refine Ud (h A E F tmp _ q hA R₂ hb) (λr s3 h₃=>?_) λ_ _ x=>x;obtain ⟨av,mem3,F3,k3,r₃,R3,qq⟩:=h₃;exact ⟨av,mem3,F3,k3,R3.push r₃,qq⟩
end Oeasuper
section
variable {d u:Nat} {body:List Stmt} {env:Env} {loc:Loc} {mem:List (Addr × AO)}
theorem ea_super {K:Frag} {f C cc x dx:Addr} {v:Str} {name:Str} {id gid dt:String} {xs:List AV} {as:List (Str × AV)} {p0 p1 apos pos:Pos} {Q:PE} (hB:B.K=K) (S:SupIn prog K env f C cc v) (T:SupFn K C name id gid dt) (hv:loc.lookup v=some (.raw (.ref x))) (hm:(x,AO.acc C dx xs as) ∈ mem)
  (hget:∀ (A:Around) (s:Shared) (R:Result->Shared->Prop),Looks (model prog w) s.heap (isInstance (.ref x) (.type "list")) true ->
   (∀ h' q,YZ h' q id x->(∀ b o,s.heap.get? b=some o->h'.get? b=some o)->R (.ok (.ret (.ref q))) { s with heap:=h' })->codeAny (model prog w) A (.call (.builtin gid) ⟨[.builtin id, .ref x, .ref C], []⟩) R s)
  (he:eval (.Call (.Attribute (.Call (.Name "super" p0) [] [] p1) name apos) [] [] pos) env=(do
   let ov <- attributeBase (.Call (.Name "super" p0) [] [] p1) name env (eval (.Call (.Name "super" p0) [] [] p1) env)
   standAt apos.atName
   let (f,first) <- holding [ov] (getMethod ov name (pure false))
   callWith pos f first (backTo pos (starEach [] env)) []))
  (h:∀ A E F tmp s q,AOK d u A->Rel B E F env loc tmp mem s->YZ s.heap q id x->wpAny (model prog w) A (call (.ref q) []) (PoC B E F env loc tmp Q) FF s) :
  WEa prog w B d u body env loc mem (.Call (.Attribute (.Call (.Name "super" p0) [] [] p1) name apos) [] [] pos) Q:=eps_all Oeasuper.Rx Oeasuper.main (d,u,body,env,loc,mem,f,C,cc,x,dx,v,name,id,gid,dt,xs,as,p0,p1,apos,pos,Q) hB S T hv hm hget he h
end
end
section
open PySem PySem.W PyProof.Rows PySem.Calls Builtin Builtin.ObjectAttr Builtin.List
structure XM (K:Frag) (C:Addr):Prop where
 nd:(["collections.deque"].all λn=>subIn K (.ref C) (.type n) == some false)=true
 get:findIn K (.ref C) "__getitem__" = some (some (.builtin "list.__getitem__"))
 set:findIn K (.ref C) "__setitem__" = some (some (.builtin "list.__setitem__"))
 li:mroIn K C (.type "list")=some true
section
variable {A:Around} {Er:Value->Shared->Prop} {s:Shared} {K:Frag} {x C:Addr} {ox:Obj} {od:Option Obj}
theorem acc_key {M:Model} {k:Value} {name:Str} {Q:Value->Shared->Prop} (X:K.In s.heap) (I:InstAt s.heap x ox C od) (T:XM K C) (q:Q k s):wpAny M A (sequenceKey (.ref x) k name) Q Er s:=by
 unfold sequenceKey;refine Ua (I.type.here (Ua ((anyM_none X T.nd).here ?_)));rw [if_pos (show (!false)=true from rfl)];exact Ub q
theorem Vk {k:Value} {Q:Value->Shared->Prop} (X:K.In s.heap) (I:InstAt s.heap x ox C od) (T:XM K C)
  (h:wpAny (model prog w) A.in1 (Builtin.«list.__getitem__» ⟨[.ref x,k], []⟩) (λfin s'=>∃ v,fin=.done (.ret v)/\Q v s') Er s):wpAny (model prog w) A (getItem (.ref x) k) Q Er s:=by
 unfold getItem;refine wpAny_holding (Ua (acc_key X I T ?_));refine Ua (kfo_special X I T.get (λ_=>slot_list_getitem.bind _) ?_);exact Xd (n := "__getitem__") (.inl (by decide +kernel)) (by decide +kernel) (by decide +kernel) entry_list_getitem (args_list_getitem _ _) (I.type.andThen (looks_mroIn X T.li)) (Ud h (λfin s' hq1=>by obtain ⟨v,e,q⟩:=hq1; exact ⟨v,e,Ub q⟩) λ_ _ e=>e)
theorem acc_setItem {k v:Value} {Q:Unit->Shared->Prop} (X:K.In s.heap) (I:InstAt s.heap x ox C od) (T:XM K C)
  (h:wpAny (model prog w) A.in1 (Builtin.«list.__setitem__» ⟨[.ref x,k,v], []⟩) (λfin s'=>∃ r,fin=.done (.ret r)/\Q () s') Er s):wpAny (model prog w) A (setItem (.ref x) k v) Q Er s:=by
 unfold setItem;refine wpAny_holding (Ua (acc_key X I T ?_));refine Ua (kfo_special X I T.set (λ_=>PySem.F.slot_list_setitem.bind _) ?_);refine Xd (n := "__setitem__") (.inr (by decide +kernel)) (by decide +kernel) (by decide +kernel) PySem.F.entry_list_setitem (PySem.F.args_list_setitem_3 _ _ _) (I.type.andThen (looks_mroIn X T.li)) (Ud h (λfin s' hq=>?_) λ_ _ e=>e);obtain ⟨v,e,q⟩:=hq;exact ⟨v,e,Ub q⟩
theorem run_at {o:Obj} {items:Array Value} {n:Nat} {k:Int} {t:Tok} {v:Value} {Q:Fin->Shared->Prop} (e:s.heap.get? x=some o) (hd:o.data=.seq items n) (h0:0<=k) (hf:k < 2 ^ 63) (hx:items[k.toNat]?=some v) (q:Q (.done (.ret v)) s) :
  wpAny (model prog w) A (Builtin.«list.__getitem__» ⟨[.ref x, .int k t], []⟩) Q Er s:=by
 show wpAny _ _ (Builtin.List.listSubscript? (.int k t) >>= _) _ _ s;refine Ua (wpAny_listSubscript_int (fitsIndex_of h0 hf) ?_);clear hf;obtain ⟨j,rfl⟩:=Int.eq_ofNat_of_zero_le h0;have hx':items[j]?=some v:=hx;show wpAny _ _ ((seqItemAt x j >>= λr=>pure (r.map (j, ·))) >>= _) _ _ s;refine Ua (Ua (wpAny_seqItemAt e hd (Ub ?_)));rw [hx']
 first
  | exact Ua (Ub (Ub q))
  | exact Ub q
theorem parts_run {sl:Addr} {vl vu vk:Value} {lo hi st:Option Int} {Q:Value × Value × Value->Shared->Prop} (hs:s.heap.IsSliceOf sl vl vu vk) (pl:IsPart vl lo) (pu:IsPart vu hi) (ps:IsPart vk st) (h0:st≠some 0) (q:Q (rawPart lo,rawPart hi,rawPart st) s) :
  wpAny (model prog w) A (listSliceParts (.ref sl)) Q Er s:=by
 obtain ⟨os,hos,hcs,hds⟩:=id hs;rw [listSliceParts_eq]
 have hstep:¬ ((rawPart st == rawInt 0)=true):=by
  cases st with
  | none=>exact S3
  | some c =>
   intro hh;have:c=0:=by simpa [rawPart,rawInt] using hh
   exact h0 (by rw [this])
 refine Ua (wpAny_field hos hds (x:=vk) rfl (Ua (wpAny_listPart ps ?_)));rw [if_neg hstep];refine Ua (wpAny_field hos hds (x:=vl) rfl (Ua (wpAny_listPart pl ?_)));exact Ua (wpAny_field hos hds (x:=vu) rfl (Ua (wpAny_listPart pu (Ub q))))
theorem Vn {sl:Addr} {vl vu vk:Value} {Q:Option Int->Shared->Prop} (hs:s.heap.IsSliceOf sl vl vu vk) (q:Q none s):wpAny (model prog w) A (listSubscript? (.ref sl)) Q Er s:=by
 obtain ⟨os,hos,hcs,hds⟩:=id hs;have hTs:s.TypeIs (.ref sl) "slice" := ⟨os,hos,hcs⟩;unfold listSubscript?;refine Ua (wpAny_specialOf hTs slice_no_index ?_);simp only [Option.isNone_none,if_true];exact Ub q
theorem run_slice {o:Obj} {items:Array Value} {n:Nat} {sl:Addr} {vl vu vk:Value} {lo hi st:Option Int} {Q:Fin->Shared->Prop} (e:s.heap.get? x=some o) (hd:o.data=.seq items n) (hs:s.heap.IsSliceOf sl vl vu vk) (pl:IsPart vl lo) (pu:IsPart vu hi) (ps:IsPart vk st) (h0:st≠some 0) (hz:items.size<=sizeLine)
  (q:Q (.done (.ret (.ref s.heap.objs.size))) { s with heap:=s.heap.push { cls:=.type "list", data:=.seq (slicePick items lo hi st) } }):wpAny (model prog w) A (Builtin.«list.__getitem__» ⟨[.ref x, .ref sl], []⟩) Q Er s:=by
 obtain ⟨os,hos,hcs,hds⟩:=id hs;have hTs:s.TypeIs (.ref sl) "slice" := ⟨os,hos,hcs⟩;show wpAny _ _ (Builtin.List.listSubscript? (.ref sl) >>= _) _ _ s;refine Ua (Vn hs ?_);show wpAny _ _ (typeOf (.ref sl) >>= _) _ _ s;refine Ua (wpAny_typeOf hTs ?_);rw [if_neg (by decide)];refine Ua (parts_run hs pl pu ps h0 ?_);refine Ua (m:=Builtin.List.listItems (.ref x)) ?_;unfold Builtin.List.listItems;refine Ua (wpAny_seqItems e hd (Ub ?_));refine Ua (wpAny_of_eq (sliceIndices_raw lo hi st items.size h0) ?_);exact Ua (wpAny_newObj_type (Ub q) (Uc (slicePick_size_le items lo hi st) hz))
theorem run_setSlice {o ov:Obj} {items new:Array Value} {n nv sl av:Addr} {vl vu vk:Value} {lo:Option Int} {k:Nat} {Q:Fin->Shared->Prop} (e:s.heap.get? x=some o) (hd:o.data=.seq items n) (ev:s.heap.get? av=some ov) (hv:ov.cls=.type "list") (hdv:ov.data=.seq new nv) (hne:x≠av)
  (hs:s.heap.IsSliceOf sl vl vu vk) (pl:IsPart vl lo) (pu:IsPart vu none) (ps:IsPart vk none) (hk:sliceBounds lo none none items.size=((k:Int),(items.size:Int),1)) (hks:k<=items.size) (hz:items.size+new.size<=2 ^ 22)
  (q:Q (.done (.ret .none)) { s with heap:=s.heap.update x (Obj.mapSeq λxs=>xs.extract 0 k++new++xs.extract items.size xs.size) }):wpAny (model prog w) A (Builtin.«list.__setitem__» ⟨[.ref x, .ref sl, .ref av], []⟩) Q Er s:=by
 obtain ⟨os,hos,hcs,hds⟩:=id hs;have hTs:s.TypeIs (.ref sl) "slice" := ⟨os,hos,hcs⟩;show wpAny _ _ (Builtin.List.listSubscript? (.ref sl) >>= _) _ _ s;refine Ua (Vn hs ?_);show wpAny _ _ (typeOf (.ref sl) >>= _) _ _ s;refine Ua (wpAny_typeOf hTs ?_);rw [if_neg (by decide)];refine Ua (parts_run hs pl pu ps (by decide) ?_);dsimp only;rw [show listSameRef (.ref x) (.ref av)=false by simp [listSameRef,hne]];rw [if_neg (by decide)];have hTv:s.TypeIs (.ref av) "list" := ⟨ov,ev,hv⟩;unfold listAllItems;refine Ua (Ua (wpAny_typeOf hTv ?_));rw [if_pos (by decide)];unfold Builtin.List.listItems;refine Ua (wpAny_seqItems ev hdv (Ub ?_));refine Ua (Ua (wpAny_seqItems e hd (Ub ?_)));refine Ua (wpAny_of_eq (sliceIndices_raw lo none none items.size (by decide)) ?_);rw [hk];dsimp only;rw [if_pos (by decide)];refine Ua (wpAny_rule ?_);have hz1:items.size<=sizeLine:=by show _<=2 ^ 24; exact ar107 hz
 rw [if_neg (by unfold listTooLong; rw [decide_eq_true_eq]; show ¬ (_ > 2 ^ 24); exact ar108 hz)];have hm:(max (k:Int) (items.size:Int)).toNat=items.size:=by exact ar109 hks
 rw [T6,hm];refine Ua (wpAny_updateSeq e hd (Ua (wpAny_letGo (Ub q))) hz1 ?_);show _<=2 ^ 24+1;simp only [Array.size_append,Array.size_extract];exact ar110 hks hz hm
end
end
section
open PySem PySem.W PyProof.Rows PySem.Calls Builtin Builtin.ObjectAttr Builtin.List
theorem Vf {c:Value} {d:Option Addr} {xs ys:Array Value} {n:Nat} {f:Array Value->Array Value} (h:f xs=ys):Obj.mapSeq f { cls:=c,dict:=d,data:=.seq xs n }={ cls:=c,dict:=d,data:=.seq ys (if ys.size == xs.size then n else n+1) }:=by subst h; rfl
theorem RVs.unsnoc {F:FM} {a:AV}:∀ {as:List AV} {vs:List Value},RVs F vs (as++[a])->∃ vs' v,vs=vs'++[v]/\RVs F vs' as/\RV F v a:=by
 intro as
 induction as with
 | nil=>intro vs h; obtain ⟨v,rfl,r⟩:=h.n1; exact ⟨[],v,rfl, .nil,r⟩
 | cons b as ih=>intro vs h; cases h with | cons h r=>obtain ⟨vs',v,rfl,r1,r2⟩:=ih r; exact ⟨_ :: vs',v,rfl, .cons h r1,r2⟩
section
variable {A:Around} {Er:Value->Shared->Prop} {s:Shared} {K:Frag} {x C:Addr} {ox:Obj} {od:Option Obj}
theorem acc_tail {value slice:Expr} {i:Value} {ops:List Value} {Q:Value->Shared->Prop} (X:K.In s.heap) (I:InstAt s.heap x ox C od) (T:XM K C) (hg:wpAny (model prog w) A (getItem (.ref x) i) Q Er s)
  (hs:subscripted slice false (.ref x) i=operate ops (getItem (.ref x) i)):wpAny (model prog w) A (subscriptTail value slice (.ref x) i) Q Er s:=by
 unfold subscriptTail getitemInPython;refine Ua (Ua (Ua (I.type.here ((looks_findIn X T.get).here ?_))));refine Ub ?_;refine Ua ?_;rw [hs];exact wpAny_operating (Ud hg (λr s3 h₃=>Ua (wpAny_letTemporaryGo (Ub h₃))) λ_ _ x=>x)
end
section
variable {d u:Nat} {env:Env} {loc:Loc} {mem:List (Addr × AO)}
theorem va_at {value slice:Expr} {x C dx:Addr} {xs:List AV} {as:List (Str × AV)} {k:Int} {c:AV} {K:Frag} (hB:B.K=K) (hm:(x,AO.acc C dx xs as) ∈ mem) (T:XM K C) (h0:0<=k) (hf:k < 2 ^ 63) (hx:xs[k.toNat]?=some c)
  (hs:∀ (l:Addr) (u:Tok),∃ ops,subscripted slice false (.ref l) (.int k u)=operate ops (getItem (.ref l) (.int k u))) :
  VM2 prog w B d u (subscriptTail value slice) mem (.raw (.ref x)) (.int k) c mem:=λA E F env loc tmp s va vb hA ha hb R=>by
 subst hB;obtain rfl:=ha.isRaw;obtain ⟨_,rfl⟩:=hb.isInt
 rename_i t
 obtain ⟨vs,n,e,r⟩:=YF R hm;obtain ⟨ox,es,n',I,_⟩:=ZQ (.acc _) (R.mr _ hm);obtain ⟨v,e1,e2⟩:=r.get hx;obtain ⟨ops,ho⟩:=hs x t;refine acc_tail R.inv.kin I T (Vk R.inv.kin I T (run_at e rfl h0 hf (by simpa using e1) ⟨v,rfl,F, .refl F,e2,R⟩)) ho
theorem va_slice {value slice:Expr} {x C dx:Addr} {xs:List AV} {as:List (Str × AV)} {lo hi st:Option Int} {K:Frag} (hB:B.K=K) (hm:(x,AO.acc C dx xs as) ∈ mem) (T:XM K C) (h0:st≠some 0) (hz:xs.length<=2 ^ 20)
  (hs:∀ l i:Addr,∃ ops,subscripted slice false (.ref l) (.ref i)=operate ops (getItem (.ref l) (.ref i))) :
  VM2 prog w B d u (subscriptTail value slice) mem (.raw (.ref x)) (.pred (SliceT lo hi st)) (.lst (ZM xs lo hi st)) mem:=λA E F env loc tmp s va vb hA ha hb R=>by
 subst hB;obtain rfl:=ha.isRaw
 cases hb with
 | pred _ _ hT =>
  obtain ⟨rr,vl,vu,vk,rfl,e2,p1,p2,p3⟩:=hT F (.refl F);obtain ⟨vs,n,e,r⟩:=YF R hm;obtain ⟨ox,es,n',I,_⟩:=ZQ (.acc _) (R.mr _ hm);obtain ⟨ops,ho⟩:=hs x rr;refine acc_tail R.inv.kin I T (Vk R.inv.kin I T (run_slice e rfl ⟨_,R.le _ _ e2,rfl,rfl⟩ p1 p2 p3 h0 (by show _<=2 ^ 24; rw [Uz,r.length]; exact Uc hz (by decide)) ⟨_,rfl,?_⟩)) ho;obtain ⟨kF,R'⟩:=R.alloc { cls:=.type "list", data:=.seq (slicePick vs.toArray lo hi st) } rfl;refine ⟨_,kF, .lst _ (slicePick vs.toArray lo hi st).toList _ 0 ?_ ((r.pick lo hi st).mono kF),R'⟩;rw [Array.toArray_toList];exact FM.set_same
theorem bounds_from (k n:Nat) (h:k<=n):sliceBounds (some (k:Int)) none none n=((k:Int),(n:Int),1):=by
 rw [sliceBounds_plain];simp only [Rb,Option.elim_none,WZ,Se h]
theorem Z15 (n:Nat):sliceBounds none none none n=(((0:Nat):Int),(n:Int),1):=by
 rw [sliceBounds_plain]; rfl
inductive SetSH (B:Base) (Q:PF) (loc:Loc) (c oa ia:AV) (m:List (Addr × AO)):Prop where
 | mk (x C dx:Addr) (xs:List AV) (as:List (Str × AV)) (ys:List AV) (lo:Option Int) (k z:Nat) (e:oa=.raw (.ref x)) (e':ia=.pred (SliceT lo none none)) (e'':c=.lst ys) (hm:m[z]?=some (x, .acc C dx xs as)) (T:XM B.K C) (hl:xs.length<=2 ^ 20) (hy:ys.length<=2 ^ 20)
  (hb:sliceBounds lo none none xs.length=((((k:Nat):Int)),(((xs.length:Nat):Int)),(1:Int))) (hk:k<=xs.length) (q:Q .next loc (m.set z (x, .acc C dx (xs.take k++ys) as)))
theorem Wi {o i value:Expr} {tpos pos:Pos} {Q:PF} (hs:swapsWith value (some (.Subscript o i tpos)) pos.line env=pure false)
  (h:WE prog w B d u env loc mem value λc m1=>WE prog w B d u env loc m1 o λoa m2=>WE prog w B d u env loc m2 i λia m3=>SetSH B Q loc c oa ia m3) :
  WS prog w B d u env loc mem (.Assign [.Subscript o i tpos] value pos) Q:=λA E F tmp s hA R=>by
 refine wpAny_Assign_Subscript (Ud (h A E F tmp s hA R) (λv s₁ h₁=>?_) λ_ _ x=>x) hs;obtain ⟨c,m1,F1,k₁,R1,h₁⟩:=h₁;refine Ud (h₁ A E F1 _ s₁ hA R1) (λov s2 h₂=>?_) λ_ _ x=>x;obtain ⟨oa,m2,F2,k₂,R₂,h₂⟩:=h₂;refine Ud (h₂ A E F2 _ s2 hA R₂) (λiv s3 h₃=>?_) λ_ _ x=>x;obtain ⟨ia,m3,F3,k3,R3,x,C,dx,xs,as,ys,lo,k,z,rfl,rfl,rfl,hz,T,hl,hly,hb,hk,q⟩:=h₃;have ho:=R3.pop.top;obtain rfl:=ho.isRaw;have hi:=R3.top;have hc:=R3.pop.pop.top;have Rz:=R3.pop.pop.pop
 cases hi with
 | pred _ _ hT =>
  obtain ⟨rr,vl,vu,vk,rfl,e2,p1,p2,p3⟩:=hT F3 (.refl _)
  cases hc with
  | lst av vy _ nv ev ry =>
   obtain ⟨vs,n,e,r⟩:=YF Rz (Uk hz);obtain ⟨ox,es,n',I,_⟩:=ZQ (.acc _) (Rz.mr _ (Uk hz));have hlen:=r.length;have hleny:=ry.length
   have hne:x≠av:=by
    rintro rfl;have:=(Rz.off x (.tail _ (Ue.mpr (.inr (U4.mpr ⟨_,Uk hz, .head _⟩))))).1;rw [ev] at this; exact no_sn this
   refine acc_setItem Rz.inv.kin I T (run_setSlice (lo:=lo) (k:=k) e rfl (Rz.le _ _ ev) rfl rfl hne ⟨_,Rz.le _ _ e2,rfl,rfl⟩ p1 p2 p3 ?_ ?_ ?_ ⟨_,rfl,?_⟩)
   ·rw [Uz,hlen]; exact hb
   ·rw [Uz,hlen]; exact hk
   ·rw [Uz,Uz,hlen,hleny]; exact ar124 hl hly hlen hleny
   ·have hf:vs.toArray.extract 0 k++vy.toArray++vs.toArray.extract vs.toArray.size vs.toArray.size=(vs.take k++vy).toArray:=by
     apply Array.ext';simp
    exact ⟨.next,loc,_,F3,(k₁.trans k₂).trans k3, .next,Rz.setAcc (tk:=s3.toks) hz ((Heap.get?_update_self _ e (by simp [Obj.mapSeq]; rfl)).trans (congrArg some (Vf hf))) ((r.take k).append ry) (λb hb'=>Heap.get?_update_other _ _ (Ne.symm hb')),q⟩
end
end
section
open PySem PySem.W PyProof.Rows PySem.Calls Builtin Builtin.ObjectAttr Builtin.List
namespace Ogencode
noncomputable def Px (E:Ent) (F:FM) (env:Env) (loc:Loc) (tmp:List (Value × AV)) (mem:List (Addr × AO)) (s:Shared) (A:Around) (Er:Value->Shared->Prop) (pos:Pos) (scope:Scope) (c P:Addr) (Q:Value->Shared->Prop):Prop:=∀ {M:Model} (R:Rel B E F env loc tmp mem s) (hcode:env.code=.ref c) (hC:WR B.K c P) (hP:P ∈ B.tabs) (hq:B.tq P=env.qual ++ "<genexpr>") (h:∀ code h' tk F',F.le F'->Rel B E F' env loc tmp mem { s with heap:=h',toks:=tk }->Q code { s with heap:=h',toks:=tk }),wpAny M A (genexprCode env pos (env.qual ++ "<genexpr>") scope) Q Er s
noncomputable def Rx (p:Ent × FM × Env × Loc × (List (Value × AV)) × (List (Addr × AO)) × Shared × Around × (Value->Shared->Prop) × Pos × Scope × Addr × Addr × (Value->Shared->Prop)):Prop:=Px p.1 p.2.1 p.2.2.1 p.2.2.2.1 p.2.2.2.2.1 p.2.2.2.2.2.1 p.2.2.2.2.2.2.1 p.2.2.2.2.2.2.2.1 p.2.2.2.2.2.2.2.2.1 p.2.2.2.2.2.2.2.2.2.1 p.2.2.2.2.2.2.2.2.2.2.1 p.2.2.2.2.2.2.2.2.2.2.2.1 p.2.2.2.2.2.2.2.2.2.2.2.2.1 p.2.2.2.2.2.2.2.2.2.2.2.2.2
noncomputable section
def cx:=eps (neP neN (neP neFM (neP neI (neP neL (neP neL (neP neL (neP neS (neP neA (neP neR (neP neI (neP neI (neP neNt (neP neNt neR))))))))))))) Rx
def E:=cx.1
def F:=cx.2.1
def env:=cx.2.2.1
def loc:=cx.2.2.2.1
def tmp:=cx.2.2.2.2.1
def mem:=cx.2.2.2.2.2.1
def s:=cx.2.2.2.2.2.2.1
def A:=cx.2.2.2.2.2.2.2.1
def Er:=cx.2.2.2.2.2.2.2.2.1
def pos:=cx.2.2.2.2.2.2.2.2.2.1
def scope:=cx.2.2.2.2.2.2.2.2.2.2.1
def c:=cx.2.2.2.2.2.2.2.2.2.2.2.1
def P:=cx.2.2.2.2.2.2.2.2.2.2.2.2.1
def Q:=cx.2.2.2.2.2.2.2.2.2.2.2.2.2
end
theorem main:Px E F env loc tmp mem s A Er pos scope c P Q:=by
 intro M R hcode hC hP hq h;obtain ⟨ws,f1,f2,f3⟩:=R.tf P hP;obtain ⟨o,vs,file,tf,flags,tg,inF,text,tt,e1,e2,e3,e4,e5,e6,e7,e8,e9,e10⟩:=hC _ R.inv.kin;unfold genexprCode codeAt;rw [hcode,if_neg (show ¬ ((Value.ref c == Value.none)=true) from S3)];refine Ua (wpAny_fieldsOf e1 e3 ?_);rw [e5];have hpd:(X.tableObj ws).data=.fields ws:=rfl;refine Ua (wpAny_fieldsOf f1 hpd ?_)
 cases hf:codeAmong pos ws.toList with
 | some cv=>exact Ub (h cv s.heap s.toks F (.refl _) (R.ext (h':=s.heap) (tk:=s.toks) λ_ _ e=>e))
 | none =>
  rw [e6,e7,e8,e9];refine Ua (wpAny_newCode λc' P' h' tk hk hc' hP' hcode' hrec'=>?_);have hop':=hk _ _ f1;refine Ua (wpAny_updateFieldsOfTheText hop' hpd ?_)
  have hobj:Obj.mapFields (λvs=>if (codeAmong pos vs.toList).isSome=true then vs else vs++#[rawInt pos.line,rawInt pos.col, .ref c']) (X.tableObj ws)=X.tableObj (ws++#[rawInt pos.line,rawInt pos.col, .ref c']):=by
   show X.tableObj (if (codeAmong pos ws.toList).isSome=true then ws else _)=_;rw [hf]; rfl
  have hget:=Heap.get?_update_self (h:=h') (λo=>Obj.mapFields (λvs=>if (codeAmong pos vs.toList).isSome=true then vs else vs++#[rawInt pos.line,rawInt pos.col, .ref c']) o) hop' (by rw [hobj]; rfl);rw [hobj] at hget;refine Ua (wpAny_fieldsOf hget (show (X.tableObj (ws++#[rawInt pos.line,rawInt pos.col, .ref c'])).data=.fields (ws++#[rawInt pos.line,rawInt pos.col, .ref c']) from rfl) ?_);have hl:(ws++#[rawInt pos.line,rawInt pos.col,Value.ref c']).toList=ws.toList++[rawInt pos.line,rawInt pos.col, .ref c']:=by simp
  rw [hl,codeAmong_snoc _ f2 hf];have hx:Heap.ExtBut P s.heap (h'.update P λo=>Obj.mapFields (λvs=>if (codeAmong pos vs.toList).isSome=true then vs else vs++#[rawInt pos.line,rawInt pos.col, .ref c']) o):=λb o' hb e=>(Heap.SameBut.update ..).extBut b o' hb (hk b o' e)
  have hcP:c'≠P:=λq=>by
   have:=Heap.lt_size f1;rw [<- q] at this;exact absurd hc' (Nat.not_le.mpr this)
  have hrec:(h'.update P λo=>Obj.mapFields (λvs=>if (codeAmong pos vs.toList).isSome=true then vs else vs++#[rawInt pos.line,rawInt pos.col, .ref c']) o).CodeRec (.ref c') (B.tq P):=by
   rw [hq];obtain ⟨c₀,oc,vs',t,g1,g2,g3,g4⟩:=hrec'
   cases g1
   exact ⟨c',oc,vs',t,rfl,(Heap.get?_update_other _ _ (Ne.symm hcP)).trans g2,g3,g4⟩
  obtain ⟨F1,k₁,_,R1⟩:=R.tab (tk:=tk) hP f1 hx hc' hrec hget;exact Ub (h _ _ tk F1 k₁ R1)
end Ogencode
section
variable {d u:Nat} {E:Ent} {F:FM} {env:Env} {loc:Loc} {tmp:List (Value × AV)} {mem:List (Addr × AO)} {s:Shared} {A:Around} {Er:Value->Shared->Prop}
theorem gen_code {E F env loc tmp mem s A Er pos scope c P Q}:Ogencode.Px E F env loc tmp mem s A Er pos scope c P Q:=eps_all Ogencode.Rx Ogencode.main (E,F,env,loc,tmp,mem,s,A,Er,pos,scope,c,P,Q)
end
end
section
open PySem PySem.W PyProof.Rows PySem.Calls Builtin Builtin.ObjectAttr Builtin.List
noncomputable def HasSeq (h:Heap) (l:Addr) (items:Array Value):Prop:=∃ o n,h.get? l=some o/\o.data=.seq items n
section
variable {A:Around} {Er:Value->Shared->Prop} {s:Shared} {K:Frag} {x C:Addr} {ox:Obj} {od:Option Obj}
theorem acc_iter {Q:Value->Shared->Prop} (X:K.In s.heap) (I:InstAt s.heap x ox C od) (hs:findIn K (.ref C) "__iter__" = some (some (.builtin "list.__iter__"))) (hl:mroIn K C (.type "list")=some true)
  (q:Q (.ref s.heap.objs.size) { s with heap:=s.heap.push { cls:=.type "list_iterator", data:=.fields #[.ref x, .int 0 0] } }):wpAny (model prog w) A (pyIter (.ref x)) Q Er s:=by
 have hc:∀ P:Option Value->Shared->Prop,P (some (.ref s.heap.objs.size)) { s with heap:=s.heap.push { cls:=.type "list_iterator", data:=.fields #[.ref x, .int 0 0] } }->∀ refuse:Sem Value,
   wpAny (model prog w) A (if (Value.builtin "list.__iter__" == Value.none)=true then (refuse >>= λv=>pure (some v)) else (call (.builtin "list.__iter__") [.ref x] >>= λv=>pure (some v))) P Er s:=λP p refuse=>by
  rw [if_neg (by decide)];refine Ua (Xd (n := "__iter__") (.inr (by decide +kernel)) (by decide +kernel) (by decide +kernel) entry_list_iter (args_list_iter _) (I.type.andThen (looks_mroIn X hl)) ?_);show wpAny _ _ (do ret (<- newFields "list_iterator" [.ref x,rawInt 0])) _ _ s;exact Ua (wpAny_newObj_type (Ub ⟨_,rfl,Ub p⟩) (by size_fits))
 unfold pyIter;refine Ua (Ua (I.type.here ((looks_findIn X hs).here ?_)));show wpAny _ A (callSpecialIfBoundUnlessNone? (.ref x) "__iter__" _ >>= _) Q Er s;refine Ua ?_;simp -iota only [callSpecialIfBoundUnlessNone?,bindSpecialIfBound?];refine wpAny_holding (Ua (Ua (Ua (I.type.here ((looks_findIn X hs).here ?_)))));simp only [slot_list_iter.bind];refine Ua (wpAny_askSetting (wpAny_ite ?_))
 have fin:=hc (λr s2=>wpAny (model prog w) A (match r with
  | some it=>specialOf it "__next__" >>= λr=>(match r with | none=>(do rule "iter.non-iterator"; raiseError "TypeError" s!"iter() returned non-iterator of type '{← typeNameOf it}'") | some _=>pure it)
  | none=>bindSpecialIfBound? (.ref x) "__getitem__" >>= λr=>(match r with
   | none=>(do rule "iter.not-iterable"; raiseError "TypeError" s!"'{← typeNameOf (.ref x)}' object is not iterable")
   | some _=>(do rule "iter.getitem-fallback"; newFields "iterator" [.ref x, <- mkInt 0]))) Q Er s2) (Ua (wpAny_specialOf (T := "list_iterator") ⟨_,Heap.get?_push_size _ rfl,rfl⟩ slot_listiter_next.lookup (Ub q)))
 split
 ·exact Ua (Ub (Ub (fin _)))
 ·exact wpAny_tryCatch (Ua (Ub (Ub (fin _))))
theorem seq_item {it l:Addr} {i:Nat} {items:Array Value} {v:Value} {Q:Option Value->Shared->Prop} (hit:s.heap.IsListIter it l i) (hl:HasSeq s.heap l items) (hx:items[i]?=some v)
  (hQ:∀ h',h'.IsListIter it l (i+1)->Heap.SameBut it s.heap h'->Q (some v) { s with heap:=h' }):wpAny (model prog w) A (pyNext (.ref it)) Q Er s:=by
 obtain ⟨o,ho,hc,hd⟩:=id hit;obtain ⟨ol,nl,hol,hdl⟩:=hl;unfold pyNext
 refine Ua (wpAny_attempt (wpAny_callSpecial?_slot (name:=Str.ofString "__next__") hit.typeIs slot_listiter_next
  (wpAny_call_entry slot_listiter_next hit.typeIs entry_listiter_next ?_ (args_listiter_next _))))
 show wpAny _ _ (field (.ref it) 0 >>= _) _ _ s;refine Ua (wpAny_field ho hd (x:=.ref l) rfl ?_);show wpAny _ _ (if (Value.ref l == Value.none)=true then _ else _) _ _ s;rw [if_neg (show ¬ ((Value.ref l == Value.none)=true) from S3)];show wpAny _ _ (field (.ref it) 1 >>= _) _ _ s;refine Ua (wpAny_field ho hd (x:=.int i 0) rfl ?_);show wpAny _ _ (seqItems? (.ref l) >>= _) _ _ s;refine Ua (wpAny_seqItems hol hdl ?_);simp only [T6,hx];refine Ua (wpAny_setField ho hd (by simp -iota) (Ub ⟨v,rfl,Ub (hQ _ ?_ (Heap.SameBut.update ..))⟩))
 exact ⟨_,Heap.get?_update_self _ ho (Obj.isFreed_of_fields (Obj.data_mapFields hd _)),(Obj.cls_mapFields ..).trans hc,by
  rw [Obj.data_mapFields hd]; simp -iota [rawInt]⟩
theorem seq_end {it l:Addr} {i:Nat} {items:Array Value} {Q:Option Value->Shared->Prop} (hh:A.handled=none) (hit:s.heap.IsListIter it l i) (hl:HasSeq s.heap l items) (hx:items[i]?=none)
  (hQ:∀ h',Heap.ExtBut it s.heap h'->Q none { s with heap:=h' }):wpAny (model prog w) A (pyNext (.ref it)) Q Er s:=by
 obtain ⟨o,ho,hc,hd⟩:=id hit;obtain ⟨ol,nl,hol,hdl⟩:=hl;unfold pyNext
 refine Ua (wpAny_attempt (wpAny_callSpecial?_slot (name:=Str.ofString "__next__") hit.typeIs slot_listiter_next
  (wpAny_call_entry slot_listiter_next hit.typeIs entry_listiter_next ?_ (args_listiter_next _))))
 show wpAny _ _ (field (.ref it) 0 >>= _) _ _ s;refine Ua (wpAny_field ho hd (x:=.ref l) rfl ?_);show wpAny _ _ (if (Value.ref l == Value.none)=true then _ else _) _ _ s;rw [if_neg (show ¬ ((Value.ref l == Value.none)=true) from S3)];show wpAny _ _ (field (.ref it) 1 >>= _) _ _ s;refine Ua (wpAny_field ho hd (x:=.int i 0) rfl ?_);show wpAny _ _ (seqItems? (.ref l) >>= _) _ _ s;refine Ua (wpAny_seqItems hol hdl ?_);simp only [T6,hx];refine Ua (wpAny_rule (Ua (wpAny_setField ho hd (by simp -iota) ?_)));show wpAny _ _ (newExc (.type "StopIteration") [] >>= _) _ _ _;refine Ua ?_;simp -iota only [newExc,newTuple];refine Ua (wpAny_newObj_type ?_ (by size_fits));refine Ua (m:=firstArgMember _ _) (wpAny_of_eq (a:=Value.none) (by first | rfl | (simp -iota only [firstArgMember]; rfl)) ?_);refine wpAny_newObj_type ?_ (by size_fits);simp -iota only [raiseNew];refine Ua (wpAny_handled ?_);rw [show A.in1.handled=none from hh];refine Ua (Ub (wpAny_throw ?_));refine Ua (wpAny_isInstance (T := "StopIteration") (b:=true) ⟨_,Heap.get?_push_size _ rfl,rfl⟩ isSubtype_stop ?_);exact Ub (hQ _ (((Heap.SameBut.update ..).extBut.push _).push _))
end
noncomputable def PairsAt (h:Heap) (items:Array Value) (ps:List (Str × Str)):Prop:=items.size=ps.length/\∀ (i:Nat) p,ps[i]?=some p->∃ T ta tb n,items[i]?=some (.ref T)/\h.get? T=some { cls:=.type "tuple", data:=.seq #[.str p.1 ta, .str p.2 tb] n }
noncomputable def PairP (ps:List (Str × Str)) (i:Nat) (vals:Array Value):Prop:=∃ p ta tb,ps[i]?=some p/\vals=#[.str p.1 ta, .str p.2 tb]
theorem walk_pairs {h₀:Heap} {I y:Addr} {items:Array Value} {ps:List (Str × Str)} (hy:HasSeq h₀ y items) (hI:∀ T,h₀.get? I=some T->T.data=.fields #[.ref y, .int 0 0]) (hp:PairsAt h₀ items ps) (hyI:y≠I) :
  ∀ A':Around,A'.handled=none->WalksU prog w A' I (Um h₀.objs.size++[I]) [I] ps.length (PairP ps) (λi h=>h.IsListIter I y i/\∀ b o,b≠I->h₀.get? b=some o->h.get? b=some o) (λi T h=>T≠I/\h.IsListIter I y (i+1)/\∀ b o,b≠I->h₀.get? b=some o->h.get? b=some o):=λA' hA=>{
 sub:=λb hb=>Ue.mpr (.inr hb)
 frame:=λi h h' st k=>⟨st.1.at λo e=>k I (Ue.mpr (.inr (.head _))) o e,λb o hb e=>k b (Ue.mpr (.inl (U0.mpr (Heap.lt_size e)))) o (st.2 b o hb e)⟩
 item:=λi s Q E hi st q=>by
  obtain ⟨p,hpi⟩:∃ p,ps[i]?=some p:=⟨_,Ui hi⟩;obtain ⟨T,ta,tb,n,e1,e2⟩:=hp.2 i p hpi;obtain ⟨o,m,e3,e4⟩:=hy
  have hTI:T≠I:=by
   rintro rfl;have:=hI _ e2
   cases this
  refine seq_item st.1 ⟨o,m,st.2 _ _ hyI e3,e4⟩ e1 λh' hit hs=>?_;have k:∀ b o,b ∉ [I]->s.heap.get? b=some o->h'.get? b=some o:=λb o hb e=>hs.extBut b o (λq=>hb (by simp -iota [q])) e;have k₀:∀ b o,b≠I->h₀.get? b=some o->h'.get? b=some o:=λb o hb e=>k b o (by simpa -iota using hb) (st.2 b o hb e);exact q T _ h' s.toks ⟨p,ta,tb,hpi,rfl⟩ ⟨_,k₀ _ _ hTI e2,rfl,n,rfl⟩ ⟨hTI,hit,k₀⟩ k
 go:=λelts k pos i T s Q E hm q=>letGo_listiter hm.2.1 (q s.heap ⟨hm.2.1,hm.2.2⟩ λ_ _ _ e=>e)
 apart:=λi T h hm hT=>hm.1 (Uj.mp hT)
 done:=λs Q E st q=>by
  obtain ⟨o,m,e3,e4⟩:=hy;refine seq_end hA st.1 ⟨o,m,st.2 _ _ hyI e3,e4⟩ (by rw [Array.getElem?_eq_none_iff,hp.1]; exact Ug _) λh' he=>q h' s.toks λb o hb e=>he b o (λz=>hb (by simp -iota [z])) e
 self:=λi s Q E st q=>wpAny_pyIter_listiter st.1 q }
end
section
open PySem PySem.W PyProof.Rows PySem.Calls Builtin Builtin.ObjectAttr Builtin.List
section
variable {A:Around} {I:Addr} {fp wr:List Addr} {G:Array GenState->Array GenState->Prop} {n:Nat} {P:Nat->Value->Prop} {St:Nat->Shared->Prop}
noncomputable def shP (P:Nat->Value->Prop):Nat->Value->Prop
 | 0=>λ_=>False
 | i+1=>P i
noncomputable def shSt (St:Nat->Shared->Prop):Nat->Shared->Prop
 | 0=>λ_=>False
 | i+1=>St i
noncomputable def shV (k:Int) (val:Nat->Int):Nat->Int
 | 0=>k
 | i+1=>val i
theorem Z13 (W:WalksS prog w A I fp wr G n P St):WalksS prog w A I fp wr G (n+1) (shP P) (shSt St) where
 sub:=W.sub
 grefl:=W.grefl
 gtrans:=W.gtrans
 frame:=λi s h' tk st ht k=>match i,st with | i+1,st=>W.frame i s h' tk st ht k
 item:=λi s Q E hi st q=>match i,st,q with | i+1,st,q=>W.item i s Q E (Nat.lt_of_succ_lt_succ hi) st q
 done:=λs Q E st q=>W.done s Q E st q
 self:=λi s Q E st q=>match i,st with | i+1,st=>W.self i s Q E st q
theorem XF (k:Int) (val:Nat->Int):∀ n,preSum (shV k val) (n+1)=k+preSum val n
 | 0=>by simp [preSum,shV]
 | n+1=>by
  have:=XF k val n;show preSum (shV k val) (n+1)+shV k val (n+1)=k+(preSum val n+val n);rw [this];show k+preSum val n+val n=_;exact Int.add_assoc k (preSum val n) (val n)
theorem call_sum2 {s:Shared} {Er:Value->Shared->Prop} {Q:Value->Shared->Prop} {k:Int} {tk:Tok} (W:WalksS prog w A.in1 I fp wr G n P St) (hst:St 0 s) (hfp:∀ b ∈ fp,b < s.heap.objs.size) (val:Nat->Int) (hval:∀ i v,P i v->∃ t,v=.int (val i) t)
  (hQ:∀ s' t',Moved wr G s s'->Q (.int (k+preSum val n) t') s'):wpAny (model prog w) A (call (.builtin "sum") [.ref I, .int k tk]) Q Er s:=by
 refine call_function_tree PySem.F.kind_sum PySem.F.plain_sum PySem.F.entry_sum (show argsOk "sum" ⟨[.ref I, .int k tk], []⟩ by unfold argsOk; kernel_rfl) ?_;unfold Builtin.«sum»;simp -iota only [Td,Sy];rw [if_neg (by decide)];refine Ua (wpAny_of_eq (show Builtin.Builtins.bindParams "sum" ["start"] 0 ⟨[.int k tk], []⟩=pure [some (.int k tk)] by kernel_rfl) ?_);refine Ua (W.self 0 s _ _ hst ?_);dsimp only;refine wpAny_ite_split (λ_=>?_) λ_=>?_
 ·refine Ua (wpAny_rule (Ua (wpAny_mkInt (Ua (Ub ?_)))));simp -iota only [List.forIn_cons,List.forIn_nil];refine Ua (Ua (Ua (wpAny_isInstance (T := "int") (b:=false) (typeIs_int _ _ _) PySem.F.sub_int_str ?_)));simp -iota only [U1,if_false];refine Ub (Ua (Ua (wpAny_isInstance (T := "int") (b:=false) (typeIs_int _ _ _) PySem.F.sub_int_bytes ?_)));simp -iota only [U1,if_false];refine Ub (Ua (Ua (wpAny_isInstance (T := "int") (b:=false) (typeIs_int _ _ _) PySem.F.sub_int_bytearray ?_)));simp -iota only [U1,if_false];refine Ub (Ub ?_);refine Ua (wpAny_newObj_type ?_)
  refine Ub ⟨plainId_quiet PySem.F.plain_sum_loop _,codeAny_sum_loopAnyS (Z13 W) (shV k val) (λi v hv=>match i,hv with | i+1,hv=>hval i v hv) s.heap.objs.size (λhm=>S8 _ (hfp _ hm)) n 1 _ s.toks 0 0 (.inl rfl) rfl (S5 _ _)
   (W.frame 0 s _ _ hst (by first | exact Ug _ | exact Tr _ | omega) λb _ o e=>Heap.get?_push_of_some _ e) ?_ λs' t' hm=>?_⟩
  ·exact (Heap.get?_push_size _ rfl).trans (by simp [preSum,shV])
  ·rw [XF];exact hQ s' t' (hm.drop_new (by first | exact Ug _ | exact Tr _ | omega))
 ·refine Ua (Ub ?_);simp -iota only [List.forIn_cons,List.forIn_nil];refine Ua (Ua (Ua (wpAny_isInstance (T := "int") (b:=false) (typeIs_int _ _ _) PySem.F.sub_int_str ?_)));simp -iota only [U1,if_false];refine Ub (Ua (Ua (wpAny_isInstance (T := "int") (b:=false) (typeIs_int _ _ _) PySem.F.sub_int_bytes ?_)));simp -iota only [U1,if_false];refine Ub (Ua (Ua (wpAny_isInstance (T := "int") (b:=false) (typeIs_int _ _ _) PySem.F.sub_int_bytearray ?_)));simp -iota only [U1,if_false];refine Ub (Ub ?_);refine Ua (wpAny_newObj_type ?_)
  refine Ub ⟨plainId_quiet PySem.F.plain_sum_loop _,codeAny_sum_loopAnyS (Z13 W) (shV k val) (λi v hv=>match i,hv with | i+1,hv=>hval i v hv) s.heap.objs.size (λhm=>S8 _ (hfp _ hm)) n 1 _ tk 0 2 (.inr rfl) rfl (S5 _ _)
   (W.frame 0 s _ _ hst (by first | exact Ug _ | exact Tr _ | omega) λb _ o e=>Heap.get?_push_of_some _ e) ?_ λs' t' hm=>?_⟩
  ·exact (Heap.get?_push_size _ rfl).trans (by simp [preSum,shV])
  ·rw [XF];exact hQ s' t' (hm.drop_new (by first | exact Ug _ | exact Tr _ | omega))
end
end
section
open PySem PySem.W PyProof.Rows PySem.Calls Builtin Builtin.ObjectAttr Builtin.List
noncomputable def accA (ps:List (Str × Str)):List AV:=ps.map λp=>.tup [.str p.1, .str p.2]
theorem ZX (ps:List (Str × Str)):(accA ps).length=ps.length:=by simp [accA]
section
variable {E:Ent} {F F':FM} {env:Env} {loc:Loc} {tmp:List (Value × AV)} {mem:List (Addr × AO)} {s s':Shared}
theorem Rel.state (R:Rel B E F env loc tmp mem s) (hh:s'.heap=s.heap) (ho:s'.os=s.os) (hg:AllBare s'.gens):Rel B E F env loc tmp mem s':=by
 obtain ⟨h,g,dr,tk,os⟩:=s;obtain ⟨h',g',dr',tk',os'⟩:=s';dsimp only at hh ho hg;subst hh ho;exact { R with inv:=⟨R.inv.ok,R.inv.keep,R.inv.tb,R.inv.os,hg⟩ }
theorem pairs_at {vs:List Value} {ps:List (Str × Str)} (hF:F.le s.heap.get?) (r:RVs F vs (accA ps)):PairsAt s.heap vs.toArray ps:=by
 refine ⟨by rw [Uz,r.length,ZX],λi p hp=>?_⟩;obtain ⟨v,e1,e2⟩:=r.get (i:=i) (a:=.tup [.str p.1, .str p.2]) (by rw [accA,Ul,hp]; rfl)
 cases e2 with
 | tup a ws _ n h r2 =>
  obtain ⟨v1,v2,rfl,r3,r4⟩:=r2.n2;obtain ⟨_,rfl⟩:=r3.isStr; obtain ⟨_,rfl⟩:=r4.isStr;exact ⟨a,_,_,n,by simpa using e1,hF _ _ h⟩
theorem passing_all (n:Nat):passing (λ_=>true) n 0=Um n:=by simp [passing]
end
namespace Ogenpairs
noncomputable def Px (E:Ent) (F:FM) (env:Env) (loc:Loc) (tmp:List (Value × AV)) (mem:List (Addr × AO)) (s:Shared) (d u:Nat) (A:Around) (elt:Expr) (xa xb sx:Str) (pa pb pt px pos:Pos) (kt:Nat) (scope:Scope) (y C dy c P:Addr) (ps:List (Str × Str)) (as:List (Str × AV)) (Q:Value->Shared->Prop) (V:Nat->Value->Prop):Prop:=∀ {K:Frag} (hB:B.K=K) (hA:AOK d u A) (hd:d < recursionLimit) (R:Rel B E F env loc tmp mem s) (hk:env.kindOf sx=some .local) (hl:loc.lookup sx=some (.raw (.ref y))) (hsd:(sx == ("__debug__" : Str))=false) (hm:(y,AO.acc C dy (accA ps) as) ∈ mem) (hi:findIn K (.ref C) "__iter__" = some (some (.builtin "list.__iter__"))) (hli:mroIn K C (.type "list")=some true) (hcode:env.code=.ref c) (hC:WR B.K c P) (hP:P ∈ B.tabs) (hq:B.tq P=env.qual ++ "<genexpr>") (hco:scope.isCoroutine=false) (hclos:closureFor scope env=pure []) (hcell:∀ y ∈ scope.names,y.2≠.cell) (h0:scope.names.lookup (".0" : Str)=some NameKind.local) (hxa:scope.names.lookup xa=some .local) (hxb:scope.names.lookup xb=some .local) (hab:xa≠xb) (hkind:scope.kind=.function) (helt:∀ (A':Around) E' i p ta tb (s2:Shared) m2 code C0,A'.handled=none->ps[i]?=some p->s2.heap.Ns C0 m2->m2 xa=some (.str p.1 ta)->m2 xb=some (.str p.2 tb)->s2.heap.Ns mainGlobals B.mg->s2.heap.Ns builtinsNs B.mb ->
   wpAny (model prog w) A' (eval elt (genEnv scope [] C0 code builtinsNs env)) (λv s3=>V i v/\Keeps s2 s3) E' s2) (hQ:∀ a F' s' fp wr G P' St,F.le F'->Rel B E F' env loc tmp mem s'->WalksS prog w A.in4 a fp wr G ps.length P' St->(∀ i v,P' i v->V i v)->St 0 s'->(∀ b ∈ fp,b < s'.heap.objs.size)->(∀ i s,St i s->s.TypeIs (.ref a) "generator")->a ∈ fp ->
   (∀ s'',Moved wr G s' s''->Rel B E F' env loc tmp mem s'')->Q (.ref a) s'),wpAny (model prog w) A (eval (.GeneratorExp elt [⟨.Tuple [.Name xa pa, .Name xb pb] kt pt, .Name sx px, [],0⟩] scope pos) env) Q FF s
noncomputable def Rx (p:Ent × FM × Env × Loc × (List (Value × AV)) × (List (Addr × AO)) × Shared × Nat × Nat × Around × Expr × Str × Str × Str × Pos × Pos × Pos × Pos × Pos × Nat × Scope × Addr × Addr × Addr × Addr × Addr × (List (Str × Str)) × (List (Str × AV)) × (Value->Shared->Prop) × (Nat->Value->Prop)):Prop:=Px p.1 p.2.1 p.2.2.1 p.2.2.2.1 p.2.2.2.2.1 p.2.2.2.2.2.1 p.2.2.2.2.2.2.1 p.2.2.2.2.2.2.2.1 p.2.2.2.2.2.2.2.2.1 p.2.2.2.2.2.2.2.2.2.1 p.2.2.2.2.2.2.2.2.2.2.1 p.2.2.2.2.2.2.2.2.2.2.2.1 p.2.2.2.2.2.2.2.2.2.2.2.2.1 p.2.2.2.2.2.2.2.2.2.2.2.2.2.1 p.2.2.2.2.2.2.2.2.2.2.2.2.2.2.1 p.2.2.2.2.2.2.2.2.2.2.2.2.2.2.2.1 p.2.2.2.2.2.2.2.2.2.2.2.2.2.2.2.2.1 p.2.2.2.2.2.2.2.2.2.2.2.2.2.2.2.2.2.1 p.2.2.2.2.2.2.2.2.2.2.2.2.2.2.2.2.2.2.1 p.2.2.2.2.2.2.2.2.2.2.2.2.2.2.2.2.2.2.2.1 p.2.2.2.2.2.2.2.2.2.2.2.2.2.2.2.2.2.2.2.2.1 p.2.2.2.2.2.2.2.2.2.2.2.2.2.2.2.2.2.2.2.2.2.1 p.2.2.2.2.2.2.2.2.2.2.2.2.2.2.2.2.2.2.2.2.2.2.1 p.2.2.2.2.2.2.2.2.2.2.2.2.2.2.2.2.2.2.2.2.2.2.2.1 p.2.2.2.2.2.2.2.2.2.2.2.2.2.2.2.2.2.2.2.2.2.2.2.2.1 p.2.2.2.2.2.2.2.2.2.2.2.2.2.2.2.2.2.2.2.2.2.2.2.2.2.1 p.2.2.2.2.2.2.2.2.2.2.2.2.2.2.2.2.2.2.2.2.2.2.2.2.2.2.1 p.2.2.2.2.2.2.2.2.2.2.2.2.2.2.2.2.2.2.2.2.2.2.2.2.2.2.2.1 p.2.2.2.2.2.2.2.2.2.2.2.2.2.2.2.2.2.2.2.2.2.2.2.2.2.2.2.2.1 p.2.2.2.2.2.2.2.2.2.2.2.2.2.2.2.2.2.2.2.2.2.2.2.2.2.2.2.2.2
noncomputable section
def cx:=eps (neP neN (neP neFM (neP neI (neP neL (neP neL (neP neL (neP neS (neP neNt (neP neNt (neP neA (neP neI (neP neI (neP neI (neP neI (neP neI (neP neI (neP neI (neP neI (neP neI (neP neNt (neP neI (neP neNt (neP neNt (neP neNt (neP neNt (neP neNt (neP neL (neP neL (neP neR neR))))))))))))))))))))))))))))) Rx
def E:=cx.1
def F:=cx.2.1
def env:=cx.2.2.1
def loc:=cx.2.2.2.1
def tmp:=cx.2.2.2.2.1
def mem:=cx.2.2.2.2.2.1
def s:=cx.2.2.2.2.2.2.1
def d:=cx.2.2.2.2.2.2.2.1
def u:=cx.2.2.2.2.2.2.2.2.1
def A:=cx.2.2.2.2.2.2.2.2.2.1
def elt:=cx.2.2.2.2.2.2.2.2.2.2.1
def xa:=cx.2.2.2.2.2.2.2.2.2.2.2.1
def xb:=cx.2.2.2.2.2.2.2.2.2.2.2.2.1
def sx:=cx.2.2.2.2.2.2.2.2.2.2.2.2.2.1
def pa:=cx.2.2.2.2.2.2.2.2.2.2.2.2.2.2.1
def pb:=cx.2.2.2.2.2.2.2.2.2.2.2.2.2.2.2.1
def pt:=cx.2.2.2.2.2.2.2.2.2.2.2.2.2.2.2.2.1
def px:=cx.2.2.2.2.2.2.2.2.2.2.2.2.2.2.2.2.2.1
def pos:=cx.2.2.2.2.2.2.2.2.2.2.2.2.2.2.2.2.2.2.1
def kt:=cx.2.2.2.2.2.2.2.2.2.2.2.2.2.2.2.2.2.2.2.1
def scope:=cx.2.2.2.2.2.2.2.2.2.2.2.2.2.2.2.2.2.2.2.2.1
def y:=cx.2.2.2.2.2.2.2.2.2.2.2.2.2.2.2.2.2.2.2.2.2.1
def C:=cx.2.2.2.2.2.2.2.2.2.2.2.2.2.2.2.2.2.2.2.2.2.2.1
def dy:=cx.2.2.2.2.2.2.2.2.2.2.2.2.2.2.2.2.2.2.2.2.2.2.2.1
def c:=cx.2.2.2.2.2.2.2.2.2.2.2.2.2.2.2.2.2.2.2.2.2.2.2.2.1
def P:=cx.2.2.2.2.2.2.2.2.2.2.2.2.2.2.2.2.2.2.2.2.2.2.2.2.2.1
def ps:=cx.2.2.2.2.2.2.2.2.2.2.2.2.2.2.2.2.2.2.2.2.2.2.2.2.2.2.1
def as:=cx.2.2.2.2.2.2.2.2.2.2.2.2.2.2.2.2.2.2.2.2.2.2.2.2.2.2.2.1
def Q:=cx.2.2.2.2.2.2.2.2.2.2.2.2.2.2.2.2.2.2.2.2.2.2.2.2.2.2.2.2.1
def V:=cx.2.2.2.2.2.2.2.2.2.2.2.2.2.2.2.2.2.2.2.2.2.2.2.2.2.2.2.2.2
end
theorem main:Px E F env loc tmp mem s d u A elt xa xb sx pa pb pt px pos kt scope y C dy c P ps as Q V:=by
 intro K hB hA hd R hk hl hsd hm hi hli hcode hC hP hq hco hclos hcell h0 hxa hxb hab hkind helt hQ;subst hB;refine wpAny_GeneratorExp_walksQTD hA.hd hco hclos hcell h0 hxa hxb hab hkind (Uo hA.dp hd) (wpAny_Name (XD R (.inl hk) hl λv rv=>?_) hsd) (λ_=>rfl);obtain rfl:=rv.isRaw;obtain ⟨ox,es,n',I,_⟩:=ZQ (.acc _) (R.mr _ hm);obtain ⟨vs,n,e,r⟩:=YF R hm;refine acc_iter R.inv.kin I hi hli ?_;have H1:Hid B E F env mem s.heap.objs.size:=Hid.new R (Ug _)
 have R1:=R.track (a:=s.heap.objs.size) (ao:=.any λ_ o=>o={ cls:=.type "list_iterator", data:=.fields #[.ref y, .int 0 0] }) (tk:=s.toks) (h':=s.heap.push { cls:=.type "list_iterator", data:=.fields #[.ref y, .int 0 0] }) (λb o e=>Heap.get?_push_of_some _ e) (λb hb=>by
  simp [AO.places] at hb; subst hb; exact H1) (by simp [AO.places]) ⟨_,Heap.get?_push_size _ rfl,λG kG=>rfl⟩
 refine ⟨R1.inv.lim,gen_code R1 hcode hC hP hq λcode h₃ tk3 F3 k3 R3=>?_⟩;obtain ⟨bm,ob,b1,b2,b3,b4,b5,b6,b7,b8⟩:=tabs_bm R3.inv hP;have hmI:(s.heap.objs.size,AO.any λ_ o=>o={ cls:=.type "list_iterator", data:=.fields #[.ref y, .int 0 0] }) ∈ mem++[(s.heap.objs.size,AO.any λ_ o=>o={ cls:=.type "list_iterator", data:=.fields #[.ref y, .int 0 0] })]:=Ue.mpr (.inr (.head _));obtain ⟨oI,eI,hI⟩:=R3.mr _ hmI;have hI:=hI F3 (.refl _);subst hI;obtain ⟨vs3,n₃,e₃,r₃⟩:=YF R3 (Ue.mpr (.inl hm));have hyI:y≠s.heap.objs.size:=λq=>H1.fp (.tail _ (Ue.mpr (.inr (U4.mpr ⟨_,hm,by rw [q]; exact .head _⟩))))
 have h4:∀ a,a < 4->a≠s.heap.objs.size:=λa ha q=>by
  obtain ⟨o,_,_,e,_⟩:=R.inv.ok.g;have h3:=Heap.lt_size e;rw [R.inv.ok.size] at h3;have h3:3 < B.n:=h3;have:=H1.n;rw [<- q] at this;exact absurd (Uo this ha) (Th.mpr h3)
 refine wpAny_builtinsFor (by rw [R3.fr.glob]; exact R3.inv.g) b1 b2 b5 b6 b7 b8 ?_;refine ⟨s.heap.objs.size,Um h₃.objs.size++[s.heap.objs.size], [s.heap.objs.size],ps.length,PairP ps,_,_,λ_=>true,V,rfl,walk_pairs (h₀:=h₃) ⟨_,n₃,e₃,rfl⟩ (λT hT=>?_) (pairs_at R3.le r₃) hyI,?_,⟨⟨_,eI,rfl,rfl⟩,λb o _ e=>e⟩,λb hb=>?_,R3.inv.lim,?_,λhref kh=>⟨?_,?_⟩,λa h₅ tk5 gs hbare hlt hsz5 k5 W G0=>?_⟩
 ·have:=eI.symm.trans hT;obtain rfl:=Up.inj this; rfl
 ·rintro i vals ⟨p,ta,tb,_,rfl⟩;exact ⟨_,_,rfl⟩
 ·rcases Ue.mp hb with hb | hb
  ·exact U0.mp hb
  ·rw [Uj.mp hb]; exact Heap.lt_size eI
 ·intro q;exact h4 2 (by decide) (Uj.mp q)
 ·intro A' E' i va vb s2 m2 _ _ _ _ _ _ _ _;exact Ub ⟨rfl,s2.heap,s2.toks,rfl,λ_ _ e=>e⟩
 ·intro A' E' i va vb s2 m2 hh _ _ hp _ hns ha hb kp;obtain ⟨p,ta,tb,hpi,hv⟩:=hp;have hv:=Array.ext_iff.mp hv;have hv0:va=.str p.1 ta:=hv.2 0 (by simp) (by simp);have hv1:vb=.str p.2 tb:=hv.2 1 (by simp) (by simp);subst hv0 hv1;have low:∀ b o,b < 4->h₃.get? b=some o->s2.heap.get? b=some o:=λb o hb e=>kp b (U0.mpr (Heap.lt_size e)) (λq=>h4 b hb (Uj.mp q)) o (kh b o e);have ns:∀ {b:Addr} {m:Str->Option Value},b < 4->h₃.Ns b m->s2.heap.Ns b m:=λhb hq1=>by obtain ⟨o,es,ep,e,r⟩:=hq1; exact ⟨o,es,ep,low _ o hb e,r⟩
  refine helt A' E' i p ta tb s2 m2 _ _ hh hpi hns ha hb (ns (by decide) R3.inv.g) (ns (by decide) R3.inv.b)
 ·rw [passing_all,Sx] at W
  have R5:Rel B E F3 env loc tmp mem { heap:=h₅,gens:=s.gens.push gs,drawn:=s.drawn,toks:=tk5,os:=s.os } :=
   ((R3.drop (List.sublist_append_left _ _)).ext (h':=h₅) (tk:=tk5) k5).state rfl rfl (R3.inv.gens.push hbare)
  refine hQ a F3 _ _ _ _ _ _ k3 R5 W (λi v hv=>?_) G0 (λb hb=>?_) (λi s' hg=>hg.1.typeIs) (.head _) λs'' mv=>?_
  ·obtain ⟨j,hj,hv⟩:=hv;have:=Un.mp hj;simp at this;rw [this.2]; exact hv
  ·show b < h₅.objs.size;rw [hsz5];have hlt':h₃.objs.size < a:=hlt;rcases Ur.mp hb with rfl | hb
   ·exact Tg _
   ·rcases Ur.mp hb with hb | hb
    ·have:b=h₃.objs.size:=hb;exact Tf (this ▸ hlt')
    ·have:b < h₃.objs.size:=U0.mp hb;exact Tf (U5 this hlt')
  ·have sub:∀ b,b ∈ fp env mem->b ∈ fp env (mem++[(s.heap.objs.size,AO.any λ_ o=>o={ cls:=.type "list_iterator", data:=.fields #[.ref y, .int 0 0] })]):=λb hb =>
    (((List.Sublist.refl _).append (Zq (List.sublist_append_left _ _))).cons_cons _).subset hb
   have HC:=Hid.new R3 (a:=h₃.objs.size) (Ug _)
   have hw:∀ b ∈ [h₃.objs.size,s.heap.objs.size],Hid B E F3 env mem b:=λb hb=>by
    rcases Ur.mp hb with rfl | hb
    ·exact ⟨HC.he,HC.mu,HC.f,λq=>HC.fp (sub _ q),HC.n⟩
    ·rw [Uj.mp hb];exact ⟨H1.he,H1.mu,(R3.off _ (.tail _ (Ue.mpr (.inr (U4.mpr ⟨_,hmI, .head _⟩))))).1,H1.fp,H1.n⟩
   exact (R5.hid (tk:=s''.toks) hw mv.heap).state rfl mv.os (mv.gens.bare R5.inv.gens)
end Ogenpairs
section
variable {E:Ent} {F F':FM} {env:Env} {loc:Loc} {tmp:List (Value × AV)} {mem:List (Addr × AO)} {s s':Shared}
theorem gen_pairs {E F env loc tmp mem s d u A elt xa xb sx pa pb pt px pos kt scope y C dy c P ps as Q} (V:Nat->Value->Prop):Ogenpairs.Px E F env loc tmp mem s d u A elt xa xb sx pa pb pt px pos kt scope y C dy c P ps as Q V:=eps_all Ogenpairs.Rx Ogenpairs.main (E,F,env,loc,tmp,mem,s,d,u,A,elt,xa,xb,sx,pa,pb,pt,px,pos,kt,scope,y,C,dy,c,P,ps,as,Q,V)
end
end
section
open PySem PySem.W PyProof.Rows PySem.Calls Builtin Builtin.ObjectAttr Builtin.List
noncomputable def Zb (ps:List (Str × Str)):Nat:=(ps.map λp=>p.1.length+p.2.length).sum
noncomputable def valN (ps:List (Str × Str)) (i:Nat):Int:=((ps[i]?.elim 0 λp=>p.1.length+p.2.length:Nat):Int)
theorem preSum_val (ps:List (Str × Str)):preSum (valN ps) ps.length=(Zb ps:Int):=by
 have key:∀ k,k<=ps.length->preSum (valN ps) k=(Zb (ps.take k):Int):=by
  intro k
  induction k with
  | zero=>intro _; rfl
  | succ k ih =>
   intro hk;have hx:ps[k]?=some ps[k]:=Ui hk;show preSum (valN ps) k+valN ps k=_;rw [ih (U6 hk),Sh hk];unfold Zb valN;rw [hx,Tv,List.sum_append];simp
 rw [key _ (Ug _),S1]
section
variable {A:Around} {Er:Value->Shared->Prop} {s:Shared} {cenv:Env} {x:Str} {p px pos:Pos} {m mg mb:Str->Option Value}
theorem g_len {t:Str} {tk:Tok} {Q:Value->Shared->Prop} (hk:cenv.scope.kind=.function) (hx:cenv.kindOf x=some .local) (hl:cenv.kindOf "len" = some .globalImplicit) (hd:(x == ("__debug__" : Str))=false) (hns:s.heap.Ns cenv.locals m) (hv:m x=some (.str t tk)) (hg:s.heap.Ns cenv.globals mg) (hgn:mg "len" = none)
  (hb:s.heap.Ns cenv.builtins mb) (hbv:mb "len" = some (.builtin "len")) (hs:t.length < 2 ^ 62) (h:∀ tk tk',Q (.int t.length tk) { s with toks:=tk' }):wpAny (model prog w) A (eval (.Call (.Name "len" p) [.Name x px] [] pos) cenv) Q Er s:=by
 show wpAny (model prog w) A (do callWith pos (<- eval (.Name "len" p) cenv) [] (backTo pos (starEach [.Name x px] cenv)) (backToKw pos (keywordEach [] cenv))) _ _ s;refine Ua (Name_function_global hk hl (loadGlobal_builtin hg hgn hb hbv ?_));refine Zt rfl rfl (wpAny_items_cons (wpAny_Name (wpAny_loadName_local hk hx hns hv ?_) hd) rfl);exact wpAny_items_nil (wpAny_evalAll_nil ⟨ZW,P.len_str (by exact ar46 hs) (h _ _)⟩)
end
section
variable {d u:Nat} {env:Env} {loc:Loc} {mem:List (Addr × AO)}
theorem e_sumGen {xa xb sx nm:Str} {p0 pl pa' pl' pb' pa pb pt px po pattr pos pe ps0 pg pco:Pos} {kt:Nat} {scope:Scope} {y C dy c P:Addr} {ps:List (Str × Str)} {as:List (Str × AV)} {k:Nat} {K:Frag} {Q:PE} (hB:B.K=K)
  (hd:d < recursionLimit) (hsum:env.kindOf "sum" = some .globalImplicit) (hns:nsIn K mainGlobals "sum" = some none) (hnl:nsIn K mainGlobals "len" = some none) (hk:env.kindOf sx=some .local) (hl:loc.lookup sx=some (.raw (.ref y))) (hsd:(sx == ("__debug__" : Str))=false) (hm:(y,AO.acc C dy (accA ps) as) ∈ mem) (hi:findIn K (.ref C) "__iter__" = some (some (.builtin "list.__iter__"))) (hli:mroIn K C (.type "list")=some true)
  (hcode:env.code=.ref c) (hC:WR B.K c P) (hP:P ∈ B.tabs) (hq:B.tq P=env.qual ++ "<genexpr>")
  (hco:scope.isCoroutine=false) (hclos:closureFor scope env=pure []) (hcell:∀ y ∈ scope.names,y.2≠.cell) (h0:scope.names.lookup (".0" : Str)=some NameKind.local)
  (hxa:scope.names.lookup xa=some .local) (hxb:scope.names.lookup xb=some .local) (hab:xa≠xb) (hkind:scope.kind=.function) (hlen:scope.names.lookup ("len" : Str)=some .globalImplicit) (hda:(xa == ("__debug__" : Str))=false) (hdb:(xb == ("__debug__" : Str))=false)
  (hg:GETA prog w B mem (.raw (.ref y)) nm (.int (k:Int))) (hsz:∀ p ∈ ps,p.1.length < 2 ^ 40/\p.2.length < 2 ^ 40) (hattr:∀ env,eval (.Attribute (.Name sx pattr) nm po) env=(do
   let ov <- eval (.Name sx pattr) env
   standAt po.atName
   let r <- holding [ov] (getAttr ov nm true)
   letTemporaryGo (.Name sx pattr) ov r
   pure r)) (q:Q (.int ((k+Zb ps:Nat):Int)) mem) :
  WE prog w B d u env loc mem (.Call (.Name "sum" p0) [.GeneratorExp (.BinOp (.Call (.Name "len" pl) [.Name xa pa'] [] pe) .Add (.Call (.Name "len" pl') [.Name xb pb'] [] ps0) pg) [⟨.Tuple [.Name xa pa, .Name xb pb] kt pt, .Name sx px, [],0⟩] scope pos, .Attribute (.Name sx pattr) nm po] [] pco) Q:=λA E F tmp s hA R=>by
 show wpAny (model prog w) A (do callWith pco (<- eval (.Name "sum" p0) env) [] (backTo pco (starEach [_,_] env)) (backToKw pco (keywordEach [] env))) _ _ s;refine Ua (Ud (x_builtin (d:=d) (u:=u) (Q:=λa m=>a=.raw (.builtin "sum")/\m=mem) K _ hB hsum hns bf_sum (by decide) (by decide) ⟨rfl,rfl⟩ A E F tmp s hA R) (λv s₁ h₁=>?_) λ_ _ x=>x);obtain ⟨a,mem1,F1,k₁,R1,rfl,rfl⟩:=h₁;have hv:=R1.top;obtain rfl:=hv.isRaw;have R1:=R1.pop;subst hB;refine Zt rfl rfl (wpAny_items_cons (gen_pairs (λi v=>∃ t,v=.int (valN ps i) t) rfl hA hd R1 hk hl hsd hm hi hli hcode hC hP hq hco hclos hcell h0 hxa hxb hab hkind (λA' E' i p ta tb s2 m2 code C0 hh hp hns2 ha hb hgl hbl=>?_) λa F2 s2 fp wr G P' St k₂ R₂ W hV hst hfp _ _ hmv=>?_) rfl)
 ·have hgl':s2.heap.Ns (genEnv scope [] C0 code builtinsNs env).globals B.mg:=by
   show s2.heap.Ns env.globals B.mg;rw [R1.fr.glob]; exact hgl
  have hgn:B.mg "len" = none:=mg_none_of R1.inv.ok.kin R1.inv.ok.g hnl;have hbv:B.mb "len" = some (.builtin "len"):=(R1.inv.ok.bi _ (by decide)).trans bf_len;obtain ⟨z1,z2⟩:=hsz p (Uk hp);refine wpAny_BinOp (g_len hkind hxa hlen hda hns2 ha hgl' hgn hbl hbv (by exact lbl z1 rfl) λt1 t1'=>?_);refine g_len (s:={ s2 with toks:=t1' }) hkind hxb hlen hdb hns2 hb hgl' hgn hbl hbv (by exact lbl z2 rfl) λt2 t2'=>?_;refine add_int ⟨⟨t2',?_⟩,s2.heap,_,rfl,λ_ _ e=>e⟩;unfold valN;rw [hp];simp
 ·refine wpAny_items_cons (Attribute_any_ (wpAny_Name (XD R₂ (.inl hk) hl λv rv=>?_) hsd) (hattr _)) rfl;refine hg A E F2 env loc tmp s2 v true hA.hd rv R₂ _ λr tk ht rk=>wpAny_items_nil (wpAny_evalAll_nil ⟨ZW,?_⟩);obtain ⟨_,rfl⟩:=rk.isInt;refine call_sum2 (n:=ps.length) (WalksS.in4_1 W) (W.frame 0 s2 s2.heap tk hst ht λb _ o e=>e) hfp (valN ps) (λi v hv=>hV i v hv) λs' t' mv=>?_;have mv':Moved wr G s2 s':=⟨mv.heap,mv.gens,mv.drawn,mv.os,Uc ht mv.toks⟩;rw [preSum_val];exact ⟨_,mem1,F2,k₁.trans k₂,(hmv s' mv').push (by push_cast; exact .int _ _),q⟩
end
end
section
open PySem PySem.W PyProof.Rows PySem.Calls Builtin Builtin.ObjectAttr Builtin.List
noncomputable def catS:List Str->Str
 | []=>Str.empty
 | x :: r=>x++catS r
theorem e_eq:Str.ofString "" = Str.empty:=by decide +kernel
theorem joinS_cat:∀ xs:List Str,Str.join (Str.ofString "") xs=catS xs
 | []=>rfl
 | [x]=>(Str.append_empty x).symm
 | x :: y :: r=>by
  show x++Str.ofString "" ++ Str.join (Str.ofString "") (y :: r)=_;rw [joinS_cat,e_eq,Str.append_empty]; rfl
theorem join_cat (xs:List Str):Txt.join (Str.ofString "") xs=catS xs:=by
 unfold Txt.join;rw [StrLaws.glued_eq_join,joinS_cat]
theorem catS_len:∀ xs:List Str,(catS xs).length=(xs.map (·.length)).sum
 | []=>rfl
 | x :: r=>by
  show (x++catS r).length=_;rw [Str.length_append,catS_len r]; rfl
noncomputable def ZV (ps:List (Str × Str)):Str:=catS (ps.map λp=>p.1++p.2)
theorem W4 (ps:List (Str × Str)):(ZV ps).length=Zb ps:=by
 unfold ZV Zb;rw [catS_len,Tc]
 congr 1
 exact Tp λp _=>Str.length_append _ _
section
variable {A:Around} {Er:Value->Shared->Prop} {s:Shared} {cenv:Env} {xa xb:Str} {p0 pa' pb' pt' pattr pos:Pos} {kt':Nat} {m mg mb:Str->Option Value}
theorem g_join (pl:Sem Bool) {ta tb:Str} {tka tkb tke:Tok} {Q:Value->Shared->Prop} (hk:cenv.scope.kind=.function) (hxa:cenv.kindOf xa=some .local) (hxb:cenv.kindOf xb=some .local) (hl:cenv.kindOf "EMPTYSTRING" = some .globalImplicit) (hda:(xa == ("__debug__" : Str))=false) (hdb:(xb == ("__debug__" : Str))=false)
  (hns:s.heap.Ns cenv.locals m) (ha:m xa=some (.str ta tka)) (hb:m xb=some (.str tb tkb)) (hg:s.heap.Ns cenv.globals mg) (hgv:mg "EMPTYSTRING" = some (.str (Str.ofString "") tke)) (hs:ta.length+tb.length<=2 ^ 20)
  (he:eval (.Call (.Attribute (.Name "EMPTYSTRING" p0) "join" pattr) [.Tuple [.Name xa pa', .Name xb pb'] kt' pt'] [] pos) cenv=(do
   let ov <- eval (.Name "EMPTYSTRING" p0) cenv
   standAt pattr.atName
   let (f,first) <- holding [ov] (getMethod ov "join" pl)
   callWith pos f first (backTo pos (starEach [.Tuple [.Name xa pa', .Name xb pb'] kt' pt'] cenv)) []))
  (hQ:∀ tk tk',Q (.str (ta++tb) tk) { s with heap:=s.heap.push { cls:=.type "tuple", data:=.seq #[.str ta tka, .str tb tkb] },toks:=tk' }) :
  wpAny (model prog w) A (eval (.Call (.Attribute (.Name "EMPTYSTRING" p0) "join" pattr) [.Tuple [.Name xa pa', .Name xb pb'] kt' pt'] [] pos) cenv) Q Er s:=by
 refine MethodCall_ (pl:=pl) (Name_function_global hk hl (loadGlobal_global hg hgv (Ud (GM.join (Q:=λfx s'=>fx=(.builtin "str.join", [.str (Str.ofString "") tke])/\s'=s) ⟨rfl,rfl⟩) (λfx s' hfx=>?_) λ_ _ x=>x))) he;obtain ⟨rfl,rfl⟩:=hfx;dsimp only;refine Zt rfl rfl (wpAny_items_cons (wpAny_Tuple (wpAny_items_cons (wpAny_Name (wpAny_loadName_local hk hxa hns ha (wpAny_items_cons (wpAny_Name (wpAny_loadName_local hk hxb hns hb (wpAny_items_nil ⟨by show 2<=2 ^ 24; decide,wpAny_items_nil (wpAny_evalAll_nil ⟨ZW,?_⟩)⟩)) hdb) rfl)) hda) rfl)) rfl);refine join_tuple (items:=#[.str ta tka, .str tb tkb]) (ys:=[ta,tb]) ⟨_,Heap.get?_push_size _ rfl,rfl,0,rfl⟩ (.cons _ _ (.cons _ _ .nil)) ?_ λt' k=>?_
 ·show ta.length+(tb.length+0)+2*0<=16777216;exact ar79 hs
 ·have:Txt.join (Str.ofString "") [ta,tb]=ta++tb:=by
   rw [join_cat];show ta++(tb++Str.empty)=_;rw [Str.append_empty]
  rw [this];exact hQ _ _
end
section
variable {d u:Nat} {env:Env} {loc:Loc} {mem:List (Addr × AO)}
theorem mem_sum {a:Nat}:∀ {l:List Nat},a ∈ l->a<=l.sum
 | x :: r,h=>by
  rw [Ri];rcases Ur.mp h with rfl | h
  ·exact U7 _ _
  ·exact Uc (mem_sum h) (S5 _ _)
theorem strs_at {ps:List (Str × Str)} {l:List (Str × Tok)} {P':Nat->Value->Prop} (hV:∀ i v,P' i v->∃ t,v=.str (ps[i]?.elim Str.empty λp=>p.1++p.2) t) (h:ItemsOf P' (strValues l).toArray ps.length):l.map (·.1)=ps.map λp=>p.1++p.2:=by
 obtain ⟨h1,h2⟩:=h;have hl:l.length=ps.length:=by simpa [strValues] using h1
 apply List.ext_getElem?;intro i;rw [Ul,Ul]
 cases q:l[i]? with
 | none =>
  have:ps[i]?=none:=by rw [Sp] at q ⊢; exact ar80 hl q
  rw [this]; rfl
 | some z =>
  have:=h2 i (.str z.1 z.2) (by simp [strValues,q]);obtain ⟨t,ht⟩:=hV i _ this;have hi:i < ps.length:=by rw [<- hl]; exact (Un.mp q).1
  rw [Ui hi] at ht ⊢;exact congrArg some (by injection ht)
theorem e_joinGen (pl:Sem Bool) {xa xb sx:Str} {p0 pj pa' pb' pt' pj' p0' pe pa pb pt px pos pc:Pos} {kt kt':Nat} {scope:Scope} {y C dy c P:Addr} {ps:List (Str × Str)} {as:List (Str × AV)} {K:Frag} {Q:PE} {tke:Tok} (hB:B.K=K)
  (hd:d < recursionLimit) (hes:env.kindOf "EMPTYSTRING" = some .globalImplicit) (hne:nsIn K mainGlobals "EMPTYSTRING" = some (some (.str (Str.ofString "") tke))) (hk:env.kindOf sx=some .local) (hl:loc.lookup sx=some (.raw (.ref y))) (hsd:(sx == ("__debug__" : Str))=false) (hm:(y,AO.acc C dy (accA ps) as) ∈ mem) (hi:findIn K (.ref C) "__iter__" = some (some (.builtin "list.__iter__"))) (hli:mroIn K C (.type "list")=some true)
  (hcode:env.code=.ref c) (hC:WR B.K c P) (hP:P ∈ B.tabs) (hq:B.tq P=env.qual ++ "<genexpr>")
  (hco:scope.isCoroutine=false) (hclos:closureFor scope env=pure []) (hcell:∀ y ∈ scope.names,y.2≠.cell) (h0:scope.names.lookup (".0" : Str)=some NameKind.local)
  (hxa:scope.names.lookup xa=some .local) (hxb:scope.names.lookup xb=some .local) (hab:xa≠xb) (hkind:scope.kind=.function) (hsE:scope.names.lookup ("EMPTYSTRING" : Str)=some .globalImplicit) (hda:(xa == ("__debug__" : Str))=false) (hdb:(xb == ("__debug__" : Str))=false)
  (hsz:Zb ps<=2 ^ 20) (hsl:ps.length<=2 ^ 20)
  (he':∀ C0 code,∃ pl,eval (.Call (.Attribute (.Name "EMPTYSTRING" p0') "join" pj') [.Tuple [.Name xa pa', .Name xb pb'] kt' pt'] [] pe) (genEnv scope [] C0 code builtinsNs env)=(do
   let ov <- eval (.Name "EMPTYSTRING" p0') (genEnv scope [] C0 code builtinsNs env)
   standAt pj'.atName
   let (f,first) <- holding [ov] (getMethod ov "join" pl)
   callWith pe f first (backTo pe (starEach [.Tuple [.Name xa pa', .Name xb pb'] kt' pt'] (genEnv scope [] C0 code builtinsNs env))) []))
  (he:eval (.Call (.Attribute (.Name "EMPTYSTRING" p0) "join" pj) [.GeneratorExp (.Call (.Attribute (.Name "EMPTYSTRING" p0') "join" pj') [.Tuple [.Name xa pa', .Name xb pb'] kt' pt'] [] pe) [⟨.Tuple [.Name xa pa, .Name xb pb] kt pt, .Name sx px, [],0⟩] scope pos] [] pc) env=(do
   let ov <- eval (.Name "EMPTYSTRING" p0) env
   standAt pj.atName
   let (f,first) <- holding [ov] (getMethod ov "join" pl)
   callWith pc f first (backTo pc (starEach [.GeneratorExp (.Call (.Attribute (.Name "EMPTYSTRING" p0') "join" pj') [.Tuple [.Name xa pa', .Name xb pb'] kt' pt'] [] pe) [⟨.Tuple [.Name xa pa, .Name xb pb] kt pt, .Name sx px, [],0⟩] scope pos] env)) []))
  (q:Q (.str (ZV ps)) mem) :
  WE prog w B d u env loc mem (.Call (.Attribute (.Name "EMPTYSTRING" p0) "join" pj) [.GeneratorExp (.Call (.Attribute (.Name "EMPTYSTRING" p0') "join" pj') [.Tuple [.Name xa pa', .Name xb pb'] kt' pt'] [] pe) [⟨.Tuple [.Name xa pa, .Name xb pb] kt pt, .Name sx px, [],0⟩] scope pos] [] pc) Q:=λA E F tmp s hA R=>by
 subst hB;have hgv:B.mg "EMPTYSTRING" = some (.str (Str.ofString "") tke):=mg_of R.inv.ok.kin R.inv.ok.g hne;refine MethodCall_ (pl:=pl) (Name_function_global R.fr.kind hes (loadGlobal_global (by rw [R.fr.glob]; exact R.inv.g) hgv (Ud (GM.join (Q:=λfx s'=>fx=(.builtin "str.join", [.str (Str.ofString "") tke])/\s'=s) ⟨rfl,rfl⟩) (λfx s' hfx=>?_) λ_ _ x=>x))) he;obtain ⟨rfl,rfl⟩:=hfx;refine Zt rfl rfl (wpAny_items_cons (gen_pairs (λi v=>∃ t,v=.str (ps[i]?.elim Str.empty λp=>p.1++p.2) t) rfl hA hd R hk hl hsd hm hi hli hcode hC hP hq hco hclos hcell h0 hxa hxb hab hkind (λA' E' i p ta tb s2 m2 code C0 hh hp hns2 ha hb hgl hbl=>?_) λa F2 s2 fp wr G P' St k₂ R₂ W hV hst hfp hT hafp hmv=>?_) rfl)
 ·have hgl':s2.heap.Ns (genEnv scope [] C0 code builtinsNs env).globals B.mg:=by
   show s2.heap.Ns env.globals B.mg;rw [R.fr.glob]; exact hgl
  obtain ⟨pl',he''⟩:=he' C0 code
  have hpl:p.1.length+p.2.length<=2 ^ 20:=by
   refine Uc ?_ hsz;unfold Zb;exact mem_sum (Uq.mpr ⟨p,Uk hp,rfl⟩)
  refine g_join pl' hkind hxa hxb hsE hda hdb hns2 ha hb hgl' hgv hpl he'' λtk tk'=>⟨⟨tk,?_⟩,_,_,rfl,λb o e=>Heap.get?_push_of_some _ e⟩
  rw [hp]; rfl
 ·refine wpAny_items_nil (wpAny_evalAll_nil ⟨ZW,?_⟩);refine SC.joinGen (WalksS.in4_2 W) hT hst hfp hafp (λi v hv=>by obtain ⟨t,e⟩:=hV i v hv; exact ⟨_,t,e⟩) (λs' l mv hit=>?_) (Uc hsl (by decide));have hl':=strs_at hV hit;rw [hl'];refine ⟨joinOk_of ?_,λt' k=>?_⟩
  ·have:((ps.map λp=>p.1++p.2).map (·.length)).sum=Zb ps:=by
    rw [Tc]; unfold Zb
    congr 1
    exact Tp λp _=>Str.length_append _ _
   rw [this];show Zb ps+_*0<=16777216;exact ar83 hsz this
  ·rw [join_cat];exact ⟨_,mem,F2,k₂,((hmv s' mv).toks (tk:=k)).push (.str _ _),q⟩
end
end
section
open PySem PySem.W PyProof.Rows PySem.Calls Builtin Builtin.ObjectAttr Builtin.List
section
variable {d u:Nat} {env:Env} {loc:Loc} {mem:List (Addr × AO)} {x C dx f:Addr} {ao:AO} {as:List (Str × AV)} {K:Frag}
theorem PoC.toks {E:Ent} {F:FM} {tmp:List (Value × AV)} {Q:AV->List (Addr × AO)->Prop} {v:Value} {s:Shared} {tk:Nat} (h:PoC B E F env loc tmp Q v s):PoC B E F env loc tmp Q v { s with toks:=tk }:=by
 obtain ⟨a,m,F',k,r,R,q⟩:=h;exact ⟨a,m,F',k,r,R.toks,q⟩
theorem len_body {A:Around} {E:Ent} {F:FM} {tmp:List (Value × AV)} {s:Shared} {Q:PE} (hB:B.K=K) (hm:(x,ao) ∈ mem) (hi:IsI C dx as ao) (hs:findIn K (.ref C) "__len__" = some (some (.ref f))) (hf:typeIn K (.ref f)=some (.type "function"))
  (hA:AOK d u A) (R:Rel B E F env loc tmp mem s) (h:CALL prog w B d u env loc (.raw (.ref f)) [.raw (.ref x)] [] mem λa m=>∃ n:Nat,a=.int (n:Int)/\n < 2 ^ 62/\Q (.int (n:Int)) m) :
  wpAny (model prog w) A (Builtin.«len» ⟨[.ref x], []⟩) (λfin s'=>∃ v,fin=.done (.ret v)/\PoC B E F env loc tmp Q v s') FF s:=by
 subst hB;obtain ⟨ox,es,n,I,_⟩:=ZQ hi (R.mr _ hm);unfold Builtin.«len»;refine Ua (m:=oneArg "len" _) (Ub ?_);refine Ua (m:=callSpecial? (.ref x) (Str.ofString "__len__")) (special_fn R.inv.kin I hs hf (Ud (h A E F tmp s _ [.ref x] [] hA R (.raw _) (.one (.raw _)) .nil) (λr s' hr=>?_) λ_ _ y=>y));obtain ⟨a,m,F',k,r,R',n,rfl,hn,q⟩:=hr;obtain ⟨_,rfl⟩:=r.isInt
 rename_i t
 refine Ua (wpAny_holding (Ub ?_));refine Ua (wpAny_letGo ?_);show wpAny _ _ (if ((n:Nat):Int) < 0 then _ else _) _ _ _;rw [if_neg (by exact Int.not_ofNat_neg n)];show wpAny _ _ (if ((n:Nat):Int) ≥ 2 ^ 63 then _ else _) _ _ _;rw [if_neg (by exact ar46 hn)];exact Ua (wpAny_mkInt (Ub ⟨_,rfl,⟨.int n,m,F',k, .int _ _,R'.toks,q⟩⟩))
theorem c_lenI {Q:PE} (hB:B.K=K) (hm:(x,ao) ∈ mem) (hi:IsI C dx as ao) (hs:findIn K (.ref C) "__len__" = some (some (.ref f))) (hf:typeIn K (.ref f)=some (.type "function"))
  (h:CALL prog w B d (u+1) env loc (.raw (.ref f)) [.raw (.ref x)] [] mem λa m=>∃ n:Nat,a=.int (n:Int)/\n < 2 ^ 62/\Q (.int (n:Int)) m) :
  CALL prog w B d u env loc (.raw (.builtin "len")) [.raw (.ref x)] [] mem Q:=λA E F tmp s fv vs kvs hA R hfv ha hk=>by
 obtain rfl:=hfv.isRaw;obtain rfl:=hk.n0;obtain ⟨v1,rfl,r1⟩:=ha.n1;obtain rfl:=r1.isRaw;exact call_function_entry kind_len plain_len entry_len (args_len1 _) (len_body hB hm hi hs hf hA.in1 R h)
theorem vt_inst {b:Bool} (hB:B.K=K) (hm:(x,ao) ∈ mem) (hi:IsI C dx as ao) (hb:findIn K (.ref C) "__bool__" = some none) (hs:findIn K (.ref C) "__len__" = some (some (.ref f))) (hf:typeIn K (.ref f)=some (.type "function"))
  (h:∀ env loc,CALL prog w B d (u+1) env loc (.raw (.ref f)) [.raw (.ref x)] [] mem λa m=>∃ n:Nat,a=.int (n:Int)/\n < 2 ^ 62/\m=mem/\b=(n != 0)):VT prog w B d u mem (.raw (.ref x)) b:=λA E F env loc tmp s va hA hv R=>by
 obtain rfl:=hv.isRaw;have key:=len_body (Q:=λa m=>m=mem/\∃ n:Nat,a=.int (n:Int)/\b=(n != 0)) hB hm hi hs hf hA.in1 R ((h env loc).mono λa m hq1=>by obtain ⟨n,e1,e2,e3,e4⟩:=hq1; exact ⟨n,e1,e2,e3,n,rfl,e4⟩)
 have key2:wpAny (model prog w) A (runValue (.builtin "len" ⟨[.ref x], []⟩)) (PoC B E F env loc tmp λa m=>m=mem/\∃ n:Nat,a=.int (n:Int)/\b=(n != 0)) FF s:=by
  refine wpAny_runValue (codeAny_builtin entry_len ?_);rw [Around.under_plainId plain_len _];exact Ud key (λfin s' hq1=>by obtain ⟨v,e,hv⟩:=hq1; exact by subst e; exact hv) λ_ _ e=>e
 subst hB;obtain ⟨ox,es,n,I,_⟩:=ZQ hi (R.mr _ hm);have X:=R.inv.kin;unfold truthy
 have h1:∀ {Q:Option Value->Shared->Prop},Q none s->wpAny (model prog w) A (callSpecial? (.ref x) (Str.ofString "__bool__")) Q FF s:=λq =>
  Ua (Ua (I.type.here ((looks_findIn X hb).here (Ub q))))
 have h2:∀ {Q:Option Value->Shared->Prop},Q (some (.ref f)) s->wpAny (model prog w) A (specialOf (.ref x) (Str.ofString "__len__")) Q FF s:=λq =>
  Ua (I.type.here ((looks_findIn X hs).here q))
 have h3:wpAny (model prog w) A (runValue (.builtin "len" ⟨[.ref x], []⟩) >>= λr=>match r with | .int n _=>pure (n != 0) | _=>unsupported "internal:truth.len") (PoB B E F env loc tmp mem b) FF s:=by
  refine Ua (Ud key2 (λv s' hv=>?_) λ_ _ e=>e);obtain ⟨a,m,F',k,r,R',hm',n,ha,hb'⟩:=hv;subst ha; subst hm';obtain ⟨_,rfl⟩:=r.isInt;refine Ub ⟨?_,F',k,R'⟩;rw [hb']
  cases n <;> rfl
 first
  | refine Ua (h1 ?_)
  | refine Ua (Ub (Ua (h1 ?_)))
 first
  | refine Ua (h2 ?_)
  | refine Ua (Ub (Ua (h2 ?_)))
 first
  | exact h3
  | exact Ua (Ub h3)
theorem c_strI {Q:PE} (hB:B.K=K) (hu:u+2 < cLine) (hm:(x,ao) ∈ mem) (hi:IsI C dx as ao) (hs:findIn K (.ref C) "__str__" = some (some (.ref f))) (hf:isFn K (.ref f)=true)
  (h:CALL prog w B d (u+2) env loc (.raw (.ref f)) [.raw (.ref x)] [] mem λa m=>∃ y:Str,a=.str y/\Q (.str y) m) :
  CALL prog w B d u env loc (.raw (.type "str")) [.raw (.ref x)] [] mem Q:=λA E F tmp s fv vs kvs hA R hfv ha hk=>by
 obtain rfl:=hfv.isRaw;obtain rfl:=hk.n0;obtain ⟨v1,rfl,r1⟩:=ha.n1;obtain rfl:=r1.isRaw;subst hB;obtain ⟨ox,es,n,I,_⟩:=ZQ hi (R.mr _ hm);refine kso_call (Uo hA.in1.in1.un hu) R.inv.kin I hs hf (Ud (h A.in1.in1 E F tmp s _ [.ref x] [] hA.in1.in1 R (.raw _) (.one (.raw _)) .nil) (λv s' hv=>?_) λ_ _ e=>e);obtain ⟨a,m,F',k,r,R',y,ha',q⟩:=hv;subst ha';obtain ⟨_,rfl⟩:=r.isStr;exact ⟨.str y,m,F',k, .str _ _,R',q⟩
theorem V2 {y:Str}:METH prog w B mem (.str y) "isspace" (.raw (.builtin "str.isspace")) :=
 Xg λA Er s t pl Q q=>PySem.GM.isspace q
theorem f_isspace {y:Str}:FN prog w B d u (.builtin "str.isspace") [.str y] [] [] (λav m ex=>av=.bool (Txt.isspace y)/\m=[]/\ex=[]) :=
 FN.pure λA F s vs kvs Q hA I hF ha hk q=>by
  obtain rfl:=hk.n0;obtain ⟨v1,rfl,r1⟩:=ha.n1;obtain ⟨_,rfl⟩:=r1.isStr;exact PySem.SC.isspace (q (.bool (Txt.isspace y)) s.toks (.bool _))
theorem vt_listM {a:Addr} {xs:List AV} (hm:(a,AO.list xs) ∈ mem) (hl:xs.length<=2 ^ 20):VT prog w B d u mem (.raw (.ref a)) (!xs.isEmpty):=λA E F env loc tmp s va hA hv R=>by
 obtain rfl:=hv.isRaw;obtain ⟨vs,n,e,r⟩:=R.mr _ hm;have hz:=r.length;refine wpAny_truthy_list (items:=vs.toArray) ⟨_,e,rfl,n,rfl⟩ (by rw [Uz,hz]; exact ar130 hl hz) ⟨?_,F, .refl F,R.toks⟩
 cases vs <;> cases xs <;> first | rfl | simp at hz
end
end
section
open PySem PySem.W PyProof.Rows PySem.Calls Builtin Builtin.ObjectAttr Builtin.List
noncomputable abbrev VX (C dx:Addr):Obj:={ cls:=.ref C,dict:=some dx,data:=.seq #[] }
structure MakesL (M:Model) (h:Heap) (C:Addr):Prop where
 obj:∃ oc od cd sl,h.get? C=some ⟨oc,od, .cls cd,sl⟩/\cd.hasDel=false/\cd.mro.isEmpty=false
 made:Looks M h (Bind.madeBy (.ref C)) (some "list.__new__")
 base:Looks M h (Bind.staticBase (.ref C)) (.ref C)
 self:Looks M h (isSubtype (.ref C) (.ref C)) true
 top:Looks M h (isSubtype (.ref C) (.type "list")) true
 call:Looks M h (specialOf (.ref C) "__call__") (some (.builtin "type.__call__"))
 typ:Looks M h (isInstance (.ref C) (.type "type")) true
noncomputable def makesLIn (K:Frag) (C:Addr):Bool:=match K.lookup C with
 | some ⟨_,_, .cls cd,sl⟩=>!cd.hasDel && (sl.toList[4]?).join == some (.builtin "list.__new__") && !cd.mro.isEmpty && cd.mro.contains (.ref C) && cd.mro.contains (.type "list") &&
   specialIn K (.ref C) "__call__" == some (some (.builtin "type.__call__")) && instIn K (.ref C) (.type "type") == some true
 | _=>false
theorem makesL_of {K:Frag} {M:Model} {h:Heap} (X:K.In h) {C:Addr} (e:makesLIn K C=true):MakesL M h C:=by
 unfold makesLIn at e
 split at e
 ·rename_i oc od cd sl ho
  simp -iota only [Bool.and_eq_true,Bool.not_eq_true',beq_iff_eq] at e;obtain ⟨⟨⟨⟨⟨⟨e2,e3⟩,e4⟩,e5⟩,e6⟩,e7⟩,e8⟩:=e;have hc:clsIn K C=some cd:=by unfold clsIn; rw [ho]
  have hm:Looks M h (mroOf (.ref C)) cd.mro:=(looks_clsIn X hc).andThen .now;obtain ⟨c,l,hl⟩:∃ c l,cd.mro=c :: l:=by cases q:cd.mro with | nil=>rw [q] at e4; cases e4 | cons c l=>exact ⟨c,l,rfl⟩
  have made:Looks M h (Bind.madeBy (.ref C)) (some "list.__new__"):=by
   intro A Q E s k q;unfold Bind.madeBy;refine Ua (hm A _ E s k ?_);rw [hl,List.forIn_cons];refine Ua (Ua (Ua (Ua (wpAny_loadPart (k _ _ (X _ _ ho)) (Ub ?_)))));dsimp only;rw [<- Array.getElem?_toList,e3];exact Ub (Ub (Ub q))
  refine ⟨⟨oc,od,cd,sl,X _ _ ho,e2,e4⟩,made,?_,looks_mroIn X ?_,looks_mroIn X ?_,looks_specialIn X e7,looks_instIn X e8⟩
  ·intro A Q E s k q;unfold Bind.staticBase;refine Ua (hm A _ E s k ?_);rw [hl,List.forIn_cons];exact Ua (Ua (Ua (made A _ E s k (Ub (Ub (Ub q))))))
  ·unfold mroIn; rw [hc,Option.bind_some,if_neg (by rw [e4]; decide),e5]
  ·unfold mroIn; rw [hc,Option.bind_some,if_neg (by rw [e4]; decide),e6]
 ·exact no_ft e
theorem kind_list_new:builtinKind "list.__new__" = some .builtinFn:=by decide +kernel
theorem Z1a:splitId "list.__new__" = some ("list", "__new__"):=by decide +kernel
theorem VZ : "list.__new__".startsWith "lifetime." = false:=by decide +kernel
namespace OnewL
noncomputable def Px (A:Around) (C:Addr) (R:Result->Shared->Prop) (h:Heap) (g:Array GenState) (d:Drawn) (t:Nat) (os:OsState) (rest:List Value):Prop:=∀ (Y:MakesL (model prog w) h C) (hq:R (.ok (.ret (.ref (h.objs.size+1)))) ⟨(h.push emptyDict).push (VX C h.objs.size),g,d,t,os⟩),codeAny (model prog w) A (.call (.builtin "list.__new__") ⟨.ref C :: rest, []⟩) R ⟨h,g,d,t,os⟩
noncomputable def Rx (p:Around × Addr × (Result->Shared->Prop) × Heap × Array GenState × Drawn × Nat × OsState × List Value):Prop:=Px p.1 p.2.1 p.2.2.1 p.2.2.2.1 p.2.2.2.2.1 p.2.2.2.2.2.1 p.2.2.2.2.2.2.1 p.2.2.2.2.2.2.2.1 p.2.2.2.2.2.2.2.2
noncomputable section
def cx:=eps (neP neA (neP neNt (neP neR (neP neI (neP neAr (neP neDr (neP neNt (neP neI neL)))))))) Rx
def A:=cx.1
def C:=cx.2.1
def R:=cx.2.2.1
def h:=cx.2.2.2.1
def g:=cx.2.2.2.2.1
def d:=cx.2.2.2.2.2.1
def t:=cx.2.2.2.2.2.2.1
def os:=cx.2.2.2.2.2.2.2.1
def rest:=cx.2.2.2.2.2.2.2.2
end
theorem main:Px A C R h g d t os rest:=by
 intro Y hq;obtain ⟨⟨oc,od,cd,sl,hC,e2,e4⟩,made,base,self,top,call,typ⟩:=Y;refine codeAny_call_builtin_code (Code.quiet_builtin _ VZ) ?_
 have args:∀ sig,Manifest.signature? "list.__new__" = some sig->Bind.checkArgs "list.__new__" sig ⟨.ref C :: rest, []⟩=pure ():=λsig hs=>by
  have:sig=⟨.any, "list", "list", .cls, [⟨"args", .varPos,false⟩,⟨"kwargs", .varKw,false⟩]⟩:=by
   have h2:Manifest.signature? "list.__new__" = some ⟨.any, "list", "list", .cls, [⟨"args", .varPos,false⟩,⟨"kwargs", .varKw,false⟩]⟩:=by kernel_rfl
   rw [h2] at hs; exact (Up.inj hs).symm
  subst this
  kernel_rfl
 have hs:Manifest.signature? "list.__new__" = some ⟨.any, "list", "list", .cls, [⟨"args", .varPos,false⟩,⟨"kwargs", .varKw,false⟩]⟩:=by kernel_rfl
 have args:=args _ hs
 have ist:Looks (model prog w) h (isType (.ref C)) true:=by
  intro A Q E s k q;unfold isType;exact Ua (Ua (wpAny_loadPart (k _ _ hC) (Ub (Ub q))))
 simp only [checkBuiltinCall,kind_list_new,Z1a,hs,args]
 repeat (first | simp -iota only [bne_self_eq_false,U1,if_false,Bool.not_true] | lk)
 refine codeAny_builtin_stack PySem.F.entry_list_new rfl λp st=>?_;have hown:=owner_list_new;dsimp only;simp -iota only [hown];refine Ua (ist.here ?_);refine Ua (top.here ?_);refine Ua (Ub ?_);rw [show typeHasDict (.ref C)=true from rfl];have hC':=λo1 o2=>Heap.get?_push_of_some o2 (Heap.get?_push_of_some o1 hC);refine Ua (wpAny_newObj_type ?_ (by size_fits));refine Ua ?_;unfold newObj;dsimp only;rw [if_neg (by decide)];show wpAny _ _ (newObjAsIs _ _ _) _ _ _;unfold newObjAsIs classHasDel;refine Ua (wpAny_alloc (Ua (Ua (wpAny_load (hC' _ _) (Ub ?_)))));rw [e2];refine Ub (Ub ?_);show R _ _;rw [Heap.size_push];exact hq
end OnewL
section
variable {A:Around} {K:Frag} {C:Addr} {R:Result->Shared->Prop} {h:Heap} {g:Array GenState} {d:Drawn} {t:Nat} {os:OsState}
theorem new_L {A C R h g d t os rest}:OnewL.Px A C R h g d t os rest:=eps_all OnewL.Rx OnewL.main (A,C,R,h,g,d,t,os,rest)
end
end
section
open PySem PySem.W PyProof.Rows PySem.Calls Builtin Builtin.ObjectAttr Builtin.List Builtin.Getset_descriptor
theorem AOK.make {d u:Nat} {A:Around} (h:AOK d u A) (C:Addr) (rest:List Value):AOK (d+1) (u+1) (A.under (.builtin "type.__call__" ⟨.ref C :: rest, []⟩)):=by
 have h1:(Code.builtin "type.__call__" ⟨.ref C :: rest, []⟩).weight=1:=by kernel_rfl
 have h2:(Code.builtin "type.__call__" ⟨.ref C :: rest, []⟩).cUnits=1:=by kernel_rfl
 refine ⟨h.hd,?_,?_⟩
 ·show A.depth+_<=_; rw [h1]; exact T7 h.dp
 ·show A.units+_<=_; rw [h2]; exact T7 h.un
namespace Omakeany
noncomputable def Px (A:Around) (C x:Addr) (Er Q:Value->Shared->Prop) (h:Heap) (g:Array GenState) (d:Drawn) (t:Nat) (os:OsState) (rest:List Value) (init:Value) (newId:String):Prop:=∀ {s₁:Shared} {ox:Obj} (obj:∃ oc od cd sl,h.get? C=some ⟨oc,od, .cls cd,sl⟩/\cd.mro.isEmpty=false) (made:Looks (model prog w) h (Bind.madeBy (.ref C)) (some newId)) (self:Looks (model prog w) h (isSubtype (.ref C) (.ref C)) true) (call':Looks (model prog w) h (specialOf (.ref C) "__call__") (some (.builtin "type.__call__"))) (typ:Looks (model prog w) h (isInstance (.ref C) (.type "type")) true) (hi:Looks (model prog w) h (typeLookup (.ref C) "__init__") (some init)) (hb:∀ self,Looks (model prog w) h (bindSpecial init self) (init, [self])) (hnew:∀ (A':Around) (R':Result->Shared->Prop),R' (.ok (.ret (.ref x))) s₁->codeAny (model prog w) A' (.call (.builtin newId) ⟨.ref C :: rest, []⟩) R' ⟨h,g,d,t,os⟩) (k:∀ b o,h.get? b=some o->s₁.heap.get? b=some o) (hx:s₁.heap.get? x=some ox) (hc:ox.cls=.ref C) (hq:wpAny (model prog w) (A.under (.builtin "type.__call__" ⟨.ref C :: rest, []⟩)) (call init (.ref x :: rest)) (λv s'=>v=.none/\Q (.ref x) s') Er s₁),wpAny (model prog w) A (call (.ref C) rest) Q Er ⟨h,g,d,t,os⟩
noncomputable def Rx (p:Around × Addr × Addr × (Value->Shared->Prop) × (Value->Shared->Prop) × Heap × Array GenState × Drawn × Nat × OsState × List Value × Value × String):Prop:=Px p.1 p.2.1 p.2.2.1 p.2.2.2.1 p.2.2.2.2.1 p.2.2.2.2.2.1 p.2.2.2.2.2.2.1 p.2.2.2.2.2.2.2.1 p.2.2.2.2.2.2.2.2.1 p.2.2.2.2.2.2.2.2.2.1 p.2.2.2.2.2.2.2.2.2.2.1 p.2.2.2.2.2.2.2.2.2.2.2.1 p.2.2.2.2.2.2.2.2.2.2.2.2
noncomputable section
def cx:=eps (neP neA (neP neNt (neP neNt (neP neR (neP neR (neP neI (neP neAr (neP neDr (neP neNt (neP neI (neP neL (neP neI neI)))))))))))) Rx
def A:=cx.1
def C:=cx.2.1
def x:=cx.2.2.1
def Er:=cx.2.2.2.1
def Q:=cx.2.2.2.2.1
def h:=cx.2.2.2.2.2.1
def g:=cx.2.2.2.2.2.2.1
def d:=cx.2.2.2.2.2.2.2.1
def t:=cx.2.2.2.2.2.2.2.2.1
def os:=cx.2.2.2.2.2.2.2.2.2.1
def rest:=cx.2.2.2.2.2.2.2.2.2.2.1
def init:=cx.2.2.2.2.2.2.2.2.2.2.2.1
def newId:=cx.2.2.2.2.2.2.2.2.2.2.2.2
end
theorem main:Px A C x Er Q h g d t os rest init newId:=by
 intro s₁ ox obj made self call' typ hi hb hnew k hx hc hq;obtain ⟨oc,od,cd,sl,hC,e4⟩:=obj;refine wpAny_call (codeAny_of_tree ?_);show wpAny _ _ (callAny (.ref C) _) _ _ _;refine nd_load hC ?_;show wpAny _ _ (callAny.viaDunder (.ref C) _) _ _ _;unfold callAny.viaDunder;refine Ua (call'.at ?_);dsimp only;rw [tc_bind];refine Ua (Ub (Ua (Ub ?_)));refine Ub (a:=Fin.again (.call (.builtin "type.__call__") ⟨.ref C :: rest, []⟩)) (And.intro rfl ?_);refine codeAny_call_builtin_at (Code.quiet_builtin _ (by decide +kernel)) entry_typeCall (check_slot tc_kind tc_split typ (tc_args _ _ _) ?_);unfold Builtin.«type.__call__»;have hm:Looks (model prog w) h (mroOf (.ref C)) cd.mro:=((Looks.ld (part:=none) hC).andThen .now).andThen .now
 repeat (first | simp only [e4,U1,if_false] | with_reducible refine wpAny_call ?_ | lk)
 refine hnew _ _ ?_;obtain ⟨h₁,g₁,d1,t₁,os1⟩:=s₁;have t1:Looks (model prog w) h₁ (typeOf (.ref x)) (.ref C):=(Looks.ld hx).andThen (by rw [hc]; exact .now);have s1:=self.keeps k;have i1:=hi.keeps k;have b1:=(hb (.ref x)).keeps k;show wpAny _ _ _ _ _ _;unfold isInstance callSpecial? specialOf;have hq':wpAny (model prog w) (A.under (.builtin "type.__call__" ⟨.ref C :: rest, []⟩)) (call init ([.ref x]++rest) []) (λv s'=>v=.none/\Q (.ref x) s') Er ⟨h₁,g₁,d1,t₁,os1⟩:=hq
 repeat (first | (with_reducible refine Ud hq' (λv s' hv=>?_) λ_ _ e=>e) | lk)
 obtain ⟨rfl,q⟩:=hv;exact Ub q
end Omakeany
section
variable {A:Around} {K:Frag} {C x:Addr} {Er:Value->Shared->Prop} {Q:Value->Shared->Prop} {h:Heap} {g:Array GenState} {d:Drawn} {t:Nat} {os:OsState} {s₁:Shared}
theorem make_any {A C x Er Q h g d t os rest init newId}:Omakeany.Px A C x Er Q h g d t os rest init newId:=eps_all Omakeany.Rx Omakeany.main (A,C,x,Er,Q,h,g,d,t,os,rest,init,newId)
end
section
variable {d u:Nat} {env:Env} {loc:Loc} {mem:List (Addr × AO)} {K:Frag} {C f:Addr}
theorem Z17 {oc:Value} {od:Option Addr} {cd:ClassData} {sl:Array (Option Value)} {r:Option Value} (hB:B.K=K) (hC:K.lookup C=some ⟨oc,od, .cls cd,sl⟩) (hs:specialIn K (.ref C) "__call__" = some r):Callee prog w B (.raw (.ref C)):=λF v s I hF hv=>by
 obtain rfl:=hv.isRaw;subst hB;intro A Q Er h;unfold keeperOf;refine Ua (wpAny_load (I.kin _ _ hC) ?_);dsimp only;exact Ua ((looks_specialIn I.kin hs).here (Ub (h _)))
theorem c_make {as:List AV} {Q:PE} (hB:B.K=K) (hm:makesIn K C=true) (hi:findIn K (.ref C) "__init__" = some (some (.ref f))) (hf:typeIn K (.ref f)=some (.type "function"))
  (h:∀ x dx,CALL prog w B (d+1) (u+1) env loc (.raw (.ref f)) (.raw (.ref x) :: as) [] (mem++[(x, .obj C dx [])]) λa m=>a=.none/\Q (.raw (.ref x)) m):CALL prog w B d u env loc (.raw (.ref C)) as [] mem Q:=λA E F tmp s fv vs kvs hA R hfv ha hk=>by
 obtain rfl:=hfv.isRaw;obtain rfl:=hk.n0;subst hB;have Y:=makes_of (M:=model prog w) R.inv.kin hm;have hi':=looks_findIn (M:=model prog w) R.inv.kin hi;have hb':∀ self,Looks (model prog w) s.heap (bindSpecial (.ref f) self) (.ref f, [self]):=λself=>bind_fn R.inv.kin self hf;have hD:=Hid.new R (Ug s.heap.objs.size);have hX:=Hid.new R (Tr s.heap.objs.size)
 have R':=R.track (h':=(s.heap.push emptyDict).push (instObj C s.heap.objs.size)) (tk:=s.toks) (a:=s.heap.objs.size+1) (ao:=.obj C s.heap.objs.size []) (λb o e=>Heap.get?_push_of_some _ (Heap.get?_push_of_some _ e))
  (λb hb=>by simp [AO.places] at hb; rcases hb with rfl | rfl; exact hX; exact hD) (by simp [AO.places])
  ⟨by heap_get, [],0,by heap_get,⟨Ug _,λe he=>by cases he⟩,λx a e=>by cases e⟩
 have hc:=h (s.heap.objs.size+1) s.heap.objs.size (A.under (.builtin "type.__call__" ⟨.ref C :: vs, []⟩)) E F tmp { s with heap:=(s.heap.push emptyDict).push (instObj C s.heap.objs.size),toks:=s.toks } _ (.ref (s.heap.objs.size+1) :: vs) [] (hA.make C vs) R' (.raw _) (.cons (.raw _) ha) .nil;obtain ⟨hh,g,dr,t,os⟩:=s
 refine make_any (newId := "object.__new__") (x:=hh.objs.size+1) (s₁:=⟨(hh.push emptyDict).push (instObj C hh.objs.size),g,dr,t,os⟩) (ox:=instObj C hh.objs.size) (by obtain ⟨oc,od,cd,sl,e,_,_,e4⟩:=Y.obj; exact ⟨oc,od,cd,sl,e,e4⟩) Y.made Y.self Y.call Y.typ hi' hb'
  (λA' R' q=>new_K Y hi' (.inl rfl) q) (λb o e=>Heap.get?_push_of_some _ (Heap.get?_push_of_some _ e)) (by heap_get) rfl (Ud hc (λv s' hv=>?_) λ_ _ e=>e)
 obtain ⟨a,m,F',k,r,R2,rfl,q⟩:=hv;obtain rfl:=r.isNone;exact ⟨rfl, .raw (.ref (hh.objs.size+1)),m,F',k, .raw _,R2,q⟩
theorem c_makeL {as:List AV} {Q:PE} (hB:B.K=K) (hm:makesLIn K C=true) (hi:findIn K (.ref C) "__init__" = some (some (.ref f))) (hf:typeIn K (.ref f)=some (.type "function"))
  (h:∀ x dx,CALL prog w B (d+1) (u+1) env loc (.raw (.ref f)) (.raw (.ref x) :: as) [] (mem++[(x, .acc C dx [] [])]) λa m=>a=.none/\Q (.raw (.ref x)) m):CALL prog w B d u env loc (.raw (.ref C)) as [] mem Q:=λA E F tmp s fv vs kvs hA R hfv ha hk=>by
 obtain rfl:=hfv.isRaw;obtain rfl:=hk.n0;subst hB;have Y:=makesL_of (M:=model prog w) R.inv.kin hm;have hi':=looks_findIn (M:=model prog w) R.inv.kin hi;have hb':∀ self,Looks (model prog w) s.heap (bindSpecial (.ref f) self) (.ref f, [self]):=λself=>bind_fn R.inv.kin self hf;have hD:=Hid.new R (Ug s.heap.objs.size);have hX:=Hid.new R (Tr s.heap.objs.size)
 have R':=R.track (h':=(s.heap.push emptyDict).push (VX C s.heap.objs.size)) (tk:=s.toks) (a:=s.heap.objs.size+1) (ao:=.acc C s.heap.objs.size [] []) (λb o e=>Heap.get?_push_of_some _ (Heap.get?_push_of_some _ e))
  (λb hb=>by simp [AO.places] at hb; rcases hb with rfl | rfl; exact hX; exact hD) (by simp [AO.places])
  ⟨⟨[],0,by heap_get, .nil⟩, [],0,by heap_get,⟨Ug _,λe he=>by cases he⟩,λx a e=>by cases e⟩
 have hc:=h (s.heap.objs.size+1) s.heap.objs.size (A.under (.builtin "type.__call__" ⟨.ref C :: vs, []⟩)) E F tmp { s with heap:=(s.heap.push emptyDict).push (VX C s.heap.objs.size),toks:=s.toks } _ (.ref (s.heap.objs.size+1) :: vs) [] (hA.make C vs) R' (.raw _) (.cons (.raw _) ha) .nil;obtain ⟨hh,g,dr,t,os⟩:=s
 refine make_any (newId := "list.__new__") (x:=hh.objs.size+1) (s₁:=⟨(hh.push emptyDict).push (VX C hh.objs.size),g,dr,t,os⟩) (ox:=VX C hh.objs.size) (by obtain ⟨oc,od,cd,sl,e,_,e4⟩:=Y.obj; exact ⟨oc,od,cd,sl,e,e4⟩) Y.made Y.self Y.call Y.typ hi' hb'
  (λA' R' q=>new_L Y q) (λb o e=>Heap.get?_push_of_some _ (Heap.get?_push_of_some _ e)) (by heap_get) rfl (Ud hc (λv s' hv=>?_) λ_ _ e=>e)
 obtain ⟨a,m,F',k,r,R2,rfl,q⟩:=hv;obtain rfl:=r.isNone;exact ⟨rfl, .raw (.ref (hh.objs.size+1)),m,F',k, .raw _,R2,q⟩
end
end
section
open PySem PySem.W PyProof.Rows PySem.Calls
section
variable {d u:Nat} {env:Env} {loc:Loc} {mem:List (Addr × AO)}
theorem e_and {x y:Expr} {pos:Pos} {Q:PE} (h:WE prog w B d u env loc mem x λa m1=>Ex1 (VT prog w B d u m1 a) λb=>if b then WE prog w B d u env loc m1 y Q else Q a m1):WE prog w B d u env loc mem (.BoolOp .And [x,y] pos) Q:=λA E F tmp s hA R=>by
 refine BoolOp_and (Ud (h A E F tmp s hA R) (λva s₁ h₁=>?_) λ_ _ x=>x);obtain ⟨a,mem1,F1,k₁,R1,b,hc,q⟩:=h₁;refine Ud (hc A E F1 env loc _ s₁ va hA R1.top R1) (λc s2 h₂=>?_) λ_ _ x=>x;obtain ⟨rfl,F2,k₂,R₂⟩:=h₂
 cases c with
 | false=>exact ⟨a,mem1,F2,k₁.trans k₂,R₂,q⟩
 | true=>exact Ud (q A E F2 tmp s2 hA R₂.pop) (λv s3 h₃=>h₃.up (k₁.trans k₂)) λ_ _ x=>x
theorem e_or {x y:Expr} {pos:Pos} {Q:PE} (h:WE prog w B d u env loc mem x λa m1=>Ex1 (VT prog w B d u m1 a) λb=>if b then Q a m1 else WE prog w B d u env loc m1 y Q):WE prog w B d u env loc mem (.BoolOp .Or [x,y] pos) Q:=λA E F tmp s hA R=>by
 refine BoolOp_or (Ud (h A E F tmp s hA R) (λva s₁ h₁=>?_) λ_ _ x=>x);obtain ⟨a,mem1,F1,k₁,R1,b,hc,q⟩:=h₁;refine Ud (hc A E F1 env loc _ s₁ va hA R1.top R1) (λc s2 h₂=>?_) λ_ _ x=>x;obtain ⟨rfl,F2,k₂,R₂⟩:=h₂
 cases c with
 | true=>exact ⟨a,mem1,F2,k₁.trans k₂,R₂,q⟩
 | false=>exact Ud (q A E F2 tmp s2 hA R₂.pop) (λv s3 h₃=>h₃.up (k₁.trans k₂)) λ_ _ x=>x
theorem e_not {x:Expr} {pos:Pos} {Q:PE} (h:WE prog w B d u env loc mem x λa m1=>Ex1 (VT prog w B d u m1 a) λb=>Q (.bool (!b)) m1):WE prog w B d u env loc mem (.UnaryOp .Not x pos) Q:=λA E F tmp s hA R=>by
 refine wpAny_UnaryOp (Ud (h A E F tmp s hA R) (λva s₁ h₁=>?_) λ_ _ x=>x);obtain ⟨a,mem1,F1,k₁,R1,b,hc,q⟩:=h₁;unfold unaryOp;refine wpAny_holding ?_;show wpAny _ _ (truthy va >>= λt=>pure (Value.bool (!t))) _ _ s₁;refine Ua (Ud (hc A E F1 env loc _ s₁ va hA R1.top R1) (λc s2 h₂=>?_) λ_ _ x=>x);obtain ⟨rfl,F2,k₂,R₂⟩:=h₂;exact Ub ⟨_,mem1,F2,k₁.trans k₂,R₂.pop.push (.bool _),q⟩
open Classical in
theorem vo_neT {xs ys:List AV} (hx:∀ a ∈ xs,kqdOk 8 (toD a)=true) (hy:∀ a ∈ ys,kqdOk 8 (toD a)=true) (hu:u+64 < cLine):VO2 prog w B d u (compareOp .NotEq) (.tup xs) (.tup ys) (.bool (!decide (toDs xs=toDs ys))):=λA E F env loc tmp mem s va vb hA ha hb R=>by
 have kx:kqdOk 9 (toD (.tup xs))=true:=by simp only [toD,kqdOk,Y4,List.all_map,Su]; exact hx
 have ky:kqdOk 9 (toD (.tup ys))=true:=by simp only [toD,kqdOk,Y4,List.all_map,Su]; exact hy
 obtain ⟨as,ra⟩:=RV.reads R.le 9 ha kx;obtain ⟨bs,rb⟩:=RV.reads R.le 9 hb ky;obtain ⟨a,vs,rfl,_,_⟩:=ha.tup_at R.le;obtain ⟨b,ws,rfl,_,_⟩:=hb.tup_at R.le;have la:=kqd_lay 9 _ kx;have lb:=kqd_lay 9 _ ky
 have e:PyData.eqv (kqdP (toD (.tup xs))) (kqdP (toD (.tup ys)))=decide (toDs xs=toDs ys):=by
  have q:=kqd_eqv 9 _ _ 9 kx ky;simp only [toD,Dat.tuple.injEq] at q ⊢
  by_cases hq:toDs xs=toDs ys
  ·rw [decide_eq_true hq]; exact q.mpr hq
  ·rw [decide_eq_false hq]; exact Bool.eq_false_iff.mpr λx=>hq (q.mp x)
 simp only [toD,kqdP] at ra rb la lb e;refine ne_dataH ra rb ?_ ?_ (Uo (Uv hA.un 64) hu) (by rw [e]; exact ⟨F, .refl F, .bool _,R⟩)
 ·unfold SeqAt.shaped; rw [la.1,S9]; exact decide_eq_true (Uc la.2 (by decide))
 ·unfold SeqAt.shaped; rw [lb.1,S9]; exact decide_eq_true (Uc lb.2 (by decide))
noncomputable def FNC (prog:Program) (w:World) (B:Base) (d u:Nat) (f:Value) (as:List AV) (ks:List (Str × AV)) (mem:List (Addr × AO)) (P:PR3):Prop :=
 ∀ A F s vs kvs (R:Result->Shared->Prop),AOK d u A->Inv B s->B.n<=s.heap.objs.size->F.le s.heap.get?->(∀ a o,F a=some o->a ∉ B.tabs)->TabF B F s.heap->RVs F vs as->KR F kvs ks->Vl B F mem s.heap ->
  (∀ v s',PoF B F mem s P v s'->R (.ok (.ret v)) s')->codeAny (model prog w) A (.call f ⟨vs,kvs⟩) R s
theorem FNC.fn {f:Value} {as:List AV} {ks:List (Str × AV)} {P:PR3} (h:FNC prog w B d u f as ks mem P):FN prog w B d u f as ks mem P:=λA F s vs kvs hA I hn hF hT hTF ha hk hm =>
 wpAny_call (h A F s vs kvs _ hA I hn hF hT hTF ha hk hm λv s' q=>q)
theorem FNC.low {d' u':Nat} {f:Value} {as:List AV} {ks:List (Str × AV)} {P:PR3} (h:FNC prog w B d u f as ks mem P) (hd:d'<=d) (hu:u'<=u):FNC prog w B d' u' f as ks mem P:=λA F s vs kvs R hA =>
 h A F s vs kvs R ⟨hA.hd,Uc hA.dp hd,Uc hA.un hu⟩
theorem fn_goC {K:Frag} {fa:Addr} {oc:Value} {od:Option Addr} {osl:Array (Option Value)} {name qual:Str} {params:Arguments} {body:List Stmt} {scope:Scope} {dV kV doc pm cdv ct:Value} {an:Option Addr}
  {as:List AV} {ks:List (Str × AV)} {P:PR3} (hB:B.K=K) (D:Option (Arguments × List Stmt × Scope)) (bs:List (Str × AV)) (hst:D=some (params,body,scope))
  (hK:K.lookup fa=some ⟨oc,od, .func (fnX name qual params body scope [] dV kV doc pm an cdv ct),osl⟩) (hcd:codeIn K cdv qual=true) (hd:d+1 < recursionLimit)
  (hbind:∀ F vs kvs,RVs F vs as->KR F kvs ks->∃ binds,(∀ S,peek K S (bindArgs (fnX name qual params body scope [] dV kV doc pm an cdv ct) ⟨vs,kvs⟩)=some binds)/\KR F binds bs)
  (hsb:∀ L,VC (envF qual scope L fa cdv []) bs)
  (hco:scope.isCoroutine=false) (hgen:scope.isGenerator=false) (hk:scope.kind=.function) (hsub:Sub bs (YE [] bs))
  (hb:∀ L,WB prog w B (d+1) (u+3) (envF qual scope L fa cdv []) bs mem body (PB3 mem P)) :
  FNC prog w B d u (.ref fa) as ks mem P:=λA F s vs kvs RR hA I hn hF hT hTF ha hkw hm q=>by
 subst hB;obtain ⟨binds,hbd,hkr⟩:=hbind F vs kvs ha hkw;refine codeAny_call_function (fd:=fnX name qual params body scope [] dV kV doc pm an cdv ct) (body:=body) (Uo hA.dp (S7 hd)) (I.kin _ _ hK) rfl hco hgen rfl (codeRec_of I.kin hcd) (kp_binds I.kin hbd _ _ _ _ ?_);refine Xn [] I hn hF hT hTF hm hkr hk (λL=>(hsb L).get) (λ_ h=>nomatch h) (λ_ h=>nomatch h) (λ_ _ _ h=>nomatch h) λL s' R=>⟨R.inv.lim,codeAny_func ?_⟩
 have hA':AOK (d+1) (u+3) (A.deeper (envF qual scope L fa cdv [])):=⟨hA.hd,T7 hA.dp,Uv hA.un 3⟩;refine Ud (b_sub hsub (hb L) _ _ _ _ _ hA' R) (λf s' h'=>?_) λ_ _ x=>x.elim;obtain ⟨af,loc',mem',F',k',rf,R',m,ex,hsub,epl,p⟩:=h'
 cases rf with
 | next=>exact q _ _ ⟨_,m,ex,F',XC k' R' hsub epl .none,p⟩
 | brk=>exact p.elim
 | cont=>exact p.elim
 | ret hv=>exact q _ _ ⟨_,m,ex,F',XC k' R' hsub epl hv,p⟩
noncomputable def BoundT (f x:Addr) (F:FM) (v:Value):Prop:=∃ q,v=.ref q/\F q=some (methodObj (.ref f) (.ref x))
theorem fnv_bound {f x:Addr} {as:List AV} {P:PR3} (h:FNC prog w B d u (.ref f) (.raw (.ref x) :: as) [] mem P):FNV prog w B d u (.pred (BoundT f x)) as [] mem P:=λF v hv A s vs kvs hA I hn hF hT hTF ha hk hm=>by
 cases hv with
 | pred T v h' =>
  obtain ⟨q,rfl,e⟩:=h' F (.refl F);obtain rfl:=hk.n0;exact wpAny_call (method_call (hF _ _ e) (h A F s (.ref x :: vs) [] _ hA I hn hF hT hTF (.cons (.raw _) ha) .nil hm λv s' q=>q))
theorem get_bound {A:Around} {E:Ent} {F:FM} {tmp:List (Value × AV)} {s:Shared} {x C dx f:Addr} {xs:List AV} {as:List (Str × AV)} {name:Str} {Q:Value->Shared->Prop} {Er:Value->Shared->Prop} (R:Rel B E F env loc tmp mem s) (hm:(x,AO.acc C dx xs as) ∈ mem) (hl:as.lookup name=none)
  (hg:findIn B.K (.ref C) "__getattribute__" = some (some (.builtin "list.__getattribute__"))) (hno:findIn B.K (.ref C) "__getattr__" = some none) (hli:mroIn B.K C (.type "list")=some true) (hh:hasDictIn B.K C=true) (ha:findIn B.K (.ref C) name=some (some (.ref f)))
  (hf:typeIn B.K (.ref f)=some (.type "function")) (hgf:specialIn B.K (.ref f) "__get__" = some (some (.builtin "function.__get__"))) (ht:takesIn B.K (.ref f)=some false) (hc:copiedNames.contains name=false)
  (q:Q (.ref s.heap.objs.size) { s with heap:=s.heap.push (methodObj (.ref f) (.ref x)),toks:=s.toks+1 }):wpAny (model prog w) A (getAttr (.ref x) name true) Q Er s:=by
 have hi:=acc_is R hm hli;obtain ⟨ox,es,n,I,hd,hD,hk,hv⟩:=ZQ (.acc xs) (R.mr _ hm);have X:=R.inv.kin;have L0:=I.type (M:=model prog w);have L1:=looks_findIn (M:=model prog w) X hg;have L2:=looks_findIn (M:=model prog w) X hno;have L3:=looks_find (M:=model prog w) X I (findObj_fn hh ha hgf ht hc (by show lookIn name (dictOf es n)=_; rw [lookIn_dict]; exact hk.none hl));obtain ⟨hp,g,dr,tk,os⟩:=s;unfold getAttr getAttrBy;refine Ua (wpAny_mkText (wpAny_holding (Ua (L0.at (Ua (L1.at ?_))))));dsimp only;rw [if_neg (by simp [onTheHeap])];unfold getAttrByItsOwn;refine Ua (m:=hookBefore (.ref C)) (L2.at (Ua (wpAny_attempt (wpAny_holding ?_))));unfold callGetattribute;rw [if_neg (by simp [onTheHeap])];unfold boundAndCalled;rw [slot_lga.bind];refine Ua (Ub ?_);show wpAny _ _ (call (.builtin "list.__getattribute__") [.ref x, .str name tk]) _ _ _;refine Xd (n := "__getattribute__") (.inr (by decide +kernel)) (by decide +kernel) (by decide +kernel) PySem.am_entry_list_getattribute (args_lga _ _) (s:=⟨hp,g,dr,tk+1,os⟩) hi ?_;refine Ua (Ub (Ua (Ub (Ua (L0.at (Ua (L3.at ?_)))))));show wpAny _ _ (holding [.ref f] (call (.builtin "function.__get__") [.ref f, .ref x, .ref C]) >>= λv=>ret v) _ _ _;refine Ua (wpAny_holding (wpAny_call (fn_get (s:=⟨hp,g,dr,tk+1,os⟩) X hf (Ub ⟨_,rfl,?_⟩))));exact handed_on rfl q
theorem e_methS {K:Frag} {o e:Expr} {name:Str} {apos p pos:Pos} {f x C dx:Addr} {xs:List AV} {as:List (Str × AV)} {Q:PE} (hB:B.K=K) (hl:as.lookup name=none)
  (hg:findIn K (.ref C) "__getattribute__" = some (some (.builtin "list.__getattribute__"))) (hno:findIn K (.ref C) "__getattr__" = some none) (hli:mroIn K C (.type "list")=some true) (hh:hasDictIn K C=true) (ha:findIn K (.ref C) name=some (some (.ref f)))
  (hf:typeIn K (.ref f)=some (.type "function")) (hgf:specialIn K (.ref f) "__get__" = some (some (.builtin "function.__get__"))) (ht:takesIn K (.ref f)=some false) (hc:copiedNames.contains name=false) (hfn:fnIn K f=true)
  (he':starEach [.Starred e p] env=[(true,eval e env)])
  (he:eval (.Call (.Attribute o name apos) [.Starred e p] [] pos) env=(do
   let ov <- eval o env
   standAt apos.atName
   let (f,first) <- holding [ov] (do pure (<- getAttr ov name true, []));let callPos <- pure pos
   callWith callPos f first (backTo pos (starEach [.Starred e p] env)) []))
  (h:WE prog w B d u env loc mem o λa mem1=>a=.raw (.ref x)/\(x,AO.acc C dx xs as) ∈ mem1/\WE prog w B d u env loc mem1 e λb mem2=>∃ as,b=.tup as/\as.length<=2 ^ 20/\CALL prog w B d u env loc (.pred (BoundT f x)) as [] mem2 Q) :
  WE prog w B d u env loc mem (.Call (.Attribute o name apos) [.Starred e p] [] pos) Q:=λA E F tmp s hA R=>by
 subst hB;rw [he];refine Ua (Ud (h A E F tmp s hA R) (λv s₁ h₁=>?_) λ_ _ x=>x);obtain ⟨a,mem1,F1,k₁,R1,rfl,hm,h₁⟩:=h₁;have hv:=R1.top;obtain rfl:=hv.isRaw;refine Ua (wpAny_standAt (Ua (wpAny_holding (Ua (get_bound R1 hm hl hg hno hli hh ha hf hgf ht hc (Ub ?_))))));refine Ua (Ub ?_);obtain ⟨k₂,R₂⟩:=R1.alloc (methodObj (.ref f) (.ref x)) rfl;have R2':Rel B E _ env loc _ mem1 { s₁ with heap:=s₁.heap.push (methodObj (.ref f) (.ref x)),toks:=s₁.toks+1 }:=R₂.toks;have hq:(F1.set s₁.heap.objs.size (methodObj (.ref f) (.ref x))) s₁.heap.objs.size=some (methodObj (.ref f) (.ref x)):=FM.set_same;show wpAny _ _ (callWith pos (.ref s₁.heap.objs.size) [] (backTo pos (starEach [.Starred e p] env)) []) _ _ _;rw [he'];refine ks_call (P:=MethP B.K s₁.heap.objs.size f (.ref x)) rfl (keeps_M hfn) (ks_lone (Ud (h₁ A E _ _ _ hA R2') (λvt s2 h₂=>?_) λ_ _ x=>x));obtain ⟨b,mem2,F3,k3,R3,as',rfl,hlen,h₂⟩:=h₂;obtain ⟨ad,vs,rfl,htp,r⟩:=R3.top.tup_at R3.le;obtain ⟨ot,hot,hct,n,hdt⟩:=htp;have hT':s2.TypeIs (.ref ad) "tuple" := ⟨ot,hot,hct⟩;unfold StarOf notIterableAtAll;refine Ua (wpAny_specialOf hT' PySem.F.slot_tuple_iter.lookup (Ub ⟨rfl,?_⟩));refine wpAny_collect_seq ad (.inr rfl) hot hct hdt (λh' hk=>?_) (by rw [Uz,r.length]; exact Uc hlen (by decide));have R4:=R3.ext (h':=h') (tk:=s2.toks) hk;refine ⟨⟨R4.le _ _ (k3 _ _ hq),R4.inv.kin⟩,Ud (h₂ A E F3 tmp _ (.ref s₁.heap.objs.size) vs [] hA R4.pop.pop (.pred _ _ λG kG=>⟨_,rfl,kG _ _ (k3 _ _ hq)⟩) r .nil) (λrv s3 h₃=>?_) λ_ _ x=>x⟩;obtain ⟨av,mem3,F4,k4,r₄,R5,q⟩:=h₃;exact ⟨av,mem3,F4,((k₁.trans k₂).trans k3).trans k4,R5.push r₄,q⟩
end
end
section
open PySem PySem.W PyProof.Rows PySem.Calls
section
variable {d u:Nat} {env:Env} {loc:Loc} {mem:List (Addr × AO)}
theorem FN.low {f:Value} {as:List AV} {ks:List (Str × AV)} {d' u':Nat} {P:PR3} (h:FN prog w B d' u' f as ks mem P) (hd:d<=d') (hu:u<=u'):FN prog w B d u f as ks mem P:=h.mono hd hu λ_ _ _ h=>h
theorem Xm {f:Value} {as:List AV} {ks:List (Str × AV)} (pre mp post:List (Addr × AO)) {m':List (Addr × AO)} {a:AV} {d' u':Nat} {Q:PE} (h:FN prog w B d' u' f as ks mp (λav m ex=>av=a/\m=m'/\ex=[])) (hd:d<=d') (hu:u<=u') (hm:mem=pre++(mp++post)) (q:Q a (pre++(m'++post))) :
  CALL prog w B d u env loc (.raw f) as ks mem Q:=c_fn pre mp post hm (h.low hd hu) λav m ex hq1=>by obtain ⟨e1,e2,e3⟩:=hq1; exact .inl (by rw [e1,e2,e3,Sj]; exact q)
theorem c_fn0D {f:Value} {as:List AV} {ks:List (Str × AV)} {a:AV} {d' u':Nat} {Q:PE} (h:FN prog w B d' u' f as ks [] (λav m ex=>av=a/\m=[]/\ex=[])) (hd:d<=d') (hu:u<=u') (q:Q a mem) :
  CALL prog w B d u env loc (.raw f) as ks mem Q:=Xe (h.low hd hu) λav ex hq1=>by obtain ⟨e1,_,e3⟩:=hq1; exact .inl ⟨e3,by rw [e1]; exact q⟩
theorem vt_str {x:Str} (h:x.length < 2 ^ 62):VT prog w B d u mem (.str x) (x.length != 0):=λA E F env loc tmp s va hA hv R=>by
 obtain ⟨t,rfl⟩:=hv.isStr;refine PySem.P.truthy_str (by exact ar46 h) ⟨?_,F, .refl F,R.toks⟩
 cases x.length <;> rfl
theorem vo_eqS {x y:Str}:VO2 prog w B d u (compareOp .Eq) (.str x) (.str y) (.bool (x == y)):=λA E F env loc tmp mem s va vb hA ha hb R=>by
 obtain ⟨t,rfl⟩:=ha.isStr;obtain ⟨t',rfl⟩:=hb.isStr;exact PyProof.Rows.eq_str ⟨F, .refl F, .bool _,R⟩
theorem vs_str {value slice:Expr} {x:Str} {k:Int} {c:Nat} (hlo:-(2 ^ 63)<=k) (hhi:k < 2 ^ 63) (hc:(seqIndex? k x.length).bind (x.cps[·]?)=some c)
  (hs:∀ t u,subscripted slice false (.str x t) (.int k u)=operate [.str x t, .int k u] (getItem (.str x t) (.int k u))) (hg:∀ t r,letTemporaryGo value (.str x t) r=pure ()) :
  VO2 prog w B d u (subscriptTail value slice) (.str x) (.int k) (.str ⟨#[c]⟩):=λA E F env loc tmp mem s va vb hA ha hb R=>by
 obtain ⟨t,rfl⟩:=ha.isStr;obtain ⟨t',rfl⟩:=hb.isInt;refine subscriptTail_builtin (typeIs_str s x t) slot_str_getitem.lookup (PyProof.Rows.getItem_str ?_ hc ⟨F, .refl F, .str _ _,R.toks⟩) (hs _ _) (hg _);rw [decide_eq_false (by exact Int.not_lt_of_ge hlo),decide_eq_false (by exact (λ{a b}=>Iff.mpr Int.not_le) hhi)]; rfl
end
end
section
open PySem PySem.W PyProof.Rows PySem.Calls Builtin Builtin.Str
theorem strs_RVs {F:FM}:∀ {l:List (Str × Tok)},RVs F (strValues l) (Z3 (l.map (·.1)))
 | []=>.nil
 | (_,_) :: _=>.cons (.str _ _) strs_RVs
section
variable {d u:Nat} {env:Env} {loc:Loc} {mem:List (Addr × AO)}
theorem vt_lst {xs:List AV} (hl:xs.length<=2 ^ 20):VT prog w B d u mem (.lst xs) (!xs.isEmpty):=λA E F env loc tmp s va hA hv R=>by
 obtain ⟨a,vs,rfl,h,r⟩:=hv.lst_at R.le;have hz:=r.length;refine wpAny_truthy_list (items:=vs.toArray) h (by rw [Uz,hz]; exact ar130 hl hz) ⟨?_,F, .refl F,R.toks⟩
 cases vs <;> cases xs <;> first | rfl | simp at hz
theorem f_sumL {ns:List Int}:FN prog w B d u (.builtin "sum") [.lst (ns.map .int)] [] [] (λav m ex=>av=.int ns.sum/\m=[]/\ex=[]):=λA F s vs kvs hA I hn hF hT hTF ha hk hm=>by
 obtain rfl:=hk.n0;obtain ⟨v1,rfl,r1⟩:=ha.n1;obtain ⟨a,ws,rfl,hl,r⟩:=r1.lst_at hF;obtain ⟨xs,hx⟩:=r.ints.allInts.items;have e:ws.toArray.toList=ws:=rfl;have hs:(numsOf ws.toArray.toList).sum=ns.sum:=by rw [e,r.ints.numsOf]
 rw [hx] at hl hs;rw [nums_intItems] at hs
 refine sum_intListG hA.hd hl λh' tk t' k=>⟨.int ns.sum, [], [],F, {
  inv:=I.keeps k
  kp:=λb o e _ _=>k b o e
  le:=.refl F
  le':=λb o e=>k b o (hF b o e)
  fresh:=λb o e=>.inl e
  offT:=hT
  tf:=hTF.keeps (λP _ o e=>k P o e) (.refl F)
  rv:=?_
  pl:=rfl
  ok:=⟨(λp hp=>nomatch hp),Tz,λb hb=>nomatch hb⟩
  exn:=λb hb=>nomatch hb },rfl,rfl,rfl⟩
 rw [preSum_eq,Tw (by simp),hs];exact .int _ _
theorem f_count {x y:Str}:FN prog w B d u (.builtin "str.count") [.str x, .str y] [] [] (λav m ex=>av=.int (Txt.count x y)/\m=[]/\ex=[]) :=
 FN.pure λA F s vs kvs Q hA I hF ha hk q=>by
  obtain rfl:=hk.n0;obtain ⟨v1,v2,rfl,r1,r2⟩:=ha.n2;obtain ⟨t,rfl⟩:=r1.isStr;obtain ⟨t',rfl⟩:=r2.isStr;exact PySem.SC.count (q _ _ (.int _ _))
theorem f_split {x y:Str} (hy:(y.length == 0)=false) (hsz:x.length<=sizeLine) (hsz2:(partsBetween x (occurrences x y 0 x.length (x.length+1)) y.length).length<=sizeLine) :
  FN prog w B d u (.builtin "str.split") [.str x, .str y] [] [] (λav m ex=>av=.lst (Z3 (Txt.split x y))/\m=[]/\ex=[]) :=
 FN.made λA F s vs kvs Q hA I hF ha hk q=>by
  obtain rfl:=hk.n0;obtain ⟨v1,v2,rfl,r1,r2⟩:=ha.n2;obtain ⟨t,rfl⟩:=r1.isStr;obtain ⟨t',rfl⟩:=r2.isStr
  have fin:∀ (l:List (Str × Tok)) (tk:Nat),l.map (·.1)=Txt.split x y->Q (.ref s.heap.objs.size) { s with heap:=s.heap.push { cls:=.type "list", data:=.seq (strValues l).toArray },toks:=tk }:=λl tk e =>
   q _ _ _ _ (λb o h=>Heap.get?_push_of_some _ h) (Zy _) (Heap.get?_push_size _ rfl) (.lst _ _ _ _ FM.set_same (e ▸ strs_RVs))
  cases h1:(decide (x.length < y.length) || decide (strKind x < strKind y))
  ·cases hf:(occurrences x y 0 x.length (x.length+1)).isEmpty
   ·refine call_meets PySem.F.slot_str_split (typeIs_str _ _ _) PySem.F.entry_str_split (PySem.F.args_str_split_2 _ _) (meets_str_split_sep x y t t' h1 hy hf hsz hsz2) ?_;show wants Q FF _ { s with toks:=_,heap:=s.heap.push { cls:=.type "list", data:=.seq (strsFrom s.toks (partsBetween x (occurrences x y 0 x.length (x.length+1)) y.length)).toArray } };rw [strsFrom_eq];exact fin (numbered s.toks _) _ ((numbered_texts _ _).trans ((if_neg (ne_true_of_eq_false h1)).trans (if_neg (ne_true_of_eq_false hf))).symm)
   ·exact call_meets PySem.F.slot_str_split (typeIs_str _ _ _) PySem.F.entry_str_split (PySem.F.args_str_split_2 _ _) (meets_str_split_not_found x y t t' h1 hy hf)
     (fin [(x,t)] s.toks ((if_neg (ne_true_of_eq_false h1)).trans (if_pos hf)).symm)
  ·exact call_meets PySem.F.slot_str_split (typeIs_str _ _ _) PySem.F.entry_str_split (PySem.F.args_str_split_2 _ _) (meets_str_split_cannot_occur x y t t' h1)
    (fin [(x,t)] s.toks (if_pos h1).symm)
theorem asg_quad {x y z q:Str} {p1 p2 p3 p4:Pos} {k:Nat} {tp:Pos} {a b c e:AV} (hx:Zj env x) (hy:Zj env y) (hz:Zj env z) (hq:Zj env q) :
  Asg prog w B env (.Tuple [.Name x p1, .Name y p2, .Name z p3, .Name q p4] k tp) (.tup [a,b,c,e]) loc (setL q e (setL z c (setL y b (setL x a loc)))):=λA E F tmp mem s v hA hv R=>by
 obtain ⟨t,vs,rfl,⟨o,ho,hc,n,hd⟩,r⟩:=hv.tup_at R.le;obtain ⟨v1,v2,v3,v4,rfl,r1,r2,r3,r4⟩:=r.n4;refine wpAny_assign_Tuple hA ⟨o,ho,hc,n,hd⟩ rfl rfl λh' hx'=>?_;have R':=R.ext (h':=h') (tk:=s.toks) λb o e=>hx' b o (Ts (Heap.lt_size e)) e;show wpAny _ A (do holding [v2,v3,v4] (assign (.Name x p1) env v1); do holding [v3,v4] (assign (.Name y p2) env v2); do holding [v4] (assign (.Name z p3) env v3); do holding [] (assign (.Name q p4) env v4); pure ()) _ _ _;refine Ua (wpAny_holding (wpAny_assign_Name (Ud (Zu R' r1 hx) (λ_ s₁ R1=>?_) λ_ _ x=>x)));refine Ua (wpAny_holding (wpAny_assign_Name (Ud (Zu R1 r2 hy) (λ_ s2 R₂=>?_) λ_ _ x=>x)));refine Ua (wpAny_holding (wpAny_assign_Name (Ud (Zu R₂ r3 hz) (λ_ s3 R3=>?_) λ_ _ x=>x)));exact Ua (wpAny_holding (wpAny_assign_Name (Ud (Zu R3 r4 hq) (λ_ s2 R₂=>Ub R₂) λ_ _ x=>x)))
end
end
section
open PySem PySem.W PyProof.Rows PySem.Calls
theorem vs_tmp {d u:Nat} {x:Str} {p:Pos} {value slice:Expr} {a b c:AV} (h:VO2 prog w B d u (subscriptTail (.Name x p) slice) a b c):VO2 prog w B d u (subscriptTail value slice) a b c:=λA E F env loc tmp mem s va vb hA ha hb R =>
 kba_turn (value':=.Name x p) (λ_=>rfl) (h A E F env loc tmp mem s va vb hA ha hb R)
section
variable {d u:Nat} {cenv:Env} {base loc:Loc} {mem:List (Addr × AO)} {ys:List AV}
inductive NestF (prog:Program) (w:World) (B:Base) (d u:Nat) (cenv:Env) (loc:Loc) (t2 elt c:Expr) (ys:List AV) (mem:List (Addr × AO)) (Q:PU) (M:List (Addr × AO)->Prop) (xs:List AV) (mem1:List (Addr × AO)):Prop where
 | mk (outs:List (Option AV)) (hl:outs.length=xs.length) (hz:ys.length+xs.length < 2 ^ 20) (hm:mem1=mem) (hM:M mem)
  (step:∀ (j:Nat) b o,xs[j]?=some b->outs[j]?=some o->Turn prog w B d u cenv loc t2 b λl'=>WT prog w B d u cenv l' mem c λt m=>if t then WE prog w B d u cenv l' m elt λy m=>o=some y/\m=mem else o=none/\m=mem)
  (q:Q (ys++outs.filterMap id) mem)
theorem wu_nestF {elt target iter t2 i2 c:Expr} {scope:Scope} {pos:Pos} {Q:PU} (hb:Yr base loc) (h:WI prog w B d u cenv loc mem i2 t2 λM xs mem1=>NestF prog w B d u cenv loc t2 elt c ys mem Q M xs mem1) :
  WU prog w B d u cenv base loc mem ys (UnitN prog w (.ListComp elt [⟨target,iter, [],0⟩,⟨t2,i2, [c],0⟩] scope pos) i2 cenv) Q:=by
 refine wu_nest hb λA E F tmp s hA R=>?_;refine Ud (h A E F tmp s hA R) (λx s₁ h₁=>Ud h₁ (λit s2 h₂=>?_) λ_ _ x=>x) λ_ _ x=>x;obtain ⟨I,wr,St,M,xs,m2,F2,e1,mc,k₂,R₂,st2,hw2,outs,hl,hz,rfl,hM,step,q⟩:=h₂;refine ⟨I,wr,St,M,xs,m2,F2,e1,mc,k₂,R₂,st2,hw2,λj zs m=>m=m2/\zs=ys++(outs.take j).filterMap id,⟨rfl,by simp⟩,λj zs m hj=>hj.1 ▸ hM,λj b zs m hx hj=>?_,λzs m hj=>?_⟩
 ·obtain ⟨rfl,rfl⟩:=hj;have hlt:j < xs.length:=(Un.mp hx).1;have hlt2:j < outs.length:=hl ▸ hlt;obtain ⟨l',asg,und,wt⟩:=step j b outs[j] hx (Ui hlt2)
  have hlen:(ys++(outs.take j).filterMap id).length < 2 ^ 20:=by
   rw [U8];have h1:=List.length_filterMap_le id (outs.take j);rw [Ti] at h1;exact Uo (Tu (Uc h1 (Uc (Rg _ _) (Tq hlt))) _) hz
  refine ⟨l',asg,wu_test hlen und (WT.mono wt λt m z=>?_)⟩;rw [Sh hlt2,List.filterMap_append, <- Sd]
  cases t with
  | true=>exact WE.mono z λy m hq1=>by obtain ⟨z1,z2⟩:=hq1; exact ⟨z2,by rw [z1]; rfl⟩
  | false=>exact ⟨z.2,by rw [z.1]; simp⟩
 ·obtain ⟨rfl,rfl⟩:=hj;rw [<- hl,S1]; exact q
end
end
section
open PySem PySem.W PySem.W.X PyProof.Rows
theorem said_:rw0.wellSaid=true:=by
 unfold OpenLaw.wellSaid OpenRow.wellSaid OpenRow.partSaid looksOpen
 repeat' (with_reducible refine look_both ?_ ?_)
 all_goals decide +kernel
theorem head_ (H:∀ d kwd,defOf vw rw0.row.name=some (d,kwd)->kwWritten? d.params.kwonlyargs d.params.kw_defaults=some kwd->rw0.row.prog.theDef rw0.row.name=some (d.params,d.body,d.scope)->WalkX vw lo (XL vw []) (obsZ asA) (valZ KA 308 617) rw0.row.toRowW d kwd (λf vs=>call f vs)):rw0.Holds:=by
 have said:rw0.wellSaid=true:=said_
 refine holds_law said λsaid=>?_;obtain ⟨⟨d,kwd⟩,hdef⟩:∃ x,defOf vw rw0.row.name=some x:=Option.isSome_iff_exists.mp (by kernel_rfl);have e:((defOf vw rw0.row.name).map λx=>(rw0.row.prog.theDef rw0.row.name,kwWritten? x.1.params.kwonlyargs x.1.params.kw_defaults))=((defOf vw rw0.row.name).map λx=>(some (x.1.params,x.1.body,x.1.scope),some x.2)):=by kernel_rfl
 rw [hdef] at e;simp only [Rh,Up.injEq,Prod.mk.injEq] at e;obtain ⟨hp,hk⟩:=e;refine holds_openX (q:=vw) (loose:=lo) (Xt:=XtA) (XP:=XL vw []) (Yf:=obsZ asA) (Ya:=valZ KA 308 617) (N:=3730) left (λs e=>xl_of s (Sv.mp e).1) XL.keeps hdef hp hk (λs e=>recFacts_of (Sv.mp e).2) (by kernel_rfl) said (by kernel_rfl) ⟨rfl,rfl,rfl,rfl,rfl,by kernel_rfl⟩ ?hw (H d kwd hdef hk hp)
 w_witness2
end
open PySem PySem.W PyProof.Rows
local macro_rules | `(tactic| kct_strs)=>do
 let r <- `(term| (by with_unfolding_all rfl));let d <- `(term| (by with_unfolding_all decide));let u <- `(term| (by intros; with_unfolding_all rfl));let s <- `(term| (by with_unfolding_all first | exact st_loc rfl | exact st_cell rfl rfl));let a:=Lean.mkIdent `Mine.hB;let mut t <- `(tactic| fail)
 for n in "len range hex next str super sum enum iter sorted set list stop".splitOn " " do
  t <- `(tactic| first | exact $(Lean.mkIdent (.mkSimple ("bf_" ++ n))) | $t:tactic)
 let b <- `(term| (by $t:tactic));let q <- `(term| ?_);let x <- `(term| _);let ts:=("seq_next q,seq_ret q,seq_brk q,seq_cont q,loop_next q,loop_ret q,loop_brk q,loop_cont q,b_nil q,b_cons q,l_nil q,l_cons q u,s_if q,s_return q,s_return0 q,s_pass q,s_break q,s_continue q,s_assign s q r,x_aug x s r q,e_int q,e_none q,e_bool q,e_str q,x_loc x r r d q,x_cell x r r d q,x_builtin x x a r r b d d q,x_globS x x x a r r d q,x_glob x x a r r d q,e_binop q,e_unop q,e_compare u q,e_ifexp q,t_compare u q,t_not q,t_and q,t_or q,e_subM q,e_call u q,e_callK u q,s_expr u u q,e_meth x u r q,wp_none q,wp_some q".splitOn ",").map λn=>n.splitOn " "
 t <- `(tactic| fail)
 for n in ts.reverse do
  let as:=n.tail.toArray.map λh=>if h == "q" then q else if h == "r" then r else if h == "d" then d else if h == "u" then u else if h == "s" then s else if h == "a" then a else if h == "b" then b else x
  t <- `(tactic| first | with_reducible refine $(Lean.mkIdent (.mkSimple n.head!)) $as* | $t:tactic)
 return t
local macro_rules | `(tactic| kd_p)=>`(tactic| repeat kct_strs)
local macro_rules | `(tactic| keq_rows)=>`(tactic| first | exact clok_nil | (refine ⟨⟨rfl,rfl,rfl,λ_=>rfl⟩,?_⟩; keq_rows))
local macro_rules | `(tactic| keq_hits)=>`(tactic| first | ((with_reducible refine under_of ?_); keq_hits) | exact sub_nil | (refine ⟨rfl,?_⟩; keq_hits))
section
open PySem PySem.W PyProof.Rows PySem.Calls
structure KeyOK (prog:Program) (w:World) (B:Base) (d u:Nat) (key:AV) (xs:List AV) (ks:List Int):Prop where
 len:ks.length=xs.length
 nn:VO2 prog w B d u (compareOp .Is) key .none (.bool false)
 callee:Callee prog w B key
 call:∀ (i:Nat) (x:AV) (k:Int),xs[i]?=some x->ks[i]?=some k->FNV prog w B d u key [x] [] [] (λav m ex=>av=.int k/\m=[]/\ex=[])
noncomputable def bargs (sh:Bool) (l x:AV):List AV:=match sh with | true=>[l,x] | false=>[l,x, .int 0, .none]
namespace Ofnbl
noncomputable def Px (ns:List Int) (x:Int):Prop:=∀ (hs:ns.length < 2 ^ 62) (hp:ns.Pairwise (·<=·)) (sh:Bool),FN prog w B 700 8000 (.ref 72) (bargs sh (.lst (ns.map .int)) (.int x)) [] [] (λav m ex=>m=[]/\ex=[]/\av=.int (cntL ns x))
noncomputable def Rx (p:List Int × Int):Prop:=Px p.1 p.2
noncomputable section
def cx:=eps (neP neL neI) Rx
def ns:=cx.1
def x:=cx.2
end
theorem main:Px ns x:=by
 intro hs hp sh;refine fn_go hB (defAt 72) [("a", .lst (ns.map .int)),("x", .int x),("lo", .int 0),("hi", .none),("key", .none)] rfl rfl rfl (by decide) ?_ ?_ rfl rfl rfl ⟨rfl,rfl,rfl,rfl,rfl,trivial⟩ ?_
 ·intro F vs kvs h1 h2;obtain rfl:=h2.n0
  cases sh with
  | true =>
   obtain ⟨v1,v2,rfl,r1,r2⟩:=h1.n2;exact ⟨_,λ_=>rfl, .cons r1 (.cons r2 (.cons (.int _ _) (.cons .none (.cons .none .nil))))⟩
  | false =>
   obtain ⟨v1,v2,v3,v4,rfl,r1,r2,r3,r4⟩:=h1.n4;exact ⟨_,λ_=>rfl, .cons r1 (.cons r2 (.cons r3 (.cons r4 (.cons .none .nil))))⟩
 ·intro L; exact ⟨.inl rfl, .inl rfl, .inl rfl, .inl rfl, .inl rfl,trivial⟩
 ·refine eps_all (ne:=neNt) _ ?_;kd_p;refine ⟨_,vo_lt,?_⟩;refine i_false (by decide) ?_;kd_p;refine ⟨_,vo_isnone rfl,?_⟩;refine i_true rfl ?_;kd_p;refine ⟨callee_builtin,?_⟩;kd_p;refine c_fn0D (f_len (xs:=ns.map .int) (by simpa using hs)) (Ug _) (Ug _) ?_;kd_p;refine ⟨_,vo_isnone rfl,?_⟩;refine i_true rfl ?_;kd_p;refine s_while' (σ:=Nat × Nat) (λp=>[("a", .lst (ns.map .int)),("x", .int x),("lo", .int p.1),("hi", .int p.2)]) (λn p m=>m=[]/\n=p.2 - p.1/\Bis (λn=>decide (n < x)) ns p.1 p.2) _ (0,ns.length) ?_ ⟨rfl,rfl,Bis.start _ _⟩ ?_
  ·exact ⟨rfl,rfl,rfl,by simp; rfl,trivial⟩
  rintro n ⟨lo,hi⟩ m ⟨rfl,rfl,hb⟩;have hle:=hb.le;have hlen:=hb.len;dsimp only at hb hle hlen;kd_p;refine ⟨_,vo_lt,?_⟩;refine i_split (λhc=>?_) λhc=>?_
  ·have hlt:lo < hi:=by simpa using hc
   kd_p;refine ⟨_,vo_add,?_⟩;kd_p;refine ⟨.int (((lo+hi) / 2:Nat):Int),vo_is (vo_fdiv (by decide) (by decide)) (congrArg AV.int (fdiv2 lo hi)),?_⟩;have hm1:lo<=(lo+hi) / 2:=by exact ar7 hlt
   have hm2:(lo+hi) / 2 < hi:=by exact ar8 hlt
   generalize (lo+hi) / 2=mid at hm1 hm2 ⊢;obtain ⟨y,hy⟩:∃ y,ns[mid]?=some y:=⟨_,Ui (by exact U9 hm2 hlen)⟩;kd_p;refine ⟨.int y,_,(vs_nat (by exact ar10 hs hlen hm2) (by rw [Ul,hy]; rfl) (λ_ _=>rfl)).m,?_⟩;kd_p;refine ⟨_,vo_lt,?_⟩;refine i_split (λhy'=>?_) λhy'=>?_
   ·kd_p;refine ⟨_,vo_add,?_⟩;kd_p;exact ⟨_,(mid+1,hi),by simp; exact ar13 hlt hm1 hm2,⟨rfl,rfl,rfl,rfl,trivial⟩,rfl,rfl,hb.up hm1 hm2 hy (by simp at *; omega) (λa b h1 h2=>by simp at *; exact Int.lt_of_le_of_lt h1 h2) hp⟩
   ·kd_p;exact ⟨_,(lo,mid),by simp; exact Nat.sub_lt_sub_right hm1 hm2,⟨rfl,rfl,rfl,rfl,trivial⟩,rfl,rfl,hb.down hm1 hm2 hy (by simp at *; omega) (λa b h1 h2=>by simp at *; omega) hp⟩
  ·kd_p;exact pb_ret ⟨rfl,rfl,congrArg AV.int (congrArg Int.ofNat (hb.stop (by simpa using hc)).symm)⟩
end Ofnbl
theorem fn_bl (ns:List Int) (x:Int):Ofnbl.Px ns x:=eps_all Ofnbl.Rx Ofnbl.main (ns,x)
namespace Ofnbr
noncomputable def Px (ns:List Int) (x:Int):Prop:=∀ (hs:ns.length < 2 ^ 62) (hp:ns.Pairwise (·<=·)) (sh:Bool),FN prog w B 700 8000 (.ref 54) (bargs sh (.lst (ns.map .int)) (.int x)) [] [] (λav m ex=>m=[]/\ex=[]/\av=.int (cntR ns x))
noncomputable def Rx (p:List Int × Int):Prop:=Px p.1 p.2
noncomputable section
def cx:=eps (neP neL neI) Rx
def ns:=cx.1
def x:=cx.2
end
theorem main:Px ns x:=by
 intro hs hp sh;refine fn_go hB (defAt 54) [("a", .lst (ns.map .int)),("x", .int x),("lo", .int 0),("hi", .none),("key", .none)] rfl rfl rfl (by decide) ?_ ?_ rfl rfl rfl ⟨rfl,rfl,rfl,rfl,rfl,trivial⟩ ?_
 ·intro F vs kvs h1 h2;obtain rfl:=h2.n0
  cases sh with
  | true =>
   obtain ⟨v1,v2,rfl,r1,r2⟩:=h1.n2;exact ⟨_,λ_=>rfl, .cons r1 (.cons r2 (.cons (.int _ _) (.cons .none (.cons .none .nil))))⟩
  | false =>
   obtain ⟨v1,v2,v3,v4,rfl,r1,r2,r3,r4⟩:=h1.n4;exact ⟨_,λ_=>rfl, .cons r1 (.cons r2 (.cons r3 (.cons r4 (.cons .none .nil))))⟩
 ·intro L; exact ⟨.inl rfl, .inl rfl, .inl rfl, .inl rfl, .inl rfl,trivial⟩
 ·refine eps_all (ne:=neNt) _ ?_;kd_p;refine ⟨_,vo_lt,?_⟩;refine i_false (by decide) ?_;kd_p;refine ⟨_,vo_isnone rfl,?_⟩;refine i_true rfl ?_;kd_p;refine ⟨callee_builtin,?_⟩;kd_p;refine c_fn0D (f_len (xs:=ns.map .int) (by simpa using hs)) (Ug _) (Ug _) ?_;kd_p;refine ⟨_,vo_isnone rfl,?_⟩;refine i_true rfl ?_;kd_p;refine s_while' (σ:=Nat × Nat) (λp=>[("a", .lst (ns.map .int)),("x", .int x),("lo", .int p.1),("hi", .int p.2)]) (λn p m=>m=[]/\n=p.2 - p.1/\Bis (λn=>decide (n<=x)) ns p.1 p.2) _ (0,ns.length) ?_ ⟨rfl,rfl,Bis.start _ _⟩ ?_
  ·exact ⟨rfl,rfl,rfl,by simp; rfl,trivial⟩
  rintro n ⟨lo,hi⟩ m ⟨rfl,rfl,hb⟩;have hle:=hb.le;have hlen:=hb.len;dsimp only at hb hle hlen;kd_p;refine ⟨_,vo_lt,?_⟩;refine i_split (λhc=>?_) λhc=>?_
  ·have hlt:lo < hi:=by simpa using hc
   kd_p;refine ⟨_,vo_add,?_⟩;kd_p;refine ⟨.int (((lo+hi) / 2:Nat):Int),vo_is (vo_fdiv (by decide) (by decide)) (congrArg AV.int (fdiv2 lo hi)),?_⟩;have hm1:lo<=(lo+hi) / 2:=by omega
   have hm2:(lo+hi) / 2 < hi:=by omega
   generalize (lo+hi) / 2=mid at hm1 hm2 ⊢;obtain ⟨y,hy⟩:∃ y,ns[mid]?=some y:=⟨_,Ui (by omega)⟩;kd_p;refine ⟨.int y,_,(vs_nat (by exact ar10 hs hlen hm2) (by rw [Ul,hy]; rfl) (λ_ _=>rfl)).m,?_⟩;kd_p;refine ⟨_,vo_lt,?_⟩;refine i_split (λhy'=>?_) λhy'=>?_
   ·kd_p;exact ⟨_,(lo,mid),by simp; omega,⟨rfl,rfl,rfl,rfl,trivial⟩,rfl,rfl,hb.down hm1 hm2 hy (by simp at *; omega) (λa b h1 h2=>by simp at *; exact Int.le_trans h1 h2) hp⟩
   ·kd_p;refine ⟨_,vo_add,?_⟩;kd_p;exact ⟨_,(mid+1,hi),by simp; exact ar13 hlt hm1 hm2,⟨rfl,rfl,rfl,rfl,trivial⟩,rfl,rfl,hb.up hm1 hm2 hy (by simp at *; omega) (λa b h1 h2=>by simp at *; omega) hp⟩
  ·kd_p;exact pb_ret ⟨rfl,rfl,congrArg AV.int (congrArg Int.ofNat (hb.stop (by simpa using hc)).symm)⟩
end Ofnbr
theorem fn_br (ns:List Int) (x:Int):Ofnbr.Px ns x:=eps_all Ofnbr.Rx Ofnbr.main (ns,x)
namespace Ofnblk
noncomputable def Px (ns:List Int) (x:Int) (xs:List AV) (key:AV):Prop:=∀ (hkey:KeyOK prog w B 701 8003 key xs ns) (hs:ns.length < 2 ^ 62) (hp:ns.Pairwise (·<=·)) (sh:Bool),FN prog w B 700 8000 (.ref 72) (bargs sh (.lst xs) (.int x)) [("key", key)] [] (λav m ex=>m=[]/\ex=[]/\av=.int (cntL ns x))
noncomputable def Rx (p:List Int × Int × List AV × AV):Prop:=Px p.1 p.2.1 p.2.2.1 p.2.2.2
noncomputable section
def cx:=eps (neP neL (neP neI (neP neL neW))) Rx
def ns:=cx.1
def x:=cx.2.1
def xs:=cx.2.2.1
def key:=cx.2.2.2
end
theorem main:Px ns x xs key:=by
 intro hkey hs hp sh;refine fn_go hB (defAt 72) [("a", .lst xs),("x", .int x),("lo", .int 0),("hi", .none),("key", key)] rfl rfl rfl (by decide) ?_ ?_ rfl rfl rfl ⟨rfl,rfl,rfl,rfl,rfl,trivial⟩ ?_
 ·intro F vs kvs h1 h2;obtain ⟨kv,rfl,rk⟩:=h2.n1
  cases sh with
  | true =>
   obtain ⟨v1,v2,rfl,r1,r2⟩:=h1.n2;exact ⟨_,λ_=>rfl, .cons r1 (.cons r2 (.cons (.int _ _) (.cons .none (.cons rk .nil))))⟩
  | false =>
   obtain ⟨v1,v2,v3,v4,rfl,r1,r2,r3,r4⟩:=h1.n4;exact ⟨_,λ_=>rfl, .cons r1 (.cons r2 (.cons r3 (.cons r4 (.cons rk .nil))))⟩
 ·intro L; exact ⟨.inl rfl, .inl rfl, .inl rfl, .inl rfl, .inl rfl,trivial⟩
 ·refine eps_all (ne:=neNt) _ ?_;kd_p;refine ⟨_,vo_lt,?_⟩;refine i_false (by decide) ?_;kd_p;refine ⟨_,vo_isnone rfl,?_⟩;refine i_true rfl ?_;kd_p;refine ⟨callee_builtin,?_⟩;kd_p;refine c_fn0D (f_len (xs:=xs) (by have:=hkey.len; exact ar19 hs this)) (Ug _) (Ug _) ?_;kd_p;refine ⟨_,hkey.nn,?_⟩;refine i_false rfl ?_;kd_p;refine s_while' (σ:=Nat × Nat) (λp=>[("a", .lst xs),("x", .int x),("lo", .int p.1),("hi", .int p.2),("key", key)]) (λn p m=>m=[]/\n=p.2 - p.1/\Bis (λn=>decide (n < x)) ns p.1 p.2) _ (0,ns.length) ?_ ⟨rfl,rfl,Bis.start _ _⟩ ?_
  ·exact ⟨rfl,rfl,rfl,by rw [hkey.len]; rfl,rfl,trivial⟩
  rintro n ⟨lo,hi⟩ m ⟨rfl,rfl,hb⟩;have hle:=hb.le;have hlen:=hb.len;dsimp only at hb hle hlen;kd_p;refine ⟨_,vo_lt,?_⟩;refine i_split (λhc=>?_) λhc=>?_
  ·have hlt:lo < hi:=by simpa using hc
   kd_p;refine ⟨_,vo_add,?_⟩;kd_p;refine ⟨.int (((lo+hi) / 2:Nat):Int),vo_is (vo_fdiv (by decide) (by decide)) (congrArg AV.int (fdiv2 lo hi)),?_⟩;have hm1:lo<=(lo+hi) / 2:=by omega
   have hm2:(lo+hi) / 2 < hi:=by omega
   generalize (lo+hi) / 2=mid at hm1 hm2 ⊢;obtain ⟨y,hy⟩:∃ y,ns[mid]?=some y:=⟨_,Ui (by omega)⟩;obtain ⟨z,hz⟩:∃ z,xs[mid]?=some z:=⟨_,Ui (by rw [<- hkey.len]; omega)⟩;kd_p;refine ⟨hkey.callee,?_⟩;kd_p;refine ⟨z,_,(vs_nat (by exact ar10 hs hlen hm2) hz (λ_ _=>rfl)).m,?_⟩;kd_p;refine c_fn0V (hkey.call mid z y hz hy) ?_;rintro _ _ ⟨rfl,_,rfl⟩;refine .inl ⟨rfl,?_⟩;kd_p;refine ⟨_,vo_lt,?_⟩;refine i_split (λhy'=>?_) λhy'=>?_
   ·kd_p;refine ⟨_,vo_add,?_⟩;kd_p;exact ⟨_,(mid+1,hi),by simp; exact ar13 hlt hm1 hm2,⟨rfl,rfl,rfl,rfl,rfl,trivial⟩,rfl,rfl,hb.up hm1 hm2 hy (by simp at *; omega) (λa b h1 h2=>by simp at *; omega) hp⟩
   ·kd_p;exact ⟨_,(lo,mid),by simp; omega,⟨rfl,rfl,rfl,rfl,rfl,trivial⟩,rfl,rfl,hb.down hm1 hm2 hy (by simp at *; omega) (λa b h1 h2=>by simp at *; omega) hp⟩
  ·kd_p;exact pb_ret ⟨rfl,rfl,congrArg AV.int (congrArg Int.ofNat (hb.stop (by simpa using hc)).symm)⟩
end Ofnblk
theorem fn_blk (ns:List Int) (x:Int) {xs key}:Ofnblk.Px ns x xs key:=eps_all Ofnblk.Rx Ofnblk.main (ns,x,xs,key)
namespace Ofnbrk
noncomputable def Px (ns:List Int) (x:Int) (xs:List AV) (key:AV):Prop:=∀ (hkey:KeyOK prog w B 701 8003 key xs ns) (hs:ns.length < 2 ^ 62) (hp:ns.Pairwise (·<=·)) (sh:Bool),FN prog w B 700 8000 (.ref 54) (bargs sh (.lst xs) (.int x)) [("key", key)] [] (λav m ex=>m=[]/\ex=[]/\av=.int (cntR ns x))
noncomputable def Rx (p:List Int × Int × List AV × AV):Prop:=Px p.1 p.2.1 p.2.2.1 p.2.2.2
noncomputable section
def cx:=eps (neP neL (neP neI (neP neL neW))) Rx
def ns:=cx.1
def x:=cx.2.1
def xs:=cx.2.2.1
def key:=cx.2.2.2
end
theorem main:Px ns x xs key:=by
 intro hkey hs hp sh;refine fn_go hB (defAt 54) [("a", .lst xs),("x", .int x),("lo", .int 0),("hi", .none),("key", key)] rfl rfl rfl (by decide) ?_ ?_ rfl rfl rfl ⟨rfl,rfl,rfl,rfl,rfl,trivial⟩ ?_
 ·intro F vs kvs h1 h2;obtain ⟨kv,rfl,rk⟩:=h2.n1
  cases sh with
  | true =>
   obtain ⟨v1,v2,rfl,r1,r2⟩:=h1.n2;exact ⟨_,λ_=>rfl, .cons r1 (.cons r2 (.cons (.int _ _) (.cons .none (.cons rk .nil))))⟩
  | false =>
   obtain ⟨v1,v2,v3,v4,rfl,r1,r2,r3,r4⟩:=h1.n4;exact ⟨_,λ_=>rfl, .cons r1 (.cons r2 (.cons r3 (.cons r4 (.cons rk .nil))))⟩
 ·intro L; exact ⟨.inl rfl, .inl rfl, .inl rfl, .inl rfl, .inl rfl,trivial⟩
 ·refine eps_all (ne:=neNt) _ ?_;kd_p;refine ⟨_,vo_lt,?_⟩;refine i_false (by decide) ?_;kd_p;refine ⟨_,vo_isnone rfl,?_⟩;refine i_true rfl ?_;kd_p;refine ⟨callee_builtin,?_⟩;kd_p;refine c_fn0D (f_len (xs:=xs) (by have:=hkey.len; omega)) (Ug _) (Ug _) ?_;kd_p;refine ⟨_,hkey.nn,?_⟩;refine i_false rfl ?_;kd_p;refine s_while' (σ:=Nat × Nat) (λp=>[("a", .lst xs),("x", .int x),("lo", .int p.1),("hi", .int p.2),("key", key)]) (λn p m=>m=[]/\n=p.2 - p.1/\Bis (λn=>decide (n<=x)) ns p.1 p.2) _ (0,ns.length) ?_ ⟨rfl,rfl,Bis.start _ _⟩ ?_
  ·exact ⟨rfl,rfl,rfl,by rw [hkey.len]; rfl,rfl,trivial⟩
  rintro n ⟨lo,hi⟩ m ⟨rfl,rfl,hb⟩;have hle:=hb.le;have hlen:=hb.len;dsimp only at hb hle hlen;kd_p;refine ⟨_,vo_lt,?_⟩;refine i_split (λhc=>?_) λhc=>?_
  ·have hlt:lo < hi:=by simpa using hc
   kd_p;refine ⟨_,vo_add,?_⟩;kd_p;refine ⟨.int (((lo+hi) / 2:Nat):Int),vo_is (vo_fdiv (by decide) (by decide)) (congrArg AV.int (fdiv2 lo hi)),?_⟩;have hm1:lo<=(lo+hi) / 2:=by omega
   have hm2:(lo+hi) / 2 < hi:=by omega
   generalize (lo+hi) / 2=mid at hm1 hm2 ⊢;obtain ⟨y,hy⟩:∃ y,ns[mid]?=some y:=⟨_,Ui (by omega)⟩;obtain ⟨z,hz⟩:∃ z,xs[mid]?=some z:=⟨_,Ui (by rw [<- hkey.len]; omega)⟩;kd_p;refine ⟨hkey.callee,?_⟩;kd_p;refine ⟨z,_,(vs_nat (by exact ar10 hs hlen hm2) hz (λ_ _=>rfl)).m,?_⟩;kd_p;refine c_fn0V (hkey.call mid z y hz hy) ?_;rintro _ _ ⟨rfl,_,rfl⟩;refine .inl ⟨rfl,?_⟩;kd_p;refine ⟨_,vo_lt,?_⟩;refine i_split (λhy'=>?_) λhy'=>?_
   ·kd_p;exact ⟨_,(lo,mid),by simp; omega,⟨rfl,rfl,rfl,rfl,rfl,trivial⟩,rfl,rfl,hb.down hm1 hm2 hy (by simp at *; omega) (λa b h1 h2=>by simp at *; omega) hp⟩
   ·kd_p;refine ⟨_,vo_add,?_⟩;kd_p;exact ⟨_,(mid+1,hi),by simp; exact ar13 hlt hm1 hm2,⟨rfl,rfl,rfl,rfl,rfl,trivial⟩,rfl,rfl,hb.up hm1 hm2 hy (by simp at *; omega) (λa b h1 h2=>by simp at *; omega) hp⟩
  ·kd_p;exact pb_ret ⟨rfl,rfl,congrArg AV.int (congrArg Int.ofNat (hb.stop (by simpa using hc)).symm)⟩
end Ofnbrk
theorem fn_brk (ns:List Int) (x:Int) {xs key}:Ofnbrk.Px ns x xs key:=eps_all Ofnbrk.Rx Ofnbrk.main (ns,x,xs,key)
end
section
open PySem PySem.W PyProof.Rows PySem.Calls
namespace Ofnil
noncomputable def Px (a:Addr) (ns:List Int) (x:Int):Prop:=∀ (hs:ns.length<=2 ^ 20) (hp:ns.Pairwise (·<=·)),FN prog w B 600 6000 (.ref 63) [.raw (.ref a), .int x] [] [(a, .list (ns.map .int))] (λav m ex=>av=.none/\m=[(a, .list ((ins ns (cntL ns x) x).map .int))]/\ex=[])
noncomputable def Rx (p:Addr × List Int × Int):Prop:=Px p.1 p.2.1 p.2.2
noncomputable section
def cx:=eps (neP neNt (neP neL neI)) Rx
def a:=cx.1
def ns:=cx.2.1
def x:=cx.2.2
end
theorem main:Px a ns x:=by
 intro hs hp;refine fn_go hB (defAt 63) [("a", .raw (.ref a)),("x", .int x),("lo", .int 0),("hi", .none),("key", .none)] rfl rfl rfl (by decide) ?_ ?_ rfl rfl rfl ⟨rfl,rfl,rfl,rfl,rfl,trivial⟩ ?_
 ·intro F vs kvs h1 h2;obtain rfl:=h2.n0;obtain ⟨v1,v2,rfl,r1,r2⟩:=h1.n2;exact ⟨_,λ_=>rfl, .cons r1 (.cons r2 (.cons (.int _ _) (.cons .none (.cons .none .nil))))⟩
 ·intro L; exact ⟨.inl rfl, .inl rfl, .inl rfl, .inl rfl, .inl rfl,trivial⟩
 ·refine eps_all (ne:=neNt) _ ?_;kd_p;refine ⟨_,vo_isnone rfl,?_⟩;refine i_true rfl ?_;kd_p;refine ⟨Z2 (by rw [hB]; rfl),?_⟩;kd_p;refine c_view (.cons (.list a _ (.head _)) (.cons (.same _) (.cons (.same _) (.cons (.same _) .nil)))) ((fn_bl ns x (by exact ltb hs rfl) hp false).mono (by decide) (by decide) λ_ _ _ h=>h).v ?_;rintro av ex ⟨_,rfl,rfl⟩;refine ⟨.int _,rfl,?_⟩;kd_p;refine ⟨_,ZT (.head _) PySem.F.slot_list_insert PySem.F.type_list_insert,callee_builtin,?_⟩;kd_p;refine WJ 0 rfl (by simpa using hs) (by have:=cntL_le ns x; simpa using this) ?_;refine ⟨.none,?_⟩;kd_p;exact ZL rfl ⟨rfl,by simp [ins],rfl⟩
end Ofnil
theorem fn_il (a:Addr) (ns:List Int) (x:Int):Ofnil.Px a ns x:=eps_all Ofnil.Rx Ofnil.main (a,ns,x)
namespace Ofnir
noncomputable def Px (a:Addr) (ns:List Int) (x:Int):Prop:=∀ (hs:ns.length<=2 ^ 20) (hp:ns.Pairwise (·<=·)),FN prog w B 600 6000 (.ref 45) [.raw (.ref a), .int x] [] [(a, .list (ns.map .int))] (λav m ex=>av=.none/\m=[(a, .list ((ins ns (cntR ns x) x).map .int))]/\ex=[])
noncomputable def Rx (p:Addr × List Int × Int):Prop:=Px p.1 p.2.1 p.2.2
noncomputable section
def cx:=eps (neP neNt (neP neL neI)) Rx
def a:=cx.1
def ns:=cx.2.1
def x:=cx.2.2
end
theorem main:Px a ns x:=by
 intro hs hp;refine fn_go hB (defAt 45) [("a", .raw (.ref a)),("x", .int x),("lo", .int 0),("hi", .none),("key", .none)] rfl rfl rfl (by decide) ?_ ?_ rfl rfl rfl ⟨rfl,rfl,rfl,rfl,rfl,trivial⟩ ?_
 ·intro F vs kvs h1 h2;obtain rfl:=h2.n0;obtain ⟨v1,v2,rfl,r1,r2⟩:=h1.n2;exact ⟨_,λ_=>rfl, .cons r1 (.cons r2 (.cons (.int _ _) (.cons .none (.cons .none .nil))))⟩
 ·intro L; exact ⟨.inl rfl, .inl rfl, .inl rfl, .inl rfl, .inl rfl,trivial⟩
 ·refine eps_all (ne:=neNt) _ ?_;kd_p;refine ⟨_,vo_isnone rfl,?_⟩;refine i_true rfl ?_;kd_p;refine ⟨Z2 (by rw [hB]; rfl),?_⟩;kd_p;refine c_view (.cons (.list a _ (.head _)) (.cons (.same _) (.cons (.same _) (.cons (.same _) .nil)))) ((fn_br ns x (by omega) hp false).mono (by decide) (by decide) λ_ _ _ h=>h).v ?_;rintro av ex ⟨_,rfl,rfl⟩;refine ⟨.int _,rfl,?_⟩;kd_p;refine ⟨_,ZT (.head _) PySem.F.slot_list_insert PySem.F.type_list_insert,callee_builtin,?_⟩;kd_p;refine WJ 0 rfl (by simpa using hs) (by have:=cntR_le ns x; simpa using this) ?_;refine ⟨.none,?_⟩;kd_p;exact ZL rfl ⟨rfl,by simp [ins],rfl⟩
end Ofnir
theorem fn_ir (a:Addr) (ns:List Int) (x:Int):Ofnir.Px a ns x:=eps_all Ofnir.Rx Ofnir.main (a,ns,x)
namespace Ofnilk
noncomputable def Px (a:Addr) (ns:List Int) (xs:List AV) (x key:AV) (kx:Int):Prop:=∀ (hkey:KeyOK prog w B 701 8003 key xs ns) (hx:FNV prog w B 601 6003 key [x] [] [] (λav m ex=>av=.int kx/\m=[]/\ex=[])) (hs:ns.length<=2 ^ 20) (hp:ns.Pairwise (·<=·)),FN prog w B 600 6000 (.ref 63) [.raw (.ref a),x] [("key", key)] [(a, .list xs)] (λav m ex=>av=.none/\m=[(a, .list (ins xs (cntL ns kx) x))]/\ex=[])
noncomputable def Rx (p:Addr × List Int × List AV × AV × AV × Int):Prop:=Px p.1 p.2.1 p.2.2.1 p.2.2.2.1 p.2.2.2.2.1 p.2.2.2.2.2
noncomputable section
def cx:=eps (neP neNt (neP neL (neP neL (neP neW (neP neW neI))))) Rx
def a:=cx.1
def ns:=cx.2.1
def xs:=cx.2.2.1
def x:=cx.2.2.2.1
def key:=cx.2.2.2.2.1
def kx:=cx.2.2.2.2.2
end
theorem main:Px a ns xs x key kx:=by
 intro hkey hx hs hp;refine fn_go hB (defAt 63) [("a", .raw (.ref a)),("x", x),("lo", .int 0),("hi", .none),("key", key)] rfl rfl rfl (by decide) ?_ ?_ rfl rfl rfl ⟨rfl,rfl,rfl,rfl,rfl,trivial⟩ ?_
 ·intro F vs kvs h1 h2;obtain ⟨kv,rfl,rk⟩:=h2.n1;obtain ⟨v1,v2,rfl,r1,r2⟩:=h1.n2;exact ⟨_,λ_=>rfl, .cons r1 (.cons r2 (.cons (.int _ _) (.cons .none (.cons rk .nil))))⟩
 ·intro L; exact ⟨.inl rfl, .inl rfl, .inl rfl, .inl rfl, .inl rfl,trivial⟩
 ·refine eps_all (ne:=neNt) _ ?_;kd_p;refine ⟨_,hkey.nn.low (by decide) (by decide),?_⟩;refine i_false rfl ?_;kd_p;refine ⟨Z2 (by rw [hB]; rfl),?_⟩;kd_p;refine ⟨hkey.callee,?_⟩;kd_p;refine c_fn0V hx ?_;rintro _ _ ⟨rfl,_,rfl⟩;refine .inl ⟨rfl,?_⟩;kd_p;refine c_view (.cons (.list a _ (.head _)) (.cons (.same _) (.cons (.same _) (.cons (.same _) .nil)))) ((fn_blk ns kx hkey (by omega) hp false).mono (by decide) (by decide) λ_ _ _ h=>h).v ?_;rintro av ex ⟨_,rfl,rfl⟩;refine ⟨.int _,rfl,?_⟩;kd_p;refine ⟨_,ZT (.head _) PySem.F.slot_list_insert PySem.F.type_list_insert,callee_builtin,?_⟩;kd_p;refine WJ 0 rfl (by have:=hkey.len; exact ar75 hs this) (by have:=cntL_le ns kx; have:=hkey.len; omega) ?_;refine ⟨.none,?_⟩;kd_p;exact ZL rfl ⟨rfl,rfl,rfl⟩
end Ofnilk
theorem fn_ilk (a:Addr) (ns:List Int) {xs x key kx}:Ofnilk.Px a ns xs x key kx:=eps_all Ofnilk.Rx Ofnilk.main (a,ns,xs,x,key,kx)
namespace Ofnirk
noncomputable def Px (a:Addr) (ns:List Int) (xs:List AV) (x key:AV) (kx:Int):Prop:=∀ (hkey:KeyOK prog w B 701 8003 key xs ns) (hx:FNV prog w B 601 6003 key [x] [] [] (λav m ex=>av=.int kx/\m=[]/\ex=[])) (hs:ns.length<=2 ^ 20) (hp:ns.Pairwise (·<=·)),FN prog w B 600 6000 (.ref 45) [.raw (.ref a),x] [("key", key)] [(a, .list xs)] (λav m ex=>av=.none/\m=[(a, .list (ins xs (cntR ns kx) x))]/\ex=[])
noncomputable def Rx (p:Addr × List Int × List AV × AV × AV × Int):Prop:=Px p.1 p.2.1 p.2.2.1 p.2.2.2.1 p.2.2.2.2.1 p.2.2.2.2.2
noncomputable section
def cx:=eps (neP neNt (neP neL (neP neL (neP neW (neP neW neI))))) Rx
def a:=cx.1
def ns:=cx.2.1
def xs:=cx.2.2.1
def x:=cx.2.2.2.1
def key:=cx.2.2.2.2.1
def kx:=cx.2.2.2.2.2
end
theorem main:Px a ns xs x key kx:=by
 intro hkey hx hs hp;refine fn_go hB (defAt 45) [("a", .raw (.ref a)),("x", x),("lo", .int 0),("hi", .none),("key", key)] rfl rfl rfl (by decide) ?_ ?_ rfl rfl rfl ⟨rfl,rfl,rfl,rfl,rfl,trivial⟩ ?_
 ·intro F vs kvs h1 h2;obtain ⟨kv,rfl,rk⟩:=h2.n1;obtain ⟨v1,v2,rfl,r1,r2⟩:=h1.n2;exact ⟨_,λ_=>rfl, .cons r1 (.cons r2 (.cons (.int _ _) (.cons .none (.cons rk .nil))))⟩
 ·intro L; exact ⟨.inl rfl, .inl rfl, .inl rfl, .inl rfl, .inl rfl,trivial⟩
 ·refine eps_all (ne:=neNt) _ ?_;kd_p;refine ⟨_,hkey.nn.low (by decide) (by decide),?_⟩;refine i_false rfl ?_;kd_p;refine ⟨Z2 (by rw [hB]; rfl),?_⟩;kd_p;refine ⟨hkey.callee,?_⟩;kd_p;refine c_fn0V hx ?_;rintro _ _ ⟨rfl,_,rfl⟩;refine .inl ⟨rfl,?_⟩;kd_p;refine c_view (.cons (.list a _ (.head _)) (.cons (.same _) (.cons (.same _) (.cons (.same _) .nil)))) ((fn_brk ns kx hkey (by omega) hp false).mono (by decide) (by decide) λ_ _ _ h=>h).v ?_;rintro av ex ⟨_,rfl,rfl⟩;refine ⟨.int _,rfl,?_⟩;kd_p;refine ⟨_,ZT (.head _) PySem.F.slot_list_insert PySem.F.type_list_insert,callee_builtin,?_⟩;kd_p;refine WJ 0 rfl (by have:=hkey.len; omega) (by have:=cntR_le ns kx; have:=hkey.len; omega) ?_;refine ⟨.none,?_⟩;kd_p;exact ZL rfl ⟨rfl,rfl,rfl⟩
end Ofnirk
theorem fn_irk (a:Addr) (ns:List Int) {xs x key kx}:Ofnirk.Px a ns xs x key kx:=eps_all Ofnirk.Rx Ofnirk.main (a,ns,xs,x,key,kx)
namespace Ofnfound
noncomputable def Px (ns:List Int) (x:Int):Prop:=∀ (hs:ns.length<=2 ^ 20) (hp:ns.Pairwise (·<=·)),FN prog w B 600 6000 (.ref 278) [.lst (ns.map .int), .int x] [] [] (λav m ex=>av=.int ((cntR ns x:Int) - (cntL ns x:Int))/\m=[]/\ex=[])
noncomputable def Rx (p:List Int × Int):Prop:=Px p.1 p.2
noncomputable section
def cx:=eps (neP neL neI) Rx
def ns:=cx.1
def x:=cx.2
end
theorem main:Px ns x:=by
 intro hs hp;refine fn_go hB (defAt 278) [("table", .lst (ns.map .int)),("word", .int x)] rfl rfl rfl (by decide) ?_ ?_ rfl rfl rfl ⟨rfl,rfl,trivial⟩ ?_
 ·intro F vs kvs h1 h2;obtain rfl:=h2.n0;obtain ⟨v1,v2,rfl,r1,r2⟩:=h1.n2;exact ⟨_,λ_=>rfl, .cons r1 (.cons r2 .nil)⟩
 ·intro L; exact ⟨.inl rfl, .inl rfl,trivial⟩
 ·refine eps_all (ne:=neNt) _ ?_;kd_p;refine ⟨Z2 (by rw [hB]; rfl),?_⟩;kd_p;refine Xe ((fn_br ns x (by omega) hp true).mono (by decide) (by decide) λ_ _ _ h=>h) ?_;rintro _ _ ⟨_,rfl,rfl⟩;refine .inl ⟨rfl,?_⟩;kd_p;refine ⟨Z2 (by rw [hB]; rfl),?_⟩;kd_p;refine Xe ((fn_bl ns x (by omega) hp true).mono (by decide) (by decide) λ_ _ _ h=>h) ?_;rintro _ _ ⟨_,rfl,rfl⟩;refine .inl ⟨rfl,?_⟩;refine ⟨_,vo_sub,?_⟩;kd_p;exact pb_ret ⟨rfl,rfl,rfl⟩
end Ofnfound
theorem fn_found (ns:List Int) (x:Int):Ofnfound.Px ns x:=eps_all Ofnfound.Rx Ofnfound.main (ns,x)
end
section
open PySem PySem.W PyProof.Rows PySem.Calls
noncomputable def xorL (ns:List Int):Int:=ns.foldl Builtin.bitXor 0
theorem xorL_take {ns:List Int} {i:Nat} {n:Int} (h:ns[i]?=some n):xorL (ns.take (i+1))=Builtin.bitXor (xorL (ns.take i)) n:=by
 unfold xorL;rw [List.take_add_one,h];simp
namespace Ofnsum
noncomputable def Px (ns:List Int):Prop:=FN prog w B 600 6000 (.ref 271) [.lst (ns.map .int)] [] [] (λav m ex=>av=.int (xorL ns)/\m=[]/\ex=[])
noncomputable def Rx (p:List Int):Prop:=Px p
noncomputable def cx:=eps neL Rx
noncomputable def ns:=cx
theorem main:Px ns:=by
 unfold Px;refine fn_go hB (defAt 271) [("parts", .lst (ns.map .int))] rfl rfl rfl (by decide) ?_ ?_ rfl rfl rfl ⟨rfl,trivial⟩ ?_
 ·intro F vs kvs h1 h2;obtain rfl:=h2.n0;obtain ⟨v1,rfl,r1⟩:=h1.n1;exact ⟨_,λ_=>rfl, .cons r1 .nil⟩
 ·intro L; exact ⟨.inl rfl,trivial⟩
 ·refine eps_all (ne:=neNt) _ ?_;kd_p;refine Xq (λi=>[("parts", .lst (ns.map .int)),("whole", .int (xorL (ns.take i)))]) (λ_=>[]) (λ_=>rfl) (Y3 ?_);kd_p;refine ⟨_,_,Zk,trivial,⟨rfl,rfl,trivial⟩,rfl,λ_=>trivial,λi a hx=>?_,?_⟩
  ·rw [Ul] at hx;obtain ⟨n,hn,rfl⟩:=Ux.mp hx;refine ⟨_,Z8 (.inl rfl),?_⟩;kd_p;refine ⟨_,vo_ixor,?_⟩;kd_p;exact ⟨⟨rfl,congrArg (λz=>some (AV.int z)) (xorL_take hn).symm,trivial⟩,rfl⟩
  ·kd_p;exact pb_ret ⟨by simp,rfl,rfl⟩
end Ofnsum
theorem fn_sum (ns:List Int):Ofnsum.Px ns:=eps_all Ofnsum.Rx Ofnsum.main (ns)
end
section
open PySem PySem.W PyProof.Rows PySem.Calls
noncomputable def V9 (k:Nat):Nat:=[1,1,2,8].getD k 1
noncomputable def VM (number k:Nat):Nat:=((1*2 ^ k ||| number / V9 k % (1*2 ^ k))*2 ^ (number / 64 % 4) ||| (1*2 ^ k ||| number / V9 k % (1*2 ^ k)) / 2 ^ (4 - number / 64 % 4)) % 16
noncomputable def Zg (number:Nat):List Nat:=(Um 4).map (VM number)
namespace Ofnbasis
noncomputable def Px (n:Nat):Prop:=FN prog w B 600 6000 (.ref 264) [.int (n:Int)] [] [] (λav m ex=>∃ a,av=.raw (.ref a)/\m=[]/\ex=[(a, .list (Z0 (Zg n)))])
noncomputable def Rx (p:Nat):Prop:=Px p
noncomputable def cx:=eps neNt Rx
noncomputable def n:=cx
theorem main:Px n:=by
 unfold Px;refine fn_go hB (defAt 264) [("number", .int (n:Int))] rfl rfl rfl (by decide) ?_ ?_ rfl rfl rfl ⟨rfl,trivial⟩ ?_
 ·intro F vs kvs h1 h2;obtain rfl:=h2.n0;obtain ⟨v1,rfl,r1⟩:=h1.n1;exact ⟨_,λ_=>rfl, .cons r1 .nil⟩
 ·intro L; exact ⟨.inl rfl,trivial⟩
 ·refine eps_all (ne:=neNt) _ ?_;kd_p;refine XB ?_;kd_p;refine ⟨by decide,λa=>?_⟩;kd_p;refine Xq (λi=>[("number", .int (n:Int)),("basis", .raw (.ref a))]) (λi=>[(a, .list (Z0 ((Um i).map (VM n))))]) (λ_=>rfl) (ZK ?_);kd_p;refine ⟨Z5,?_⟩;kd_p;refine c_fn0D ZS (Ug _) (Ug _) ?_;refine ⟨_,_,_,4,rfl,by decide,by decide,⟨rfl,rfl,trivial⟩,rfl,λ_=>trivial,λi av hx=>?_,?_⟩
  ·obtain ⟨hi,rfl⟩:=ZY hx;refine ⟨_,Z8 (.inl rfl),?_⟩;kd_p;refine ⟨_,Vc (a:=1) (by exact lbe hi rfl) (by decide),?_⟩;kd_p;refine Yg ?_;kd_p;refine ⟨by decide,?_⟩;kd_p;refine ⟨.int (V9 i:Int),_,(vs_nat (by exact lbl hi rfl) ?_ (λ_ _=>rfl)).m,?_⟩
   ·have:i=0\/i=1\/i=2\/i=3:=by exact ar157 hi
    rcases this with rfl | rfl | rfl | rfl <;> rfl
   refine ⟨_,Xy ?_ ?_,?_⟩
   ·have:i=0\/i=1\/i=2\/i=3:=by exact ar157 hi
    rcases this with rfl | rfl | rfl | rfl <;> decide
   ·have:i=0\/i=1\/i=2\/i=3:=by exact ar157 hi
    rcases this with rfl | rfl | rfl | rfl <;> decide
   kd_p;have hpos:0 < 1*2 ^ i:=by rw [Nat.one_mul]; exact Nat.two_pow_pos i
   have hs1:(1*2 ^ i ||| n / V9 i % (1*2 ^ i)) < 2 ^ 64:=by
    refine Nat.or_lt_two_pow ?_ ?_
    ·rw [Nat.one_mul]; exact Nat.pow_lt_pow_right (by decide) (by exact lbl hi rfl)
    ·refine U5 (Sr _ hpos) ?_;rw [Nat.one_mul]; exact Nat.pow_lt_pow_right (by decide) (by omega)
   refine ⟨_,Vc (a:=1) (by exact lbe hi rfl) (by decide),_,Y2 hpos,_,vn_or,?_⟩;kd_p;refine ⟨_,Xy (b:=64) (by decide) (by decide),?_⟩;kd_p;refine ⟨_,Y2 (b:=4) (by decide),?_⟩;have ht:n / 64 % 4 < 4:=Sr _ (by decide);kd_p;refine ⟨_,ZT (.head _) PySem.F.slot_list_append PySem.F.type_list_append,callee_builtin,?_⟩;kd_p;refine ⟨_,Vc (by exact lbe ht rfl) hs1,?_⟩;kd_p;refine ⟨_,vn_sub (a:=4) (by exact lbe ht rfl),_,vn_shr,_,vn_or,?_⟩;kd_p;refine ⟨_,Y2 (b:=16) (by decide),?_⟩;kd_p;refine Xk 0 rfl (by simp [Z0]; exact lbe hi rfl) ?_;refine ⟨.none,?_⟩;kd_p;refine ⟨⟨rfl,rfl,trivial⟩,?_⟩;rw [Sn,Tv];simp [Z0,VM]
  ·kd_p;exact Wx (a, .list (Z0 (Zg n))) (List.Sublist.refl _) ⟨a,rfl,rfl,rfl⟩
end Ofnbasis
theorem fn_basis (n:Nat):Ofnbasis.Px n:=eps_all Ofnbasis.Rx Ofnbasis.main (n)
end
section
open PySem PySem.W PyProof.Rows PySem.Calls
noncomputable def ofN (ns:List Nat):List Int:=ns.map λn:Nat=>(n:Int)
theorem ofN_A (ns:List Nat):(ofN ns).map AV.int=Z0 ns:=by simp [ofN,Z0]
noncomputable def YO (barred:List Nat) (x:Nat):Bool:=decide ((cntR (ofN barred) x:Int) - (cntL (ofN barred) x:Int) > 0)
noncomputable def YR (barred:List Nat) (k:Nat) (table:List Nat) (word:Nat):List Nat :=
 if (table.filter λone=>YO barred (word^^^one))=[] then (if k % 2=0 then ins table (cntR (ofN table) word) word else ins table (cntL (ofN table) word) word) else table
noncomputable def Zv (order barred:List Nat):Nat->List Nat
 | 0=>[]
 | i+1=>match order[i]? with
  | some word=>YR barred i (Zv order barred i) word
  | none=>Zv order barred i
theorem VN (l:List Nat) (k x:Nat):ofN (ins l k x)=ins (ofN l) k (x:Int):=by simp [ofN,ins]
theorem YB (order barred:List Nat):∀ i,(ofN (Zv order barred i)).Pairwise (·<=·)/\(Zv order barred i).length<=i
 | 0=>⟨List.Pairwise.nil,Ug _⟩
 | i+1=>by
  obtain ⟨h1,h2⟩:=YB order barred i;unfold Zv
  split
  ·unfold YR
   split
   ·split
    ·exact ⟨by rw [VN]; exact VG h1,by rw [Xr]; exact Uv h2 1⟩
    ·exact ⟨by rw [VN]; exact VD h1,by rw [Xr]; exact Uv h2 1⟩
   ·exact ⟨h1,by exact Nat.le_add_right_of_le h2⟩
  ·exact ⟨h1,by omega⟩
namespace Ofnkept
noncomputable def Px (order barred:List Nat):Prop:=∀ (ho:order.length<=2 ^ 16) (hl:barred.length<=2 ^ 16) (hs:(ofN barred).Pairwise (·<=·)),FN prog w B 500 4000 (.ref 283) [.lst (Z0 order), .lst (Z0 barred)] [] [] (λav m ex=>∃ a,av=.raw (.ref a)/\m=[]/\ex=[(a, .list (Z0 (Zv order barred order.length)))])
noncomputable def Rx (p:List Nat × List Nat):Prop:=Px p.1 p.2
noncomputable section
def cx:=eps (neP neL neL) Rx
def order:=cx.1
def barred:=cx.2
end
theorem main:Px order barred:=by
 intro ho hl hs;refine fn_go hB (defAt 283) [("order", .lst (Z0 order)),("barred", .lst (Z0 barred))] rfl rfl rfl (by decide) ?_ ?_ rfl rfl rfl ⟨rfl,rfl,trivial⟩ ?_
 ·intro F vs kvs h1 h2;obtain rfl:=h2.n0;obtain ⟨v1,v2,rfl,r1,r2⟩:=h1.n2;exact ⟨_,λ_=>rfl, .cons r1 (.cons r2 .nil)⟩
 ·intro L; exact ⟨.inl rfl, .inr ⟨rfl,rfl⟩,trivial⟩
 ·refine eps_all (ne:=neNt) _ ?_;kd_p;refine XB ?_;kd_p;refine ⟨by decide,λa=>?_⟩;kd_p;refine Xq (λi=>[("order", .lst (Z0 order)),("barred", .lst (Z0 barred)),("table", .raw (.ref a))]) (λi=>[(a, .list (Z0 (Zv order barred i)))]) (λ_=>rfl) (Xo (λ_=>rfl) (λ_=>rfl) ?_);kd_p;refine ⟨rfl,?_⟩;kd_p;refine ⟨_,_,Zk,trivial,⟨rfl,rfl,rfl,trivial⟩,rfl,λ_=>trivial,λi av hx=>?_,?_⟩
  ·obtain ⟨word,hw,rfl⟩:=Yi hx;clear hx;obtain ⟨hT,hTl⟩:=YB order barred i;have hi:i < order.length:=(Un.mp hw).1;refine ⟨_,Y8 (.inl rfl) (.inr ⟨rfl,rfl⟩),?_⟩;kd_p;refine ZC _ (λ_=>rfl) rfl rfl (by decide) (by keq_rows) rfl (ZD (Y3 ?_));kd_p;refine ⟨_,_,lsrc_mem, .head _,(Zv order barred i).map λone:Nat=>if YO barred (word^^^one) then some (AV.int (one:Int)) else none,by simp [Z0],by simp [Z0]; exact ar61 ho hTl hi, .head _,λL' j av o hx ho=>?_,?_⟩
   ·rw [Z0,Ul] at hx;obtain ⟨one,h1,rfl⟩:=Ux.mp hx;rw [Ul,h1] at ho;simp only [Rh,Up.injEq] at ho;subst ho;refine ⟨_,Z8 (.inl rfl),by keq_hits,?_⟩;kd_p;refine ⟨Z2 (by rw [hB]; rfl),?_⟩;kd_p;refine ⟨_,vn_xor,?_⟩;kd_p;rw [<- ofN_A barred];refine c_fn0D (fn_found (ofN barred) ((word^^^one:Nat):Int) (by simp [ofN]; exact leb hl rfl) hs) (by decide) (by decide) ?_;kd_p;refine ⟨_,vo_gt,?_⟩;refine i_split (λhc=>?_) λhc=>?_
    ·kd_p;have:YO barred (word^^^one)=true:=by unfold YO; simpa using hc
     rw [if_pos this];exact ⟨rfl,rfl⟩
    ·have:¬ YO barred (word^^^one)=true:=by unfold YO; simpa using hc
     rw [if_neg this];exact ⟨rfl,rfl⟩
   ·rw [YS];refine Yg ?_;kd_p;refine ⟨by decide,_,vo_eqL YM (λa ha=>nomatch ha) (by decide),?_⟩;have hk:Zv order barred (i+1)=YR barred i (Zv order barred i) word:=by rw [Zv,hw]
    refine i_split (λhc=>?_) λhc=>?_
    ·have hc':(Zv order barred i).filter (λone=>YO barred (word^^^one))=[]:=by
      have:=(@toDs_nats _ []).mp (dec_t hc);exact this
     have hk':Zv order barred (i+1)=if i % 2=0 then ins (Zv order barred i) (cntR (ofN (Zv order barred i)) word) word else ins (Zv order barred i) (cntL (ofN (Zv order barred i)) word) word:=by
      rw [hk,YR,if_pos hc']
     kd_p;refine Y0 ?_ (λ_=>rfl);kd_p;refine ⟨_,Y2 (b:=2) (by decide),?_⟩;refine ⟨_,XT,?_⟩;refine i_split (λh2=>?_) λh2=>?_
     ·have h2':¬ i % 2=0:=by simpa using h2
      rw [if_neg h2'] at hk';kd_p;refine ⟨Z2 (by rw [hB]; rfl),?_⟩;kd_p;rw [<- ofN_A (Zv order barred i)];refine c_fn [] [_] [] rfl ((fn_il a (ofN (Zv order barred i)) (word:Int) (by simp [ofN]; omega) hT).mono (by decide) (by decide) λ_ _ _ h=>h) ?_;rintro _ _ _ ⟨rfl,rfl,rfl⟩;refine .inl ⟨.none,?_⟩;kd_p;refine ⟨⟨rfl,rfl,rfl,trivial⟩,?_⟩;rw [hk', <- ofN_A (ins _ _ _),VN];rfl
     ·have h2':i % 2=0:=by simpa using h2
      rw [if_pos h2'] at hk';kd_p;refine ⟨Z2 (by rw [hB]; rfl),?_⟩;kd_p;rw [<- ofN_A (Zv order barred i)];refine c_fn [] [_] [] rfl ((fn_ir a (ofN (Zv order barred i)) (word:Int) (by simp [ofN]; exact ar98 ho hTl hi h2') hT).mono (by decide) (by decide) λ_ _ _ h=>h) ?_;rintro _ _ _ ⟨rfl,rfl,rfl⟩;refine .inl ⟨.none,?_⟩;kd_p;refine ⟨⟨rfl,rfl,rfl,trivial⟩,?_⟩;rw [hk', <- ofN_A (ins _ _ _),VN];rfl
    ·have hc':¬ (Zv order barred i).filter (λone=>YO barred (word^^^one))=[]:=by
      intro z;exact dec_f hc ((@toDs_nats _ []).mpr z)
     kd_p;refine ⟨⟨rfl,rfl,rfl,trivial⟩,?_⟩;rw [hk,YR,if_neg hc']
  ·kd_p;exact Wx (a, .list (Z0 (Zv order barred order.length))) (by rw [Zx,Z4]; exact List.Sublist.refl _) ⟨a,rfl,rfl,rfl⟩
end Ofnkept
theorem fn_kept (order:List Nat) (barred:List Nat):Ofnkept.Px order barred:=eps_all Ofnkept.Rx Ofnkept.main (order,barred)
end
section
open PySem PySem.W PyProof.Rows PySem.Calls
noncomputable def Yp (p:Nat × Nat):AV:=.tup [.int (p.1:Int), .int (p.2:Int)]
noncomputable def Zw (ps:List (Nat × Nat)):List AV:=ps.map Yp
noncomputable def Zl (ps:List (Nat × Nat)):List Int:=ps.map λp=>(p.1:Int)
namespace Ofntimes
noncomputable def Px (ps:List (Nat × Nat)) (x:Nat):Prop:=∀ (hs:ps.length<=2 ^ 20) (hp:(Zl ps).Pairwise (·<=·)),FN prog w B 600 6000 (.ref 302) [.lst (Zw ps), .int (x:Int)] [] [] (λav m ex=>av=.int ((cntR (Zl ps) x:Int) - (cntL (Zl ps) x:Int))/\m=[]/\ex=[])
noncomputable def Rx (p:(List (Nat × Nat)) × Nat):Prop:=Px p.1 p.2
noncomputable section
def cx:=eps (neP neL neNt) Rx
def ps:=cx.1
def x:=cx.2
end
theorem main:Px ps x:=by
 intro hs hp;refine fn_go hB (defAt 302) [("classes", .lst (Zw ps)),("worth", .int (x:Int))] rfl rfl rfl (by decide) ?_ ?_ rfl rfl rfl ⟨rfl,rfl,trivial⟩ ?_
 ·intro F vs kvs h1 h2;obtain rfl:=h2.n0;obtain ⟨v1,v2,rfl,r1,r2⟩:=h1.n2;exact ⟨_,λ_=>rfl, .cons r1 (.cons r2 .nil)⟩
 ·intro L; exact ⟨.inl rfl, .inl rfl,trivial⟩
 ·refine eps_all (ne:=neNt) _ ?_;kd_p;refine ⟨Z2 (by rw [hB]; rfl),?_⟩;kd_p;refine XW (P:=297) [] rfl rfl rfl (λh k=>⟨_,_,_,_,_,_,_,_,_,k _ _ (by rw [hB]; rfl),rfl,rfl,rfl,rfl,rfl,rfl,rfl,rfl,by decide⟩) (by rw [hT.tabs]; decide) (by rw [hT.tq]; rfl) ?_;refine c_key (loc₀:=[]) (.cons (.same _) (.cons (.same _) .nil)) (λp hp=>nomatch hp) ((fn_blk (Zl ps) (x:Int) ?_ (by simp [Zl]; exact ltb hs rfl) hp true).mono (by decide) (by decide) λ_ _ _ h=>h).v ?_
  ·refine ⟨by simp [Zl,Zw],YX,Xs,λi z k hz hk=>?_⟩
   obtain ⟨q,h1,rfl⟩:∃ q,ps[i]?=some q/\Yp q=z:=by
    rw [Zw,Ul] at hz; exact Ux.mp hz
   rw [Zl,Ul,h1] at hk
   cases hk
   refine (Wj (P:=λa=>a=.int (q.1:Int)) [("pair", Yp q)] (by decide) (λF vs kvs pm cdv ctv h1 h2=>?_) (λL fa cdv=>⟨.inl rfl,trivial⟩) (by intro p hp; cases hp) (by intro p hp; cases hp) rfl rfl rfl λL fa cdv=>?_).mono λa m ex hq1=>by obtain ⟨h1,h2,h3⟩:=hq1; exact ⟨h3,h1,h2⟩
   ·obtain rfl:=h2.n0;obtain ⟨v1,rfl,r1⟩:=h1.n1;exact ⟨_,rfl, .cons r1 .nil⟩
   ·kd_p;refine ⟨_,_,(Wq (j:=0) (by decide) (by decide) rfl rfl (λ_ _=>rfl)).m,rfl,rfl⟩
  rintro av ex ⟨_,rfl,rfl⟩;refine ⟨.int _,rfl,?_⟩;kd_p;refine ⟨Z2 (by rw [hB]; rfl),?_⟩;kd_p;refine XW (P:=297) [] rfl rfl rfl (λh k=>⟨_,_,_,_,_,_,_,_,_,k _ _ (by rw [hB]; rfl),rfl,rfl,rfl,rfl,rfl,rfl,rfl,rfl,by decide⟩) (by rw [hT.tabs]; decide) (by rw [hT.tq]; rfl) ?_;refine c_key (loc₀:=[]) (.cons (.same _) (.cons (.same _) .nil)) (λp hp=>nomatch hp) ((fn_brk (Zl ps) (x:Int) ?_ (by simp [Zl]; omega) hp true).mono (by decide) (by decide) λ_ _ _ h=>h).v ?_
  ·refine ⟨by simp [Zl,Zw],YX,Xs,λi z k hz hk=>?_⟩
   obtain ⟨q,h1,rfl⟩:∃ q,ps[i]?=some q/\Yp q=z:=by
    rw [Zw,Ul] at hz; exact Ux.mp hz
   rw [Zl,Ul,h1] at hk
   cases hk
   refine (Wj (P:=λa=>a=.int (q.1:Int)) [("pair", Yp q)] (by decide) (λF vs kvs pm cdv ctv h1 h2=>?_) (λL fa cdv=>⟨.inl rfl,trivial⟩) (by intro p hp; cases hp) (by intro p hp; cases hp) rfl rfl rfl λL fa cdv=>?_).mono λa m ex hq1=>by obtain ⟨h1,h2,h3⟩:=hq1; exact ⟨h3,h1,h2⟩
   ·obtain rfl:=h2.n0;obtain ⟨v1,rfl,r1⟩:=h1.n1;exact ⟨_,rfl, .cons r1 .nil⟩
   ·kd_p;refine ⟨_,_,(Wq (j:=0) (by decide) (by decide) rfl rfl (λ_ _=>rfl)).m,rfl,rfl⟩
  rintro av ex ⟨_,rfl,rfl⟩;refine ⟨.int _,rfl,?_⟩;kd_p;refine ⟨_,vo_sub,?_⟩;kd_p;exact pb_ret ⟨rfl,rfl,rfl⟩
end Ofntimes
theorem fn_times (ps:List (Nat × Nat)) (x:Nat):Ofntimes.Px ps x:=eps_all Ofntimes.Rx Ofntimes.main (ps,x)
end
section
open PySem PySem.W PyProof.Rows PySem.Calls
noncomputable def Yj (k:Nat) (cs:List (Nat × Nat)) (p:Nat × Nat):List (Nat × Nat):=if k / 2 % 2=0 then ins cs (cntR (Zl cs) p.1) p else ins cs (cntL (Zl cs) p.1) p
noncomputable def Zf (order:List Nat) (g:Nat->Nat):Nat->List (Nat × Nat)
 | 0=>[]
 | i+1=>match order[i]? with
  | some word=>Yj i (Zf order g i) (g word,word)
  | none=>Zf order g i
theorem keysI_ins (l:List (Nat × Nat)) (k:Nat) (x:Nat × Nat):Zl (ins l k x)=ins (Zl l) k (x.1:Int):=by simp [Zl,ins]
theorem Z0y (l:List (Nat × Nat)) (k:Nat) (x:Nat × Nat):Zw (ins l k x)=ins (Zw l) k (Yp x):=by simp [Zw,ins]
theorem Yt (order:List Nat) (g:Nat->Nat):∀ i,(Zl (Zf order g i)).Pairwise (·<=·)/\(Zf order g i).length<=i
 | 0=>⟨List.Pairwise.nil,Ug _⟩
 | i+1=>by
  obtain ⟨h1,h2⟩:=Yt order g i;unfold Zf
  split
  ·unfold Yj
   split
   ·exact ⟨by rw [keysI_ins]; exact VG h1,by rw [Xr]; exact Uv h2 1⟩
   ·exact ⟨by rw [keysI_ins]; exact VD h1,by rw [Xr]; omega⟩
  ·exact ⟨h1,by exact Nat.le_add_right_of_le h2⟩
namespace Ofnclasses
noncomputable def Px (order worths:List Nat) (g:Nat->Nat):Prop:=∀ (ho:order.length<=2 ^ 16) (hg:∀ x ∈ order,worths[x]?=some (g x)) (hx:∀ x ∈ order,x < 2 ^ 16),FN prog w B 500 4000 (.ref 295) [.lst (Z0 order), .lst (Z0 worths)] [] [] (λav m ex=>∃ a,av=.raw (.ref a)/\m=[]/\ex=[(a, .list (Zw (Zf order g order.length)))])
noncomputable def Rx (p:List Nat × List Nat × (Nat->Nat)):Prop:=Px p.1 p.2.1 p.2.2
noncomputable section
def cx:=eps (neP neL (neP neL (inferInstance:Nonempty (Nat->Nat)))) Rx
def order:=cx.1
def worths:=cx.2.1
def g:=cx.2.2
end
theorem main:Px order worths g:=by
 intro ho hg hx;refine fn_go hB (defAt 295) [("order", .lst (Z0 order)),("worths", .lst (Z0 worths))] rfl rfl rfl (by decide) ?_ ?_ rfl rfl rfl ⟨rfl,rfl,trivial⟩ ?_
 ·intro F vs kvs h1 h2;obtain rfl:=h2.n0;obtain ⟨v1,v2,rfl,r1,r2⟩:=h1.n2;exact ⟨_,λ_=>rfl, .cons r1 (.cons r2 .nil)⟩
 ·intro L; exact ⟨.inl rfl, .inl rfl,trivial⟩
 ·refine eps_all (ne:=neNt) _ ?_;kd_p;refine XB ?_;kd_p;refine ⟨by decide,λa=>?_⟩;kd_p;refine Xq (λi=>[("order", .lst (Z0 order)),("worths", .lst (Z0 worths)),("classes", .raw (.ref a))]) (λi=>[(a, .list (Zw (Zf order g i)))]) (λ_=>rfl) (Xo (λ_=>rfl) (λ_=>rfl) ?_);kd_p;refine ⟨rfl,?_⟩;kd_p;refine ⟨_,_,Zk,trivial,⟨rfl,rfl,rfl,trivial⟩,rfl,λ_=>trivial,λi av hx'=>?_,?_⟩
  ·obtain ⟨word,hw,rfl⟩:=Yi hx';clear hx';have hmem:word ∈ order:=Uk hw;obtain ⟨hS,hSl⟩:=Yt order g i;have hi:i < order.length:=(Un.mp hw).1;have hk:Zf order g (i+1)=Yj i (Zf order g i) (g word,word):=by rw [Zf,hw]
   refine ⟨_,Y8 (.inl rfl) (.inl rfl),?_⟩;kd_p;refine Y0 ?_ (λ_=>rfl);kd_p;refine ⟨_,Xy (b:=2) (by decide) (by decide),?_⟩;kd_p;refine ⟨_,Y2 (b:=2) (by decide),?_⟩;refine ⟨_,XT,?_⟩;refine i_split (λh2=>?_) λh2=>?_
   ·have h2':¬ i / 2 % 2=0:=by simpa using h2
    rw [Yj,if_neg h2'] at hk;kd_p;refine ⟨Z2 (by rw [hB]; rfl),?_⟩;kd_p;refine WM ?_;kd_p;refine ⟨.int (g word:Int),_,(vs_nat (U9 (hx word hmem) (by decide)) (Xf (hg word hmem)) (λ_ _=>rfl)).m,?_⟩;kd_p;refine ⟨by simp,?_⟩;kd_p;refine XW (P:=290) [] rfl rfl rfl (λh k=>⟨_,_,_,_,_,_,_,_,_,k _ _ (by rw [hB]; rfl),rfl,rfl,rfl,rfl,rfl,rfl,rfl,rfl,by decide⟩) (by rw [hT.tabs]; decide) (by rw [hT.tq]; rfl) ?_;refine c_fnV [] [_] [] rfl ((fn_ilk a (Zl (Zf order g i)) (x:=Yp (g word,word)) (kx:=(g word:Int)) ?_ ?_ (by simp [Zl]; exact ar61 ho hSl hi) hS).mono (by decide) (by decide) λ_ _ _ h=>h).v ?_
    ·refine ⟨by simp [Zl,Zw],Wu,Vx,λj z k hz hk=>?_⟩
     obtain ⟨q,h1,rfl⟩:∃ q,(Zf order g i)[j]?=some q/\Yp q=z:=by
      rw [Zw,Ul] at hz; exact Ux.mp hz
     rw [Zl,Ul,h1] at hk
     cases hk
     refine ((Wj (P:=λa=>a=.int (q.1:Int)) [("pair", Yp q)] (by decide) (λF vs kvs pm cdv ctv h1 h2=>?_) (λL fa cdv=>⟨.inl rfl,trivial⟩) (by intro p hp; cases hp) (by intro p hp; cases hp) rfl rfl rfl λL fa cdv=>?_).mono λa m ex hq1=>by obtain ⟨h1,h2,h3⟩:=hq1; exact ⟨h3,h1,h2⟩).lam0
     ·obtain rfl:=h2.n0;obtain ⟨v1,rfl,r1⟩:=h1.n1;exact ⟨_,rfl, .cons r1 .nil⟩
     ·kd_p;refine ⟨_,_,(Wq (j:=0) (by decide) (by decide) rfl rfl (λ_ _=>rfl)).m,rfl,rfl⟩
    ·refine ((Wj (P:=λa=>a=.int (g word:Int)) [("pair", Yp (g word,word))] (by decide) (λF vs kvs pm cdv ctv h1 h2=>?_) (λL fa cdv=>⟨.inl rfl,trivial⟩) (by intro p hp; cases hp) (by intro p hp; cases hp) rfl rfl rfl λL fa cdv=>?_).mono λa m ex hq1=>by obtain ⟨h1,h2,h3⟩:=hq1; exact ⟨h3,h1,h2⟩).lam0
     ·obtain rfl:=h2.n0;obtain ⟨v1,rfl,r1⟩:=h1.n1;exact ⟨_,rfl, .cons r1 .nil⟩
     ·kd_p;refine ⟨_,_,(Wq (j:=0) (by decide) (by decide) rfl rfl (λ_ _=>rfl)).m,rfl,rfl⟩
    rintro _ _ _ ⟨rfl,rfl,rfl⟩;refine .inl ⟨.none,?_⟩;kd_p;refine ⟨⟨rfl,rfl,rfl,trivial⟩,?_⟩;rw [hk,Z0y];rfl
   ·have h2':i / 2 % 2=0:=by simpa using h2
    rw [Yj,if_pos h2'] at hk;kd_p;refine ⟨Z2 (by rw [hB]; rfl),?_⟩;kd_p;refine WM ?_;kd_p;refine ⟨.int (g word:Int),_,(vs_nat (U9 (hx word hmem) (by decide)) (Xf (hg word hmem)) (λ_ _=>rfl)).m,?_⟩;kd_p;refine ⟨by simp,?_⟩;kd_p;refine XW (P:=290) [] rfl rfl rfl (λh k=>⟨_,_,_,_,_,_,_,_,_,k _ _ (by rw [hB]; rfl),rfl,rfl,rfl,rfl,rfl,rfl,rfl,rfl,by decide⟩) (by rw [hT.tabs]; decide) (by rw [hT.tq]; rfl) ?_;refine c_fnV [] [_] [] rfl ((fn_irk a (Zl (Zf order g i)) (x:=Yp (g word,word)) (kx:=(g word:Int)) ?_ ?_ (by simp [Zl]; omega) hS).mono (by decide) (by decide) λ_ _ _ h=>h).v ?_
    ·refine ⟨by simp [Zl,Zw],Wu,Vx,λj z k hz hk=>?_⟩
     obtain ⟨q,h1,rfl⟩:∃ q,(Zf order g i)[j]?=some q/\Yp q=z:=by
      rw [Zw,Ul] at hz; exact Ux.mp hz
     rw [Zl,Ul,h1] at hk
     cases hk
     refine ((Wj (P:=λa=>a=.int (q.1:Int)) [("pair", Yp q)] (by decide) (λF vs kvs pm cdv ctv h1 h2=>?_) (λL fa cdv=>⟨.inl rfl,trivial⟩) (by intro p hp; cases hp) (by intro p hp; cases hp) rfl rfl rfl λL fa cdv=>?_).mono λa m ex hq1=>by obtain ⟨h1,h2,h3⟩:=hq1; exact ⟨h3,h1,h2⟩).lam0
     ·obtain rfl:=h2.n0;obtain ⟨v1,rfl,r1⟩:=h1.n1;exact ⟨_,rfl, .cons r1 .nil⟩
     ·kd_p;refine ⟨_,_,(Wq (j:=0) (by decide) (by decide) rfl rfl (λ_ _=>rfl)).m,rfl,rfl⟩
    ·refine ((Wj (P:=λa=>a=.int (g word:Int)) [("pair", Yp (g word,word))] (by decide) (λF vs kvs pm cdv ctv h1 h2=>?_) (λL fa cdv=>⟨.inl rfl,trivial⟩) (by intro p hp; cases hp) (by intro p hp; cases hp) rfl rfl rfl λL fa cdv=>?_).mono λa m ex hq1=>by obtain ⟨h1,h2,h3⟩:=hq1; exact ⟨h3,h1,h2⟩).lam0
     ·obtain rfl:=h2.n0;obtain ⟨v1,rfl,r1⟩:=h1.n1;exact ⟨_,rfl, .cons r1 .nil⟩
     ·kd_p;refine ⟨_,_,(Wq (j:=0) (by decide) (by decide) rfl rfl (λ_ _=>rfl)).m,rfl,rfl⟩
    rintro _ _ _ ⟨rfl,rfl,rfl⟩;refine .inl ⟨.none,?_⟩;kd_p;refine ⟨⟨rfl,rfl,rfl,trivial⟩,?_⟩;rw [hk,Z0y];rfl
  ·kd_p;exact Wx (a, .list (Zw (Zf order g order.length))) (by rw [Zx,Z4]; exact List.Sublist.refl _) ⟨a,rfl,rfl,rfl⟩
end Ofnclasses
theorem fn_classes (order:List Nat) (worths:List Nat) (g:Nat->Nat):Ofnclasses.Px order worths g:=eps_all Ofnclasses.Rx Ofnclasses.main (order,worths,g)
end
section
open PySem PySem.W PyProof.Rows PySem.Calls
noncomputable def sp:Str:=⟨#[32]⟩
noncomputable def em:Str:=⟨#[]⟩
theorem YC (x y:Str):(x++y).length=x.length+y.length:=by
 cases x; cases y
 show (Str.append _ _).length=_;simp [Str.append,Str.length]
noncomputable def Ym (rows:List Str) (x:Str):List Str:=rows.set (rows.length - 1) (rows.getD (rows.length - 1) em++x)
noncomputable def Za (w0:Str) (width head:Nat):List Str × Nat:=if 0 < head/\width < head+w0.length then ([em,sp++w0],1+w0.length) else ([w0],head+w0.length)
noncomputable def Y6 (width:Nat) (p:List Str × Nat) (word:Str):List Str × Nat :=
 if width < p.2+1+word.length then (Ym (p.1++[em]) (sp++word),0+(1+word.length)) else (Ym p.1 (sp++word),p.2+(1+word.length))
noncomputable def ZR (words:List Str) (width:Nat) (p:List Str × Nat):Nat->List Str × Nat
 | 0=>p
 | i+1=>match words[i]? with
  | some x=>Y6 width (ZR words width p i) x
  | none=>ZR words width p i
theorem Vp {rows:List Str} {x:Str} {n:Nat} (h1:∀ r ∈ rows,r.length<=n) (hx:x.length<=1001):(Ym rows x).length=rows.length/\∀ r ∈ Ym rows x,r.length<=n+1001:=by
 refine ⟨by simp [Ym],λr hr=>?_⟩;rcases S4 hr with h | rfl
 ·have:=h1 r h; exact Nat.le_add_right_of_le (h1 r h)
 ·rw [YC]
  have:(rows.getD (rows.length - 1) em).length<=n:=by
   rw [Uu]
   cases q:rows[rows.length - 1]? with
   | none=>simp [em,Str.length]
   | some y=>exact h1 y (Uk q)
  exact ar1 hx this
theorem bumpA {i n:Nat} (h:n<=(i+1)*1001+1001):n<=(i+1+1)*1001:=Uc h (Us (Nat.succ_mul (i+1) 1001).symm)
theorem bumpB {n k:Nat} (h:1<=n) (e:k=n+(0+1)):1<=k:=by exact ar3 h e
theorem bumpC {i n k:Nat} (h:n<=i+2) (e:k=n+(0+1)):k<=i+1+2:=by exact ar4 h e
theorem rows_inv (ws:List Str) (width:Nat) (w0:Str) (head:Nat) (h0:w0.length<=1000) (hw:∀ x ∈ ws,x.length<=1000):∀ i,1<=(ZR ws width (Za w0 width head) i).1.length/\(ZR ws width (Za w0 width head) i).1.length<=i+2/\∀ r ∈ (ZR ws width (Za w0 width head) i).1,r.length<=(i+1)*1001
 | 0=>by
  unfold ZR Za;have hsp:sp.length=1:=rfl
  split
  ·refine ⟨by simp,by simp,λr hr=>?_⟩;simp at hr;rcases hr with rfl | rfl
   ·simp [em,Str.length]
   ·rw [YC]; exact ar12 h0 hsp
  ·refine ⟨by simp,by simp,λr hr=>?_⟩;simp at hr;subst hr;exact ar17 h0
 | i+1=>by
  obtain ⟨h1,h2,h3⟩:=rows_inv ws width w0 head h0 hw i;rw [ZR];generalize ZR ws width (Za w0 width head) i=st at h1 h2 h3 ⊢;obtain ⟨rows,used⟩:=st;dsimp only at h1 h2 h3
  cases hx:ws[i]? with
  | some x =>
   dsimp only;have hxl:=hw x (Uk hx);have hs:(sp++x).length<=1001:=by rw [YC]; have:sp.length=1:=rfl; exact ar18 hxl this
   unfold Y6;dsimp only
   split
   ·have h3':∀ r ∈ rows++[em],r.length<=(i+1)*1001:=λr hr=>by
     rcases Ue.mp hr with h | h
     ·exact h3 r h
     ·rw [Uj.mp h]; simp [em,Str.length]
    obtain ⟨a1,a2⟩:=Vp h3' hs;rw [U8] at a1;simp only [Td,Sy] at a1;exact ⟨bumpB h1 a1,bumpC h2 a1,λr hr=>bumpA (a2 r hr)⟩
   ·obtain ⟨a1,a2⟩:=Vp h3 hs;exact ⟨by rw [a1]; exact h1,by rw [a1]; exact Nat.le_succ_of_le h2,λr hr=>bumpA (a2 r hr)⟩
  | none =>
   dsimp only;exact ⟨h1,Nat.le_succ_of_le h2,λr hr=>bumpA (Uc (h3 r hr) (U7 _ _))⟩
namespace Ofnrows
noncomputable def Px (w0:Str) (ws:List Str) (width head:Nat):Prop:=∀ (hn:ws.length<=100) (h0:w0.length<=1000) (hw:∀ x ∈ ws,x.length<=1000),FN prog w B 600 6000 (.ref 257) [.lst (Z3 (w0 :: ws)), .int (width:Int), .int (head:Int)] [] [] (λav m ex=>∃ a,av=.raw (.ref a)/\m=[]/\ex=[(a, .list (Z3 (ZR ws width (Za w0 width head) ws.length).1))])
noncomputable def Rx (p:Str × List Str × Nat × Nat):Prop:=Px p.1 p.2.1 p.2.2.1 p.2.2.2
noncomputable section
def cx:=eps (neP neI (neP neL (neP neNt neNt))) Rx
def w0:=cx.1
def ws:=cx.2.1
def width:=cx.2.2.1
def head:=cx.2.2.2
end
theorem main:Px w0 ws width head:=by
 intro hn h0 hw;refine fn_go hB (defAt 257) [("words", .lst (Z3 (w0 :: ws))),("width", .int (width:Int)),("head", .int (head:Int))] rfl rfl rfl (by decide) ?_ ?_ rfl rfl rfl ⟨rfl,rfl,rfl,trivial⟩ ?_
 ·intro F vs kvs h1 h2;obtain rfl:=h2.n0;obtain ⟨v1,v2,v3,rfl,r1,r2,r3⟩:=h1.n3;exact ⟨_,λ_=>rfl, .cons r1 (.cons r2 (.cons r3 .nil))⟩
 ·intro L; exact ⟨.inl rfl, .inl rfl, .inl rfl,trivial⟩
 ·refine eps_all (ne:=neNt) _ ?_;kd_p;refine s_assignS rfl rfl (.inl rfl) (.inl rfl) ?_;refine WM ?_;kd_p;refine XB ?_;kd_p;refine ⟨.str w0,_,(vs_nat (k:=0) (by decide) rfl (λ_ _=>rfl)).m,?_⟩;kd_p;refine ⟨by simp,λa=>?_⟩;kd_p;refine ⟨callee_builtin,?_⟩;kd_p;refine ⟨.str w0,_,(vs_nat (k:=0) (by decide) rfl (λ_ _=>rfl)).m,?_⟩;kd_p;refine c_fn0D (f_lenS (by exact ltb h0 rfl)) (Ug _) (Ug _) ?_;refine ⟨_,X3,?_⟩;kd_p;refine ⟨by simp,_,_,rfl,?_⟩;refine seq_next ?_
  refine V3 (σ:=Addr) (λc=>[("words", .lst (Z3 (w0 :: ws))),("width", .int (width:Int)),("head", .int (head:Int)),("rows", .raw (.ref c)),("used", .int ((Za w0 width head).2:Int))])
   (λc=>[(c, .list (Z3 (Za w0 width head).1))]) ?_ λc=>?_
  ·kd_p;refine ⟨_,Vr (b:=0),?_⟩;have keep:¬ (0 < head/\width < head+w0.length)->Za w0 width head=([w0],head+w0.length):=λh=>by rw [Za,if_neg h]
   refine i_split (λhc=>?_) λhc=>?_
   ·have hc:0 < head:=of_decide_eq_true hc;kd_p;refine ⟨_,Vr,?_⟩;refine i_split (λhd=>?_) λhd=>?_
    ·have hd:width < head+w0.length:=of_decide_eq_true hd;have e:Za w0 width head=([em,sp++w0],1+w0.length):=by rw [Za,if_pos ⟨hc,hd⟩]
     kd_p;refine s_assignS rfl rfl (.inl rfl) (.inl rfl) ?_;refine WM ?_;kd_p;refine XB ?_;kd_p;refine ⟨.str w0,_,(vs_nat (k:=0) (by decide) rfl (λ_ _=>rfl)).m,?_⟩
     refine ⟨.str (sp++w0),VK (x:=sp) (by
      show Str.length _<=2 ^ 24;rw [YC];have:sp.length=1:=rfl
      exact ar21 h0 this),?_⟩
     kd_p;refine ⟨by simp,λc=>?_⟩;kd_p;refine ⟨callee_builtin,?_⟩;kd_p;refine ⟨.str w0,_,(vs_nat (k:=0) (by decide) rfl (λ_ _=>rfl)).m,?_⟩;kd_p;refine c_fn0D (f_lenS (by exact ltb h0 rfl)) (Ug _) (Ug _) ?_;refine ⟨_,X3 (a:=1),?_⟩;kd_p;refine ⟨by simp,_,_,rfl,?_⟩;kd_p;rw [e];exact ⟨c,⟨rfl,rfl,rfl,rfl,rfl,trivial⟩,List.sublist_append_right _ _⟩
    ·have hd:¬ width < head+w0.length:=of_decide_eq_false hd;kd_p;rw [keep λh=>hd h.2];exact ⟨a,⟨rfl,rfl,rfl,rfl,rfl,trivial⟩,List.Sublist.refl _⟩
   ·have hc:¬ 0 < head:=of_decide_eq_false hc;refine i_false rfl ?_;kd_p;rw [keep λh=>hc h.1];exact ⟨a,⟨rfl,rfl,rfl,rfl,rfl,trivial⟩,List.Sublist.refl _⟩
  ·kd_p
   refine Xq (λi=>[("words", .lst (Z3 (w0 :: ws))),("width", .int (width:Int)),("head", .int (head:Int)),("rows", .raw (.ref c)),("used", .int ((ZR ws width (Za w0 width head) i).2:Int))])
    (λi=>[(c, .list (Z3 (ZR ws width (Za w0 width head) i).1))]) (λ_=>rfl) (Y3 ?_)
   kd_p;refine Yc ?_;kd_p;refine ⟨_,_,_,rfl,rfl,rfl,?_⟩;refine ⟨_,_,(Yq (by decide) (by simp [Z3]; exact ar23 hn) (λ_ _=>⟨_,rfl⟩) (λ_ _=>rfl)).m,?_⟩;have hp:ZM (Z3 (w0 :: ws)) (some 1) none none=Z3 ws:=Wr (Z3 (w0 :: ws)) 1;rw [hp];refine ⟨_,_,Zk,trivial,⟨rfl,rfl,rfl,rfl,rfl,trivial⟩,rfl,λ_=>trivial,λi av hx=>?_,?_⟩
   ·rw [Z3,Ul] at hx;obtain ⟨word,hword,rfl⟩:=Ux.mp hx;clear hx;have hi:i < ws.length:=(Un.mp hword).1;have hwl:=hw word (Uk hword);obtain ⟨i1,i2,i3⟩:=rows_inv ws width w0 head h0 hw i;have hk:ZR ws width (Za w0 width head) (i+1)=Y6 width (ZR ws width (Za w0 width head) i) word:=by rw [ZR,hword]
    generalize ZR ws width (Za w0 width head) i=st at i1 i2 i3 hk ⊢;obtain ⟨rows,used⟩:=st;dsimp only at i1 i2 i3 hk ⊢;rw [hk];refine ⟨_,Z8 (.inl rfl),?_⟩
    refine V3 (σ:=Unit) (λ_=>[("words", .lst (Z3 (w0 :: ws))),("width", .int (width:Int)),("head", .int (head:Int)),("rows", .raw (.ref c)),("used", .int ((if width < used+1+word.length then 0 else used:Nat):Int)),("word", .str word)])
     (λ_=>[(c, .list (Z3 (if width < used+1+word.length then rows++[em] else rows)))]) ?_ λ_=>?_
    ·kd_p;refine ⟨_,X3 (b:=1),?_⟩;kd_p;refine ⟨callee_builtin,?_⟩;kd_p;refine c_fn0D (f_lenS (by exact ar27 hwl)) (Ug _) (Ug _) ?_;refine ⟨_,X3,?_⟩;kd_p;refine ⟨_,Vr,?_⟩;refine i_split (λhc=>?_) λhc=>?_
     ·have hc:width < used+1+word.length:=of_decide_eq_true hc;kd_p;refine ⟨_,ZT (.head _) PySem.F.slot_list_append PySem.F.type_list_append,callee_builtin,?_⟩;kd_p;refine Xk 0 rfl (by simp [Z3]; exact ar29 hn hi i2) ?_;refine ⟨.none,?_⟩;kd_p;rw [if_pos hc,if_pos hc];refine ⟨(),⟨rfl,rfl,rfl,rfl,rfl,rfl,trivial⟩,?_⟩;simp only [Z3,Tv];exact List.Sublist.refl _
     ·have hc:¬ width < used+1+word.length:=of_decide_eq_false hc;kd_p;rw [if_neg hc,if_neg hc];exact ⟨(),⟨rfl,rfl,rfl,rfl,rfl,rfl,trivial⟩,List.Sublist.refl _⟩
    ·have r0:1<=(if width < used+1+word.length then rows++[em] else rows).length/\(if width < used+1+word.length then rows++[em] else rows).length<=200/\∀ r ∈ (if width < used+1+word.length then rows++[em] else rows),r.length<=200200:=by
      have hs:∀ r ∈ rows,r.length<=200200:=λr hr=>Uc (i3 r hr) (Uc (Sw 1001 (show i+1<=200 by exact ar34 hn hi)) (by decide))
      split
      ·refine ⟨by simp,by simp; exact ar36 hn hi i2,λr hr=>?_⟩;rcases Ue.mp hr with h | h
       ·exact hs r h
       ·rw [Uj.mp h]; simp [em,Str.length]
      ·exact ⟨i1,by exact ar41 hn hi i2,hs⟩
     have e1:Y6 width (rows,used) word=(Ym (if width < used+1+word.length then rows++[em] else rows) (sp++word),(if width < used+1+word.length then 0 else used)+(1+word.length)):=by
      unfold Y6;dsimp only
      split <;> rfl
     rw [e1];generalize (if width < used+1+word.length then rows++[em] else rows)=rows2 at r0 ⊢;generalize (if width < used+1+word.length then 0 else used)=used2;obtain ⟨q1,q2,q3⟩:=r0
     have hold:rows2[rows2.length - 1]?=some (rows2.getD (rows2.length - 1) em):=by
      rw [Uu,Ui (by exact Nat.sub_one_lt_of_lt q1)]; rfl
     have hol:=q3 _ (Uk hold);have hsw:(sp++word).length<=1001:=by rw [YC]; have:sp.length=1:=rfl; exact ar18 hwl this
     refine b_cons ?_;refine s_augSub ?hi ?_
     case hi=>exact λ_ _ _=>rfl
     kd_p;refine ⟨.int (-1),Xx,?_⟩;refine ⟨c, -1,Z3 rows2,rows2.length - 1,0, .str (rows2.getD (rows2.length - 1) em),rfl,rfl,rfl,by simp [Z3]; exact ar47 q1 q2,?_,?_,?_⟩
     ·unfold X0;simp only [Z3,Ut];rw [if_neg (by decide),if_pos (by exact ar49 q1 q2)]
      congr 1
      exact ar50 q1 q2
     ·rw [Z3,Ul,hold]; rfl
     kd_p
     refine ⟨.str (sp++word),VK (x:=sp) (by
      show Str.length _<=2 ^ 24
      exact leb hsw rfl),?_⟩
     refine ⟨rfl, .str (rows2.getD (rows2.length - 1) em++(sp++word)),vo_iaddS (by
      show Str.length _<=2 ^ 24;rw [YC]
      exact ar53 hol hsw),?_⟩
     kd_p;refine ⟨callee_builtin,?_⟩;kd_p;refine c_fn0D (f_lenS (by exact ltb hwl rfl)) (Ug _) (Ug _) ?_;refine ⟨_,X3 (a:=1),?_⟩;refine ⟨_,vn_iadd,?_⟩;kd_p;refine ⟨⟨rfl,rfl,rfl,rfl,rfl,trivial⟩,?_⟩;simp only [Z3,Ym,List.map_set];rfl
   ·kd_p;exact Wx (c, .list (Z3 (ZR ws width (Za w0 width head) ws.length).1)) (by rw [show (Z3 ws).length=ws.length by simp [Z3]]; exact List.Sublist.refl _) ⟨c,rfl,rfl,rfl⟩
end Ofnrows
theorem fn_rows (w0:Str) (ws:List Str) (width:Nat) (head:Nat):Ofnrows.Px w0 ws width head:=eps_all Ofnrows.Rx Ofnrows.main (w0,ws,width,head)
end
section
open PySem PySem.W PyProof.Rows PySem.Calls
noncomputable def hexT (n:Nat):Str:=baseText "0x" 16 (n:Int)
noncomputable def names8:List Str:=["OPTIMIZED", "NEWLOCALS", "VARARGS", "VARKEYWORDS", "NESTED", "GENERATOR", "NOFREE", "COROUTINE"]
noncomputable def names2:List Str:=["ITERABLE_COROUTINE", "ASYNC_GENERATOR"]
noncomputable def XU:List Str:=names8++names2++(Um 22).map λk=>hexT (2 ^ (k+10))
noncomputable def Zn (base:Nat):List Str:=(XU.drop base).take 4
theorem rngFrom_get {x n i:Nat} {a:AV} (h:(rngL (x:Int) 1 n)[i]?=some a):i < n/\a=.int ((x+i:Nat):Int):=by
 obtain ⟨h1,h2⟩:=XS h;exact ⟨h1,by rw [h2]; congr 1; exact ar159⟩
theorem hex_len {k:Nat} (h:k < 33):(hexT (2 ^ k)).length<=12:=by
 have:∀ k < 33,(hexT (2 ^ k)).length<=12:=by decide +kernel
 exact this k h
theorem marks_pick {base:Nat} (hb:base<=28):ZM (Z3 XU) (some (base:Int)) (some ((base+4:Nat):Int)) none=Z3 (Zn base):=by
 have hl:(Z3 XU).length=32:=by simp [Z3,XU,names8,names2]
 rw [pickA_span _ _ _ (by exact U7 base 4) (by exact ar160 hb hl),show base+4 - base=4 by exact Nat.add_sub_self_left base 4];simp only [Z3,Zn,List.map_take,List.map_drop]
namespace Ofnmarks
noncomputable def Px (base:Nat):Prop:=∀ (hb:base<=28),FN prog w B 600 6000 (.ref 243) [.int (base:Int)] [] [] (λav m ex=>av=.lst (Z3 (Zn base))/\m=[]/\ex=[])
noncomputable def Rx (p:Nat):Prop:=Px p
noncomputable def cx:=eps neNt Rx
noncomputable def base:=cx
theorem main:Px base:=by
 intro hb;refine fn_go hB (defAt 243) [("base", .int (base:Int))] rfl rfl rfl (by decide) ?_ ?_ rfl rfl rfl ⟨rfl,trivial⟩ ?_
 ·intro F vs kvs h1 h2;obtain rfl:=h2.n0;obtain ⟨v1,rfl,r1⟩:=h1.n1;exact ⟨_,λ_=>rfl, .cons r1 .nil⟩
 ·intro L; exact ⟨.inl rfl,trivial⟩
 ·refine eps_all (ne:=neNt) _ ?_;kd_p;refine Yg ?_;kd_p;refine ⟨by decide,?_⟩;kd_p;refine Yg ?_;kd_p;refine ⟨by decide,?_⟩;refine ⟨_,VQ (by decide) (by decide),?_⟩;refine ZC _ (λ_=>rfl) rfl rfl (by decide) (by keq_rows) rfl (ZG (ZK ?_));kd_p;refine ⟨Z5,?_⟩;kd_p;refine c_fn0D f_range2 (Ug _) (Ug _) ?_;refine ⟨_,_,_,22,rfl,by decide,by decide,((Um 22).map λk=>AV.str (hexT (2 ^ (k+10)))),by decide,by decide,trivial,λL' i av o hx ho=>?_,?_⟩
  ·obtain ⟨hi,rfl⟩:=rngFrom_get (x:=10) hx;rw [Ul,Sa hi] at ho;simp only [Rh,Up.injEq] at ho;subst ho;refine ⟨_,Z8 (.inl rfl),by keq_hits,?_⟩;kd_p;refine ⟨callee_builtin,?_⟩;kd_p;refine ⟨_,Vc (a:=1) (b:=10+i) (by exact ar162 hi) (by decide),?_⟩;kd_p;have e:1*2 ^ (10+i)=2 ^ (i+10):=by rw [Nat.one_mul,Nat.add_comm]
   rw [e];refine Xe (f_hex ?_) ?_
   ·have:(hexT (2 ^ (i+10))).length<=12:=hex_len (by exact ar165 hi);exact Uc this (by decide)
   rintro _ _ ⟨rfl,_,rfl⟩;exact .inl ⟨rfl,rfl,rfl⟩
  ·refine ⟨_,VQ (by decide) (by decide),?_⟩;kd_p;refine Yc ?_;kd_p;refine ⟨_,X3 (b:=4),?_⟩;kd_p;refine ⟨_,_,_,rfl,rfl,rfl,?_⟩;refine ⟨_,_,(Yq (by decide) (by decide) (λ_ _=>⟨_,rfl⟩) (λ_ _=>rfl)).m,?_⟩;kd_p;refine pb_ret ⟨?_,rfl,rfl⟩;exact congrArg AV.lst (marks_pick hb)
end Ofnmarks
theorem fn_marks (base:Nat):Ofnmarks.Px base:=eps_all Ofnmarks.Rx Ofnmarks.main (base)
end
section
open PySem PySem.W PyProof.Rows PySem.Calls
noncomputable def flagRows:List (Str × Tok):=[("OPTIMIZED", 197),("NEWLOCALS", 199),("VARARGS", 201),("VARKEYWORDS", 203),("NESTED", 205),("GENERATOR", 207),("NOFREE", 209),("COROUTINE", 211),("ITERABLE_COROUTINE", 213),("ASYNC_GENERATOR", 215)]
noncomputable def WV:List (Int × Value):=[(1, .str "OPTIMIZED" 197),(2, .str "NEWLOCALS" 199),(4, .str "VARARGS" 201),(8, .str "VARKEYWORDS" 203),(16, .str "NESTED" 205),(32, .str "GENERATOR" 207),(64, .str "NOFREE" 209),(128, .str "COROUTINE" 211),(256, .str "ITERABLE_COROUTINE" 213),(512, .str "ASYNC_GENERATOR" 215)]
noncomputable def flagObj:Obj:={ cls:=.type "dict", data:=.dict #[⟨1, .int 1 196, .str "OPTIMIZED" 197⟩,⟨2, .int 2 198, .str "NEWLOCALS" 199⟩,⟨4, .int 4 200, .str "VARARGS" 201⟩,⟨8, .int 8 202, .str "VARKEYWORDS" 203⟩,⟨16, .int 16 204, .str "NESTED" 205⟩,⟨32, .int 32 206, .str "GENERATOR" 207⟩,⟨64, .int 64 208, .str "NOFREE" 209⟩,⟨128, .int 128 210, .str "COROUTINE" 211⟩,⟨256, .int 256 212, .str "ITERABLE_COROUTINE" 213⟩,⟨512, .int 512 214, .str "ASYNC_GENERATOR" 215⟩] 10 }
theorem flag_at:(KZ w).lookup 22=some flagObj:=rfl
theorem flag_dict {h:Heap} (e:h.get? 22=some flagObj):h.DictOf (intKind prog w) 22 WV:=by
 refine ⟨_,_,_,e,⟨rfl,rfl,rfl⟩,rfl,?_,?_,by decide⟩
 ·intro x hx;simp only [List.mem_toArray,Ur,Rc,or_false] at hx;rcases hx with rfl | rfl | rfl | rfl | rfl | rfl | rfl | rfl | rfl | rfl
  ·exact ⟨1,rfl,rfl⟩
  ·exact ⟨2,rfl,rfl⟩
  ·exact ⟨4,rfl,rfl⟩
  ·exact ⟨8,rfl,rfl⟩
  ·exact ⟨16,rfl,rfl⟩
  ·exact ⟨32,rfl,rfl⟩
  ·exact ⟨64,rfl,rfl⟩
  ·exact ⟨128,rfl,rfl⟩
  ·exact ⟨256,rfl,rfl⟩
  ·exact ⟨512,rfl,rfl⟩
 ·unfold WV;refine .cons rfl rfl (.cons rfl rfl (.cons rfl rfl (.cons rfl rfl (.cons rfl rfl (.cons rfl rfl (.cons rfl rfl (.cons rfl rfl (.cons rfl rfl (.cons rfl rfl .nil)))))))))
noncomputable def Wt (i:Nat):Str:=XU.getD i ⟨#[]⟩
theorem flag_val:∀ i < 32,(valueAt WV ((2 ^ i:Nat):Int))=(flagRows[i]?).map λr=>Value.str r.1 r.2:=by
 intro i hi
 match i,hi with
 | 0,_=>rfl | 1,_=>rfl | 2,_=>rfl | 3,_=>rfl | 4,_=>rfl | 5,_=>rfl | 6,_=>rfl | 7,_=>rfl
 | 8,_=>rfl | 9,_=>rfl | 10,_=>rfl | 11,_=>rfl | 12,_=>rfl | 13,_=>rfl | 14,_=>rfl | 15,_=>rfl
 | 16,_=>rfl | 17,_=>rfl | 18,_=>rfl | 19,_=>rfl | 20,_=>rfl | 21,_=>rfl | 22,_=>rfl | 23,_=>rfl
 | 24,_=>rfl | 25,_=>rfl | 26,_=>rfl | 27,_=>rfl | 28,_=>rfl | 29,_=>rfl | 30,_=>rfl | 31,_=>rfl
 | n+32,h=>exact absurd h (by exact ar2 h)
theorem mark_val:∀ i < 32,Wt i=((flagRows[i]?).map (·.1)).getD (hexT (2 ^ i)):=by
 intro i hi
 match i,hi with
 | 0,_=>rfl | 1,_=>rfl | 2,_=>rfl | 3,_=>rfl | 4,_=>rfl | 5,_=>rfl | 6,_=>rfl | 7,_=>rfl
 | 8,_=>rfl | 9,_=>rfl | 10,_=>rfl | 11,_=>rfl | 12,_=>rfl | 13,_=>rfl | 14,_=>rfl | 15,_=>rfl
 | 16,_=>rfl | 17,_=>rfl | 18,_=>rfl | 19,_=>rfl | 20,_=>rfl | 21,_=>rfl | 22,_=>rfl | 23,_=>rfl
 | 24,_=>rfl | 25,_=>rfl | 26,_=>rfl | 27,_=>rfl | 28,_=>rfl | 29,_=>rfl | 30,_=>rfl | 31,_=>rfl
 | n+32,h=>exact absurd h (by omega)
section
variable {d u:Nat} {env:Env} {loc:Loc} {mem:List (Addr × AO)}
theorem s_join {σ:Type} (can:σ->Loc) (mf:σ->List (Addr × AO)) {st:Stmt} {rest:List Stmt} {Q:PF} (h:WS prog w B d u env loc mem st (SeqP (λl m=>∃ x,Sub (can x) l/\(mf x).Sublist m) Q)) (k:∀ x,WB prog w B d u env (can x) (mf x) rest Q) :
  WS prog w B d u env loc mem st (SeqP (λl m=>WB prog w B d u env l m rest Q) Q) :=
 WS.mono h λf l m z=>by
  cases f with
  | next=>obtain ⟨x,h1,h2⟩:=z; exact b_sub h1 (b_drop h2 (k x))
  | brk=>exact z
  | cont=>exact z
  | ret a=>exact z
theorem meth_flags:METH prog w B mem (.raw (.ref 22)) "get" (.raw (.builtin "dict.get")):=λA E F env loc tmp s v pl hA hv R Q q=>by
 cases hv
 have hd:s.heap.DictOf (intKind prog w) 22 WV:=flag_dict (R.inv.kin _ _ (by rw [hB]; exact flag_at));exact getMethod_builtin hd.typeIs PySem.F.plainAttrs_dict PySem.F.slot_dict_get PySem.F.type_dict_get hd.mapOf.noDict (q _ (.raw _))
theorem f_flags {i:Nat} (hi:i < 32):FN prog w B d u (.builtin "dict.get") [.raw (.ref 22), .int ((2 ^ i:Nat):Int), .str (hexT (2 ^ i))] [] [] (λav m ex=>av=.str (Wt i)/\m=[]/\ex=[]) :=
 FN.pure λA F s vs kvs Q hA I hF ha hk q=>by
  obtain rfl:=hk.n0;obtain ⟨v1,v2,v3,rfl,r1,r2,r3⟩:=ha.n3
  cases r1; cases r2; cases r3
  have hd:s.heap.DictOf (intKind prog w) 22 WV:=flag_dict (I.kin _ _ (by rw [hB]; exact flag_at));refine call_meetsIn PySem.F.slot_dict_get hd.typeIs PySem.F.entry_dict_get (PySem.F.args_dict_get_3 _ _ _) (meets_dict_get_default (intKind prog w) 22 (k:=((2 ^ i:Nat):Int)) (by show (_ == _)=true; simp) (by decide) _) ⟨_,hd.mapOf,q _ _ ?_⟩;rw [flag_val i hi,mark_val i hi]
  cases flagRows[i]? with
  | some r=>exact .str _ _
  | none=>exact .str _ _
end
noncomputable def upN (f i:Nat):Nat:=f / 2 ^ i*2 ^ i
noncomputable def Yz (f i:Nat):List Str:=(Um i).filterMap λj=>if f.testBit j then some (Wt j) else none
noncomputable def Zo (f:Nat):List Str:=if f=0 then [hexT 0] else Yz f 32
theorem XY (f i j:Nat):(upN f i).testBit j=(decide (i<=j) && f.testBit j):=by
 unfold upN;rw [Nat.testBit_mul_two_pow,Nat.testBit_div_two_pow]
 by_cases h:i<=j
 ·simp [h,Nat.add_sub_cancel' h]
 ·simp [h]
theorem upN_zero (f:Nat):upN f 0=f:=by simp [upN]
theorem upN_and (f i:Nat):upN f i &&& 2 ^ i=if f.testBit i then 2 ^ i else 0:=by
 apply Nat.eq_of_testBit_eq;intro j;rw [Nat.testBit_and,XY,Nat.testBit_two_pow]
 by_cases e:i=j
 ·subst e; cases h:f.testBit i <;> simp
 ·cases h:f.testBit i <;> simp [e,Nat.testBit_two_pow]
theorem upN_next (f i:Nat) (h:f.testBit i=true):upN f i^^^2 ^ i=upN f (i+1):=by
 apply Nat.eq_of_testBit_eq;intro j;rw [Nat.testBit_xor,XY,XY,Nat.testBit_two_pow]
 by_cases e:i=j
 ·subst e; simp [h]
 ·have:decide (i<=j)=decide (i+1<=j):=by congr 1; exact propext ⟨λ_=>by omega,λ_=>by omega⟩
  rw [this]; simp [e]
theorem upN_same (f i:Nat) (h:f.testBit i=false):upN f i=upN f (i+1):=by
 apply Nat.eq_of_testBit_eq;intro j;rw [XY,XY]
 by_cases e:i=j
 ·subst e; simp [h]
 ·have:decide (i<=j)=decide (i+1<=j):=by congr 1; exact propext ⟨λ_=>by omega,λ_=>by omega⟩
  rw [this]
theorem bitsN_next (f i:Nat) (h:f.testBit i=true):Yz f (i+1)=Yz f i++[Wt i]:=by
 unfold Yz;rw [Sn,List.filterMap_append];simp [h]
theorem Z0e (f i:Nat) (h:f.testBit i=false):Yz f (i+1)=Yz f i:=by
 unfold Yz;rw [Sn,List.filterMap_append];simp [h]
theorem bitsN_len (f i:Nat):(Yz f i).length<=i:=by
 unfold Yz;exact Uc (List.length_filterMap_le _ _) (by simp)
theorem bits_stop (f i:Nat) (h:upN f i=0):∀ k,Yz f (i+k)=Yz f i
 | 0=>rfl
 | k+1=>by
  have e:f.testBit (i+k)=false:=by
   have:=XY f i (i+k);rw [h] at this;simpa using this.symm
  rw [<- bits_stop f i h k];exact Z0e f (i+k) e
theorem mark_len {i:Nat} (h:i < 32):(Wt i).length<=21:=by
 have:∀ i < 32,(Wt i).length<=21:=by decide +kernel
 exact this i h
theorem names_len {f:Nat}:((Zo f).map (·.length)).sum<=32*21/\(Zo f).length<=32:=by
 have hl:(Zo f).length<=32:=by
  unfold Zo
  split
  ·simp
  ·exact bitsN_len f 32
 have hm:∀ y ∈ Zo f,y.length<=21:=by
  unfold Zo
  split
  ·intro y hy;rw [Uj.mp hy];decide +kernel
  ·intro y hy;obtain ⟨j,hj,e⟩:=List.mem_filterMap.mp hy
   split at e
   ·cases e; exact mark_len (U0.mp hj)
   ·cases e
 exact ⟨Uc (StrLaws.sumLen_le _ hm) (Sw 21 hl),hl⟩
noncomputable abbrev Xz (f:Nat) (a:Addr) (i:Nat):Loc:=[("flags", .int (upN f i:Int)),("names", .raw (.ref a))]
namespace Ofnflags
noncomputable def Px (f:Nat):Prop:=∀ (hf:f < 2 ^ 32),FN prog w B 600 6000 (.ref 29) [.int (f:Int)] [] [] (λav m ex=>av=.str (Txt.join ", " (Zo f))/\m=[]/\ex=[])
noncomputable def Rx (p:Nat):Prop:=Px p
noncomputable def cx:=eps neNt Rx
noncomputable def f:=cx
theorem main:Px f:=by
 intro hf;refine fn_go hB (defAt 29) [("flags", .int (f:Int))] rfl rfl rfl (by decide) ?_ ?_ rfl rfl rfl ⟨rfl,trivial⟩ ?_
 ·intro F vs kvs h1 h2;obtain rfl:=h2.n0;obtain ⟨v1,rfl,r1⟩:=h1.n1;exact ⟨_,λ_=>rfl, .cons r1 .nil⟩
 ·intro L; exact ⟨.inl rfl,trivial⟩
 ·refine eps_all (ne:=neNt) _ ?_;kd_p;refine XB ?_;kd_p;refine ⟨by simp,λa=>?_⟩;kd_p;refine s_join (σ:=Unit) (λ_=>[("names", .raw (.ref a))]) (λ_=>[(a, .list (Z3 (Zo f)))]) ?_ λ_=>?_
  ·refine s_for (λ_=>rfl) (ZK ?_);kd_p;refine ⟨Z5,?_⟩;kd_p;refine c_fn0D ZS (Ug _) (Ug _) ?_;refine ⟨_,_,_,32,rfl,by decide,by decide,λi l m=>l=Xz f a i/\m=[(a, .list (Z3 (Yz f i)))]/\(f=0\/upN f i≠0),⟨Xz f a 0,?_,rfl,rfl,?_⟩,λ_ _ _ _=>trivial,λi av l m hx hJ=>?_,λl m hJ=>?_⟩
   ·unfold Xz;rw [upN_zero];exact ⟨rfl,rfl,trivial⟩
   ·rw [upN_zero]; exact Decidable.em _
   ·obtain ⟨hi,rfl⟩:=ZY hx;obtain ⟨rfl,rfl,hz⟩:=hJ;refine ⟨_,Z8 (.inl rfl),?_⟩;kd_p;refine ⟨_,Vc (a:=1) (b:=i) (by exact lbe hi rfl) (by decide),?_⟩;rw [show 1*2 ^ i=2 ^ i from Nat.one_mul _];kd_p;refine Y0 ?_ (λ_=>rfl);kd_p;refine ⟨_,Vg,?_⟩;refine ⟨_,XT,?_⟩
    have hh:((upN f i &&& 2 ^ i) != 0)=f.testBit i:=by
     rw [upN_and]
     cases f.testBit i with
     | false=>rfl
     | true =>
      have:=Nat.two_pow_pos i;simp
    rw [hh];refine i_split (λhc=>?_) λhc=>?_
    ·kd_p;refine ⟨_,ZT (.head _) PySem.F.slot_list_append PySem.F.type_list_append,callee_builtin,?_⟩;kd_p;refine ⟨_,meth_flags,callee_builtin,?_⟩;kd_p;refine ⟨callee_builtin,?_⟩;kd_p;refine Xe (f_hex ?_) ?_
     ·have:(hexT (2 ^ i)).length<=12:=hex_len (by exact lbl hi rfl);exact Uc this (by decide)
     rintro _ _ ⟨rfl,_,rfl⟩;refine .inl ⟨rfl,?_⟩;kd_p;refine c_fn0D (f_flags hi) (Ug _) (Ug _) ?_;kd_p;refine Xk 0 rfl ?_ ?_
     ·have:=bitsN_len f i;simp [Z3]; exact ar14 hi this
     refine ⟨.none,?_⟩;kd_p;refine ⟨_,vn_ixor,?_⟩;rw [upN_next f i hc];kd_p;refine Y0 ?_ (λ_=>rfl);kd_p;refine ⟨_,XT,?_⟩;have em1:Z3 (Yz f i)++[AV.str (Wt i)]=Z3 (Yz f (i+1)):=by rw [bitsN_next f i hc]; simp [Z3]
     refine i_split (λhd=>?_) λhd=>?_
     ·have hd:upN f (i+1)=0:=by simpa using hd
      kd_p;refine ⟨(),⟨rfl,trivial⟩,?_⟩
      have hn:Zo f=Yz f (i+1):=by
       have h0:f≠0:=λe=>by rw [e] at hc; simp at hc
       rw [Zo,if_neg h0, <- bits_stop f (i+1) hd (32 - (i+1)),show i+1+(32 - (i+1))=32 by exact Nat.add_sub_of_le hi]
      rw [hn, <- em1];exact List.Sublist.refl _
     ·have hd:upN f (i+1)≠0:=by simpa using hd
      kd_p;refine ⟨Xz f a (i+1),⟨rfl,rfl,trivial⟩,rfl,?_, .inr hd⟩;rw [<- em1]; rfl
    ·kd_p;refine ⟨Xz f a (i+1),⟨?_,rfl,trivial⟩,rfl,?_,?_⟩
     ·rw [<- upN_same f i hc]; rfl
     ·rw [Z0e f i hc]
     ·rw [<- upN_same f i hc]; exact hz
   ·obtain ⟨rfl,rfl,hz⟩:=hJ;have hl:(rngL 0 1 32).length=32:=Zm;rw [hl] at hz ⊢;have h32:upN f 32=0:=by rw [upN,Nat.div_eq_of_lt hf,Nat.zero_mul]
    have h0:f=0:=hz.resolve_right λh=>h h32;have hbn:Yz f 32=[]:=by rw [h0]; rfl
    have hfn:Zo f=[hexT 0]:=by rw [Zo,if_pos h0]
    have hfl:Xz f a 32=([("flags", .int ((0:Nat):Int)),("names", .raw (.ref a))]:Loc):=by unfold Xz; rw [h32]
    rw [hbn,hfl];kd_p;refine ⟨_,ZT (.head _) PySem.F.slot_list_append PySem.F.type_list_append,callee_builtin,?_⟩;kd_p;refine ⟨callee_builtin,?_⟩;kd_p;refine c_fn0D (f_hex (i:=((0:Nat):Int)) (by decide +kernel)) (Ug _) (Ug _) ?_;kd_p;refine Xk 0 rfl ?_ ?_
    ·decide
    refine ⟨.none,?_⟩;kd_p;refine ⟨(),⟨rfl,trivial⟩,?_⟩;rw [hfn];exact List.Sublist.refl _
  ·kd_p;refine ⟨_,Xg (λA Er s t pl Q q=>GM.join q),callee_builtin,?_⟩;kd_p;refine c_joinM (.head _) ?_ ?_
   ·obtain ⟨h1,h2⟩:=names_len (f:=f);have:Str.length ", " = 2:=rfl;have h3:=Sw 2 h2;exact Uc (Uh h1 h3) (by decide)
   kd_p;exact pb_ret ⟨rfl,rfl,rfl⟩
end Ofnflags
theorem fn_flags (f:Nat):Ofnflags.Px f:=eps_all Ofnflags.Rx Ofnflags.main (f)
end
section
open PySem PySem.W PyProof.Rows PySem.Calls
theorem rng_small:∀ n < 18,Builtin.Range.small 0 ((n:Nat):Int) 1=true/\Builtin.Range.rangeSize 0 ((n:Nat):Int) 1=((n:Nat):Int):=by decide
namespace Ofnworths
noncomputable def Px (order barred:List Nat):Prop:=∀ (ho:order.length<=16) (hx:∀ x ∈ order,x < 16) (hl:barred.length<=2 ^ 16),FN prog w B 500 4000 (.ref 288) [.lst (Z0 order), .lst (Z0 barred)] [] [] (λav m ex=>∃ a,av=.raw (.ref a)/\m=[]/\ex=[(a, .list (Z0 (Zc order barred order.length)))])
noncomputable def Rx (p:List Nat × List Nat):Prop:=Px p.1 p.2
noncomputable section
def cx:=eps (neP neL neL) Rx
def order:=cx.1
def barred:=cx.2
end
theorem main:Px order barred:=by
 intro ho hx hl;refine fn_go hB (defAt 288) [("order", .lst (Z0 order)),("barred", .lst (Z0 barred))] rfl rfl rfl (by decide) ?_ ?_ rfl rfl rfl ⟨rfl,rfl,trivial⟩ ?_
 ·intro F vs kvs h1 h2;obtain rfl:=h2.n0;obtain ⟨v1,v2,rfl,r1,r2⟩:=h1.n2;exact ⟨_,λ_=>rfl, .cons r1 (.cons r2 .nil)⟩
 ·intro L; exact ⟨.inl rfl, .inr ⟨rfl,rfl⟩,trivial⟩
 ·refine eps_all (ne:=neNt) _ ?_;refine b_cons (s_assign (.inr ⟨rfl,rfl⟩) (e_mulM ?_) rfl);refine Yg ?_;kd_p;refine ⟨by decide,?_⟩;kd_p;refine ⟨.int 0,16,rfl,rfl,by decide,λa=>?_⟩;kd_p;refine Xq (λi=>[("order", .lst (Z0 order)),("barred", .lst (Z0 barred)),("worths", .raw (.ref a))]) (λi=>[(a, .list (Z0 (Zc order barred i)))]) (λ_=>rfl) (Xo (λ_=>rfl) (λ_=>rfl) ?_);kd_p;refine ⟨rfl,?_⟩;kd_p;refine ⟨_,_,Zk,trivial,⟨rfl,rfl,rfl,trivial⟩,rfl,λ_=>trivial,λi av hx=>?_,?_⟩
  ·obtain ⟨word,hw,rfl⟩:=Yi hx;clear hx;refine ⟨_,Y8 (.inl rfl) (.inr ⟨rfl,rfl⟩),?_⟩;kd_p;refine ⟨callee_builtin,?_⟩;kd_p;refine ⟨Z5,?_⟩;kd_p;refine ZC _ (λ_=>rfl) rfl rfl (by decide) (by keq_rows) rfl (ZD (Y3 ?_));kd_p;refine Yc ?_;kd_p;refine ⟨none,some (i:Int),none,rfl,rfl,rfl,?_⟩;refine ⟨_,_,(Yq (by decide) (by simp [Z0]; exact leb ho rfl) (λ_ _=>⟨_,rfl⟩) (λ_ _=>rfl)).m,?_⟩;rw [show ZM (Z0 order) none (some (i:Int)) none=Z0 (order.take i) by rw [Z0,W3,Z0x]; rfl];have hwl:=Yo order barred i;generalize hws:Zc order barred i=ws at hwl;have hi:i < order.length:=(Un.mp hw).1;have hxw:word < 16:=hx word (Uk hw);refine ⟨_,_,Zk,trivial,(order.take i).map λother:Nat=>if barred.contains (word^^^other) then some (AV.int (ws.getD other 0:Int)) else none,by simp [Z0],by simp [Z0]; exact ar60 ho hi,trivial,λL' j av o hx' ho'=>?_,?_⟩
   ·obtain ⟨other,h1,rfl⟩:=ZN hx';rw [Ul,h1] at ho';simp only [Rh,Up.injEq] at ho';subst ho';have hoth:other < 16:=hx other (List.mem_of_mem_take (Uk h1));refine ⟨_,Z8 (.inl rfl),by keq_hits,?_⟩;kd_p;refine ⟨_,vn_xor,?_⟩;kd_p;refine ⟨_,(ofN_A barred ▸ vo_inInts (ns:=ofN barred) (k:=((word^^^other:Nat):Int))),?_⟩
    have hin:(ofN barred).any (· == ((word^^^other:Nat):Int))=barred.contains (word^^^other):=by
     rw [Bool.eq_iff_iff];simp only [List.any_eq_true,ofN,Uq,List.contains_iff_mem];constructor
     ·rintro ⟨x,⟨y,hy,rfl⟩,e⟩;have:y=word^^^other:=by simp at e; exact (λ{m n}=>Iff.mp Int.ofNat_inj) e
      exact this ▸ hy
     ·intro h;exact ⟨_,⟨_,h,rfl⟩,by simp⟩
    refine i_split (λhc=>?_) λhc=>?_
    ·rw [hin] at hc;rw [if_pos hc];kd_p;refine ⟨_,_,vm_list (.head _) (U5 hoth (by decide)) (Xf (n:=ws.getD other 0) (by rw [Uu,Ui (by exact Nat.lt_of_lt_of_eq hoth (id (Eq.symm hwl)))]; rfl)) (λ_ _=>rfl),?_⟩;exact ⟨rfl,rfl⟩
    ·rw [hin] at hc;rw [if_neg (by rw [hc]; decide)];exact ⟨rfl,rfl⟩
   ·rw [YS]
    have hah:(((order.take i).filter λother=>barred.contains (word^^^other)).map λother=>AV.int (ws.getD other 0:Int))=(ofN (Yw order barred ws i word)).map AV.int:=by
     simp [Yw,ofN]
    rw [hah]
    have hlen:(ofN (Yw order barred ws i word)).length<=16:=by
     simp only [ofN,Yw,Ut];exact Uc (T5 _ _) (by rw [Ti]; exact ar62 ho hi)
    kd_p;refine c_fn0D (f_set (by exact ar64 hlen)) (Ug _) (Ug _) ?_;kd_p;refine Xe f_sorted ?_;rintro _ _ ⟨⟨ms,rfl,hs,hm⟩,_,rfl⟩;refine .inl ⟨rfl,?_⟩;kd_p
    have hml:ms.length<=17:=rises_len hs λz hz=>by
     obtain ⟨y,hy,rfl⟩:=Uq.mp ((hm z).mp hz);obtain ⟨other,_,rfl⟩:=Uq.mp hy;refine ⟨U2 _,?_⟩
     have h16:ws.getD other 0<=16:=by
      rw [Uu]
      cases q:ws[other]? with
      | none=>exact Tb _
      | some z =>
       have:z ∈ Zc order barred i:=hws ▸ Uk q;exact Uc (Ws order barred i z this) ho
     exact (λ{m n}=>Iff.mpr Rd) h16
    refine s_setSub rfl ?_;kd_p;refine ⟨Z2 (by rw [hB]; rfl),?_⟩;kd_p;refine ⟨Z5,?_⟩;kd_p;refine ⟨Z5,?_⟩;kd_p;refine ⟨callee_builtin,?_⟩;kd_p;refine c_fn0D (f_len (by simp; exact ltb hml rfl)) (Ug _) (Ug _) ?_;kd_p;refine c_fn0D ZS (Ug _) (Ug _) ?_;kd_p;rw [Ut];refine Xe (f_listRange (n:=ms.length) ?_ ?_ (by exact leb hml rfl)) ?_
    ·exact (rng_small _ (by exact ltb hml rfl)).1
    ·exact (rng_small _ (by omega)).2
    rintro _ _ ⟨rfl,_,rfl⟩;refine .inl ⟨rfl,?_⟩;kd_p;refine XW (P:=285) _ rfl rfl rfl (λh k=>⟨_,_,_,_,_,_,_,_,_,k _ _ (by rw [hB]; rfl),rfl,rfl,rfl,rfl,rfl,rfl,rfl,rfl,by decide⟩) (by rw [hT.tabs]; decide) (by rw [hT.tq]; rfl) ?_;refine c_key (loc₀:=[("ahead", .lst (ms.map .int))]) (.cons (.same _) (.cons (.same _) .nil)) (λp hp=>?_) ((fn_blk (ZO ms) 1 ?_ (by simp [ZO]; omega) (Wz hs) true).mono (by decide) (by decide) λ_ _ _ h=>h).v ?_
    ·rw [Uj.mp hp];exact ⟨rfl,rfl,λL c h=>h⟩
    ·refine ⟨by simp [ZO,Z0],YX,Xs,λj z k hz hk=>?_⟩;obtain ⟨j',h1,rfl⟩:=ZN hz;have e:=Un.mp h1;simp at e;have hj:j < ms.length:=e.1;have e2:=e.2;subst e2;have hx':ms[j]?=some ms[j]:=Ui hj;rw [Xl hx'] at hk
     cases hk
     refine (Wj (P:=λa=>a=.int (ms[j] - (j:Int))) [("at", .int (j:Int))] (by decide) (λF vs kvs pm cdv ctv h1 h2=>?_) (λL fa cdv=>⟨.inl rfl,trivial⟩) ?_ ?_ rfl rfl rfl λL fa cdv=>?_).mono λa m ex hq1=>by obtain ⟨h1,h2,h3⟩:=hq1; exact ⟨h3,h1,h2⟩
     ·obtain rfl:=h2.n0;obtain ⟨v1,rfl,r1⟩:=h1.n1;exact ⟨_,rfl, .cons r1 .nil⟩
     ·intro p hp; rw [Uj.mp hp]; intro q; have q':(some NameKind.free)=some NameKind.cell:=q; cases q'
     ·intro p hp; rw [Uj.mp hp]; rfl
     ·kd_p;refine x_free (.lst (ms.map .int)) rfl rfl (by decide) (by decide) ?_;kd_p;refine ⟨_,_,(vs_nat (k:=j) (by exact ar69 hml hj) (by rw [Ul,hx']; rfl) (λ_ _=>rfl)).m,?_⟩;kd_p;refine ⟨_,vo_sub,rfl,rfl⟩
    ·rintro av ex ⟨_,rfl,rfl⟩;refine ⟨.int _,rfl,?_⟩;kd_p;refine ⟨a,(word:Int),Z0 ws,word,0,rfl,rfl,rfl,by simp [Z0]; exact ar71 hwl,?_,?_⟩
     ·unfold X0;rw [if_pos (U2 _),if_pos (by simp [Z0]; exact Nat.lt_of_lt_of_eq hxw (id (Eq.symm hwl)))];simp
     kd_p;refine ⟨⟨rfl,rfl,rfl,trivial⟩,?_⟩;have hk:Zc order barred (i+1)=ws.set word (mexN (Yw order barred ws i word)):=by rw [Zc,hw,hws]
     have hm':cntL (ZO ms) 1=mexN (Yw order barred ws i word):=mexN_of hs hm;rw [hk, <- hm',Z0,Z0,List.map_set];rfl
  ·kd_p;exact Wx (a, .list (Z0 (Zc order barred order.length))) (by rw [Zx,Z4]; exact List.Sublist.refl _) ⟨a,rfl,rfl,rfl⟩
end Ofnworths
theorem fn_worths (order:List Nat) (barred:List Nat):Ofnworths.Px order barred:=eps_all Ofnworths.Rx Ofnworths.main (order,barred)
end
section
open PySem PySem.W PyProof.Rows PySem.Calls
theorem vStep_lt {v x k:Nat} (h:v < 2 ^ (6*k)):Xb v x < 2 ^ (6*(k+1)):=by
 unfold Xb;refine Nat.or_lt_two_pow ?_ ?_
 ·rw [show 6*(k+1)=6*k+6 by exact Nat.mul_succ 6 k,Nat.pow_add];exact (Nat.mul_lt_mul_right (by decide)).mpr h
 ·refine Uo Nat.and_le_right (U9 (show 63 < 2 ^ 6 by decide) (Nat.pow_le_pow_right (by decide) (by exact ar135)))
theorem vFold_lt:∀ (os:List Nat) (v k:Nat),v < 2 ^ (6*k)->os.foldl Xb v < 2 ^ (6*(k+os.length))
 | [],v,k,h=>by simpa using h
 | x :: r,v,k,h=>by
  have:=vFold_lt r (Xb v x) (k+1) (vStep_lt h);rw [Sm,Td,show k+(r.length+1)=k+1+r.length by exact ar136];exact this
theorem Z0a {os:List Nat} {j x:Nat} (h:os[j]?=some x):XR (os.take (j+1))=Xb (XR (os.take j)) x:=by
 unfold XR;rw [List.take_add_one,h];simp
namespace Ofnvarint
noncomputable def Px (I:Addr) (octs os:List Nat) (i:Nat):Prop:=∀ (hn:os.length<=8) (h0:0 < os.length) (hat:∀ j x,os[j]?=some x->octs[i+j]?=some x) (hgo:∀ j x,os[j]?=some x->(x &&& 64≠0↔j+1 < os.length)),FN prog w B 600 6000 (.ref 36) [.raw (.ref I)] [] [(I,itAO octs i)] (λav m ex=>av=.int (XR os:Int)/\m=[(I,itAO octs (i+os.length))]/\ex=[])
noncomputable def Rx (p:Addr × List Nat × List Nat × Nat):Prop:=Px p.1 p.2.1 p.2.2.1 p.2.2.2
noncomputable section
def cx:=eps (neP neNt (neP neL (neP neL neNt))) Rx
def I:=cx.1
def octs:=cx.2.1
def os:=cx.2.2.1
def i:=cx.2.2.2
end
theorem main:Px I octs os i:=by
 intro hn h0 hat hgo;refine fn_go hB (defAt 36) [("iterator", .raw (.ref I))] rfl rfl rfl (by decide) ?_ ?_ rfl rfl rfl ⟨rfl,trivial⟩ ?_
 ·intro F vs kvs h1 h2;obtain rfl:=h2.n0;obtain ⟨v1,rfl,r1⟩:=h1.n1;exact ⟨_,λ_=>rfl, .cons r1 .nil⟩
 ·intro L; exact ⟨.inl rfl,trivial⟩
 ·refine eps_all (ne:=neNt) _ ?_;obtain ⟨x0,hx0⟩:∃ x,os[0]?=some x:=⟨_,Ui h0⟩;kd_p;refine ⟨callee_builtin,?_⟩;kd_p;refine c_next 0 rfl (hat 0 x0 hx0) ?_;kd_p;refine ⟨_,Vg (b:=63),?_⟩;kd_p;have hv1:XR (os.take 1)=x0 &&& 63:=by rw [Z0a hx0]; simp [XR,Xb]
  refine s_while' (λj=>[("iterator", .raw (.ref I)),("b", .int (os.getD (j - 1) 0:Int)),("val", .int (XR (os.take j):Int))]) (λn j mem=>mem=[(I,itAO octs (i+j))]/\1<=j/\j<=os.length/\n=os.length - j) (os.length - 1) 1 ?_ ⟨rfl,Ug _,h0,rfl⟩ λn j mem hI=>?_
  ·refine ⟨rfl,?_,?_,trivial⟩
   ·rw [Uu,hx0]; rfl
   ·rw [hv1]; rfl
  ·obtain ⟨rfl,h1,h2,rfl⟩:=hI;obtain ⟨x,hx⟩:∃ x,os[j - 1]?=some x:=⟨_,Ui (by exact Nat.sub_one_lt_of_le h1 h2)⟩;have hd:os.getD (j - 1) 0=x:=by rw [Uu,hx]; rfl
   have hg:=hgo (j - 1) x hx;rw [hd]
   have hb:XR (os.take j) < 2 ^ 48:=by
    have:=vFold_lt (os.take j) 0 0 (by decide);refine U9 this (Nat.pow_le_pow_right (by decide) ?_);rw [Ti]; exact ar144 hn h0 h2
   kd_p;refine Y0 ?_ (λ_=>rfl);kd_p;refine ⟨_,Vg (b:=64),?_⟩;refine ⟨_,XT,?_⟩;refine i_split (λhc=>?_) λhc=>?_
   ·have hlt:j < os.length:=by
     have:=hg.mp (by simpa using hc);exact ar148 hn h0 h2 this
    obtain ⟨y,hy⟩:∃ y,os[j]?=some y:=⟨_,Ui hlt⟩;kd_p;refine ⟨_,vn_ishl (b:=6) (by decide) (U5 hb (by decide)),?_⟩;kd_p;refine ⟨callee_builtin,?_⟩;kd_p;refine c_next 0 rfl (hat j y hy) ?_;kd_p;refine ⟨_,Vg (b:=63),_,vn_ior,?_⟩;kd_p;refine ⟨os.length - (j+1),j+1,by exact Nat.sub_succ_lt_self (List.length os) j hlt,⟨rfl,?_,?_,trivial⟩,rfl,by exact Nat.le_add_right_of_le h1,by exact Nat.succ_le_of_lt hlt,rfl⟩
    ·rw [Nat.add_sub_cancel,Uu,hy]; rfl
    ·rw [Z0a hy]; rfl
   ·have he:j=os.length:=by
     have:¬ (j - 1+1 < os.length):=λq=>by
      have:=hg.mpr q;simp at hc;exact this hc
     exact ar153 h1 h2 this
    kd_p;rw [he,S1];exact Yb rfl ⟨rfl,rfl,rfl⟩
end Ofnvarint
theorem fn_varint (I:Addr) (octs:List Nat) (os:List Nat) (i:Nat):Ofnvarint.Px I octs os i:=eps_all Ofnvarint.Rx Ofnvarint.main (I,octs,os,i)
end
section
open PySem PySem.W PyProof.Rows PySem.Calls
namespace Ovarintstop
noncomputable def Px (A:Around) (F:FM) (s:Shared) (I:Addr) (octs:List Nat) (i:Nat) (outer:List Env) (Q Er:Value->Shared->Prop):Prop:=∀ (hA:AOK 600 6000 A) (hfr:A.frames=some outer) (O:Wa B F s.heap outer) (Iv:Inv B s) (hn:B.n<=s.heap.objs.size) (hF:F.le s.heap.get?) (hT:∀ a o,F a=some o->a ∉ B.tabs) (hTF:TabF B F s.heap) (hm:Vl B F [(I,itAO octs i)] s.heap) (hi:octs.length<=i) (h:∀ e T F' s',Fly B F s (frs outer) (I :: B.tabs) e (some T) F' s'->Er (.ref e) s'),wpAny (model prog w) A (call (.ref 36) [.ref I]) Q Er s
noncomputable def Rx (p:Around × FM × Shared × Addr × List Nat × Nat × List Env × (Value->Shared->Prop) × (Value->Shared->Prop)):Prop:=Px p.1 p.2.1 p.2.2.1 p.2.2.2.1 p.2.2.2.2.1 p.2.2.2.2.2.1 p.2.2.2.2.2.2.1 p.2.2.2.2.2.2.2.1 p.2.2.2.2.2.2.2.2
noncomputable section
def cx:=eps (neP neA (neP neFM (neP neS (neP neNt (neP neL (neP neNt (neP neL (neP neR neR)))))))) Rx
def A:=cx.1
def F:=cx.2.1
def s:=cx.2.2.1
def I:=cx.2.2.2.1
def octs:=cx.2.2.2.2.1
def i:=cx.2.2.2.2.2.1
def outer:=cx.2.2.2.2.2.2.1
def Q:=cx.2.2.2.2.2.2.2.1
def Er:=cx.2.2.2.2.2.2.2.2
end
theorem main:Px A F s I octs i outer Q Er:=by
 intro hA hfr O Iv hn hF hT hTF hm hi h;refine Ve (mem:=[(I,itAO octs i)]) hB (defAt 36) [("iterator", .raw (.ref I))] rfl rfl rfl (Uo hA.dp (by decide)) ⟨_,λ_=>rfl, .cons (.raw _) .nil⟩ (λL=>⟨.inl rfl,trivial⟩) rfl rfl rfl ⟨rfl,trivial⟩ Iv hn hF hT hTF hm λL s' R=>?_;refine wpAny_execs_cons (wpAny_Assign_Name (call_E (P:=λa as m=>a=.raw (.builtin "next")/\as=[.raw (.ref I)]/\m=[(I,itAO octs i)]) (λ_=>rfl) (hA.deeper _) R ?_ ?_) rfl)
 ·kd_p;refine ⟨callee_builtin,?_⟩;kd_p;exact ⟨rfl,rfl,rfl⟩
 ·intro F' s₁ v vs a as m kF R1 rv rvs hP;obtain ⟨rfl,rfl,rfl⟩:=hP
  cases rv
  obtain ⟨v1,rfl,r1⟩:=rvs.n1
  cases r1
  obtain ⟨ob,eo,hIt⟩:=R1.mr _ (.head _);obtain ⟨ax,vs',n,h1,h2,h3,h4⟩:=hIt _ (.refl _);obtain ⟨o0,e0,hIt0⟩:=hm.mr _ (.head _);obtain ⟨_,_,_,_,h20,_⟩:=hIt0 _ (.refl _);refine next_stop hA.hd ⟨ob,eo,h1,h2⟩ ⟨_,R1.le _ _ h3,rfl,n,rfl⟩ (by simp [h4.length,Z0]; exact hi) λe h' N=>?_;exact stop_leaves R1 O Iv e0 h20 ⟨(hm.off I (.head _)).2,(hm.off I (.head _)).1⟩ (.head _) rfl hfr N (h e)
end Ovarintstop
theorem varint_stop {A F s I octs i outer Q Er}:Ovarintstop.Px A F s I octs i outer Q Er:=eps_all Ovarintstop.Rx Ovarintstop.main (A,F,s,I,octs,i,outer,Q,Er)
end
section
open PySem PySem.W PyProof.Rows PySem.Calls
noncomputable def Vq (n0 n1 n2:Nat):List (Nat × Nat):=[(n0,4),(n1,2),(n2,1)]
noncomputable def X5 (n0 n1 n2:Nat):List (List Nat):=(Vq n0 n1 n2).map λp=>dig p.1 p.2
noncomputable def rowsA (n0 n1 n2:Nat):AV:=.lst ((X5 n0 n1 n2).map λr=>.lst (Z0 r))
theorem pickA_init {α:Type} (xs:List α):ZM xs none (some (-1)) none=xs.dropLast:=by
 rw [W5];simp only [Rb,Option.elim_none,List.drop_zero,Nat.sub_zero,clipAt,if_pos (show (-1:Int) < 0 by decide)];rw [List.dropLast_eq_take]
 congr 1
 exact ar5
theorem flat_at {α:Type}:∀ (L:List (List α)) (i:Nat) (r:List α),L[i]?=some r->∀ j x,r[j]?=some x->L.flatten[(L.take i).flatten.length+j]?=some x
 | a :: L,0,r,h,j,x,e=>by
  cases h
  simp only [List.take_zero,List.flatten_nil,Sy,Rf,List.flatten_cons];rw [List.getElem?_append_left (Un.mp e).1]; exact e
 | a :: L,i+1,r,h,j,x,e=>by
  rw [List.getElem?_cons_succ] at h;have:=flat_at L i r h j x e;rw [List.take_succ_cons,List.flatten_cons,List.flatten_cons,U8,Nat.add_assoc,List.getElem?_append_right (U7 _ _),Nat.add_sub_cancel_left];exact this
theorem meth_lst {mem:List (Addr × AO)} {xs:List AV} {name:Str} {id:String} (slot:Slot "list" name id) (hty:typeOf (.builtin id)=pure (.type "method_descriptor")):METH prog w B mem (.lst xs) name (.raw (.builtin id)) :=
 λA E F env loc tmp s v pl hA hv R Q q=>by
  cases hv with
  | lst a vs _ n e r=>exact getMethod_list_of slot hty ⟨_,R.le _ _ e,rfl,n,rfl⟩ ⟨_,R.le _ _ e,rfl⟩ (q _ (.raw _))
noncomputable def Yx (n0 n1 n2:Nat):List (List Nat):=(X5 n0 n1 n2).map ZA
theorem natsA_app (xs ys:List Nat):Z0 (xs++ys)=Z0 xs++Z0 ys:=Tv
theorem Wo:∀ L:List (List Nat),(L.map Z0).flatten=Z0 L.flatten
 | []=>rfl
 | a :: L=>by rw [To,List.flatten_cons,List.flatten_cons,natsA_app,Wo L]
theorem flat_take {α:Type} (L:List (List α)) (i:Nat):(L.take i).flatten.length<=L.flatten.length:=by
 conv=>rhs; rw [<- List.take_append_drop i L,List.flatten_append,U8]
 exact U7 _ _
namespace Olawread
noncomputable def Px (A:Around) (F:FM) (s:Shared) (v:Value) (n0 n1 n2:Nat) (outer:List Env) (Q Er:Value->Shared->Prop):Prop:=∀ (h0:n0 < 64 ^ 4) (h1:n1 < 64 ^ 2) (h2:n2 < 64) (hA:AOK 500 4000 A) (hfr:A.frames=some outer) (O:Wa B F s.heap outer) (Iv:Inv B s) (hn:B.n<=s.heap.objs.size) (hF:F.le s.heap.get?) (hT:∀ a o,F a=some o->a ∉ B.tabs) (hTF:TabF B F s.heap) (hv:RV F v (.lst (Z0 [n0,n1,n2]))) (h:∀ F' s' r,LeftX B F outer [] s r s' (.lst (Z0 [n0,n1,n2])) F'->Q r s'),wpAny (model prog w) A (call (.ref 238) [v]) Q Er s
noncomputable def Rx (p:Around × FM × Shared × Value × Nat × Nat × Nat × List Env × (Value->Shared->Prop) × (Value->Shared->Prop)):Prop:=Px p.1 p.2.1 p.2.2.1 p.2.2.2.1 p.2.2.2.2.1 p.2.2.2.2.2.1 p.2.2.2.2.2.2.1 p.2.2.2.2.2.2.2.1 p.2.2.2.2.2.2.2.2.1 p.2.2.2.2.2.2.2.2.2
noncomputable section
def cx:=eps (neP neA (neP neFM (neP neS (neP neI (neP neNt (neP neNt (neP neNt (neP neL (neP neR neR))))))))) Rx
def A:=cx.1
def F:=cx.2.1
def s:=cx.2.2.1
def v:=cx.2.2.2.1
def n0:=cx.2.2.2.2.1
def n1:=cx.2.2.2.2.2.1
def n2:=cx.2.2.2.2.2.2.1
def outer:=cx.2.2.2.2.2.2.2.1
def Q:=cx.2.2.2.2.2.2.2.2.1
def Er:=cx.2.2.2.2.2.2.2.2.2
end
theorem main:Px A F s v n0 n1 n2 outer Q Er:=by
 intro h0 h1 h2 hA hfr O Iv hn hF hT hTF hv h;refine Ve (mem:=[]) hB (defAt 238) [("numbers", .lst (Z0 [n0,n1,n2]))] rfl rfl rfl (Uo hA.dp (by decide)) ⟨_,λ_=>rfl, .cons hv .nil⟩ (λL=>⟨.inl rfl,trivial⟩) rfl rfl rfl ⟨rfl,trivial⟩ Iv hn hF hT hTF ⟨(λp hp=>nomatch hp),Tz,(λa ha=>nomatch ha)⟩ λL s' R=>?_;refine XA (P:=λl m=>Sub [("numbers", .lst (Z0 [n0,n1,n2])),("rows", rowsA n0 n1 n2)] l/\m=[]) (hA.deeper _) R ?_ λs₁ F1 l m k₁ R1 hP=>?_
 ·have rowsOk:∀ p ∈ Vq n0 n1 n2,p.2<=4/\p.1 < 64 ^ p.2:=by simp [Vq]; exact ar6 h0 h1 h2
  refine XZ _ rfl (.inl rfl) (λ_=>rfl) rfl rfl (by decide) (by keq_rows) rfl (ZG (Xo (λ_=>rfl) (λ_=>rfl) ?_));kd_p;refine ⟨rfl,?_⟩;kd_p;refine ⟨_,_,Zk,trivial,(X5 n0 n1 n2).map λr=>.lst (Z0 r),by rw [Zx]; rfl,by rw [Zx]; exact (by decide:3<=2 ^ 20),trivial,λL' i a o hx ho=>?_,?_⟩
  ·obtain ⟨n,hn,rfl⟩:=Yi hx
   obtain ⟨m,hm⟩:∃ m,(Vq n0 n1 n2)[i]?=some (n,m):=by
    match i,hn with
    | 0,hn=>cases hn; exact ⟨_,rfl⟩
    | 1,hn=>cases hn; exact ⟨_,rfl⟩
    | 2,hn=>cases hn; exact ⟨_,rfl⟩
   have ho':o=.lst (Z0 (dig n m)):=by
    rw [X5,Tc,Ul,hm] at ho
    cases ho; rfl
   subst ho';obtain ⟨hm4,hnm⟩:=rowsOk _ (Uk hm);refine ⟨_,Y8 (.inl rfl) (.inr ⟨rfl,rfl⟩),by keq_hits,?_⟩;refine ZC _ (λ_=>rfl) rfl rfl (by decide) (by keq_rows) rfl (ZG (ZK ?_));kd_p;refine ⟨Z5,?_⟩;kd_p;refine Yg ?_;kd_p;refine ⟨by decide,?_⟩;kd_p
   have hj:([.int 3, .int 1, .int 0]:List AV)[i]?=some (.int ((m - 1:Nat):Int)):=by
    match i,hm with
    | 0,hm=>cases hm; rfl
    | 1,hm=>cases hm; rfl
    | 2,hm=>cases hm; rfl
   refine ⟨_,_,(vs_nat (k:=i) (U9 (Un.mp hm).1 (by exact (by decide:3<=2 ^ 62))) hj (λ_ _=>rfl)).m,?_⟩;kd_p
   have hm3:m=4\/m=2\/m=1:=by
    match i,hm with
    | 0,hm=>cases hm; exact .inl rfl
    | 1,hm=>cases hm; exact .inr (.inl rfl)
    | 2,hm=>cases hm; exact .inr (.inr rfl)
   have hr:Builtin.divisionGoesByPylong (-1 - ((m - 1:Nat):Int)) (-1)=false/\Builtin.Range.small ((m - 1:Nat):Int) (-1) (-1)=true/\Builtin.Range.rangeSize ((m - 1:Nat):Int) (-1) (-1)=((m:Nat):Int):=by
    rcases hm3 with rfl | rfl | rfl <;> decide
   refine ⟨_,Xx,?_⟩;kd_p;refine ⟨_,Xx,?_⟩;kd_p;refine c_fn0D (f_range3 (by decide) hr.1) (Ug _) (Ug _) ?_;refine ⟨_,_,_,m,rfl,hr.2.1,hr.2.2,Z0 (dig n m),by rw [Z4,WN,Zm],by rw [Zm]; omega,trivial,λL2 j b o hx ho=>?_,?_⟩
   ·obtain ⟨hjm,rfl⟩:=XS hx;obtain ⟨d,hd,rfl⟩:=ZN ho
    have hd':d=n / 64 ^ (m - 1 - j) % 64:=by
     unfold dig at hd;rw [Ul,Sa hjm] at hd;exact (Up.inj hd).symm
    refine ⟨_,Z8 (.inl rfl),by keq_hits,?_⟩;kd_p;have he:((m - 1:Nat):Int)+(j:Int)*-1=((m - 1 - j:Nat):Int):=by omega
    rw [he];have hp:64 ^ (m - 1 - j)<=64 ^ 3:=Nat.pow_le_pow_right (by decide) (by omega);refine ⟨_,vo_is (c':=.int ((64 ^ (m - 1 - j):Nat):Int)) (vo_pow (U2 _) (by rw [show Builtin.Int.intBits 64=7 from rfl]; omega)) (congrArg AV.int (by push_cast; simp)),_,Xy (Nat.pow_pos (by decide)) (Uo hp (by decide)),?_⟩;kd_p;refine ⟨_,Y2 (b:=64) (by decide),?_⟩;rw [<- hd'];exact ⟨rfl,rfl⟩
   ·exact ⟨rfl,rfl⟩
  ·exact ⟨rfl,⟨rfl,rfl,trivial⟩,rfl⟩
 ·obtain ⟨hl,rfl⟩:=hP;have R1:=R1.less hl.get
  have rowsOk:∀ r ∈ X5 n0 n1 n2,r≠[]/\r.length<=4/\∀ d ∈ r,d < 64:=λr hr=>by
   obtain ⟨p,hp,rfl⟩:=Uq.mp hr;have:0 < p.2/\p.2<=4:=by simp [Vq] at hp; rcases hp with rfl | rfl | rfl <;> simp
   refine ⟨λq=>?_,by rw [WN]; exact this.2,λd hd=>dig_lt hd⟩;have z:=WN p.1 p.2;rw [q] at z; simp at z; omega
  have hlen:((Yx n0 n1 n2).flatten).length=7:=by
   simp [Yx,X5,Vq,ZA,WN]
  refine XA (P:=λl m=>∃ I,Sub [("numbers", .lst (Z0 [n0,n1,n2])),("rows", rowsA n0 n1 n2),("hand", .raw (.ref I))] l/\m=[(I,itAO (Yx n0 n1 n2).flatten 0)]) (hA.deeper _) R1 ?_ λs2 F2 l m k₂ R₂ hP=>?_
  ·kd_p;refine ⟨callee_builtin,?_⟩;kd_p;refine e_comp2 _ (λ_=>rfl) (λ_ _=>rfl) rfl rfl (by decide) (by keq_rows) rfl (Xc (Y3 ?_));kd_p;unfold rowsA;refine ⟨_,_,Zk,trivial,(X5 n0 n1 n2).map λr=>Z0 (ZA r),by simp,trivial,λL' i a o hx ho=>?_,?_⟩
   ·rw [Ul] at hx ho;obtain ⟨r,hr,rfl⟩:=Ux.mp hx;rw [hr] at ho
    cases ho
    obtain ⟨hr0,hr4,hr64⟩:=rowsOk r (Uk hr);refine ⟨_,Z8 (.inl rfl),wu_nest (by keq_hits) (Y3 ?_)⟩;kd_p;refine ZC _ (λ_=>rfl) rfl rfl (by decide) (by keq_rows) rfl (ZG (Y3 ?_));kd_p;refine Yc ?_;kd_p;refine ⟨_,Xx,?_⟩;kd_p;refine ⟨none,some (-1),none,rfl,rfl,rfl,?_⟩;refine ⟨_,_,(Yq (by decide) (by rw [Z4]; exact leb hr4 rfl) (λ_ _=>⟨_,rfl⟩) (λ_ _=>rfl)).m,?_⟩;rw [show ZM (Z0 r) none (some (-1)) none=Z0 r.dropLast by rw [Z0,W3,pickA_init]; rfl];refine ⟨_,_,Zk,trivial,Z0 (r.dropLast.map (·+64)),by simp [Z0],by rw [Z4,List.length_dropLast]; exact ar25 hr4,trivial,λL2 j b o hx ho=>?_,?_⟩
    ·obtain ⟨d,hd,rfl⟩:=ZN hx
     have ho':o=.int ((d+64:Nat):Int):=by
      rw [Z0,Ul,Ul,hd] at ho;exact (Up.inj ho).symm
     subst ho';refine ⟨_,Z8 (.inl rfl),by keq_hits,?_⟩;kd_p;exact ⟨_,X3 (b:=64),rfl,rfl⟩
    ·kd_p;refine Yg ?_;kd_p;refine ⟨_,Xx,?_⟩;kd_p
     have hlast:(Z0 r)[((-1:Int)+(Z0 r).length).toNat]?=some (.int ((r.getLastD 0:Nat):Int)):=by
      have:0 < r.length:=Si.mpr hr0;rw [Z4,show ((-1:Int)+(r.length:Int)).toNat=r.length - 1 by exact ar31 hr4 this,Xf (n:=r.getLastD 0)];rw [<- List.getLast?_eq_getElem?,List.getLast?_eq_some_getLast hr0,List.getLastD_eq_getLast?,List.getLast?_eq_some_getLast hr0]; rfl
     refine ⟨_,_,(vs_listNeg (by decide) (by rw [Z4]; have:0 < r.length:=Si.mpr hr0; exact ar33 hr4 this) (by decide) hlast (λ_ _=>rfl)).m,?_⟩;kd_p;refine ⟨_,X3 (b:=128),?_⟩;kd_p;refine ⟨by show 1<=2 ^ 20; decide,_,VQ (by rw [Z4,Ut,List.length_dropLast]; exact ar25 hr4) (by show 1<=2 ^ 20; decide),?_⟩;rw [show Z0 (r.dropLast.map (·+64))++[AV.int ((r.getLastD 0+128:Nat):Int)]=Z0 (ZA r) by rw [ZA,natsA_app]; rfl];refine ⟨_,_,Zk,trivial,λj ys m=>m=[]/\ys=((List.map (λr=>Z0 (ZA r)) (X5 n0 n1 n2)).take i).flatten++(Z0 (ZA r)).take j,⟨rfl,by simp⟩,λ_ _ _ _=>trivial,λj b ys m hx hj=>?_,λys m hj=>?_⟩
     ·obtain ⟨rfl,rfl⟩:=hj;refine ⟨_,Z8 (.inl rfl),wu_emit ?_ (by keq_hits) ?_⟩
      ·have e1:(((X5 n0 n1 n2).map λr=>Z0 (ZA r)).take i).flatten.length<=7:=by
        rw [<- List.map_take,show (λr=>Z0 (ZA r))=Z0 ∘ ZA from rfl, <- Tc,Wo,Z4, <- hlen];rw [List.map_take]; exact flat_take _ i
       have e2:=Wl hr0;rw [U8,Ti,Z4];exact ar42 hr4 e1 e2
      kd_p;refine ⟨rfl,?_⟩;rw [Sd,List.take_add_one,hx]; rfl
     ·obtain ⟨rfl,rfl⟩:=hj;exact ⟨rfl,by rw [S1]⟩
   ·kd_p;rw [show ((X5 n0 n1 n2).map λr=>Z0 (ZA r)).flatten=Z0 (Yx n0 n1 n2).flatten by rw [show (λr=>Z0 (ZA r))=Z0 ∘ ZA from rfl, <- Tc,Wo]; rfl];refine c_iter λI=>?_;exact ⟨rfl,I,⟨rfl,rfl,rfl,trivial⟩,rfl⟩
  ·obtain ⟨I,hl,rfl⟩:=hP;have R₂:=R₂.less hl.get;refine XA (P:=λl m=>Sub [("numbers", .lst (Z0 [n0,n1,n2])),("rows", rowsA n0 n1 n2),("hand", .raw (.ref I)),("told", .lst (Z0 [n0,n1,n2]))] l/\m=[(I,itAO (Yx n0 n1 n2).flatten 7)]) (hA.deeper _) R₂ ?_ λs3 F3 l m k3 R3 hP=>?_
   ·refine XZ _ rfl (.inl rfl) (λ_=>rfl) rfl rfl (by decide) (by keq_rows) rfl (comp_mapM (λi=>[(I,itAO (Yx n0 n1 n2).flatten (((Yx n0 n1 n2).take i).flatten.length))]) (Y3 ?_));kd_p;unfold rowsA;refine ⟨_,_,Zk,trivial,Z0 [n0,n1,n2],by simp [X5,Vq,Z0],by simp [X5,Vq],⟨rfl,λ_=>trivial⟩,λL' i a o hx ho=>?_,?_⟩
    ·rw [Ul] at hx;obtain ⟨r,hr,rfl⟩:=Ux.mp hx;obtain ⟨hr0,hr4,hr64⟩:=rowsOk r (Uk hr);obtain ⟨n,hn,rfl⟩:=ZN ho;have hro:(Yx n0 n1 n2)[i]?=some (ZA r):=by rw [Yx,Ul,hr]; rfl
     have hv:XR (ZA r)=n:=by
      match i,hn,hr with
      | 0,hn,hr=>cases hn; cases hr; exact V5 (m:=4) (by decide) h0
      | 1,hn,hr=>cases hn; cases hr; exact V5 (m:=2) (by decide) h1
      | 2,hn,hr=>cases hn; cases hr; exact V5 (m:=1) (by decide) h2
     refine ⟨_,Z8 (.inl rfl),by keq_hits,?_⟩;kd_p;refine ⟨Z2 (by rw [hB]; rfl),?_⟩;kd_p;refine c_fn [] [(I,itAO (Yx n0 n1 n2).flatten (((Yx n0 n1 n2).take i).flatten.length))] [] rfl ((fn_varint I _ (ZA r) _ (by rw [Wl hr0]; exact leb hr4 rfl) (by rw [Wl hr0]; exact Si.mpr hr0) (flat_at _ _ _ hro) (octRow_go hr64)).mono (by decide) (by decide) λ_ _ _ h=>h) ?_;rintro _ _ _ ⟨rfl,rfl,rfl⟩;refine .inl ⟨by rw [hv],?_⟩;rw [List.take_add_one,hro,List.flatten_append,U8];simp
    ·exact ⟨rfl,⟨rfl,rfl,rfl,rfl,trivial⟩,by rw [Ut,show (X5 n0 n1 n2).length=(Yx n0 n1 n2).length by simp [Yx],S1,hlen]⟩
   ·obtain ⟨hl,rfl⟩:=hP;have R3:=R3.less hl.get;refine wpAny_execs_cons (wpAny_Try_except (wpAny_execs_cons (wpAny_Expr (meth_E (P:=λm=>m=[(I,itAO (Yx n0 n1 n2).flatten 7)]) _ (λ_=>rfl) rfl rfl (hA.deeper _) R3 ?_ ?_) rfl rfl)))
    ·kd_p;exact ⟨_,meth_lst slot_list_append (by rfl),rfl⟩
    ·intro F4 s4 v₄ a4 m Q' k4 R4 hP;subst hP;refine call_E (P:=λa as m=>a=.raw (.ref 36)/\as=[.raw (.ref I)]/\m=[(I,itAO (Yx n0 n1 n2).flatten 7)]) (λ_=>rfl) (hA.deeper _) R4 ?_ ?_
     ·kd_p;refine ⟨Z2 (by rw [hB]; rfl),?_⟩;kd_p;exact ⟨rfl,rfl,rfl⟩
     ·intro F5 s5 v₅ vs a as m k5 R5 rv rvs hP;obtain ⟨rfl,rfl,rfl⟩:=hP
      cases rv
      obtain ⟨v1,rfl,r1⟩:=rvs.n1
      cases r1
      have R5:=R5.pop;have hnew:∀ a ∈ fp (envF (S "_law_read") ((defAt 238).get!.2.2) L 238 (.ref 237) []) [(I,itAO (Yx n0 n1 n2).flatten 7)],s.heap.get? a=none:=λa ha=>(R5.off a ha).2.2.elim id λq=>nomatch q;have O5:=R5.out O Iv (λa ha=>nomatch ha) rfl;have n₅:=ZE R5;refine varint_stop ((hA.deeper _).low (by decide) (by decide)) (Around.frames_deeper hfr) O5 R5.inv R5.size_le R5.le R5.offT R5.tf (R5.memOK (List.Sublist.refl _)) (by rw [hlen]; exact Ug 7) λe T G s6 f=>?_;obtain ⟨o,eo,hIt⟩:=R5.mr _ (.head _);obtain ⟨_,_,_,_,hd,_⟩:=hIt _ (.refl _);have hX:∀ a ∈ I :: B.tabs,∃ o vs,s5.heap.get? a=some o/\o.data=.fields vs:=λa ha=>(Ur.mp ha).elim (λq=>q ▸ ⟨o,_,eo,hd⟩) (XK R5.inv a);have hLX:(envF (S "_law_read") ((defAt 238).get!.2.2) L 238 (.ref 237) []).locals ∉ I :: B.tabs:=λq=>(Ur.mp q).elim (λq=>n₅.2 (q ▸ .head _)) (R5.lowT _ (.head _));refine f.traced (Around.frames_deeper hfr) rfl O5 hX (λ_ h=>h) λh₇ T2 f₂=>?_;refine wpAny_handleBy_builtin (X := "StopIteration") (T := "StopIteration") (b:=true) (isSubtype_of_subB (by decide +kernel)) (isSubtype_of_subB (by decide +kernel)) (isSubtype_of_subB (by decide +kernel)) ?_;refine Name_function_global R5.fr.kind rfl (loadGlobal_builtin (by rw [R5.fr.glob]; exact f₂.inv.g) (mg_none_of f₂.inv.ok.kin f₂.inv.ok.g (by rw [hB]; rfl)) (by rw [R5.fr.blt]; exact f₂.inv.b) ((f₂.inv.ok.bi _ (by decide)).trans bf_stop) ⟨rfl,?_,?_⟩)
      ·obtain ⟨us,q,_⟩:=f₂.tr;exact ⟨_,q,rfl⟩
      ·rw [if_pos rfl];refine f₂.flight (λa ha=>(O5.off a ha).2) (O5.f' f₂.fresh) (λa ha=>by obtain ⟨o,_,q,_⟩:=hX a ha; exact ⟨o,q⟩) λh₈ f₃=>?_;refine wpAny_execs_cons (wpAny_Return_some (wpAny_Name (f₃.name R5 hLX rfl rfl λv rv=>?_) (by decide)))
       have f₄:=f₃.later (fs':=frs outer) (Y:=B.tabs) Iv (Sl.of λb o hb q=>R5.keep b o q (λz=>hb (.tail _ z)) (λz=>nomatch z)) R5.sub (λa ha=>by obtain ⟨o,_,q,_⟩:=hX a ha; exact ⟨o,q⟩) R5.fresh
        (λa ha=>((WO rfl).mp ha).elim (λq=>.inr (q ▸ hnew _ (.head _))) .inl) (λa ha=>(Ur.mp ha).elim (λq=>.inr (q ▸ hnew _ (.tail _ (Ue.mpr (.inr (.head _)))))) .inl) λa ha=>.tail _ ha
       exact h G _ v { inv:=f₄.inv,kp:=f₄.kp,le:=f₄.le,le':=f₄.le',fresh:=f₄.fresh,offT:=f₄.offT,tf:=f₄.tf,rv:=rv }
end Olawread
theorem law_read {A F s v n0 n1 n2 outer Q Er}:Olawread.Px A F s v n0 n1 n2 outer Q Er:=eps_all Olawread.Rx Olawread.main (A,F,s,v,n0,n1,n2,outer,Q,Er)
end
section
open PySem PySem.W PyProof.Rows PySem.Calls Builtin Builtin.ObjectAttr Builtin.List
noncomputable def acAO (dy:Addr) (ps:List (Str × Str)) (k:Nat):AO:=.acc 229 dy (accA ps) [("_initial_size", .int (k:Int))]
theorem Vd (y dy:Addr) (ps:List (Str × Str)) (k:Nat) :
  FN prog w B 600 6000 (.ref 226) [.raw (.ref y)] [] [(y,acAO dy ps k)] (λav m ex=>av=.int (ps.length:Nat)/\m=[(y,acAO dy ps k)]/\ex=[]):=by
 refine fn_goS hB (defAt 226) [("self", .raw (.ref y))] rfl rfl rfl (by decide) ?_ (λL=>⟨.inl rfl,trivial⟩) (λp hp=>?_) rfl rfl rfl ⟨rfl,trivial⟩ λL=>?_
 ·intro F vs kvs h1 h2;obtain rfl:=h2.n0;obtain ⟨v1,rfl,r1⟩:=h1.n1;exact ⟨_,λ_=>rfl, .cons r1 .nil⟩
 ·rw [Uj.mp hp]; intro q; have q':(some NameKind.free)=some NameKind.cell:=q; cases q'
 ·refine ba_ret (ea_super (K:=KZ w) (f:=226) (C:=229) (cc:=153) (v := "self") (id := "list.__len__") (gid := "wrapper_descriptor.__get__") (dt := "wrapper_descriptor") hB ?_ ?_ rfl (.head _) (λA s R hi hR=>get_len hi (hR _ _ ⟨_, .inr rfl,Heap.get?_push_size _ rfl⟩ λb o e=>Heap.get?_push_of_some _ e)) rfl λA E F tmp s q hA R hb=>?_)
  ·exact ⟨rfl,rfl,rfl,rfl,⟨_,_,_,rfl,rfl,rfl,rfl⟩,⟨_,_,_,_,_,rfl,rfl,rfl,rfl,by rw [hP]; rfl⟩,by rw [hP]; rfl,rfl,⟨rfl,_,rfl,rfl⟩,rfl,rfl,rfl⟩
  ·exact ⟨⟨_,_,rfl,rfl,rfl⟩,by kernel_rfl,by rw [typeLookup_type,builtinLookup_eq_fast]; kernel_rfl,by decide⟩
  ·obtain ⟨vs,n,e,r⟩:=YF R (.head _);refine Wh hb (by decide +kernel) entry_list_len (λA=>chk_len) (run_len e rfl λtk tk'=>⟨_,rfl,_,_,F, .refl F, .int _ _,R.ext (tk:=tk') λ_ _ e=>e,?_⟩);rw [r.length,ZX];exact Yb rfl ⟨rfl,rfl,rfl⟩
noncomputable def popL (ps:List (Str × Str)):Str × Str:=ps.getLastD ("", "")
theorem sup_in {f:Addr} {qual:Str} {scope:Scope} {L:Addr} {cdv:Value} {x:Str} (h1:scope.names.lookup ("super" : Str)=some .globalImplicit) (h2:scope.names.lookup ("__class__" : Str)=some .free) (h3:scope.names.lookup x=some .local)
  (h4:∃ of fd ar,(KZ w).lookup f=some of/\of.data=.func fd/\(fd.params.posonlyargs++fd.params.args).head?=some ar/\ar.arg=x) (h5:∃ c oc vs file tf,cdv=.ref c/\(KZ w).lookup c=some oc/\oc.data=.fields vs/\vs[2]?=some (.str file tf)/\((pw.main.file:Str) == file)=true)
  (h6:(cellsFrom (L+1) scope.names [("__class__", 153)]).lookup ("__class__" : Str)=some 153):SupIn prog (KZ w) (envF qual scope L f cdv [("__class__", 153)]) f 229 153 x:=by
 rw [hP];exact ⟨h1,h2,h3,rfl,h4,h5,rfl,rfl,⟨h6,_,rfl,rfl⟩,rfl,rfl,rfl⟩
theorem cls_free {scope:Scope} (h:scope.names.lookup ("__class__" : Str)=some .free):∀ p ∈ [(("__class__" : Str),153)],scope.names.lookup p.1≠some .cell:=λp hp=>by
 rw [Uj.mp hp,h]; intro q; cases q
theorem ZI (name:Str) (f:Value) (h:findIn (KZ w) (.ref 229) name=some (some f)) (t:Value) (ht:typeIn (KZ w) f=some t) (hk:(t != .type "function" && t != .type "method_descriptor" && t != .type "wrapper_descriptor")=false):MethIn (KZ w) 229 name f :=
 ⟨⟨_,rfl,by decide +kernel⟩,rfl,h,t,ht,hk⟩
theorem acc_pushC (y dy:Addr) (ps:List (Str × Str)) (k:Nat) (a b:Str) (hl:ps.length<=2 ^ 20) :
  FNC prog w B 590 5900 (.ref 173) [.raw (.ref y), .str a, .str b] [] [(y,acAO dy ps k)] (λav m ex=>av=.none/\m=[(y,acAO dy (ps++[(a,b)]) k)]/\ex=[]):=by
 refine fn_goC hB (defAt 173) [("self", .raw (.ref y)),("fws", .str a),("string", .str b)] rfl rfl rfl (by decide) ?_ ?_ rfl rfl rfl ⟨rfl,rfl,rfl,trivial⟩ ?_
 ·intro F vs kvs h1 h2;obtain rfl:=h2.n0;obtain ⟨v1,v2,v3,rfl,r1,r2,r3⟩:=h1.n3;exact ⟨_,λ_=>rfl, .cons r1 (.cons r2 (.cons r3 .nil))⟩
 ·intro L; exact ⟨.inl rfl, .inl rfl, .inl rfl,trivial⟩
 ·intro L;kd_p;refine ⟨_,Zh hB (.head _) (.acc _) rfl (ZI "append" _ rfl (.type "method_descriptor") (by kernel_rfl) (by decide)),callee_builtin,?_⟩;kd_p;refine WM ?_;kd_p;refine ⟨by show 2<=2 ^ 20; decide,?_⟩;kd_p;refine c_accAppend 0 rfl (by rw [hB]; rfl) (by rw [ZX]; exact hl) ⟨.none,?_⟩;kd_p;refine ZL rfl ⟨rfl,?_,rfl⟩;simp [acAO,accA]
theorem Wy (y dy:Addr) (ps:List (Str × Str)) (k:Nat) (a b:Str) (hl:ps.length<=2 ^ 20) :
  FN prog w B 590 5900 (.ref 173) [.raw (.ref y), .str a, .str b] [] [(y,acAO dy ps k)] (λav m ex=>av=.none/\m=[(y,acAO dy (ps++[(a,b)]) k)]/\ex=[]):=(acc_pushC y dy ps k a b hl).fn
theorem acc_pop (y dy:Addr) (ps:List (Str × Str)) (k:Nat) (hl:ps.length<=2 ^ 20) :
  FN prog w B 590 5900 (.ref 189) [.raw (.ref y)] [] [(y,acAO dy ps k)] (λav m ex=>av=.tup [.str (popL ps).1, .str (popL ps).2]/\m=[(y,acAO dy ps.dropLast k)]/\ex=[]):=by
 refine fn_goS hB (defAt 189) [("self", .raw (.ref y))] rfl rfl rfl (by decide) ?_ (λL=>⟨.inl rfl,trivial⟩) (cls_free rfl) rfl rfl rfl ⟨rfl,trivial⟩ λL=>?_
 ·intro F vs kvs h1 h2;obtain rfl:=h2.n0;obtain ⟨v1,rfl,r1⟩:=h1.n1;exact ⟨_,λ_=>rfl, .cons r1 .nil⟩
 ·refine ba_cons (s_if ?_);kd_p;refine ⟨_,Zh hB (.head _) (.acc _) rfl (ZI "part_count" _ rfl (.type "function") (by rfl) (by decide)),Z2 (by rw [hB]; rfl),?_⟩;kd_p;refine c_fn [] [_] [] rfl ((Vd y dy ps k).mono (by decide) (by decide) λ_ _ _ h=>h) ?_;rintro _ _ _ ⟨rfl,rfl,rfl⟩;refine .inl ?_;kd_p;refine ⟨_,vn_eq (b:=0),?_⟩;refine i_split (λhc=>?_) λhc=>?_
  ·have hps:ps=[]:=List.length_eq_zero_iff.mp (by simpa using hc);subst hps;kd_p;refine WM ?_;kd_p;refine ⟨by decide,?_⟩;kd_p;exact Yb rfl ⟨rfl,rfl,rfl⟩
  ·have hps:ps≠[]:=λh=>by subst h; simp at hc
   obtain ⟨qs,p,rfl⟩:∃ qs p,ps=qs++[p]:=⟨_,_,(List.dropLast_concat_getLast hps).symm⟩;have hpl:popL (qs++[p])=p:=by simp [popL]
   rw [hpl,List.dropLast_concat];kd_p
   refine ba_ret (ea_super (K:=KZ w) (f:=189) (C:=229) (cc:=153) (v := "self") (id := "list.pop") (gid := "method_descriptor.__get__") (dt := "method_descriptor") hB (sup_in rfl rfl rfl ⟨_,_,_,rfl,rfl,rfl,rfl⟩ ⟨_,_,_,_,_,rfl,rfl,rfl,rfl,by rfl⟩ rfl) ?_ rfl (.head _)
    (λA s R hi hR=>get_pop hi (hR _ _ ⟨_, .inl rfl,Heap.get?_push_size _ rfl⟩ λb o e=>Heap.get?_push_of_some _ e)) rfl λA E F tmp s q hA R hb=>?_)
   ·exact ⟨⟨_,_,rfl,rfl,rfl⟩,by kernel_rfl,by rw [typeLookup_type,builtinLookup_eq_fast]; kernel_rfl,by decide⟩
   ·obtain ⟨vs,n,e,r⟩:=YF R (.head _);have hac:accA (qs++[p])=accA qs++[.tup [.str p.1, .str p.2]]:=by simp [accA]
    rw [hac] at r;obtain ⟨vs',v,rfl,r1,r2⟩:=r.unsnoc;obtain ⟨ox,es,n',I,_⟩:=ZQ (.acc _) (R.mr _ (.head _));have X:(KZ w).In s.heap:=by have:=R.inv.kin; rwa [hB] at this
    have hlen:vs'.length<=2 ^ 20:=by rw [r1.length,ZX]; simp at hl; exact leb hl rfl
    refine Wh hb (by decide +kernel) PySem.F.entry_list_pop (λA=>chk_pop X I rfl rfl rfl rfl) (run_pop e rfl hlen ⟨v,rfl,_, [(y,acAO dy qs k)],F, .refl F,r2,?_,?_⟩)
    ·refine R.setAcc (i:=0) (vs:=vs') (n:=if vs'.toArray.size == (vs'++[v]).toArray.size then n else n+1) (tk:=s.toks) rfl ?_ r1 λb hb=>Heap.get?_update_other _ _ (Ne.symm hb);exact (Heap.get?_update_self _ e (by simp [Obj.mapSeq]; rfl)).trans (congrArg some (Vf (Z0l vs' v)))
    ·exact Yb rfl ⟨rfl,rfl,rfl⟩
end
section
open PySem PySem.W PyProof.Rows PySem.Calls Builtin Builtin.ObjectAttr Builtin.List
theorem accA_take (ps:List (Str × Str)) (k:Nat):(accA ps).take k=accA (ps.take k):=by simp [accA]
theorem accA_drop (ps:List (Str × Str)) (k:Nat):(accA ps).drop k=accA (ps.drop k):=by simp [accA]
theorem WY:XM (KZ w) 229:=⟨by rfl,rfl,rfl,rfl⟩
theorem takes_in (name:Str) (h:findIn (KZ w) (.ref 229) name=some none):WQ (KZ w) 229 name:=⟨rfl,rfl,⟨_,rfl,rfl,λself=>by
 show refuseLoop self "__setattr__" [.ref 229, .type "list", .type "object"]=pure ()
 rw [refuseLoop_ref]; kernel_rfl⟩,h⟩
namespace OaccpopFrom
noncomputable def Px (y dy:Addr) (ps:List (Str × Str)) (k i:Nat):Prop:=∀ (hl:ps.length<=2 ^ 20) (hi:i<=ps.length),FN prog w B 590 5900 (.ref 181) [.raw (.ref y), .int (i:Int)] [] [(y,acAO dy ps k)] (λav m ex=>av=.lst (accA (ps.drop i))/\m=[(y,acAO dy (ps.take i) k)]/\ex=[])
noncomputable def Rx (p:Addr × Addr × (List (Str × Str)) × Nat × Nat):Prop:=Px p.1 p.2.1 p.2.2.1 p.2.2.2.1 p.2.2.2.2
noncomputable section
def cx:=eps (neP neNt (neP neNt (neP neL (neP neNt neNt)))) Rx
def y:=cx.1
def dy:=cx.2.1
def ps:=cx.2.2.1
def k:=cx.2.2.2.1
def i:=cx.2.2.2.2
end
theorem main:Px y dy ps k i:=by
 intro hl hi;refine fn_go hB (defAt 181) [("self", .raw (.ref y)),("i", .int (i:Int))] rfl rfl rfl (by decide) ?_ ?_ rfl rfl rfl ⟨rfl,rfl,trivial⟩ ?_
 ·intro F vs kvs h1 h2;obtain rfl:=h2.n0;obtain ⟨v1,v2,rfl,r1,r2⟩:=h1.n2;exact ⟨_,λ_=>rfl, .cons r1 (.cons r2 .nil)⟩
 ·intro L; exact ⟨.inl rfl, .inl rfl,trivial⟩
 ·refine eps_all (ne:=neNt) _ ?_;kd_p;refine Yc ?_;kd_p;refine ⟨some (i:Int),none,none,rfl,rfl,rfl,?_⟩;refine ⟨_,_,va_slice hB (.head _) WY (by decide) (by rw [ZX]; exact hl) (λ_ _=>⟨_,rfl⟩),?_⟩;kd_p;refine Wi rfl (Yg ?_);kd_p;refine ⟨by decide,?_⟩;kd_p;refine Yc ?_;kd_p;refine ⟨some (i:Int),none,none,rfl,rfl,rfl,y,229,dy,accA ps,_, [],some (i:Int),i,0,rfl,rfl,rfl,rfl,hB ▸ WY,by rw [ZX]; exact hl,by decide,?_,by rw [ZX]; exact hi,?_⟩
  ·exact bounds_from i _ (by rw [ZX]; exact hi)
  ·kd_p;refine Yb rfl ⟨?_,?_,rfl⟩
   ·rw [Wr,accA_drop]
   ·rw [Sj,accA_take]; rfl
end OaccpopFrom
theorem acc_popFrom (y:Addr) (dy:Addr) (ps:List (Str × Str)) (k:Nat) (i:Nat):OaccpopFrom.Px y dy ps k i:=eps_all OaccpopFrom.Rx OaccpopFrom.main (y,dy,ps,k,i)
namespace Oaccreset
noncomputable def Px (y dy:Addr) (ps:List (Str × Str)) (k:Nat):Prop:=∀ (hl:ps.length<=2 ^ 20),FN prog w B 590 5900 (.ref 211) [.raw (.ref y)] [] [(y,acAO dy ps k)] (λav m ex=>av=.none/\m=[(y,acAO dy [] 0)]/\ex=[])
noncomputable def Rx (p:Addr × Addr × (List (Str × Str)) × Nat):Prop:=Px p.1 p.2.1 p.2.2.1 p.2.2.2
noncomputable section
def cx:=eps (neP neNt (neP neNt (neP neL neNt))) Rx
def y:=cx.1
def dy:=cx.2.1
def ps:=cx.2.2.1
def k:=cx.2.2.2
end
theorem main:Px y dy ps k:=by
 intro hl;refine fn_go hB (defAt 211) [("self", .raw (.ref y)),("startval", .none)] rfl rfl rfl (by decide) ?_ ?_ rfl rfl rfl ⟨rfl,rfl,trivial⟩ ?_
 ·intro F vs kvs h1 h2;obtain rfl:=h2.n0;obtain ⟨v1,rfl,r1⟩:=h1.n1;exact ⟨_,λ_=>rfl, .cons r1 (.cons .none .nil)⟩
 ·intro L; exact ⟨.inl rfl, .inl rfl,trivial⟩
 ·refine eps_all (ne:=neNt) _ ?_;kd_p;refine ⟨_,vo_isnone rfl,i_true rfl ?_⟩;kd_p;refine Yg ?_;kd_p;refine ⟨by decide,?_⟩;kd_p;refine Wi rfl ?_;kd_p;refine Yc ?_;kd_p;refine ⟨none,none,none,rfl,rfl,rfl,y,229,dy,accA ps,_, [],none,0,0,rfl,rfl,rfl,rfl,hB ▸ WY,by rw [ZX]; exact hl,by decide,Z15 _,Tb _,?_⟩;kd_p;refine Y1 rfl ?_;kd_p;refine ⟨y,0,_,229,dy,_,rfl,rfl, .acc _,hB ▸ takes_in "_initial_size" rfl,Uw rfl,?_⟩;kd_p;exact ZL rfl ⟨rfl,rfl,rfl⟩
end Oaccreset
theorem acc_reset (y:Addr) (dy:Addr) (ps:List (Str × Str)) (k:Nat):Oaccreset.Px y dy ps k:=eps_all Oaccreset.Rx Oaccreset.main (y,dy,ps,k)
namespace Oaccreset1
noncomputable def Px (y dy:Addr) (ps qs:List (Str × Str)) (k:Nat):Prop:=∀ (hl:ps.length<=2 ^ 20) (hlq:qs.length<=2 ^ 20),FN prog w B 590 5900 (.ref 211) [.raw (.ref y), .lst (accA qs)] [] [(y,acAO dy ps k)] (λav m ex=>av=.none/\m=[(y,acAO dy qs 0)]/\ex=[])
noncomputable def Rx (p:Addr × Addr × (List (Str × Str)) × (List (Str × Str)) × Nat):Prop:=Px p.1 p.2.1 p.2.2.1 p.2.2.2.1 p.2.2.2.2
noncomputable section
def cx:=eps (neP neNt (neP neNt (neP neL (neP neL neNt)))) Rx
def y:=cx.1
def dy:=cx.2.1
def ps:=cx.2.2.1
def qs:=cx.2.2.2.1
def k:=cx.2.2.2.2
end
theorem main:Px y dy ps qs k:=by
 intro hl hlq;refine fn_go hB (defAt 211) [("self", .raw (.ref y)),("startval", .lst (accA qs))] rfl rfl rfl (by decide) ?_ ?_ rfl rfl rfl ⟨rfl,rfl,trivial⟩ ?_
 ·intro F vs kvs h1 h2;obtain rfl:=h2.n0;obtain ⟨v1,v2,rfl,r1,r2⟩:=h1.n2;exact ⟨_,λ_=>rfl, .cons r1 (.cons r2 .nil)⟩
 ·intro L; exact ⟨.inl rfl, .inl rfl,trivial⟩
 ·refine eps_all (ne:=neNt) _ ?_;kd_p;refine ⟨_,vo_isnone rfl,i_false rfl ?_⟩;kd_p;refine Wi rfl ?_;kd_p;refine Yc ?_;kd_p;refine ⟨none,none,none,rfl,rfl,rfl,y,229,dy,accA ps,_,accA qs,none,0,0,rfl,rfl,rfl,rfl,hB ▸ WY,by rw [ZX]; exact hl,by rw [ZX]; exact hlq,Z15 _,Tb _,?_⟩;kd_p;refine Y1 rfl ?_;kd_p;refine ⟨y,0,_,229,dy,_,rfl,rfl, .acc _,hB ▸ takes_in "_initial_size" rfl,Uw rfl,?_⟩;kd_p;exact ZL rfl ⟨rfl,rfl,rfl⟩
end Oaccreset1
theorem acc_reset1 (y:Addr) (dy:Addr) (ps:List (Str × Str)) (qs:List (Str × Str)) (k:Nat):Oaccreset1.Px y dy ps qs k:=eps_all Oaccreset1.Rx Oaccreset1.main (y,dy,ps,qs,k)
namespace Oaccinit
noncomputable def Px (y dy:Addr) (k:Nat):Prop:=FN prog w B 590 5900 (.ref 166) [.raw (.ref y), .int (k:Int)] [] [(y, .acc 229 dy [] [])] (λav m ex=>av=.none/\m=[(y,acAO dy [] k)]/\ex=[])
noncomputable def Rx (p:Addr × Addr × Nat):Prop:=Px p.1 p.2.1 p.2.2
noncomputable section
def cx:=eps (neP neNt (neP neNt neNt)) Rx
def y:=cx.1
def dy:=cx.2.1
def k:=cx.2.2
end
theorem main:Px y dy k:=by
 unfold Px;refine fn_goS hB (defAt 166) [("self", .raw (.ref y)),("initial_size", .int (k:Int))] rfl rfl rfl (by decide) ?_ (λL=>⟨.inl rfl, .inl rfl,trivial⟩) (cls_free rfl) rfl rfl rfl ⟨rfl,rfl,trivial⟩ λL=>?_
 ·intro F vs kvs h1 h2;obtain rfl:=h2.n0;obtain ⟨v1,v2,rfl,r1,r2⟩:=h1.n2;exact ⟨_,λ_=>rfl, .cons r1 (.cons r2 .nil)⟩
 ·refine ba_cons (Y1 rfl ?_);kd_p;refine ⟨y,0,_,229,dy,_,rfl,rfl, .acc _,hB ▸ takes_in "_initial_size" rfl,Uw rfl,?_⟩;kd_p
  refine ba_expr rfl rfl (ea_super (K:=KZ w) (f:=166) (C:=229) (cc:=153) (v := "self") (id := "list.__init__") (gid := "wrapper_descriptor.__get__") (dt := "wrapper_descriptor") hB (sup_in rfl rfl rfl ⟨_,_,_,rfl,rfl,rfl,rfl⟩ ⟨_,_,_,_,_,rfl,rfl,rfl,rfl,by rfl⟩ rfl) ?_ rfl (.head _)
    (λA s R hi hR=>get_init hi (hR _ _ ⟨_, .inr rfl,Heap.get?_push_size _ rfl⟩ λb o e=>Heap.get?_push_of_some _ e)) rfl λA E F tmp s q hA R hb=>?_)
  ·exact ⟨⟨_,_,rfl,rfl,rfl⟩,by kernel_rfl,by rw [typeLookup_type,builtinLookup_eq_fast]; kernel_rfl,by decide⟩
  ·obtain ⟨vs,n,e,r⟩:=YF R (.head _);obtain rfl:=r.n0;refine Wh hb (by decide +kernel) PySem.F.entry_list_init (λA=>chk_init) (run_init e rfl ⟨_,rfl, .none, [(y,acAO dy [] k)],F, .refl F, .none,?_,ZL rfl ⟨rfl,rfl,rfl⟩⟩);exact R.setAcc (i:=0) (vs:=[]) (n:=if (#[]:Array Value).size == (#[]:Array Value).size then n else n+1) (tk:=s.toks) rfl ((Heap.get?_update_self _ e (by simp [Obj.mapSeq]; rfl)).trans (congrArg some (Vf rfl))) .nil λb hb=>Heap.get?_update_other _ _ (Ne.symm hb)
end Oaccinit
theorem acc_init (y:Addr) (dy:Addr) (k:Nat):Oaccinit.Px y dy k:=eps_all Oaccinit.Rx Oaccinit.main (y,dy,k)
end
section
open PySem PySem.W PyProof.Rows PySem.Calls Builtin Builtin.ObjectAttr Builtin.List
theorem acc_size {mem:List (Addr × AO)} {y dy:Addr} {ps:List (Str × Str)} {k:Nat} (hm:(y,acAO dy ps k) ∈ mem):GETA prog w B mem (.raw (.ref y)) "_initial_size" (.int (k:Int)) :=
 geta_acc hB hm rfl trivial rfl rfl rfl rfl rfl rfl
theorem VW {ps:List (Str × Str)} {n:Nat} (h:Zb ps<=n):∀ p ∈ ps,p.1.length<=n/\p.2.length<=n:=λp hp=>by
 have:=mem_sum (List.mem_map_of_mem (f:=λp:Str × Str=>p.1.length+p.2.length) hp);unfold Zb at h;exact ar163 h this
theorem acc_len (y dy:Addr) (ps:List (Str × Str)) (k:Nat) (hz:Zb ps<=2 ^ 20) :
  FN prog w B 580 5800 (.ref 196) [.raw (.ref y)] [] [(y,acAO dy ps k)] (λav m ex=>av=.int ((k+Zb ps:Nat):Int)/\m=[(y,acAO dy ps k)]/\ex=[]):=by
 refine fn_go hB (defAt 196) [("self", .raw (.ref y))] rfl rfl rfl (by decide) ?_ ?_ rfl rfl rfl ⟨rfl,trivial⟩ ?_
 ·intro F vs kvs h1 h2;obtain rfl:=h2.n0;obtain ⟨v1,rfl,r1⟩:=h1.n1;exact ⟨_,λ_=>rfl, .cons r1 .nil⟩
 ·intro L; exact ⟨.inl rfl,trivial⟩
 ·intro L;refine b_cons (s_return ?_)
  refine e_sumGen (c:=195) (P:=191) hB (by decide) rfl rfl rfl rfl rfl rfl (.head _) rfl rfl rfl (λh k=>⟨_,_,_,_,_,_,_,_,_,k _ _ (by rw [hB]; rfl),rfl,rfl,rfl,rfl,rfl,rfl,rfl,rfl,by decide⟩) (by rw [hT.tabs]; decide) (by rw [hT.tq]; rfl) rfl rfl (by decide) rfl rfl rfl (by decide) rfl rfl rfl rfl
   (acc_size (.head _)) (λp hp=>⟨Uo (VW hz p hp).1 (by decide),Uo (VW hz p hp).2 (by decide)⟩) (λ_=>rfl) ?_
  kd_p;exact Yb rfl ⟨rfl,rfl,rfl⟩
theorem acc_str (y dy:Addr) (ps:List (Str × Str)) (k:Nat) (hz:Zb ps<=2 ^ 20) (hl:ps.length<=2 ^ 20) :
  FN prog w B 580 5800 (.ref 203) [.raw (.ref y)] [] [(y,acAO dy ps k)] (λav m ex=>av=.str (ZV ps)/\m=[(y,acAO dy ps k)]/\ex=[]):=by
 refine fn_go hB (defAt 203) [("self", .raw (.ref y))] rfl rfl rfl (by decide) ?_ ?_ rfl rfl rfl ⟨rfl,trivial⟩ ?_
 ·intro F vs kvs h1 h2;obtain rfl:=h2.n0;obtain ⟨v1,rfl,r1⟩:=h1.n1;exact ⟨_,λ_=>rfl, .cons r1 .nil⟩
 ·intro L; exact ⟨.inl rfl,trivial⟩
 ·intro L;refine b_cons (s_return ?_)
  refine e_joinGen (c:=202) (P:=198) _ hB (by decide) rfl rfl rfl rfl rfl (.head _) rfl rfl rfl (λh k=>⟨_,_,_,_,_,_,_,_,_,k _ _ (by rw [hB]; rfl),rfl,rfl,rfl,rfl,rfl,rfl,rfl,rfl,by decide⟩) (by rw [hT.tabs]; decide) (by rw [hT.tq]; rfl) rfl rfl (by decide) rfl rfl rfl (by decide) rfl rfl rfl rfl
   hz hl (λ_ _=>⟨_,rfl⟩) rfl ?_
  kd_p;exact Yb rfl ⟨rfl,rfl,rfl⟩
end
section
open PySem PySem.W PyProof.Rows PySem.Calls Builtin Builtin.ObjectAttr Builtin.List
noncomputable def XI (k:Nat) (ps:List (Str × Str)):Bool:=k == 0 && (!(k+Zb ps != 0) || Txt.isspace (ZV ps))
section
variable {d u:Nat} {env:Env} {loc:Loc} {mem:List (Addr × AO)}
theorem c_len (pre post:List (Addr × AO)) (y dy:Addr) (ps:List (Str × Str)) (k:Nat) (hz:Zb ps<=2 ^ 20) (hk:k<=2 ^ 20) {Q:PE} (hd:d<=580) (hu:u+1<=5800) (hm:mem=pre++([(y,acAO dy ps k)]++post)) (q:Q (.int ((k+Zb ps:Nat):Int)) mem) :
  CALL prog w B d u env loc (.raw (.builtin "len")) [.raw (.ref y)] [] mem Q :=
 c_lenI (ao:=acAO dy ps k) hB (by rw [hm]; exact List.mem_append_right _ (List.mem_append_left _ (.head _))) (.acc _) rfl rfl (c_fn pre [_] post hm ((acc_len y dy ps k hz).mono hd hu λ_ _ _ h=>h) (by
  rintro _ _ _ ⟨rfl,rfl,rfl⟩;refine .inl ⟨_,rfl,by exact ar158 hz hk,?_⟩
  rw [Sj, <- hm]; exact q))
theorem c_str (pre post:List (Addr × AO)) (y dy:Addr) (ps:List (Str × Str)) (k:Nat) (hz:Zb ps<=2 ^ 20) (hl:ps.length<=2 ^ 20) {Q:PE} (hd:d<=580) (hu:u+2<=5800) (hm:mem=pre++([(y,acAO dy ps k)]++post)) (q:Q (.str (ZV ps)) mem) :
  CALL prog w B d u env loc (.raw (.type "str")) [.raw (.ref y)] [] mem Q :=
 c_strI (ao:=acAO dy ps k) hB (Uo hu (by decide)) (by rw [hm]; exact List.mem_append_right _ (List.mem_append_left _ (.head _))) (.acc _) rfl rfl (c_fn pre [_] post hm ((acc_str y dy ps k hz hl).mono hd hu λ_ _ _ h=>h) (by
  rintro _ _ _ ⟨rfl,rfl,rfl⟩;refine .inl ⟨_,rfl,?_⟩
  rw [Sj, <- hm]; exact q))
end
namespace Oacconlyws
noncomputable def Px (y dy:Addr) (ps:List (Str × Str)) (k:Nat):Prop:=∀ (hz:Zb ps<=2 ^ 20) (hl:ps.length<=2 ^ 20) (hk:k<=2 ^ 20),FN prog w B 570 5700 (.ref 218) [.raw (.ref y)] [] [(y,acAO dy ps k)] (λav m ex=>av=.bool (XI k ps)/\m=[(y,acAO dy ps k)]/\ex=[])
noncomputable def Rx (p:Addr × Addr × (List (Str × Str)) × Nat):Prop:=Px p.1 p.2.1 p.2.2.1 p.2.2.2
noncomputable section
def cx:=eps (neP neNt (neP neNt (neP neL neNt))) Rx
def y:=cx.1
def dy:=cx.2.1
def ps:=cx.2.2.1
def k:=cx.2.2.2
end
theorem main:Px y dy ps k:=by
 intro hz hl hk;refine fn_go hB (defAt 218) [("self", .raw (.ref y))] rfl rfl rfl (by decide) ?_ ?_ rfl rfl rfl ⟨rfl,trivial⟩ ?_
 ·intro F vs kvs h1 h2;obtain rfl:=h2.n0;obtain ⟨v1,rfl,r1⟩:=h1.n1;exact ⟨_,λ_=>rfl, .cons r1 .nil⟩
 ·intro L; exact ⟨.inl rfl,trivial⟩
 ·refine eps_all (ne:=neNt) _ ?_;refine b_cons (s_return (e_and ?_));kd_p;refine e_attr rfl ?_;kd_p;refine ⟨_,acc_size (.head _),?_⟩;kd_p;refine ⟨_,vn_eq (b:=0),_,VL,i_split (λh0=>?_) λh0=>?_⟩
  ·refine e_or (e_not ?_);kd_p
   refine ⟨k+Zb ps != 0,vt_inst hB (.head _) (.acc _) rfl rfl rfl (λenv loc=>c_fn [] [_] [] rfl ((acc_len y dy ps k hz).mono (by decide) (by decide) λ_ _ _ h=>h) (by
    rintro _ _ _ ⟨rfl,rfl,rfl⟩
    exact .inl ⟨_,rfl,by exact ar158 hz hk,rfl,rfl⟩)),_,VL,i_split (λh1=>?_) λh1=>?_⟩
   ·kd_p;refine Yb rfl ⟨?_,rfl,rfl⟩;rw [XI,h0,h1]; rfl
   ·kd_p;refine ⟨Z5,?_⟩;kd_p;refine c_str [] [] y dy ps k hz hl (by decide) (by decide) rfl ⟨_,V2,callee_builtin,?_⟩;kd_p;refine c_fn0D f_isspace (Ug _) (Ug _) ?_;kd_p;refine Yb rfl ⟨?_,rfl,rfl⟩;rw [XI,h0,h1]; rfl
  ·kd_p;refine Yb rfl ⟨?_,rfl,rfl⟩;rw [XI,h0]; rfl
end Oacconlyws
theorem acc_onlyws (y:Addr) (dy:Addr) (ps:List (Str × Str)) (k:Nat):Oacconlyws.Px y dy ps k:=eps_all Oacconlyws.Rx Oacconlyws.main (y,dy,ps,k)
end
section
open PySem PySem.W PyProof.Rows PySem.Calls Builtin Builtin.ObjectAttr Builtin.List
noncomputable abbrev blank:Str:=Str.ofString " "
noncomputable abbrev nought:Str:=Str.ofString ""
noncomputable def vfAO (dv ln y:Addr) (mx:Nat):AO:=.obj 145 dv [("_maxlen", .int (mx:Int)),("_continuation_ws", .str blank),("_continuation_ws_len", .int ((1:Nat):Int)),("_splitchars", .str blank),("_lines", .raw (.ref ln)),("_current_line", .raw (.ref y))]
noncomputable def vfM (v dv ln y dy:Addr) (mx:Nat) (lines:List Str) (ps:List (Str × Str)) (k:Nat):List (Addr × AO):=[(v,vfAO dv ln y mx),(ln, .list (Z3 lines)),(y,acAO dy ps k)]
noncomputable def eolP (ps:List (Str × Str)):List (Str × Str):=if popL ps=(blank,nought) then ps.dropLast else ps.dropLast++[popL ps]
noncomputable def newL (lines:List Str) (ps:List (Str × Str)) (k:Nat):List Str :=
 if 0 < k+Zb (eolP ps) then (if XI k (eolP ps) && !lines.isEmpty then lines.set (lines.length - 1) (lines.getD (lines.length - 1) nought++ZV (eolP ps)) else lines++[ZV (eolP ps)]) else lines
theorem YY (name:Str) (f:Value) (h:findIn (KZ w) (.ref 145) name=some (some f)) (t:Value) (ht:typeIn (KZ w) f=some t) (hk:(t != .type "function" && t != .type "method_descriptor" && t != .type "wrapper_descriptor")=false):MethIn (KZ w) 145 name f :=
 ⟨⟨_,rfl,by decide +kernel⟩,rfl,h,t,ht,hk⟩
theorem Zr {mem:List (Addr × AO)} {v dv ln y:Addr} {mx:Nat} {name:Str} {c:AV} {attr:Option Value} (hm:(v,vfAO dv ln y mx) ∈ mem)
  (hl:List.lookup name [("_maxlen", .int (mx:Int)),("_continuation_ws", .str blank),("_continuation_ws_len", .int ((1:Nat):Int)),("_splitchars", .str blank),("_lines", .raw (.ref ln)),(("_current_line" : Str),AV.raw (.ref y))]=some c) (hc:Hand c)
  (ha:findIn (KZ w) (.ref 145) name=some attr) (hn:noGet (KZ w) attr=true) (hg:plainGet (KZ w) 145 name=true):GETA prog w B mem (.raw (.ref v)) name c :=
 geta_own hB hm .obj hl hc hg rfl ha hn
theorem Zs {d u:Nat} {env:Env} {loc:Loc} {mem:List (Addr × AO)} {x name:Str} {p pos:Pos} {v:Addr} {c:AV} {Q:PE} (he:eval (.Attribute (.Name x p) name pos) env=(do
   let ov <- eval (.Name x p) env
   standAt pos.atName
   let r <- holding [ov] (getAttr ov name true)
   letTemporaryGo (.Name x p) ov r
   pure r)) (hk:env.kindOf x=some .local) (hl:loc.lookup x=some (.raw (.ref v))) (hd:(x == ("__debug__" : Str))=false) (hg:GETA prog w B mem (.raw (.ref v)) name c) (q:Q c mem):WE prog w B d u env loc mem (.Attribute (.Name x p) name pos) Q :=
 e_attr he (x_loc _ hk hl hd ⟨c,hg,q⟩)
theorem XO (ps qs:List (Str × Str)):Zb (ps++qs)=Zb ps+Zb qs:=by simp [Zb]
theorem popL_app (ps:List (Str × Str)) (p:Str × Str):popL (ps++[p])=p:=by simp [popL]
theorem VP (ps:List (Str × Str)):Zb (eolP ps)<=Zb ps/\(eolP ps).length<=ps.length+1:=by
 rcases List.eq_nil_or_concat ps with rfl | ⟨qs,p,rfl⟩
 ·constructor <;> decide
 ·rw [List.concat_eq_append,eolP,popL_app,List.dropLast_concat]
  split
  ·rw [XO,U8]; exact ⟨U7 _ _,by simp; exact ar11⟩
  ·exact ⟨Ug _,Tr _⟩
theorem drop_le (ps:List (Str × Str)):ps.dropLast.length<=ps.length:=by simp
theorem two_ok {x y:Str} {n:Nat} (hx:PyData.strOk x=true) (hy:PyData.strOk y=true):∀ a ∈ [AV.str x,AV.str y],kqdOk n (toD a)=true:=λa ha=>by
 simp at ha;rcases ha with rfl | rfl
 ·cases n <;> exact hx
 ·cases n <;> exact hy
namespace Ovfnewline
noncomputable def Px (v dv ln y dy:Addr) (mx:Nat) (lines:List Str) (ps:List (Str × Str)) (k:Nat):Prop:=∀ (hz:Zb ps<=2 ^ 19) (hl:ps.length<=2 ^ 19) (hk:k<=2 ^ 19) (hls:lines.length<=2 ^ 19) (hll:∀ x ∈ lines,x.length<=2 ^ 20) (ho:PyData.strOk (popL ps).1=true/\PyData.strOk (popL ps).2=true),FN prog w B 560 5600 (.ref 107) [.raw (.ref v)] [] (vfM v dv ln y dy mx lines ps k) (λav m ex=>av=.none/\m=vfM v dv ln y dy mx (newL lines ps k) [] 0/\ex=[])
noncomputable def Rx (p:Addr × Addr × Addr × Addr × Addr × Nat × List Str × (List (Str × Str)) × Nat):Prop:=Px p.1 p.2.1 p.2.2.1 p.2.2.2.1 p.2.2.2.2.1 p.2.2.2.2.2.1 p.2.2.2.2.2.2.1 p.2.2.2.2.2.2.2.1 p.2.2.2.2.2.2.2.2
noncomputable section
def cx:=eps (neP neNt (neP neNt (neP neNt (neP neNt (neP neNt (neP neNt (neP neL (neP neL neNt)))))))) Rx
def v:=cx.1
def dv:=cx.2.1
def ln:=cx.2.2.1
def y:=cx.2.2.2.1
def dy:=cx.2.2.2.2.1
def mx:=cx.2.2.2.2.2.1
def lines:=cx.2.2.2.2.2.2.1
def ps:=cx.2.2.2.2.2.2.2.1
def k:=cx.2.2.2.2.2.2.2.2
end
theorem main:Px v dv ln y dy mx lines ps k:=by
 intro hz hl hk hls hll ho;refine fn_go hB (defAt 107) [("self", .raw (.ref v))] rfl rfl rfl (by decide) ?_ ?_ rfl rfl rfl ⟨rfl,trivial⟩ ?_
 ·intro F vs kvs h1 h2;obtain rfl:=h2.n0;obtain ⟨v1,rfl,r1⟩:=h1.n1;exact ⟨_,λ_=>rfl, .cons r1 .nil⟩
 ·intro L; exact ⟨.inl rfl,trivial⟩
 ·refine eps_all (ne:=neNt) _ ?_;obtain ⟨hq1,hq2⟩:=VP ps;have hdl:=drop_le ps;kd_p;refine Zs rfl rfl rfl (by decide) (Zr (.head _) rfl rfl rfl rfl rfl) ?_;refine ⟨_,Zh hB (.tail _ (.tail _ (.head _))) (.acc _) rfl (ZI "pop" _ rfl (.type "function") (by rfl) (by decide)),Z2 (by rw [hB]; rfl),?_⟩;kd_p;refine c_fn [_,_] [_] [] rfl ((acc_pop y dy ps k (by exact leb hl rfl)).mono (by decide) (by decide) λ_ _ _ h=>h) ?_;rintro _ _ _ ⟨rfl,rfl,rfl⟩;refine .inl (seq_next ?_);refine V3 (σ:=Unit) (λ_=>[("self", .raw (.ref v)),("end_of_line", .tup [.str (popL ps).1, .str (popL ps).2])]) (λ_=>vfM v dv ln y dy mx lines (eolP ps) k) ?_ λ_=>?_
  ·kd_p;refine WM ?_;kd_p;refine ⟨by decide,?_⟩;refine ⟨_,vo_neT (two_ok ho.1 ho.2) (two_ok (by decide +kernel) (by decide +kernel)) (by decide),i_split (λhc=>?_) λhc=>?_⟩
   ·have hne:popL ps≠(blank,nought):=λe=>by rw [e] at hc; simp at hc
    have he:eolP ps=ps.dropLast++[popL ps]:=if_neg hne;refine b_cons ?_;refine s_expr rfl rfl (e_methS (K:=KZ w) (f:=173) (x:=y) (C:=229) (dx:=dy) (xs:=accA ps.dropLast) (as:=[("_initial_size", .int (k:Int))]) hB rfl rfl rfl rfl rfl rfl rfl rfl rfl (by decide) rfl rfl rfl ?_);refine Zs rfl rfl rfl (by decide) (Zr (.head _) rfl rfl rfl rfl rfl) ⟨rfl, .tail _ (.tail _ (.head _)),?_⟩;kd_p;refine ⟨_,rfl,by show 2<=2 ^ 20; decide,?_⟩;refine c_fnV [_,_] [_] [] rfl (fnv_bound ((acc_pushC y dy ps.dropLast k (popL ps).1 (popL ps).2 (by exact ar16 hl hdl)).low (by decide) (by decide))) ?_;rintro _ _ _ ⟨rfl,rfl,rfl⟩;refine .inl ⟨.none,?_⟩;kd_p;exact ⟨(),⟨rfl,rfl,trivial⟩,by rw [he]; exact List.Sublist.refl _⟩
   ·have hne:popL ps=(blank,nought):=Classical.byContradiction λe=>by
     have hd:=hc;simp [toDs,toD] at hd;exact e (Prod.ext hd.1 hd.2)
    have he:eolP ps=ps.dropLast:=if_pos hne;kd_p;exact ⟨(),⟨rfl,rfl,trivial⟩,by rw [he]; exact List.Sublist.refl _⟩
  ·have hqz:Zb (eolP ps)<=2 ^ 20:=by exact ar16 hz hq1
   have hql:(eolP ps).length<=2 ^ 20:=by exact ar20 hl hq2
   have hkz:k<=2 ^ 20:=by exact leb hk rfl
   refine V3 (σ:=Unit) (λ_=>[("self", .raw (.ref v))]) (λ_=>vfM v dv ln y dy mx (newL lines ps k) (eolP ps) k) ?_ λ_=>?_
   ·kd_p;refine ⟨callee_builtin,?_⟩;kd_p;refine Zs rfl rfl rfl (by decide) (Zr (.head _) rfl rfl rfl rfl rfl) ?_;kd_p;refine c_len [_,_] [] y dy (eolP ps) k hqz hkz (by decide) (by decide) rfl ?_;kd_p;refine ⟨_,Vr (b:=0),i_split (λhc=>?_) λhc=>?_⟩
    ·have hpos:=of_decide_eq_true hc;refine b_cons (s_if (WT.mono (Q:=λb m=>b=(XI k (eolP ps) && !lines.isEmpty)/\m=vfM v dv ln y dy mx lines (eolP ps) k) ?_ ?_))
     ·kd_p;refine Y0 ?_ (λ_=>rfl);kd_p;refine Zs rfl rfl rfl (by decide) (Zr (.head _) rfl rfl rfl rfl rfl) ?_;refine ⟨_,Zh hB (.tail _ (.tail _ (.head _))) (.acc _) rfl (ZI "is_onlyws" _ rfl (.type "function") (by rfl) (by decide)),Z2 (by rw [hB]; rfl),?_⟩;kd_p;refine c_fn [_,_] [_] [] rfl ((acc_onlyws y dy (eolP ps) k hqz hql hkz).mono (by decide) (by decide) λ_ _ _ h=>h) ?_;rintro _ _ _ ⟨rfl,rfl,rfl⟩;refine .inl ⟨_,VL,?_⟩
      cases XI k (eolP ps) with
      | false=>exact ⟨rfl,rfl⟩
      | true =>
       refine Y0 (Zs rfl rfl rfl (by decide) (Zr (.head _) rfl rfl rfl rfl rfl) ⟨_,vt_listM (.tail _ (.head _)) (by simp [Z3]; exact leb hls rfl),?_⟩) (λ_=>rfl);refine ⟨?_,rfl⟩
       cases lines <;> rfl
     ·rintro _ _ ⟨rfl,rfl⟩;refine i_split (λhc2=>?_) λhc2=>?_
      ·have hnl:newL lines ps k=lines.set (lines.length - 1) (lines.getD (lines.length - 1) nought++ZV (eolP ps)):=by rw [newL,if_pos hpos,if_pos hc2]
       have hne:lines≠[]:=λe=>by rw [e] at hc2; simp at hc2
       have hll1:lines.length - 1 < lines.length:=by have:=Si.mpr hne; exact Nat.sub_one_lt_of_lt this
       have hold:lines[lines.length - 1]?=some (lines.getD (lines.length - 1) nought):=by rw [Uu,Ui hll1]; rfl
       have hol:=hll _ (Uk hold);refine b_cons ?_;refine s_augSub (λ_ _ _=>rfl) (Zs rfl rfl rfl (by decide) (Zr (.head _) rfl rfl rfl rfl rfl) ?_);kd_p;refine ⟨.int (-1),Xx,?_⟩;refine ⟨ln, -1,Z3 lines,lines.length - 1,1, .str (lines.getD (lines.length - 1) nought),rfl,rfl,rfl,by simp [Z3]; omega,?_,?_,?_⟩
       ·unfold X0;simp only [Z3,Ut];rw [if_neg (by decide),if_pos (by exact ar32 hls hll1)]
        congr 1
        exact ar43 hls hll1
       ·rw [Z3,Ul,hold]; rfl
       kd_p;refine ⟨Z5,?_⟩;kd_p;refine Zs rfl rfl rfl (by decide) (Zr (.head _) rfl rfl rfl rfl rfl) ?_;kd_p;refine c_str [_,_] [] y dy (eolP ps) k hqz hql (by decide) (by decide) rfl ?_
       refine ⟨rfl, .str (lines.getD (lines.length - 1) nought++ZV (eolP ps)),vo_iaddS (by
        show Str.length _<=2 ^ 24;rw [YC,W4]
        exact ar48 hz hq1 hqz hol),?_⟩
       kd_p;refine ⟨(),⟨rfl,trivial⟩,?_⟩;rw [hnl,vfM,Z3,List.map_set];exact List.Sublist.refl _
      ·have hnl:newL lines ps k=lines++[ZV (eolP ps)]:=by rw [newL,if_pos hpos,if_neg (by rw [hc2]; decide)]
       kd_p;refine Zs rfl rfl rfl (by decide) (Zr (.head _) rfl rfl rfl rfl rfl) ?_;refine ⟨_,ZT (.tail _ (.head _)) PySem.F.slot_list_append PySem.F.type_list_append,callee_builtin,?_⟩;kd_p;refine ⟨Z5,?_⟩;kd_p;refine Zs rfl rfl rfl (by decide) (Zr (.head _) rfl rfl rfl rfl rfl) ?_;kd_p;refine c_str [_,_] [] y dy (eolP ps) k hqz hql (by decide) (by decide) rfl ?_;kd_p;refine Xk 1 rfl (by simp [Z3]; omega) ⟨.none,?_⟩;kd_p;refine ⟨(),⟨rfl,trivial⟩,?_⟩;rw [hnl,vfM,Z3,Tv];exact List.Sublist.refl _
    ·have hnl:newL lines ps k=lines:=by rw [newL,if_neg (of_decide_eq_false hc)]
     kd_p;refine ⟨(),⟨rfl,trivial⟩,?_⟩;rw [hnl];exact List.Sublist.refl _
   ·kd_p;refine Zs rfl rfl rfl (by decide) (Zr (.head _) rfl rfl rfl rfl rfl) ?_;refine ⟨_,Zh hB (.tail _ (.tail _ (.head _))) (.acc _) rfl (ZI "reset" _ rfl (.type "function") (by rfl) (by decide)),Z2 (by rw [hB]; rfl),?_⟩;kd_p;refine c_fn [_,_] [_] [] rfl ((acc_reset y dy (eolP ps) k hql).mono (by decide) (by decide) λ_ _ _ h=>h) ?_;rintro _ _ _ ⟨rfl,rfl,rfl⟩;refine .inl ⟨.none,?_⟩;kd_p;exact ZL rfl ⟨rfl,rfl,rfl⟩
end Ovfnewline
theorem Wn (v:Addr) (dv:Addr) (ln:Addr) (y:Addr) (dy:Addr) (mx:Nat) (lines:List Str) (ps:List (Str × Str)) (k:Nat):Ovfnewline.Px v dv ln y dy mx lines ps k:=eps_all Ovfnewline.Rx Ovfnewline.main (v,dv,ln,y,dy,mx,lines,ps,k)
end
section
open PySem PySem.W PyProof.Rows PySem.Calls Builtin Builtin.ObjectAttr Builtin.List
theorem X6 (name:Str) (h:findIn (KZ w) (.ref 145) name=some none):WQ (KZ w) 145 name:=⟨rfl,rfl,⟨_,rfl,rfl,λself=>by
 show refuseLoop self "__setattr__" [.ref 145, .type "object"]=pure ()
 rw [refuseLoop_ref]; kernel_rfl⟩,h⟩
namespace Ovftransition
noncomputable def Px (v dv ln y dy:Addr) (mx:Nat) (lines:List Str) (ps:List (Str × Str)) (k:Nat):Prop:=∀ (hl:ps.length<=2 ^ 20),FN prog w B 550 5500 (.ref 114) [.raw (.ref v)] [] (vfM v dv ln y dy mx lines ps k) (λav m ex=>av=.none/\m=vfM v dv ln y dy mx lines (ps++[(blank,nought)]) k/\ex=[])
noncomputable def Rx (p:Addr × Addr × Addr × Addr × Addr × Nat × List Str × (List (Str × Str)) × Nat):Prop:=Px p.1 p.2.1 p.2.2.1 p.2.2.2.1 p.2.2.2.2.1 p.2.2.2.2.2.1 p.2.2.2.2.2.2.1 p.2.2.2.2.2.2.2.1 p.2.2.2.2.2.2.2.2
noncomputable section
def cx:=eps (neP neNt (neP neNt (neP neNt (neP neNt (neP neNt (neP neNt (neP neL (neP neL neNt)))))))) Rx
def v:=cx.1
def dv:=cx.2.1
def ln:=cx.2.2.1
def y:=cx.2.2.2.1
def dy:=cx.2.2.2.2.1
def mx:=cx.2.2.2.2.2.1
def lines:=cx.2.2.2.2.2.2.1
def ps:=cx.2.2.2.2.2.2.2.1
def k:=cx.2.2.2.2.2.2.2.2
end
theorem main:Px v dv ln y dy mx lines ps k:=by
 intro hl;refine fn_go hB (defAt 114) [("self", .raw (.ref v))] rfl rfl rfl (by decide) ?_ ?_ rfl rfl rfl ⟨rfl,trivial⟩ ?_
 ·intro F vs kvs h1 h2;obtain rfl:=h2.n0;obtain ⟨v1,rfl,r1⟩:=h1.n1;exact ⟨_,λ_=>rfl, .cons r1 .nil⟩
 ·intro L; exact ⟨.inl rfl,trivial⟩
 ·refine eps_all (ne:=neNt) _ ?_;kd_p;refine Zs rfl rfl rfl (by decide) (Zr (.head _) rfl rfl rfl rfl rfl) ?_;refine ⟨_,Zh hB (.tail _ (.tail _ (.head _))) (.acc _) rfl (ZI "push" _ rfl (.type "function") (by rfl) (by decide)),Z2 (by rw [hB]; rfl),?_⟩;kd_p;refine c_fn [_,_] [_] [] rfl ((Wy y dy ps k blank nought hl).mono (by decide) (by decide) λ_ _ _ h=>h) ?_;rintro _ _ _ ⟨rfl,rfl,rfl⟩;refine .inl ⟨.none,?_⟩;kd_p;exact ZL rfl ⟨rfl,rfl,rfl⟩
end Ovftransition
theorem X2 (v:Addr) (dv:Addr) (ln:Addr) (y:Addr) (dy:Addr) (mx:Nat) (lines:List Str) (ps:List (Str × Str)) (k:Nat):Ovftransition.Px v dv ln y dy mx lines ps k:=eps_all Ovftransition.Rx Ovftransition.main (v,dv,ln,y,dy,mx,lines,ps,k)
namespace Ovfstr
noncomputable def Px (v dv ln y dy:Addr) (mx:Nat) (lines:List Str) (ps:List (Str × Str)) (k:Nat) (sep:Str):Prop:=∀ (hz:Zb ps<=2 ^ 19) (hl:ps.length<=2 ^ 19) (hk:k<=2 ^ 19) (hls:lines.length<=2 ^ 19) (hll:∀ x ∈ lines,x.length<=2 ^ 20) (ho:PyData.strOk (popL ps).1=true/\PyData.strOk (popL ps).2=true) (hj:((newL lines ps k).map (·.length)).sum+(newL lines ps k).length*sep.length<=16777216),FN prog w B 550 5500 (.ref 93) [.raw (.ref v), .str sep] [] (vfM v dv ln y dy mx lines ps k) (λav m ex=>av=.str (Txt.join sep (newL lines ps k))/\m=vfM v dv ln y dy mx (newL lines ps k) [] 0/\ex=[])
noncomputable def Rx (p:Addr × Addr × Addr × Addr × Addr × Nat × List Str × (List (Str × Str)) × Nat × Str):Prop:=Px p.1 p.2.1 p.2.2.1 p.2.2.2.1 p.2.2.2.2.1 p.2.2.2.2.2.1 p.2.2.2.2.2.2.1 p.2.2.2.2.2.2.2.1 p.2.2.2.2.2.2.2.2.1 p.2.2.2.2.2.2.2.2.2
noncomputable section
def cx:=eps (neP neNt (neP neNt (neP neNt (neP neNt (neP neNt (neP neNt (neP neL (neP neL (neP neNt neI))))))))) Rx
def v:=cx.1
def dv:=cx.2.1
def ln:=cx.2.2.1
def y:=cx.2.2.2.1
def dy:=cx.2.2.2.2.1
def mx:=cx.2.2.2.2.2.1
def lines:=cx.2.2.2.2.2.2.1
def ps:=cx.2.2.2.2.2.2.2.1
def k:=cx.2.2.2.2.2.2.2.2.1
def sep:=cx.2.2.2.2.2.2.2.2.2
end
theorem main:Px v dv ln y dy mx lines ps k sep:=by
 intro hz hl hk hls hll ho hj;refine fn_go hB (defAt 93) [("self", .raw (.ref v)),("linesep", .str sep)] rfl rfl rfl (by decide) ?_ ?_ rfl rfl rfl ⟨rfl,rfl,trivial⟩ ?_
 ·intro F vs kvs h1 h2;obtain rfl:=h2.n0;obtain ⟨v1,v2,rfl,r1,r2⟩:=h1.n2;exact ⟨_,λ_=>rfl, .cons r1 (.cons r2 .nil)⟩
 ·intro L; exact ⟨.inl rfl, .inl rfl,trivial⟩
 ·refine eps_all (ne:=neNt) _ ?_;kd_p;refine ⟨_,Zh hB (.head _) .obj rfl (YY "newline" _ rfl (.type "function") (by rfl) (by decide)),Z2 (by rw [hB]; rfl),?_⟩;kd_p;refine c_fn [] [_,_,_] [] rfl ((Wn v dv ln y dy mx lines ps k hz hl hk hls hll ho).mono (by decide) (by decide) λ_ _ _ h=>h) ?_;rintro _ _ _ ⟨rfl,rfl,rfl⟩;refine .inl ⟨.none,?_⟩;kd_p;refine ⟨_,Xg λA Er s t pl Q q=>PySem.GM.join q,callee_builtin,?_⟩;kd_p;refine Zs rfl rfl rfl (by decide) (Zr (.head _) rfl rfl rfl rfl rfl) ?_;kd_p;refine c_joinM (.tail _ (.head _)) hj ?_;kd_p;exact Yb rfl ⟨rfl,rfl,rfl⟩
end Ovfstr
theorem vf_str (v:Addr) (dv:Addr) (ln:Addr) (y:Addr) (dy:Addr) (mx:Nat) (lines:List Str) (ps:List (Str × Str)) (k:Nat) (sep:Str):Ovfstr.Px v dv ln y dy mx lines ps k sep:=eps_all Ovfstr.Rx Ovfstr.main (v,dv,ln,y,dy,mx,lines,ps,k,sep)
namespace Ovfinit
noncomputable def Px (v dv:Addr) (mx k:Nat):Prop:=FN prog w B 560 5600 (.ref 86) [.raw (.ref v), .int (k:Int), .int (mx:Int), .str blank, .str blank] [] [(v, .obj 145 dv [])] (λav m ex=>av=.none/\∃ ln y dy,m=[(v,vfAO dv ln y mx)]/\ex=[(ln, .list []),(y,acAO dy [] k)])
noncomputable def Rx (p:Addr × Addr × Nat × Nat):Prop:=Px p.1 p.2.1 p.2.2.1 p.2.2.2
noncomputable section
def cx:=eps (neP neNt (neP neNt (neP neNt neNt))) Rx
def v:=cx.1
def dv:=cx.2.1
def mx:=cx.2.2.1
def k:=cx.2.2.2
end
theorem main:Px v dv mx k:=by
 unfold Px;refine fn_go hB (defAt 86) [("self", .raw (.ref v)),("headerlen", .int (k:Int)),("maxlen", .int (mx:Int)),("continuation_ws", .str blank),("splitchars", .str blank)] rfl rfl rfl (by decide) ?_ ?_ rfl rfl rfl ⟨rfl,rfl,rfl,rfl,rfl,trivial⟩ ?_
 ·intro F vs kvs h1 h2;obtain rfl:=h2.n0;obtain ⟨v1,v2,v3,v4,v5,rfl,r1,r2,r3,r4,r5⟩:=h1.n5;exact ⟨_,λ_=>rfl, .cons r1 (.cons r2 (.cons r3 (.cons r4 (.cons r5 .nil))))⟩
 ·intro L; exact ⟨.inl rfl, .inl rfl, .inl rfl, .inl rfl, .inl rfl,trivial⟩
 ·refine eps_all (ne:=neNt) _ ?_;refine b_cons (Y1 rfl ?_);kd_p;refine ⟨v,0,_,145,dv,_,rfl,rfl, .obj,hB ▸ X6 "_maxlen" rfl,Uw rfl,?_⟩;refine seq_next (b_cons (Y1 rfl ?_));kd_p;refine ⟨v,0,_,145,dv,_,rfl,rfl, .obj,hB ▸ X6 "_continuation_ws" rfl,Uw rfl,?_⟩;refine seq_next (b_cons (Y1 rfl ?_));kd_p;refine ⟨callee_builtin,?_⟩;kd_p;refine c_fn0D (f_lenS (by decide +kernel)) (Ug _) (Ug _) ?_;rw [show blank.length=1 by decide +kernel];kd_p;refine ⟨v,0,_,145,dv,_,rfl,rfl, .obj,hB ▸ X6 "_continuation_ws_len" rfl,Uw rfl,?_⟩;refine seq_next (b_cons (Y1 rfl ?_));kd_p;refine ⟨v,0,_,145,dv,_,rfl,rfl, .obj,hB ▸ X6 "_splitchars" rfl,Uw rfl,?_⟩;refine seq_next (b_cons (Y1 rfl (XB ?_)));kd_p;refine ⟨by decide,λln=>?_⟩;kd_p;refine ⟨v,0,_,145,dv,_,rfl,rfl, .obj,hB ▸ X6 "_lines" rfl,Uw rfl,?_⟩;refine seq_next (b_cons (Y1 rfl ?_));kd_p;refine ⟨Z17 hB rfl rfl,?_⟩;kd_p;refine c_makeL hB rfl rfl rfl λy dy=>?_;refine c_fn [_,_] [_] [] rfl ((acc_init y dy k).mono (by decide) (by decide) λ_ _ _ h=>h) ?_;rintro _ _ _ ⟨rfl,rfl,rfl⟩;refine .inl ⟨rfl,?_⟩;kd_p;refine ⟨v,0,_,145,dv,_,rfl,rfl, .obj,hB ▸ X6 "_current_line" rfl,Uw rfl,?_⟩;kd_p;exact ⟨[(v,vfAO dv ln y mx)], [(ln, .list []),(y,acAO dy [] k)],List.Sublist.refl _,rfl,rfl,ln,y,dy,rfl,rfl⟩
end Ovfinit
theorem vf_init (v:Addr) (dv:Addr) (mx:Nat) (k:Nat):Ovfinit.Px v dv mx k:=eps_all Ovfinit.Rx Ovfinit.main (v,dv,mx,k)
end
section
open PySem PySem.W PyProof.Rows PySem.Calls Builtin Builtin.ObjectAttr Builtin.List
noncomputable def putL (lines:List Str) (ps:List (Str × Str)) (k mx:Nat) (b:Str):List Str × List (Str × Str) × Nat :=
 if mx < k+Zb (ps++[(blank,b)]) then (lines++[ZV ps], [(blank,b)],0) else (lines,ps++[(blank,b)],k)
theorem rng_down (n:Nat) (h:n<=2 ^ 20):Builtin.Range.small (n:Int) 0 (-1)=true/\Builtin.Range.rangeSize (n:Int) 0 (-1)=(n:Int):=by
 have e:Builtin.Range.rangeSize (n:Int) 0 (-1)=(n:Int):=by
  unfold Builtin.Range.rangeSize;rw [if_neg (by decide)]
  split
  ·rw [show -(-1:Int)=1 from rfl,Int.ediv_one]; exact Int.sub_add_cancel (↑n - 0) 1
  ·omega
 refine ⟨?_,e⟩
 have f:Builtin.Range.rangeFitsLong (n:Int)=true:=by
  unfold Builtin.Range.rangeFitsLong;rw [Bool.and_eq_true];exact ⟨decide_eq_true (by exact Int.neg_ofNat_le_natCast (2 ^ 63) n),decide_eq_true (by exact ar54 h e)⟩
 unfold Builtin.Range.small;rw [e,f];simp [Builtin.Range.rangeFitsLong]
theorem blank_is:(⟨#[32]⟩:Str)=blank:=by decide +kernel
theorem blank_cps:blank.cps.toList.map (λc=>AV.str ⟨#[c]⟩)=[.str blank]:=by rw [<- blank_is]; rfl
namespace Ovfchunk
noncomputable def Px (v dv ln y dy:Addr) (mx:Nat) (lines:List Str) (ps:List (Str × Str)) (k:Nat) (b:Str):Prop:=∀ (hne:ps≠[]) (hz:Zb (ps++[(blank,b)])<=2 ^ 19) (hl:ps.length<=2 ^ 19) (hk:k<=2 ^ 19) (hls:lines.length<=2 ^ 19),FN prog w B 550 5500 (.ref 142) [.raw (.ref v), .str blank, .str b] [] (vfM v dv ln y dy mx lines ps k) (λav m ex=>av=.none/\m=vfM v dv ln y dy mx (putL lines ps k mx b).1 (putL lines ps k mx b).2.1 (putL lines ps k mx b).2.2/\ex=[])
noncomputable def Rx (p:Addr × Addr × Addr × Addr × Addr × Nat × List Str × (List (Str × Str)) × Nat × Str):Prop:=Px p.1 p.2.1 p.2.2.1 p.2.2.2.1 p.2.2.2.2.1 p.2.2.2.2.2.1 p.2.2.2.2.2.2.1 p.2.2.2.2.2.2.2.1 p.2.2.2.2.2.2.2.2.1 p.2.2.2.2.2.2.2.2.2
noncomputable section
def cx:=eps (neP neNt (neP neNt (neP neNt (neP neNt (neP neNt (neP neNt (neP neL (neP neL (neP neNt neI))))))))) Rx
def v:=cx.1
def dv:=cx.2.1
def ln:=cx.2.2.1
def y:=cx.2.2.2.1
def dy:=cx.2.2.2.2.1
def mx:=cx.2.2.2.2.2.1
def lines:=cx.2.2.2.2.2.2.1
def ps:=cx.2.2.2.2.2.2.2.1
def k:=cx.2.2.2.2.2.2.2.2.1
def b:=cx.2.2.2.2.2.2.2.2.2
end
theorem main:Px v dv ln y dy mx lines ps k b:=by
 intro hne hz hl hk hls;refine fn_go hB (defAt 142) [("self", .raw (.ref v)),("fws", .str blank),("string", .str b)] rfl rfl rfl (by decide) ?_ ?_ rfl rfl rfl ⟨rfl,rfl,rfl,trivial⟩ ?_
 ·intro F vs kvs h1 h2;obtain rfl:=h2.n0;obtain ⟨v1,v2,v3,rfl,r1,r2,r3⟩:=h1.n3;exact ⟨_,λ_=>rfl, .cons r1 (.cons r2 (.cons r3 .nil))⟩
 ·intro L; exact ⟨.inl rfl, .inl rfl, .inl rfl,trivial⟩
 ·refine eps_all (ne:=neNt) _ ?_;have hzp:Zb ps<=2 ^ 19:=by rw [XO] at hz; exact ar55 hz
  have hlen:(ps++[(blank,b)]).length=ps.length+1:=by simp
  have hpos:0 < ps.length:=Si.mpr hne;kd_p;refine Zs rfl rfl rfl (by decide) (Zr (.head _) rfl rfl rfl rfl rfl) ?_;refine ⟨_,Zh hB (.tail _ (.tail _ (.head _))) (.acc _) rfl (ZI "push" _ rfl (.type "function") (by rfl) (by decide)),Z2 (by rw [hB]; rfl),?_⟩;kd_p;refine c_fn [_,_] [_] [] rfl ((Wy y dy ps k blank b (by exact ar59 hl hlen hpos)).mono (by decide) (by decide) λ_ _ _ h=>h) ?_;rintro _ _ _ ⟨rfl,rfl,rfl⟩;refine .inl ⟨.none,?_⟩;kd_p;refine ⟨callee_builtin,?_⟩;kd_p;refine Zs rfl rfl rfl (by decide) (Zr (.head _) rfl rfl rfl rfl rfl) ?_;kd_p;refine c_len [_,_] [] y dy (ps++[(blank,b)]) k (by exact leb hz rfl) (by exact leb hk rfl) (by decide) (by decide) rfl ?_;refine Zs rfl rfl rfl (by decide) (Zr (.head _) rfl trivial rfl rfl rfl) ?_;refine ⟨_,Vr (b:=mx),i_split (λhc=>?_) λhc=>?_⟩
  ·have hput:putL lines ps k mx b=(lines++[ZV ps], [(blank,b)],0):=if_pos (of_decide_eq_true hc);refine b_cons (s_for (λ_=>rfl) (i_str (Zs rfl rfl rfl (by decide) (Zr (.head _) rfl trivial rfl rfl rfl) ⟨_,rfl,?_⟩)));rw [blank_cps];refine ⟨λi l m=>i=0/\l=([("self", .raw (.ref v)),("fws", .str blank),("string", .str b)]:Loc)/\m=vfM v dv ln y dy mx lines (ps++[(blank,b)]) k,⟨[("self", .raw (.ref v)),("fws", .str blank),("string", .str b)],⟨rfl,rfl,rfl,trivial⟩,rfl,rfl,rfl⟩,λ_ _ _ _=>trivial,?_,?_⟩
   ·rintro i a l m hx ⟨rfl,rfl,rfl⟩;obtain rfl:AV.str blank=a:=by simpa using hx
    refine ⟨_,Z8 (.inl rfl),?_⟩;obtain ⟨hr1,hr2⟩:=rng_down ps.length (by exact ar59 hl hlen hpos);refine b_cons (s_for (λ_=>rfl) (ZK ?_));kd_p;refine ⟨Z5,?_⟩;kd_p;refine Zs rfl rfl rfl (by decide) (Zr (.head _) rfl rfl rfl rfl rfl) ?_;refine ⟨_,Zh hB (.tail _ (.tail _ (.head _))) (.acc _) rfl (ZI "part_count" _ rfl (.type "function") (by rfl) (by decide)),Z2 (by rw [hB]; rfl),?_⟩;kd_p;refine c_fn [_,_] [_] [] rfl ((Vd y dy (ps++[(blank,b)]) k).mono (by decide) (by decide) λ_ _ _ h=>h) ?_;rintro _ _ _ ⟨rfl,rfl,rfl⟩;refine .inl ?_;kd_p;refine ⟨.int (ps.length:Int),vo_is (vn_sub (b:=1) (by exact ar66 hl hlen hpos hr2)) (by rw [hlen,Nat.add_sub_cancel]),?_⟩;kd_p;refine ⟨_,Xx,?_⟩;kd_p;refine c_fn0D (f_range3 (by decide) (PyProof.noPylong_small (by decide))) (Ug _) (Ug _) ?_;refine ⟨_,_,_,ps.length,rfl,hr1,hr2,?_⟩;refine ⟨λj l m=>j=0/\l=([("self", .raw (.ref v)),("fws", .str blank),("string", .str b),("ch", .str blank)]:Loc)/\m=vfM v dv ln y dy mx lines (ps++[(blank,b)]) k,⟨[("self", .raw (.ref v)),("fws", .str blank),("string", .str b),("ch", .str blank)],⟨rfl,rfl,rfl,rfl,trivial⟩,rfl,rfl,rfl⟩,λ_ _ _ _=>trivial,?_,?_⟩
    ·rintro j a l m hx2 ⟨rfl,rfl,rfl⟩;obtain ⟨-,rfl⟩:=XS hx2;refine ⟨_,Z8 (.inl rfl),?_⟩;rw [show ((ps.length:Int)+((0:Nat):Int)*-1)=(ps.length:Int) by exact ar67];have hget:(accA (ps++[(blank,b)]))[ps.length]?=some (.tup [.str blank, .str b]):=by simp [accA]
     kd_p;refine Y0 ?_ (λ_=>rfl);kd_p;refine ⟨_,V2,callee_builtin,?_⟩;kd_p;refine c_fn0D f_isspace (Ug _) (Ug _) ?_;refine ⟨true,by rw [show Txt.isspace blank=true by decide +kernel]; exact VL,?_⟩;refine i_true rfl ?_;refine b_cons (s_assign (.inl rfl) (e_subM ?_) rfl);kd_p;refine Zs rfl rfl rfl (by decide) (Zr (.head _) rfl rfl rfl rfl rfl) ?_;kd_p;refine ⟨_,_,va_at hB (.tail _ (.tail _ (.head _))) WY (U2 _) (by exact ar68 hl hlen hpos hr2) hget (λ_ _=>⟨_,rfl⟩),?_⟩;kd_p;refine ⟨_,_,(Wq (j:=0) (by decide) (by decide) rfl rfl (λ_ _=>rfl)).m,?_⟩;kd_p;refine Y0 ?_ (λ_=>rfl);kd_p;refine ⟨_,vt_str (by decide +kernel),?_⟩;refine i_true (by decide +kernel) ?_;kd_p;refine ⟨_,_,(vs_str (k:=0) (c:=32) (by decide) (by decide) (by decide +kernel) (λ_ _=>rfl) (λ_ _=>rfl)).m,?_⟩;kd_p;refine ⟨true,vo_is vo_eqS (by rw [blank_is]; simp),?_⟩;refine i_true rfl ?_;kd_p;refine Zs rfl rfl rfl (by decide) (Zr (.head _) rfl rfl rfl rfl rfl) ?_;refine ⟨_,Zh hB (.tail _ (.tail _ (.head _))) (.acc _) rfl (ZI "pop_from" _ rfl (.type "function") (by rfl) (by decide)),Z2 (by rw [hB]; rfl),?_⟩;kd_p;refine c_fn [_,_] [_] [] rfl ((acc_popFrom y dy (ps++[(blank,b)]) k ps.length (by exact ar72 hl hlen hpos hr2) (by exact ar74 hlen)).low (by decide) (by decide)) ?_;rintro _ _ _ ⟨rfl,rfl,rfl⟩;rw [List.drop_left,List.take_left];refine .inl ?_;kd_p;refine Zs rfl rfl rfl (by decide) (Zr (.head _) rfl rfl rfl rfl rfl) ?_;refine ⟨_,ZT (.tail _ (.head _)) PySem.F.slot_list_append PySem.F.type_list_append,callee_builtin,?_⟩;kd_p;refine ⟨Z5,?_⟩;kd_p;refine Zs rfl rfl rfl (by decide) (Zr (.head _) rfl rfl rfl rfl rfl) ?_;kd_p;refine c_str [_,_] [] y dy ps k (by exact leb hzp rfl) (by exact ar76 hl hlen hpos hr2) (by decide) (by decide) rfl ?_;kd_p;refine Xk 1 rfl (by simp [Z3]; exact leb hls rfl) ⟨.none,?_⟩;kd_p;refine Zs rfl rfl rfl (by decide) (Zr (.head _) rfl rfl rfl rfl rfl) ?_;refine ⟨_,Zh hB (.tail _ (.tail _ (.head _))) (.acc _) rfl (ZI "reset" _ rfl (.type "function") (by rfl) (by decide)),Z2 (by rw [hB]; rfl),?_⟩;kd_p;refine Xm [_,_] [_] [] (acc_reset1 y dy ps [(blank,b)] k (by exact ar76 hl hlen hpos hr2) (by show 1<=2 ^ 20; decide)) (by decide) (by decide) rfl ⟨.none,?_⟩;kd_p;refine ZL rfl ⟨rfl,?_,rfl⟩;rw [hput,vfM,Z3,Z3,Tv]; rfl
    ·rintro l m ⟨q,_,_⟩;rw [Zm] at q; omega
   ·rintro l m ⟨q,_,_⟩
    cases q
  ·have hput:putL lines ps k mx b=(lines,ps++[(blank,b)],k):=if_neg (of_decide_eq_false hc);kd_p;refine ZL rfl ⟨rfl,?_,rfl⟩;rw [hput]; rfl
end Ovfchunk
theorem vf_chunk (v:Addr) (dv:Addr) (ln:Addr) (y:Addr) (dy:Addr) (mx:Nat) (lines:List Str) (ps:List (Str × Str)) (k:Nat) (b:Str):Ovfchunk.Px v dv ln y dy mx lines ps k b:=eps_all Ovfchunk.Rx Ovfchunk.main (v,dv,ln,y,dy,mx,lines,ps,k,b)
end
section
open PySem PySem.W PyProof.Rows PySem.Calls Builtin Builtin.ObjectAttr Builtin.List
noncomputable def Yh (k mx:Nat) (b:Str):List Str × List (Str × Str) × Nat:=if mx < k+Zb [(nought,b)]/\0 < k then (newL [] [] k, [(blank,b)],0) else ([], [(nought,b)],k)
namespace Ovffirst
noncomputable def Px (v dv ln y dy:Addr) (mx k:Nat) (b:Str):Prop:=∀ (hz:Zb [(nought,b)]<=2 ^ 19) (hk:k<=2 ^ 19),FN prog w B 550 5500 (.ref 142) [.raw (.ref v), .str nought, .str b] [] (vfM v dv ln y dy mx [] [] k) (λav m ex=>av=.none/\m=vfM v dv ln y dy mx (Yh k mx b).1 (Yh k mx b).2.1 (Yh k mx b).2.2/\ex=[])
noncomputable def Rx (p:Addr × Addr × Addr × Addr × Addr × Nat × Nat × Str):Prop:=Px p.1 p.2.1 p.2.2.1 p.2.2.2.1 p.2.2.2.2.1 p.2.2.2.2.2.1 p.2.2.2.2.2.2.1 p.2.2.2.2.2.2.2
noncomputable section
def cx:=eps (neP neNt (neP neNt (neP neNt (neP neNt (neP neNt (neP neNt (neP neNt neI))))))) Rx
def v:=cx.1
def dv:=cx.2.1
def ln:=cx.2.2.1
def y:=cx.2.2.2.1
def dy:=cx.2.2.2.2.1
def mx:=cx.2.2.2.2.2.1
def k:=cx.2.2.2.2.2.2.1
def b:=cx.2.2.2.2.2.2.2
end
theorem main:Px v dv ln y dy mx k b:=by
 intro hz hk;refine fn_go hB (defAt 142) [("self", .raw (.ref v)),("fws", .str nought),("string", .str b)] rfl rfl rfl (by decide) ?_ ?_ rfl rfl rfl ⟨rfl,rfl,rfl,trivial⟩ ?_
 ·intro F vs kvs h1 h2;obtain rfl:=h2.n0;obtain ⟨v1,v2,v3,rfl,r1,r2,r3⟩:=h1.n3;exact ⟨_,λ_=>rfl, .cons r1 (.cons r2 (.cons r3 .nil))⟩
 ·intro L; exact ⟨.inl rfl, .inl rfl, .inl rfl,trivial⟩
 ·refine eps_all (ne:=neNt) _ ?_;have hz2:Zb [(nought,b)]<=2 ^ 20:=Uc hz (by decide);have hk2:k<=2 ^ 20:=Uc hk (by decide);have one:1<=2 ^ 20:=by decide
  kd_p;refine Zs rfl rfl rfl (by decide) (Zr (.head _) rfl rfl rfl rfl rfl) ?_;refine ⟨_,Zh hB (.tail _ (.tail _ (.head _))) (.acc _) rfl (ZI "push" _ rfl (.type "function") (by rfl) (by decide)),Z2 (by rw [hB]; rfl),?_⟩;kd_p;refine Xm [_,_] [_] [] (Wy y dy [] k nought b (Tb _)) (by decide) (by decide) rfl ⟨.none,?_⟩;kd_p;refine ⟨callee_builtin,?_⟩;kd_p;refine Zs rfl rfl rfl (by decide) (Zr (.head _) rfl rfl rfl rfl rfl) ?_;kd_p;refine c_len [_,_] [] y dy [(nought,b)] k hz2 hk2 (by decide) (by decide) rfl ?_;refine Zs rfl rfl rfl (by decide) (Zr (.head _) rfl trivial rfl rfl rfl) ?_;refine ⟨_,Vr (b:=mx),i_split (λhc=>?_) λhc=>?_⟩
  ·refine b_cons (Xq (λ_=>[("self", .raw (.ref v)),("fws", .str nought),("string", .str b)]) (λ_=>vfM v dv ln y dy mx [] [(nought,b)] k) (λ_=>rfl) (i_str (Zs rfl rfl rfl (by decide) (Zr (.head _) rfl trivial rfl rfl rfl) ⟨_,rfl,?_⟩)));rw [blank_cps];refine ⟨⟨rfl,rfl,rfl,trivial⟩,rfl,λ_=>trivial,λi a hx=>?_,?_⟩
   ·obtain rfl:=Uj.mp (Uk hx);obtain ⟨hr1,hr2⟩:=rng_down 0 (Tb _);refine ⟨_,Z8 (.inl rfl),?_⟩;refine b_cons (Xq (λ_=>[("self", .raw (.ref v)),("fws", .str nought),("string", .str b),("ch", .str blank)]) (λ_=>vfM v dv ln y dy mx [] [(nought,b)] k) (λ_=>rfl) (ZK ?_));kd_p;refine ⟨Z5,?_⟩;kd_p;refine Zs rfl rfl rfl (by decide) (Zr (.head _) rfl rfl rfl rfl rfl) ?_;refine ⟨_,Zh hB (.tail _ (.tail _ (.head _))) (.acc _) rfl (ZI "part_count" _ rfl (.type "function") (by rfl) (by decide)),Z2 (by rw [hB]; rfl),?_⟩;kd_p;refine Xm [_,_] [_] [] (Vd y dy [(nought,b)] k) (by decide) (by decide) rfl ?_;kd_p;refine ⟨.int ((0:Nat):Int),vn_sub (a:=1) (b:=1) (Ug _),?_⟩;kd_p;refine ⟨_,Xx,?_⟩;kd_p;refine c_fn0D (f_range3 (by decide) (PyProof.noPylong_small (by decide))) (Ug _) (Ug _) ⟨_,_,_,0,rfl,hr1,hr2,?_⟩;refine ⟨⟨rfl,rfl,rfl,rfl,trivial⟩,rfl,λ_=>trivial,(λj c hx2=>by cases hx2),?_⟩;kd_p;exact ⟨⟨rfl,rfl,rfl,trivial⟩,rfl⟩
   ·refine b_cons (s_assignT rfl rfl ?_);kd_p;refine Zs rfl rfl rfl (by decide) (Zr (.head _) rfl rfl rfl rfl rfl) ?_;refine ⟨_,Zh hB (.tail _ (.tail _ (.head _))) (.acc _) rfl (ZI "pop" _ rfl (.type "function") (by rfl) (by decide)),Z2 (by rw [hB]; rfl),?_⟩;kd_p;refine Xm [_,_] [_] [] (acc_pop y dy [(nought,b)] k one) (by decide) (by decide) rfl ⟨_,Y8 (.inl rfl) (.inl rfl),seq_next ?_⟩;refine V3 (σ:=Unit) (λ_=>[("self", .raw (.ref v)),("fws", .str (if 0 < k then blank else nought)),("part", .str b)]) (λ_=>vfM v dv ln y dy mx (if 0 < k then newL [] [] k else []) [] (if 0 < k then 0 else k)) ?_ λ_=>?_
    ·refine s_if (t_compare rfl (e_attr rfl (Zs rfl rfl rfl (by decide) (Zr (.head _) rfl rfl rfl rfl rfl) ⟨_,acc_size (ps:=[]) (.tail _ (.tail _ (.head _))),?_⟩)));kd_p;refine ⟨_,Vr (b:=0),i_split (λh0=>?_) λh0=>?_⟩
     ·have h0:=of_decide_eq_true h0;rw [if_pos h0,if_pos h0,if_pos h0];kd_p;refine ⟨_,Zh hB (.head _) .obj rfl (YY "newline" _ rfl (.type "function") (by rfl) (by decide)),Z2 (by rw [hB]; rfl),?_⟩;kd_p;refine Xm [] [_,_,_] [] (Wn v dv ln y dy mx [] [] k (Tb _) (Tb _) hk (Tb _) (λx hx=>nomatch hx) ⟨by decide +kernel,by decide +kernel⟩) (by decide) (by decide) rfl ⟨.none,?_⟩;refine seq_next (b_cons (s_if (t_not (Y0 (x_loc _ rfl rfl (by decide) ⟨_,vt_str (x:=nought) (by decide +kernel),?_⟩) (λ_=>rfl)))));refine i_true (by decide +kernel) ?_;kd_p;exact ⟨(),⟨rfl,rfl,rfl,trivial⟩,List.Sublist.refl _⟩
     ·have h0:=of_decide_eq_false h0;rw [if_neg h0,if_neg h0,if_neg h0];kd_p;exact ⟨(),⟨rfl,rfl,rfl,trivial⟩,List.Sublist.refl _⟩
    ·kd_p;refine Zs rfl rfl rfl (by decide) (Zr (.head _) rfl rfl rfl rfl rfl) ?_;refine ⟨_,Zh hB (.tail _ (.tail _ (.head _))) (.acc _) rfl (ZI "push" _ rfl (.type "function") (by rfl) (by decide)),Z2 (by rw [hB]; rfl),?_⟩;kd_p;refine Xm [_,_] [_] [] (Wy y dy [] _ _ b (Tb _)) (by decide) (by decide) rfl ⟨.none,?_⟩;kd_p;refine Yb rfl ⟨rfl,?_,rfl⟩;have hc':=of_decide_eq_true hc
     by_cases h0:0 < k
     ·have e:Yh k mx b=(newL [] [] k, [(blank,b)],0):=if_pos ⟨hc',h0⟩;rw [e,if_pos h0,if_pos h0,if_pos h0]; rfl
     ·have e:Yh k mx b=([], [(nought,b)],k):=if_neg λq=>h0 q.2;rw [e,if_neg h0,if_neg h0,if_neg h0]; rfl
  ·have hput:Yh k mx b=([], [(nought,b)],k):=if_neg λq=>of_decide_eq_false hc q.1;kd_p;refine ZL rfl ⟨rfl,?_,rfl⟩;rw [hput]; rfl
end Ovffirst
theorem vf_first (v:Addr) (dv:Addr) (ln:Addr) (y:Addr) (dy:Addr) (mx:Nat) (k:Nat) (b:Str):Ovffirst.Px v dv ln y dy mx k b:=eps_all Ovffirst.Rx Ovffirst.main (v,dv,ln,y,dy,mx,k,b)
end
section
open PySem PySem.W PyProof.Rows PySem.Calls Builtin Builtin.ObjectAttr Builtin.List
noncomputable abbrev FSt:=List Str × List (Str × Str) × Nat
noncomputable abbrev trans:Str × Str:=(blank,nought)
noncomputable def stN (words:List Str) (mx head:Nat):Nat->FSt
 | 0=>([], [],head)
 | i+1=>match words[i]? with
  | some b=>if i=0 then Yh head mx b else putL (stN words mx head i).1 (stN words mx head i).2.1 (stN words mx head i).2.2 mx b
  | none=>stN words mx head i
noncomputable def endN (two:Bool) (s:FSt):FSt:=if two then (newL s.1 (s.2.1++[trans]) s.2.2, [trans,trans],0) else s
noncomputable def linesN (words:List Str) (mx head:Nat):List Str:=newL (endN (words.length == 2) (stN words mx head words.length)).1 (endN (words.length == 2) (stN words mx head words.length)).2.1 (endN (words.length == 2) (stN words mx head words.length)).2.2
structure Few (c:Nat) (s:FSt):Prop where
 sz:Zb s.2.1<=c
 ln:s.2.1.length<=c
 k:s.2.2<=c
 ls:s.1.length<=c
 ll:∀ x ∈ s.1,x.length<=c
 ok:∀ p ∈ s.2.1,PyData.strOk p.1=true/\PyData.strOk p.2=true
theorem Few.up {c c':Nat} {s:FSt} (h:Few c s) (hc:c<=c'):Few c' s:=⟨Uc h.sz hc,Uc h.ln hc,Uc h.k hc,Uc h.ls hc,λx hx=>Uc (h.ll x hx) hc,h.ok⟩
theorem Ye:blank.length=1:=by decide +kernel
theorem Yk:nought.length=0:=by decide +kernel
theorem XJ:PyData.strOk blank=true:=by decide +kernel
theorem YH:PyData.strOk nought=true:=by decide +kernel
theorem YL (a b:Str):Zb [(a,b)]=a.length+b.length:=by simp [Zb]
theorem newL_len (lines:List Str) (ps:List (Str × Str)) (k:Nat):(newL lines ps k).length<=lines.length+1:=by
 unfold newL
 split
 ·split
  ·rw [List.length_set]; exact Tr _
  ·rw [U8]; exact Ug _
 ·exact Tr _
theorem newL_all {lines:List Str} {ps:List (Str × Str)} {k c:Nat} (h:∀ x ∈ lines,x.length<=c):∀ x ∈ newL lines ps k,x.length<=c+Zb (eolP ps):=by
 intro x hx;unfold newL at hx
 split at hx
 ·split at hx
  ·rcases S4 hx with hx | rfl
   ·exact Uc (h x hx) (U7 _ _)
   ·rw [YC,W4];refine Uv ?_ _;rw [Uu]
    cases q:lines[lines.length - 1]? with
    | none=>exact Uc (Us Yk) (Tb _)
    | some y=>exact h y (Uk q)
  ·rcases Ue.mp hx with hx | hx
   ·exact Uc (h x hx) (U7 _ _)
   ·rw [Uj.mp hx,W4]; exact S5 _ _
 ·exact Uc (h x hx) (U7 _ _)
theorem Few.put {c mx:Nat} {s:FSt} {b:Str} (h:Few c s) (hb:b.length<=100) (ho:PyData.strOk b=true):Few (c+101) (putL s.1 s.2.1 s.2.2 mx b)/\(putL s.1 s.2.1 s.2.2 mx b).2.1≠[]:=by
 have h1:Zb [(blank,b)]<=101:=by rw [YL,Ye]; exact Tu hb 1
 have ok1:∀ p ∈ [(blank,b)],PyData.strOk p.1=true/\PyData.strOk p.2=true:=λp hp=>by rw [Uj.mp hp]; exact ⟨XJ,ho⟩
 unfold putL
 split
 ·refine ⟨⟨Uc h1 (S5 _ _),Uc (by decide:1<=101) (S5 _ _),Tb _,?_,λx hx=>?_,ok1⟩,List.cons_ne_nil _ _⟩
  ·rw [U8]; exact Uh h.ls (by decide:1<=101)
  ·rcases Ue.mp hx with hx | hx
   ·exact Uc (h.ll x hx) (U7 _ _)
   ·rw [Uj.mp hx,W4]; exact Uc h.sz (U7 _ _)
 ·refine ⟨⟨?_,?_,Uc h.k (U7 _ _),Uc h.ls (U7 _ _),λx hx=>Uc (h.ll x hx) (U7 _ _),λp hp=>?_⟩,List.append_ne_nil_of_right_ne_nil _ (List.cons_ne_nil _ _)⟩
  ·rw [XO]; exact Uh h.sz h1
  ·rw [U8]; exact Uh h.ln (by decide:1<=101)
  ·rcases Ue.mp hp with hp | hp
   ·exact h.ok p hp
   ·exact ok1 p hp
theorem Few.first {head mx:Nat} {b:Str} (hh:head<=100) (hb:b.length<=100) (ho:PyData.strOk b=true):Few 201 (Yh head mx b)/\(Yh head mx b).2.1≠[]:=by
 have h1:∀ a:Str,a.length<=1->Zb [(a,b)]<=201:=λa ha=>by rw [YL]; exact Uc (Uh ha hb) (by decide)
 have ok1:∀ a:Str,PyData.strOk a=true->∀ p ∈ [(a,b)],PyData.strOk p.1=true/\PyData.strOk p.2=true:=λa ha p hp=>by rw [Uj.mp hp]; exact ⟨ha,ho⟩
 unfold Yh
 split
 ·refine ⟨⟨h1 blank (Us Ye),(by decide:1<=201),Tb _,Uc (newL_len _ _ _) (by decide),λx hx=>Uc (newL_all (lines:=[]) (c:=0) (λx hx=>nomatch hx) x hx) ?_,ok1 _ XJ⟩,List.cons_ne_nil _ _⟩;exact Uc (Us (Rf _)) (Uc (VP []).1 (Tb _))
 ·exact ⟨⟨h1 nought (by rw [Yk]; decide),(by decide:1<=201),Uc hh (by decide),Tb _,(λx hx=>nomatch hx),ok1 _ YH⟩,List.cons_ne_nil _ _⟩
theorem stN_few {words:List Str} {mx head:Nat} (hh:head<=100) (hw:∀ x ∈ words,x.length<=100/\PyData.strOk x=true):∀ i,i < words.length->Few (201+101*i) (stN words mx head (i+1))/\(stN words mx head (i+1)).2.1≠[]
 | 0,hi=>by
  have hb:=hw _ (T1 hi);have e:stN words mx head 1=Yh head mx words[0]:=by simp [stN,Ui hi]
  rw [e];exact Few.first hh hb.1 hb.2
 | i+1,hi=>by
  have hb:=hw _ (T1 hi);obtain ⟨f,_⟩:=stN_few hh hw i (S7 hi);have e:stN words mx head (i+2)=putL (stN words mx head (i+1)).1 (stN words mx head (i+1)).2.1 (stN words mx head (i+1)).2.2 mx words[i+1]:=by rw [stN,Ui hi]; exact if_neg (Nat.succ_ne_zero i)
  rw [e];exact f.put hb.1 hb.2
theorem popL_ok {c:Nat} {s:FSt} (h:Few c s):PyData.strOk (popL s.2.1).1=true/\PyData.strOk (popL s.2.1).2=true:=by
 rcases List.eq_nil_or_concat s.2.1 with e | ⟨qs,p,e⟩
 ·rw [e]; exact ⟨YH,YH⟩
 ·have:p ∈ s.2.1:=by rw [e]; simp
  rw [e,List.concat_eq_append,popL_app]; exact h.ok p this
theorem sum_le {l:List Nat} {c:Nat} (h:∀ x ∈ l,x<=c):l.sum<=l.length*c:=by
 induction l with
 | nil=>exact Tb _
 | cons a r ih =>
  rw [Ri,Td,Nat.succ_mul,Nat.add_comm];exact Uh (ih λx hx=>h x (.tail _ hx)) (h a (.head _))
theorem enumL_strs {xs:List Str} {i:Nat} {a:AV} (h:(X7 0 (Z3 xs))[i]?=some a):∃ x,xs[i]?=some x/\a=.tup [.int ((i:Nat):Int), .str x]:=by
 rw [XX,Z3,Ul] at h
 cases q:xs[i]? with
 | none=>rw [q] at h; cases h
 | some x=>rw [q] at h; exact ⟨x,rfl,by rw [<- Up.inj h]; simp⟩
noncomputable abbrev newline:Str:=Str.ofString "\n"
theorem VB:newline.length=1:=by decide +kernel
namespace Ofnfolded
noncomputable def Px (words:List Str) (mx head:Nat):Prop:=∀ (hh:head<=100) (hn:words≠[]) (hl:words.length<=10) (hw:∀ x ∈ words,x.length<=100/\PyData.strOk x=true),FN prog w B 500 4000 (.ref 250) [.lst (Z3 words), .int (mx:Int), .int (head:Int)] [] [] (λav m ex=>av=.str (Txt.join newline (linesN words mx head))/\m=[]/\ex=[])
noncomputable def Rx (p:List Str × Nat × Nat):Prop:=Px p.1 p.2.1 p.2.2
noncomputable section
def cx:=eps (neP neL (neP neNt neNt)) Rx
def words:=cx.1
def mx:=cx.2.1
def head:=cx.2.2
end
theorem main:Px words mx head:=by
 intro hh hn hl hw;refine fn_go hB (defAt 250) [("words", .lst (Z3 words)),("width", .int (mx:Int)),("head", .int (head:Int))] rfl rfl rfl (by decide) ?_ ?_ rfl rfl rfl ⟨rfl,rfl,rfl,trivial⟩ ?_
 ·intro F vs kvs h1 h2;obtain rfl:=h2.n0;obtain ⟨v1,v2,v3,rfl,r1,r2,r3⟩:=h1.n3;exact ⟨_,λ_=>rfl, .cons r1 (.cons r2 (.cons r3 .nil))⟩
 ·intro L; exact ⟨.inl rfl, .inl rfl, .inl rfl,trivial⟩
 ·refine eps_all (ne:=neNt) _ ?_;have hsl:(Z3 words).length=words.length:=Ut ..;kd_p;refine ⟨Z17 hB rfl rfl,?_⟩;kd_p;refine c_make hB rfl rfl rfl λv dv=>?_;refine c_fn [] [_] [] rfl ((vf_init v dv mx head).low (by decide) (by decide)) ?_;rintro _ _ _ ⟨rfl,ln,y,dy,rfl,rfl⟩;refine .inl ⟨rfl,seq_next ?_⟩;refine b_cons (Xq (λ_=>[("words", .lst (Z3 words)),("width", .int (mx:Int)),("head", .int (head:Int)),("maker", .raw (.ref v))]) (λi=>vfM v dv ln y dy mx (stN words mx head i).1 (stN words mx head i).2.1 (stN words mx head i).2.2) (λ_=>rfl) (Xo (λ_=>rfl) (λ_=>rfl) ?_));kd_p;refine ⟨rfl,?_⟩;kd_p;refine ⟨_,_,Zk,trivial,⟨rfl,rfl,rfl,rfl,trivial⟩,rfl,λ_=>trivial,λi a hx=>?_,?_⟩
  ·obtain ⟨b,hb,rfl⟩:=enumL_strs hx;have hi:i < words.length:=(Un.mp hb).1;have hwb:=hw b (Uk hb);refine ⟨_,Y8 (.inl rfl) (.inl rfl),?_⟩;kd_p;refine ⟨_,Zh hB (.head _) .obj rfl (YY "_append_chunk" _ rfl (.type "function") (by rfl) (by decide)),Z2 (by rw [hB]; rfl),?_⟩;kd_p;refine ⟨_,Vr (b:=0),i_split (λh0=>?_) λh0=>?_⟩
   ·obtain ⟨j,rfl⟩:∃ j,i=j+1:=⟨i - 1,(Nat.succ_pred_eq_of_pos (of_decide_eq_true h0)).symm⟩;have e:stN words mx head (j+1+1)=putL (stN words mx head (j+1)).1 (stN words mx head (j+1)).2.1 (stN words mx head (j+1)).2.2 mx b:=by rw [stN,hb]; exact if_neg (Nat.succ_ne_zero j)
    obtain ⟨f,ne⟩:=stN_few (mx:=mx) hh hw j (S7 hi);have hc:201+101*j<=2 ^ 18:=by exact ar9 hl hsl hi
    have hz:Zb ((stN words mx head (j+1)).2.1++[(blank,b)])<=2 ^ 19:=by
     rw [XO,YL,Ye];exact Uc (Uh (Uc f.sz hc) (Tu hwb.1 1)) (by decide)
    have f':=f.up (Uc hc (by decide:2 ^ 18<=2 ^ 19));kd_p;refine Xm [] [_,_,_] [] (vf_chunk v dv ln y dy mx _ _ _ b ne hz f'.ln f'.k f'.ls) (by decide) (by decide) rfl ⟨.none,?_⟩;kd_p;refine ⟨⟨rfl,rfl,rfl,rfl,trivial⟩,?_⟩;rw [e]; rfl
   ·obtain rfl:i=0:=Nat.le_zero.mp (Ra (of_decide_eq_false h0));have e:stN words mx head (0+1)=Yh head mx b:=by rw [stN,hb]; rfl
    kd_p;refine Xm [] [_,_,_] [] (vf_first v dv ln y dy mx head b (by rw [YL,Yk]; exact Uc (Tu hwb.1 0) (by decide)) (Uc hh (by decide))) (by decide) (by decide) rfl ⟨.none,?_⟩;kd_p;refine ⟨⟨rfl,rfl,rfl,rfl,trivial⟩,?_⟩;rw [e]; rfl
  ·rw [Zx,hsl];obtain ⟨n,hn'⟩:∃ n,words.length=n+1:=⟨words.length - 1,(Nat.succ_pred_eq_of_pos (Si.mpr hn)).symm⟩
   have fs:Few 1200 (stN words mx head words.length):=by
    rw [hn'];exact (stN_few hh hw n (by rw [hn']; exact Tg n)).1.up (by exact ar15 hl hsl hn')
   have fw:=fs.up (by decide:1200<=2 ^ 19)
   have hzs:Zb ((stN words mx head words.length).2.1++[trans])<=1201:=by
    rw [XO,YL,Ye,Yk];exact Uv fs.sz 1
   have hzt:=Uc hzs (by decide:1201<=2 ^ 19)
   have hlt:((stN words mx head words.length).2.1++[trans]).length<=2 ^ 19:=by
    rw [U8];exact Uc (Uv fs.ln 1) (by decide)
   have fe:Few 2401 (endN (words.length == 2) (stN words mx head words.length)):=by
    unfold endN
    split
    ·refine ⟨Uc (Us (by decide +kernel:Zb [trans,trans]=2)) (by decide),(by decide:2<=2401),Tb _,Uc (newL_len _ _ _) (Uc (Uv fs.ls 1) (by decide)),λx hx=>?_,λp hp=>?_⟩
     ·exact Uc (newL_all fs.ll x hx) (Tu (Uc (VP _).1 hzs) _)
     ·have:p=trans:=by simpa using hp
      rw [this]; exact ⟨XJ,YH⟩
    ·exact fs.up (by decide)
   have fe':=fe.up (by decide:2401<=2 ^ 19);refine b_nil (seq_next ?_);refine V3 (σ:=Unit) (λ_=>[("words", .lst (Z3 words)),("width", .int (mx:Int)),("head", .int (head:Int)),("maker", .raw (.ref v))]) (λ_=>vfM v dv ln y dy mx (endN (words.length == 2) (stN words mx head words.length)).1 (endN (words.length == 2) (stN words mx head words.length)).2.1 (endN (words.length == 2) (stN words mx head words.length)).2.2) ?_ λ_=>?_
   ·kd_p;refine ⟨callee_builtin,?_⟩;kd_p;refine c_fn0D (f_len (by rw [hsl]; exact Uo hl (by decide))) (Ug _) (Ug _) ?_;rw [hsl];kd_p;refine ⟨_,vn_eq (b:=2),i_split (λhc=>?_) λhc=>?_⟩
    ·have e:endN (words.length == 2) (stN words mx head words.length)=(newL (stN words mx head words.length).1 ((stN words mx head words.length).2.1++[trans]) (stN words mx head words.length).2.2, [trans,trans],0):=if_pos hc;rw [e];kd_p;refine ⟨_,Zh hB (.head _) .obj rfl (YY "add_transition" _ rfl (.type "function") (by rfl) (by decide)),Z2 (by rw [hB]; rfl),?_⟩;kd_p;refine Xm [] [_,_,_] [] (X2 v dv ln y dy mx _ _ _ (Uc fs.ln (by decide))) (by decide) (by decide) rfl ⟨.none,?_⟩;kd_p;refine ⟨_,Zh hB (.head _) .obj rfl (YY "newline" _ rfl (.type "function") (by rfl) (by decide)),Z2 (by rw [hB]; rfl),?_⟩;kd_p;refine Xm [] [_,_,_] [] (Wn v dv ln y dy mx _ _ _ hzt hlt fw.k fw.ls (λx hx=>Uc (fs.ll x hx) (by decide)) (by rw [popL_app]; exact ⟨XJ,YH⟩)) (by decide) (by decide) rfl ⟨.none,?_⟩;kd_p;refine ⟨_,Zh hB (.head _) .obj rfl (YY "add_transition" _ rfl (.type "function") (by rfl) (by decide)),Z2 (by rw [hB]; rfl),?_⟩;kd_p;refine Xm [] [_,_,_] [] (X2 v dv ln y dy mx _ [] 0 (Tb _)) (by decide) (by decide) rfl ⟨.none,?_⟩;kd_p;refine ⟨_,Zh hB (.head _) .obj rfl (YY "add_transition" _ rfl (.type "function") (by rfl) (by decide)),Z2 (by rw [hB]; rfl),?_⟩;kd_p;refine Xm [] [_,_,_] [] (X2 v dv ln y dy mx _ [trans] 0 (by decide)) (by decide) (by decide) rfl ⟨.none,?_⟩;kd_p;exact ⟨(),⟨rfl,rfl,rfl,rfl,trivial⟩,List.Sublist.refl _⟩
    ·have e:endN (words.length == 2) (stN words mx head words.length)=stN words mx head words.length:=if_neg (by rw [hc]; decide);rw [e];kd_p;exact ⟨(),⟨rfl,rfl,rfl,rfl,trivial⟩,List.Sublist.refl _⟩
   ·kd_p;refine ⟨_,Zh hB (.head _) .obj rfl (YY "_str" _ rfl (.type "function") (by rfl) (by decide)),Z2 (by rw [hB]; rfl),?_⟩;kd_p;refine Xm [] [_,_,_] [] (vf_str v dv ln y dy mx _ _ _ newline fe'.sz fe'.ln fe'.k fe'.ls (λx hx=>Uc (fe.ll x hx) (by decide)) (popL_ok fe) ?_) (by decide) (by decide) rfl ?_
    ·have h1:=newL_len (endN (words.length == 2) (stN words mx head words.length)).1 (endN (words.length == 2) (stN words mx head words.length)).2.1 (endN (words.length == 2) (stN words mx head words.length)).2.2;have h2:=newL_all (ps:=(endN (words.length == 2) (stN words mx head words.length)).2.1) (k:=(endN (words.length == 2) (stN words mx head words.length)).2.2) fe.ll;have h3:=Uc h1 (Uv fe.ls 1)
     have h4:∀ x ∈ (newL (endN (words.length == 2) (stN words mx head words.length)).1 (endN (words.length == 2) (stN words mx head words.length)).2.1 (endN (words.length == 2) (stN words mx head words.length)).2.2).map (·.length),x<=4802:=λx hx=>by
      obtain ⟨y,hy,rfl⟩:=Uq.mp hx;exact Uc (h2 y hy) (Tu (Uc (VP _).1 fe.sz) _)
     have h5:=sum_le h4;rw [Ut] at h5;rw [VB,Nat.mul_one];exact Uc (Uh (Uc h5 (Sw _ h3)) h3) (by decide)
    ·kd_p;exact pb_ret ⟨rfl,rfl,rfl⟩
end Ofnfolded
theorem fn_folded (words:List Str) (mx:Nat) (head:Nat):Ofnfolded.Px words mx head:=eps_all Ofnfolded.Rx Ofnfolded.main (words,mx,head)
end
section
open PySem PySem.W PyProof.Rows PySem.Calls Builtin
noncomputable def lawD:Arguments × List Stmt × Scope:=match defAt 307 with | some x=>x | none=>(⟨[], [],none, [], [],none, []⟩, [], { kind:=.function,names:=[],isGenerator:=false,isCoroutine:=false })
noncomputable abbrev Zi (L:Addr):Env:=envF (S "law") lawD.2.2 L 307 (.ref 306) []
noncomputable def Ze (k:Nat):Stmt:=lawD.2.1.getD k (.Pass default)
noncomputable def Ends (P:Loc->Prop):PF:=λf l m=>f=.next/\P l/\m=[]
theorem W7 (ns:List Nat):Z0 ns=(ns.map λn:Nat=>(n:Int)).map AV.int:=by simp [Z0]
theorem sum_nats (ns:List Nat):(ns.map λn:Nat=>(n:Int)).sum=((ns.sum:Nat):Int):=by
 induction ns with
 | nil=>rfl
 | cons a r ih=>rw [To,Ri,Ri,ih]; push_cast; rfl
theorem f_sumN {d u:Nat} {ns:List Nat}:FN prog w B d u (.builtin "sum") [.lst (Z0 ns)] [] [] (λav m ex=>av=.int ((ns.sum:Nat):Int)/\m=[]/\ex=[]):=by
 rw [W7, <- sum_nats]; exact f_sumL
theorem Wk (ns:List Nat) (lo hi st:Option Int):ZM (Z0 ns) lo hi st=Z0 (ZM ns lo hi st):=W3 _ _ _ _ _
theorem law_s0 {d u:Nat} (L:Addr) (ns:List Int) (hl:ns.length<=100) :
  WS prog w B d u (Zi L) [("script", .lst (ns.map .int))] [] (Ze 0) (Ends λl=>∃ tl:List Nat,tl.length<=60/\Sub [("told", .lst (Z0 tl))] l):=by
 have hp:ZM (ns.map AV.int) none (some 60) none=(ns.take 60).map AV.int:=by rw [W3]; exact congrArg _ (Z0x ns 60)
 have ht:(ns.take 60).length<=60:=by rw [Ti]; exact Rg _ _
 refine s_assign (.inr ⟨rfl,rfl⟩) (ZC _ (λ_=>rfl) rfl rfl (by decide) (by keq_rows) rfl (ZG (Y3 ?_))) rfl;kd_p;refine Yc ?_;kd_p;refine ⟨none,some 60,none,rfl,rfl,rfl,?_⟩;refine ⟨_,_,(Yq (by decide) (by rw [Ut]; exact Uc hl (by decide)) (λ_ _=>⟨_,rfl⟩) (λ_ _=>rfl)).m,?_⟩;rw [hp];refine ⟨_,_,Zk,trivial,Z0 ((ns.take 60).map λx=>(x.fmod 1000000).toNat),by simp [Z0],by rw [Ut]; exact Uc ht (by decide),trivial,λL' i a o hx ho=>?_,?_⟩
 ·rw [Ul] at hx;rw [Z0,Ul,Ul] at ho;obtain ⟨x,hx1,rfl⟩:=Ux.mp hx;rw [hx1] at ho;obtain rfl:=Up.inj ho;refine ⟨_,Z8 (.inl rfl),by keq_hits,?_⟩;kd_p;refine ⟨_,vo_is (vo_fmod (by decide)) (congrArg AV.int (Int.toNat_of_nonneg (Int.fmod_nonneg_of_pos _ (by decide))).symm),rfl,rfl⟩
 ·refine ⟨rfl,⟨_,?_,rfl,trivial⟩,rfl⟩;rw [Ut]; exact ht
noncomputable def five:List Nat:=[5106,109,332151,1034,48]
noncomputable def cellN (tl:List Nat) (k:Nat):Nat:=five.getD k 0+(ZM tl (some (k:Int)) none (some 5)).sum
theorem Vu {ns:List Nat} {i:Nat} {a:AV} (h:(X7 0 (Z0 ns))[i]?=some a):i < ns.length/\a=.tup [.int ((i:Nat):Int), .int ((ns.getD i 0:Nat):Int)]:=by
 obtain ⟨n,hn,rfl⟩:=Yi h;refine ⟨(Un.mp hn).1,?_⟩;rw [Uu,hn]; rfl
theorem law_s1 {d u:Nat} (L:Addr) (tl:List Nat) (hl:tl.length<=60) :
  WS prog w B d u (Zi L) [("told", .lst (Z0 tl))] [] (Ze 1) (Ends λl=>∃ c0 c1 c2 c3 c4:Nat,Sub [("cells", .lst (Z0 [c0,c1,c2,c3,c4]))] l):=by
 refine XZ _ rfl (.inl rfl) (λ_=>rfl) rfl rfl (by decide) (by keq_rows) rfl (ZG (Xo (λ_=>rfl) (λ_=>rfl) ?_));kd_p;refine ⟨rfl,Yg ?_⟩;kd_p;refine ⟨by show 5<=2 ^ 20; decide,?_⟩;rw [show ([.int 5106, .int 109, .int 332151, .int 1034, .int 48]:List AV)=Z0 five from rfl];refine ⟨_,_,Zk,trivial,Z0 ((Um 5).map (cellN tl)),by rw [Zx]; rfl,by rw [Zx]; show 5<=2 ^ 20; decide,trivial,λL' i a o hx ho=>?_,?_⟩
 ·obtain ⟨hi,rfl⟩:=Vu hx;obtain ⟨c,hc,rfl⟩:=ZN ho
  obtain rfl:cellN tl i=c:=by
   rw [Ul,Sa (show i < 5 from hi)] at hc;exact Up.inj hc
  refine ⟨_,Y8 (.inl rfl) (.inl rfl),by keq_hits,?_⟩;kd_p;refine ⟨callee_builtin,?_⟩;kd_p;refine Yc ?_;kd_p;refine ⟨some (i:Int),none,some 5,rfl,rfl,rfl,?_⟩;refine ⟨_,_,(Yq (by decide) (by rw [Z4]; exact Uc hl (by decide)) (λ_ _=>⟨_,rfl⟩) (λ_ _=>rfl)).m,?_⟩;rw [Wk];kd_p;refine c_fn0D f_sumN (Ug _) (Ug _) ?_;exact ⟨_,X3,rfl,rfl⟩
 ·exact ⟨rfl,⟨_,_,_,_,_,rfl,trivial⟩,rfl⟩
namespace Olaws2
noncomputable def Px (d u:Nat) (L:Addr) (c0 c1 c2 c3 c4:Nat):Prop:=WS prog w B d u (Zi L) [("cells", .lst (Z0 [c0,c1,c2,c3,c4]))] [] (Ze 2) (Ends λl=>Sub [("cells", .lst (Z0 [c0,c1,c2,c3,c4])),("base", .int ((c0 % 29:Nat):Int)),("width", .int ((4+c0 / 29 % 40:Nat):Int)),("limit", .int ((c0 / 1160 % 3:Nat):Int)),("head", .int ((c0 / 3480 % 3*4:Nat):Int))] l)
noncomputable def Rx (p:Nat × Nat × Addr × Nat × Nat × Nat × Nat × Nat):Prop:=Px p.1 p.2.1 p.2.2.1 p.2.2.2.1 p.2.2.2.2.1 p.2.2.2.2.2.1 p.2.2.2.2.2.2.1 p.2.2.2.2.2.2.2
noncomputable section
def cx:=eps (neP neNt (neP neNt (neP neNt (neP neNt (neP neNt (neP neNt (neP neNt neNt))))))) Rx
def d:=cx.1
def u:=cx.2.1
def L:=cx.2.2.1
def c0:=cx.2.2.2.1
def c1:=cx.2.2.2.2.1
def c2:=cx.2.2.2.2.2.1
def c3:=cx.2.2.2.2.2.2.1
def c4:=cx.2.2.2.2.2.2.2
end
theorem main:Px d u L c0 c1 c2 c3 c4:=by
 unfold Px;have h0:(Z0 [c0,c1,c2,c3,c4])[0]?=some (.int (c0:Int)):=rfl;refine s_assignT rfl rfl (WM ?_);kd_p;refine ⟨_,_,(vs_nat (k:=0) (by decide) h0 (λ_ _=>rfl)).m,?_⟩;kd_p;refine ⟨_,Y2 (b:=29) (by decide),?_⟩;kd_p;refine ⟨_,_,(vs_nat (k:=0) (by decide) h0 (λ_ _=>rfl)).m,?_⟩;kd_p;refine ⟨_,Xy (b:=29) (by decide) (by decide),?_⟩;kd_p;refine ⟨_,Y2 (b:=40) (by decide),_,X3 (a:=4),?_⟩;kd_p;refine ⟨_,_,(vs_nat (k:=0) (by decide) h0 (λ_ _=>rfl)).m,?_⟩;kd_p;refine ⟨_,Xy (b:=1160) (by decide) (by decide),?_⟩;kd_p;refine ⟨_,Y2 (b:=3) (by decide),?_⟩;kd_p;refine ⟨_,_,(vs_nat (k:=0) (by decide) h0 (λ_ _=>rfl)).m,?_⟩;kd_p;refine ⟨_,Xy (b:=3480) (by decide) (by decide),?_⟩;kd_p;refine ⟨_,Y2 (b:=3) (by decide),?_⟩;kd_p;refine ⟨_,vo_is (vo_mul ?_) (congrArg AV.int (Int.natCast_mul _ 4).symm),?_⟩
 ·exact IntMulOk.of_right (intBits_le_64 (by decide) (by decide))
 ·kd_p;refine ⟨by show 4<=2 ^ 20; decide,_,asg_quad (.inr ⟨rfl,rfl⟩) (.inr ⟨rfl,rfl⟩) (.inr ⟨rfl,rfl⟩) (.inr ⟨rfl,rfl⟩),rfl,⟨rfl,rfl,rfl,rfl,rfl,trivial⟩,rfl⟩
end Olaws2
theorem law_s2 {d u} (L:Addr) (c0:Nat) (c1:Nat) (c2:Nat) (c3:Nat) (c4:Nat):Olaws2.Px d u L c0 c1 c2 c3 c4:=eps_all Olaws2.Rx Olaws2.main (d,u,L,c0,c1,c2,c3,c4)
namespace Olaws3
noncomputable def Px (d u:Nat) (L:Addr) (c0 c1 c2 c3 c4 b wd li hd:Nat):Prop:=WS prog w B d u (Zi L) [("cells", .lst (Z0 [c0,c1,c2,c3,c4])),("base", .int (b:Int)),("width", .int (wd:Int)),("limit", .int (li:Int)),("head", .int (hd:Int))] [] (Ze 3) (Ends λl=>Sub [("cells", .lst (Z0 [c0,c1,c2,c3,c4])),("base", .int (b:Int)),("width", .int (wd:Int)),("limit", .int (li:Int)),("head", .int (hd:Int)),("numbers", .lst (Z0 [c2 % 64 ^ 4,c3 % 64 ^ 2,c4 % 64]))] l)
noncomputable def Rx (p:Nat × Nat × Addr × Nat × Nat × Nat × Nat × Nat × Nat × Nat × Nat × Nat):Prop:=Px p.1 p.2.1 p.2.2.1 p.2.2.2.1 p.2.2.2.2.1 p.2.2.2.2.2.1 p.2.2.2.2.2.2.1 p.2.2.2.2.2.2.2.1 p.2.2.2.2.2.2.2.2.1 p.2.2.2.2.2.2.2.2.2.1 p.2.2.2.2.2.2.2.2.2.2.1 p.2.2.2.2.2.2.2.2.2.2.2
noncomputable section
def cx:=eps (neP neNt (neP neNt (neP neNt (neP neNt (neP neNt (neP neNt (neP neNt (neP neNt (neP neNt (neP neNt (neP neNt neNt))))))))))) Rx
def d:=cx.1
def u:=cx.2.1
def L:=cx.2.2.1
def c0:=cx.2.2.2.1
def c1:=cx.2.2.2.2.1
def c2:=cx.2.2.2.2.2.1
def c3:=cx.2.2.2.2.2.2.1
def c4:=cx.2.2.2.2.2.2.2.1
def b:=cx.2.2.2.2.2.2.2.2.1
def wd:=cx.2.2.2.2.2.2.2.2.2.1
def li:=cx.2.2.2.2.2.2.2.2.2.2.1
def hd:=cx.2.2.2.2.2.2.2.2.2.2.2
end
theorem main:Px d u L c0 c1 c2 c3 c4 b wd li hd:=by
 unfold Px;have h2:(Z0 [c0,c1,c2,c3,c4])[2]?=some (.int (c2:Int)):=rfl;have h3:(Z0 [c0,c1,c2,c3,c4])[3]?=some (.int (c3:Int)):=rfl;have h4:(Z0 [c0,c1,c2,c3,c4])[4]?=some (.int (c4:Int)):=rfl;refine s_assign (.inl rfl) (Yg ?_) rfl;kd_p;refine ⟨_,_,(vs_nat (k:=2) (by decide) h2 (λ_ _=>rfl)).m,?_⟩;kd_p;refine ⟨_,vo_pow (by decide) (by decide +kernel),?_⟩;refine ⟨_,Y2 (b:=64 ^ 4) (by decide),?_⟩;kd_p;refine ⟨_,_,(vs_nat (k:=3) (by decide) h3 (λ_ _=>rfl)).m,?_⟩;kd_p;refine ⟨_,vo_pow (by decide) (by decide +kernel),?_⟩;refine ⟨_,Y2 (b:=64 ^ 2) (by decide),?_⟩;kd_p;refine ⟨_,_,(vs_nat (k:=4) (by decide) h4 (λ_ _=>rfl)).m,?_⟩;kd_p;refine ⟨_,Y2 (b:=64) (by decide),?_⟩;kd_p;exact ⟨by show 3<=2 ^ 20; decide,rfl,⟨rfl,rfl,rfl,rfl,rfl,rfl,trivial⟩,rfl⟩
end Olaws3
theorem law_s3 {d u} (L:Addr) (c0:Nat) (c1:Nat) (c2:Nat) (c3:Nat) (c4:Nat) (b:Nat) (wd:Nat) (li:Nat) (hd:Nat):Olaws3.Px d u L c0 c1 c2 c3 c4 b wd li hd:=eps_all Olaws3.Rx Olaws3.main (d,u,L,c0,c1,c2,c3,c4,b,wd,li,hd)
end
section
open PySem PySem.W PyProof.Rows PySem.Calls Builtin
noncomputable abbrev comma:Str:=Str.ofString ", "
noncomputable def rowN (base mask:Nat):List Str:=Txt.split (Txt.join comma (Zo (mask*2 ^ base))) comma
noncomputable def bitN (mask k:Nat):Bool:=(mask / 2 ^ k &&& 1) != 0
noncomputable def V1 (mask:Nat):List Nat:=(Um 4).filter (bitN mask)
noncomputable def Vm (base mask:Nat):List Str:=(V1 mask).map λk=>(Zn base).getD k nought
noncomputable abbrev hex0:Str:=Str.ofString "0x0"
noncomputable def Z9 (base mask:Nat):List Str:=if Vm base mask=[] then [hex0] else Vm base mask
noncomputable def V4 (base:Nat):List AV:=(Um 16).map λmask=>.lst (Z3 (rowN base mask))
theorem flag_ends {base mask:Nat} (hb:base<=28) (hm:mask < 16):mask*2 ^ base < 2 ^ 32:=by
 have h1:2 ^ base<=2 ^ 28:=Nat.pow_le_pow_right (by decide) hb;have h2:=Nat.mul_le_mul (Sb hm) h1;exact Uo h2 (by decide)
theorem Xv (n:Nat) (h:n<=16):Builtin.Range.small 0 (n:Int) 1=true/\Builtin.Range.rangeSize 0 (n:Int) 1=(n:Int):=by
 have:∀ n:Nat,n<=16->Builtin.Range.small 0 (n:Int) 1=true/\Builtin.Range.rangeSize 0 (n:Int) 1=(n:Int):=by decide +kernel
 exact this n h
theorem Z1c (f:Nat):(Txt.join comma (Zo f)).length<=1000:=by
 have h:=names_len (f:=f);have h2:=StrLaws.join_length_le comma (Zo f);rw [show Txt.join comma (Zo f)=Str.join comma (Zo f) from StrLaws.glued_eq_join _ _];have h3:comma.length=2:=by decide +kernel
 rw [h3] at h2;exact ar52 h h2
open Builtin.Str in
theorem parts_len (x y:Str):(partsBetween x (occurrences x y 0 x.length (x.length+1)) y.length).length<=x.length+2:=by
 unfold partsBetween;have h:=StrLaws.occ_length_le x y 0 x.length (x.length+1);simp;omega
theorem law_s5 {d u:Nat} (hd:d<=500) (hu:u<=4000) (L:Addr) (b:Nat) (hb:b<=28) (r:Loc) :
  WS prog w B d u (Zi L) (("base", .int (b:Int)) :: r) [] (Ze 5) (Ends λl=>l=setL "marks" (.lst (Z3 (Zn b))) (("base", .int (b:Int)) :: r)):=by
 refine s_assign (.inr ⟨rfl,rfl⟩) ?_ rfl;kd_p;refine ⟨Z2 (by rw [hB]; rfl),?_⟩;kd_p;exact c_fn0D (fn_marks b hb) (Uc hd (by decide)) (Uc hu (by decide)) ⟨rfl,rfl,rfl⟩
theorem law_s6 {d u:Nat} (hd:d<=500) (hu:u<=4000) (L:Addr) (b:Nat) (hb:b<=28) (r:Loc) :
  WS prog w B d u (Zi L) (("base", .int (b:Int)) :: r) [] (Ze 6) (Ends λl=>l=setL "words" (.lst (V4 b)) (("base", .int (b:Int)) :: r)):=by
 obtain ⟨hr1,hr2⟩:=Xv 16 (Ug _);refine s_assign (.inr ⟨rfl,rfl⟩) (ZC _ (λ_=>rfl) rfl rfl (by decide) (by keq_rows) rfl (ZG (ZK ?_))) rfl;kd_p;refine ⟨Z5,?_⟩;kd_p;refine c_fn0D ZS (Ug _) (Ug _) ⟨_,_,_,16,rfl,hr1,hr2,?_⟩;refine ⟨V4 b,by rw [Zm]; rfl,by rw [Zm]; decide,trivial,λL' i a o hx ho=>?_,?_⟩
 ·obtain ⟨hi,rfl⟩:=ZY hx
  obtain rfl:AV.lst (Z3 (rowN b i))=o:=by
   rw [V4,Ul,Sa hi] at ho;exact Up.inj ho
  refine ⟨_,Z8 (.inl rfl),by keq_hits,?_⟩;kd_p;refine ⟨Z2 (by rw [hB]; rfl),?_⟩;kd_p;refine ⟨_,Vc (Uc hb (by decide)) (U5 hi (by decide)),?_⟩;kd_p;refine c_fn0D (fn_flags (i*2 ^ b) (flag_ends hb hi)) (Uc hd (by decide)) (Uc hu (by decide)) ?_;refine ⟨_,Xg λA Er s t pl Q q=>PySem.GM.split q,callee_builtin,?_⟩;kd_p;refine c_fn0D (f_split (by decide +kernel) ?_ ?_) (Ug _) (Ug _) ⟨rfl,rfl⟩
  ·exact Uc (Z1c _) (by decide)
  ·exact Uc (parts_len _ _) (Uc (Uv (Z1c _) 2) (by decide))
 ·exact ⟨rfl,rfl,rfl⟩
theorem strsA_nil {xs:List Str}:(Z3 xs).isEmpty=xs.isEmpty:=by cases xs <;> rfl
theorem ZF {α:Type} {f:Nat->α} {n i:Nat} {o:α} (hi:i < n) (h:((Um n).map f)[i]?=some o):f i=o:=by
 rw [Ul,Sa hi] at h;exact Up.inj h
theorem rows_ok {rows:Nat->List Str} {n k:Nat} (h:∀ i < n,∀ x ∈ rows i,PyData.strOk x=true):∀ a ∈ (Um n).map λi=>AV.lst (Z3 (rows i)),kqdOk (k+1) (toD a)=true:=λa ha=>by
 obtain ⟨i,hi,rfl⟩:=Uq.mp ha;simp only [toD,kqdOk,Y4,List.all_map,Su,Z3];intro x hx;have:=h i (U0.mp hi) x hx
 cases k <;> exact this
theorem Xw {p:Prop} {i:Decidable p} (h:p):AV.bool (!@decide p i)=.bool false:=by rw [@decide_eq_true p i h]; rfl
noncomputable abbrev loc7 (b:Nat) (ns:List Nat) (r:Loc):Loc:=("read", .lst (Z0 ns)) :: ("numbers", .lst (Z0 ns)) :: ("marks", .lst (Z3 (Zn b))) :: ("words", .lst (V4 b)) :: r
namespace Olaws7
noncomputable def Px (d u:Nat) (L:Addr) (b:Nat) (ns:List Nat) (r:Loc):Prop:=∀ (hd:d<=500) (hu:u<=4000) (hml:(Zn b).length=4) (hrow:∀ mask < 16,rowN b mask=Z9 b mask) (hok:∀ mask < 16,∀ x ∈ Z9 b mask,PyData.strOk x=true),WS prog w B d u (Zi L) (loc7 b ns r) [] (Ze 7) (Ends λl=>l=loc7 b ns r)
noncomputable def Rx (p:Nat × Nat × Addr × Nat × List Nat × Loc):Prop:=Px p.1 p.2.1 p.2.2.1 p.2.2.2.1 p.2.2.2.2.1 p.2.2.2.2.2
noncomputable section
def cx:=eps (neP neNt (neP neNt (neP neNt (neP neNt (neP neL neL))))) Rx
def d:=cx.1
def u:=cx.2.1
def L:=cx.2.2.1
def b:=cx.2.2.2.1
def ns:=cx.2.2.2.2.1
def r:=cx.2.2.2.2.2
end
theorem main:Px d u L b ns r:=by
 intro hd hu hml hrow hok;obtain ⟨hr1,hr2⟩:=Xv 16 (Ug _);obtain ⟨hq1,hq2⟩:=Xv 4 (by decide);have hu':u+64 < cLine:=Uo (Uv hu 64) (by decide);refine s_if ?_;kd_p;refine ⟨false,vo_is (Wg YM YM hu') (Xw rfl),i_false rfl ?_⟩;kd_p;refine ZC _ (λ_=>rfl) rfl rfl (by decide) (by keq_rows) rfl (ZG (ZK ?_));kd_p;refine ⟨Z5,?_⟩;kd_p;refine c_fn0D ZS (Ug _) (Ug _) ⟨_,_,_,16,rfl,hr1,hr2,?_⟩;refine ⟨(Um 16).map λmask=>.lst (Z3 (Z9 b mask)),by rw [Zm]; rfl,by rw [Zm]; decide,trivial,λL' i a o hx ho=>?_,?_⟩
 ·obtain ⟨hi,rfl⟩:=ZY hx;obtain rfl:=ZF hi ho;refine ⟨_,Z8 (.inr ⟨rfl,rfl⟩),by keq_hits,?_⟩;refine e_or (ZC _ (λ_=>rfl) rfl rfl (by decide) (by keq_rows) rfl (ZD (ZK ?_)));kd_p;refine ⟨Z5,?_⟩;kd_p;refine c_fn0D ZS (Ug _) (Ug _) ⟨_,_,_,4,rfl,hq1,hq2,?_⟩;refine ⟨(Um 4).map λk=>if bitN i k then some (AV.str ((Zn b).getD k nought)) else none,by rw [Zm]; rfl,by rw [Zm]; decide,trivial,λL2 k a o hx2 ho2=>?_,?_⟩
  ·obtain ⟨hk,rfl⟩:=ZY hx2;obtain rfl:=ZF hk ho2;refine ⟨_,Z8 (.inl rfl),by keq_hits,?_⟩;refine Y0 ?_ (λ_=>rfl);kd_p;refine ⟨_,vn_shr,?_⟩;kd_p;refine ⟨_,Vg (b:=1),_,XT,?_⟩;refine i_split (λhc=>?_) λhc=>?_
   ·have hc':bitN i k=true:=hc;rw [if_pos hc'];kd_p
    have hg:(Z3 (Zn b))[k]?=some (.str ((Zn b).getD k nought)):=by
     have hk':k < (Zn b).length:=by rw [hml]; exact hk
     rw [Z3,Ul,Uu,Ui hk']; rfl
    exact ⟨_,_,(vs_nat (U5 hk (by decide)) hg (λ_ _=>rfl)).m,rfl,rfl⟩
   ·have hc':¬ bitN i k=true:=by rw [show bitN i k=false from hc]; decide
    rw [if_neg hc'];exact ⟨rfl,rfl⟩
  ·rw [YS (bitN i) (λk=>AV.str ((Zn b).getD k nought))];have e:((Um 4).filter (bitN i)).map (λk=>AV.str ((Zn b).getD k nought))=Z3 (Vm b i):=by rw [Z3,Vm,V1,Tc]; rfl
   rw [e];refine ⟨_,vt_lst (by rw [Z3,Ut,Vm,Ut]; exact Uc (T5 _ _) (by decide)),?_⟩;rw [strsA_nil];refine i_split (λhc=>?_) λhc=>?_
   ·have hc':¬ Vm b i=[]:=λq=>by rw [q] at hc; exact no_ft hc
    rw [Z9,if_neg hc'];exact ⟨rfl,rfl⟩
   ·have hc':Vm b i=[]:=List.isEmpty_iff.mp (by cases h:(Vm b i).isEmpty <;> simp [h] at hc ⊢);rw [Z9,if_pos hc'];refine Yg ?_;kd_p;exact ⟨by show 1<=2 ^ 20; decide,rfl,rfl⟩
 ·have e:V4 b=(Um 16).map λmask=>.lst (Z3 (Z9 b mask)):=Tp λi hi=>by rw [hrow i (U0.mp hi)]
  rw [e];refine ⟨false,vo_is (Wg (rows_ok hok) (rows_ok hok) hu') (Xw rfl),i_false rfl ?_⟩;kd_p;refine ⟨rfl,?_,rfl⟩;rw [loc7,e]
end Olaws7
theorem law_s7 {d u:Nat} (hd:d<=500) (hu:u<=4000) (L:Addr) (b:Nat) (ns:List Nat) (r:Loc) (hml:(Zn b).length=4) (hrow:∀ mask < 16,rowN b mask=Z9 b mask) (hok:∀ mask < 16,∀ x ∈ Z9 b mask,PyData.strOk x=true) :
  WS prog w B d u (Zi L) (loc7 b ns r) [] (Ze 7) (Ends λl=>l=loc7 b ns r):=eps_all Olaws7.Rx Olaws7.main (d,u,L,b,ns,r) hd hu hml hrow hok
end
section
open PySem PySem.W PyProof.Rows PySem.Calls Builtin
noncomputable def X4 (b:Nat):List AV:=(Um 16).map λmask=>.lst (Z3 (Z9 b mask))
noncomputable def pageN (b wd hd mask:Nat):Str:=Txt.join newline (linesN (Z9 b mask) wd hd)
noncomputable def Yu (row:List Str) (wd hd:Nat):List Str:=match row with
 | w0 :: ws=>(ZR ws wd (Za w0 wd hd) ws.length).1
 | []=>[]
noncomputable def YW (row:List Str) (wd hd:Nat):Str:=Txt.join newline (Yu row wd hd)++if row.length == 2 then blank else nought
noncomputable def Yd (b wd hd:Nat):List Str:=(Um 16).map (pageN b wd hd)
structure Xi (b:Nat):Prop where
 ne:∀ mask < 16,Z9 b mask≠[]
 len:∀ mask < 16,(Z9 b mask).length<=4
 item:∀ mask < 16,∀ x ∈ Z9 b mask,x.length<=100/\PyData.strOk x=true
structure X9 (b wd hd:Nat):Prop where
 eq:∀ mask < 16,pageN b wd hd mask=YW (Z9 b mask) wd hd
 small:∀ mask < 16,(YW (Z9 b mask) wd hd).length<=2 ^ 24
 ok:∀ mask < 16,PyData.strOk (pageN b wd hd mask)=true
 join:∀ mask < 16,((Yu (Z9 b mask) wd hd).map (·.length)).sum+(Yu (Z9 b mask) wd hd).length*newline.length<=16777216
theorem YQ (b:Nat):(X4 b).length=16:=by simp [X4]
theorem Z11 {b i:Nat} {a:AV} (h:(X4 b)[i]?=some a):i < 16/\a=.lst (Z3 (Z9 b i)):=by
 have hi:i < 16:=by have:=(Un.mp h).1; rwa [YQ] at this
 exact ⟨hi,(ZF hi h).symm⟩
noncomputable abbrev loc8 (b wd hd:Nat) (r:Loc):Loc:=("words", .lst (X4 b)) :: ("width", .int (wd:Int)) :: ("head", .int (hd:Int)) :: r
theorem law_s8 {d u:Nat} (hd':d<=500) (hu:u<=4000) (L:Addr) (b wd hd:Nat) (r:Loc) (hh:hd<=100) (R:Xi b) :
  WS prog w B d u (Zi L) (loc8 b wd hd r) [] (Ze 8) (Ends λl=>l=setL "pages" (.lst (Z3 (Yd b wd hd))) (loc8 b wd hd r)):=by
 refine s_assign (.inr ⟨rfl,rfl⟩) (ZC _ (λ_=>rfl) rfl rfl (by decide) (by keq_rows) rfl (ZG (Y3 ?_))) rfl;kd_p;refine ⟨_,_,Zk,trivial,Z3 (Yd b wd hd),by rw [YQ]; rfl,by rw [YQ]; decide,trivial,λL' i a o hx ho=>?_,?_⟩
 ·obtain ⟨hi,rfl⟩:=Z11 hx;rw [Z3,Yd,Tc] at ho;obtain rfl:=ZF hi ho;refine ⟨_,Z8 (.inl rfl),by keq_hits,?_⟩;kd_p;refine ⟨Z2 (by rw [hB]; rfl),?_⟩;kd_p;exact c_fn0D (fn_folded (Z9 b i) wd hd hh (R.ne i hi) (Uc (R.len i hi) (by decide)) (R.item i hi)) hd' hu ⟨rfl,rfl⟩
 ·exact ⟨rfl,rfl,rfl⟩
theorem strs_ok {xs:List Str} {k:Nat} (h:∀ x ∈ xs,PyData.strOk x=true):∀ a ∈ Z3 xs,kqdOk k (toD a)=true:=λa ha=>by
 obtain ⟨x,hx,rfl⟩:=Uq.mp ha;have:=h x hx
 cases k <;> exact this
noncomputable abbrev loc9 (b wd hd:Nat) (r:Loc):Loc:=("pages", .lst (Z3 (Yd b wd hd))) :: ("words", .lst (X4 b)) :: ("width", .int (wd:Int)) :: ("head", .int (hd:Int)) :: r
namespace Olaws9
noncomputable def Px (d u:Nat) (L:Addr) (b wd hd:Nat) (r:Loc):Prop:=∀ (hd':d<=500) (hu:u<=4000) (R:Xi b) (P:X9 b wd hd),WS prog w B d u (Zi L) (loc9 b wd hd r) [] (Ze 9) (Ends λl=>l=loc9 b wd hd r)
noncomputable def Rx (p:Nat × Nat × Addr × Nat × Nat × Nat × Loc):Prop:=Px p.1 p.2.1 p.2.2.1 p.2.2.2.1 p.2.2.2.2.1 p.2.2.2.2.2.1 p.2.2.2.2.2.2
noncomputable section
def cx:=eps (neP neNt (neP neNt (neP neNt (neP neNt (neP neNt (neP neNt neL)))))) Rx
def d:=cx.1
def u:=cx.2.1
def L:=cx.2.2.1
def b:=cx.2.2.2.1
def wd:=cx.2.2.2.2.1
def hd:=cx.2.2.2.2.2.1
def r:=cx.2.2.2.2.2.2
end
theorem main:Px d u L b wd hd r:=by
 intro hd' hu R P;have hu':u+64 < cLine:=Uo (Uv hu 64) (by decide);have he:Yd b wd hd=(Um 16).map λmask=>YW (Z9 b mask) wd hd:=Tp λi hi=>P.eq i (U0.mp hi)
 have hok:∀ x ∈ Yd b wd hd,PyData.strOk x=true:=λx hx=>by
  obtain ⟨i,hi,rfl⟩:=Uq.mp hx;exact P.ok i (U0.mp hi)
 refine s_if ?_;kd_p;refine ZC _ (λ_=>rfl) rfl rfl (by decide) (by keq_rows) rfl (ZG (Y3 ?_));kd_p;refine ⟨_,_,Zk,trivial,Z3 (Yd b wd hd),by rw [YQ]; rfl,by rw [YQ]; decide,trivial,λL' i a o hx ho=>?_,?_⟩
 ·obtain ⟨hi,rfl⟩:=Z11 hx;rw [he,Z3,Tc] at ho;obtain rfl:=ZF hi ho;have hs:=P.small i hi;have hj:=P.join i hi;have hit:=R.item i hi;have hln:=R.len i hi;have hne:=R.ne i hi;refine ⟨_,Z8 (.inl rfl),by keq_hits,?_⟩;show WE prog w B d u _ _ _ _ λy m=>y=AV.str (YW (Z9 b i) wd hd)/\m=[];generalize Z9 b i=row at hs hj hit hln hne ⊢;obtain ⟨w0,ws,rfl⟩:∃ w0 ws,row=w0 :: ws:=by cases row with | nil=>exact absurd rfl hne | cons a r=>exact ⟨a,r,rfl⟩
  have hwl:ws.length<=100:=Uc (Tr _) (Uc hln (by decide));kd_p;refine ⟨_,Xg λA Er s t pl Q q=>PySem.GM.join q,callee_builtin,?_⟩;kd_p;refine ⟨Z2 (by rw [hB]; rfl),?_⟩;kd_p;refine Xe ((fn_rows w0 ws wd hd hwl (Uc (hit w0 (.head _)).1 (by decide)) λx hx=>Uc (hit x (.tail _ hx)).1 (by decide)).low (Uc hd' (by decide)) (Uc hu (by decide))) ?_;rintro _ _ ⟨a,rfl,_,rfl⟩;refine .inr ⟨a,_,rfl,rfl,?_⟩;kd_p;refine c_fn0D (f_join hj) (Ug _) (Ug _) ?_;kd_p;refine ⟨callee_builtin,?_⟩;kd_p;have hsl:(Z3 (w0 :: ws)).length=(w0 :: ws).length:=Ut ..;refine c_fn0D (f_len (by rw [hsl]; exact Uo hln (by decide))) (Ug _) (Ug _) ?_;rw [hsl];kd_p;refine ⟨_,vn_eq (b:=2),i_split (λhc=>?_) λhc=>?_⟩
  ·kd_p;have e:YW (w0 :: ws) wd hd=Txt.join newline (Yu (w0 :: ws) wd hd)++blank:=by rw [YW,if_pos hc]
   rw [e] at hs ⊢;exact ⟨_,VK hs,rfl,rfl⟩
  ·kd_p;have e:YW (w0 :: ws) wd hd=Txt.join newline (Yu (w0 :: ws) wd hd)++nought:=by rw [YW,if_neg (by rw [hc]; decide)]
   rw [e] at hs ⊢;exact ⟨_,VK hs,rfl,rfl⟩
 ·refine ⟨false,vo_is (Wg (strs_ok hok) (strs_ok hok) hu') (Xw rfl),i_false rfl ?_⟩;kd_p;exact ⟨rfl,rfl,rfl⟩
end Olaws9
theorem law_s9 {d u:Nat} (hd':d<=500) (hu:u<=4000) (L:Addr) (b wd hd:Nat) (r:Loc) (R:Xi b) (P:X9 b wd hd) :
  WS prog w B d u (Zi L) (loc9 b wd hd r) [] (Ze 9) (Ends λl=>l=loc9 b wd hd r):=eps_all Olaws9.Rx Olaws9.main (d,u,L,b,wd,hd,r) hd' hu R P
end
section
open PySem PySem.W PyProof.Rows PySem.Calls Builtin
noncomputable def xorN (ns:List Nat):Nat:=ns.foldl (·^^^·) 0
theorem xorL_nats (ns:List Nat):xorL (ns.map λn:Nat=>(n:Int))=((xorN ns:Nat):Int):=by
 unfold xorL xorN
 suffices h:∀ (ns:List Nat) (a:Nat),(ns.map λn:Nat=>(n:Int)).foldl Builtin.bitXor (a:Int)=((ns.foldl (·^^^·) a:Nat):Int) from h ns 0
 intro ns
 induction ns with
 | nil=>exact λ_=>rfl
 | cons b r ih=>intro a; rw [To,Sm,Sm,bxorN]; exact ih _
theorem fn_sumN (ns:List Nat):FN prog w B 600 6000 (.ref 271) [.lst (Z0 ns)] [] [] (λav m ex=>av=.int ((xorN ns:Nat):Int)/\m=[]/\ex=[]):=by
 rw [W7, <- xorL_nats]; exact fn_sum _
theorem vo_inNats {d u:Nat} {ns:List Nat} {k:Nat}:VO2 prog w B d u (compareOp .In) (.int (k:Int)) (.lst (Z0 ns)) (.bool (ns.any (· == k))):=by
 rw [W7];refine vo_is vo_inInts (congrArg AV.bool ?_);rw [List.any_map]
 congr 1
 funext n;show ((n:Int) == (k:Int))=(n == k)
 by_cases h:n=k
 ·rw [h]; simp
 ·rw [beq_false_of_ne h]; exact beq_false_of_ne λq=>h (Int.ofNat_inj.mp q)
theorem YI {ns:List Nat} {k n:Nat} (hl:ns.length=n) (hk:k < n):(Z0 ns)[k]?=some (.int ((ns.getD k 0:Nat):Int)):=by
 have hk':k < ns.length:=hl ▸ hk;rw [Uu,Ui hk'];exact Xf (Ui hk')
theorem strs_getD {xs:List Str} {k n:Nat} (hl:xs.length=n) (hk:k < n):(Z3 xs)[k]?=some (.str (xs.getD k nought)):=by
 have hk':k < xs.length:=hl ▸ hk;rw [Z3,Ul,Uu,Ui hk']; rfl
theorem law_s10 {d u:Nat} (hd':d<=500) (hu:u<=4000) (L:Addr) (c0 c1 c2 c3 c4:Nat) (r:Loc) :
  WS prog w B d u (Zi L) (("cells", .lst (Z0 [c0,c1,c2,c3,c4])) :: r) [] (Ze 10) (Ends λl=>l=setL "basis" (.lst (Z0 (Zg c1))) (("cells", .lst (Z0 [c0,c1,c2,c3,c4])) :: r)):=by
 have h1:(Z0 [c0,c1,c2,c3,c4])[1]?=some (.int (c1:Int)):=rfl;refine s_assign (.inr ⟨rfl,rfl⟩) ?_ rfl;kd_p;refine ⟨Z2 (by rw [hB]; rfl),?_⟩;kd_p;refine ⟨_,_,(vs_nat (k:=1) (by decide) h1 (λ_ _=>rfl)).m,?_⟩;kd_p;refine Xe ((fn_basis c1).low (Uc hd' (by decide)) (Uc hu (by decide))) ?_;rintro _ _ ⟨a,rfl,_,rfl⟩;exact .inr ⟨a,_,rfl,rfl,rfl,rfl,rfl⟩
noncomputable def ZU (bs:List Nat) (mask:Nat):Nat:=xorN ((V1 mask).map λk=>bs.getD k 0)
noncomputable def Zz (bs:List Nat):List Nat:=(Um 16).map (ZU bs)
noncomputable abbrev loc11 (b:Nat) (bs:List Nat) (r:Loc):Loc:=("marks", .lst (Z3 (Zn b))) :: ("words", .lst (X4 b)) :: ("basis", .lst (Z0 bs)) :: r
namespace Olaws11
noncomputable def Px (d u:Nat) (L:Addr) (b:Nat) (bs:List Nat) (r:Loc):Prop:=∀ (hd':d<=500) (hu:u<=4000) (hml:(Zn b).length=4) (hbl:bs.length=4) (hin:∀ mask < 16,∀ k < 4,(Z9 b mask).any (· == (Zn b).getD k nought)=bitN mask k),WS prog w B d u (Zi L) (loc11 b bs r) [] (Ze 11) (Ends λl=>l=setL "order" (.lst (Z0 (Zz bs))) (loc11 b bs r))
noncomputable def Rx (p:Nat × Nat × Addr × Nat × List Nat × Loc):Prop:=Px p.1 p.2.1 p.2.2.1 p.2.2.2.1 p.2.2.2.2.1 p.2.2.2.2.2
noncomputable section
def cx:=eps (neP neNt (neP neNt (neP neNt (neP neNt (neP neL neL))))) Rx
def d:=cx.1
def u:=cx.2.1
def L:=cx.2.2.1
def b:=cx.2.2.2.1
def bs:=cx.2.2.2.2.1
def r:=cx.2.2.2.2.2
end
theorem main:Px d u L b bs r:=by
 intro hd' hu hml hbl hin;obtain ⟨hr1,hr2⟩:=Xv 16 (Ug _);obtain ⟨hq1,hq2⟩:=Xv 4 (by decide);refine XZ _ rfl (.inl rfl) (λ_=>rfl) rfl rfl (by decide) (by keq_rows) rfl (ZG (ZK ?_));kd_p;refine ⟨Z5,?_⟩;kd_p;refine c_fn0D ZS (Ug _) (Ug _) ⟨_,_,_,16,rfl,hr1,hr2,?_⟩;refine ⟨Z0 (Zz bs),by rw [Zm]; rfl,by rw [Zm]; decide,trivial,λL' i a o hx ho=>?_,?_⟩
 ·obtain ⟨hi,rfl⟩:=ZY hx;rw [Z0,Zz,Tc] at ho;obtain rfl:=ZF hi ho;refine ⟨_,Z8 (.inr ⟨rfl,rfl⟩),by keq_hits,?_⟩;kd_p;refine ⟨Z2 (by rw [hB]; rfl),?_⟩;kd_p;refine ZC _ (λ_=>rfl) rfl rfl (by decide) (by keq_rows) rfl (ZD (ZK ?_));kd_p;refine ⟨Z5,?_⟩;kd_p;refine c_fn0D ZS (Ug _) (Ug _) ⟨_,_,_,4,rfl,hq1,hq2,?_⟩;refine ⟨(Um 4).map λk=>if bitN i k then some (AV.int ((bs.getD k 0:Nat):Int)) else none,by rw [Zm]; rfl,by rw [Zm]; decide,trivial,λL2 k a o hx2 ho2=>?_,?_⟩
  ·obtain ⟨hk,rfl⟩:=ZY hx2;obtain rfl:=ZF hk ho2;refine ⟨_,Z8 (.inl rfl),by keq_hits,?_⟩;kd_p;refine ⟨_,_,(vs_nat (U5 hk (by decide)) (strs_getD hml hk) (λ_ _=>rfl)).m,?_⟩;kd_p;have hg:(X4 b)[i]?=some (.lst (Z3 (Z9 b i))):=by rw [X4,Ul,Sa hi]; rfl
   refine ⟨_,_,(vs_nat (U5 hi (by decide)) hg (λ_ _=>rfl)).m,bitN i k,vo_is vo_inStrs (congrArg AV.bool (hin i hi k hk)),?_⟩;refine i_split (λhc=>?_) λhc=>?_
   ·rw [if_pos hc];kd_p;exact ⟨_,_,(vs_nat (U5 hk (by decide)) (YI hbl hk) (λ_ _=>rfl)).m,rfl,rfl⟩
   ·rw [if_neg (by rw [hc]; decide)];exact ⟨rfl,rfl⟩
  ·rw [YS (bitN i) (λk=>AV.int ((bs.getD k 0:Nat):Int))];have e:((Um 4).filter (bitN i)).map (λk=>AV.int ((bs.getD k 0:Nat):Int))=Z0 ((V1 i).map λk=>bs.getD k 0):=by rw [Z0,Tc]; rfl
   rw [e];kd_p;exact c_fn0D (fn_sumN _) (Uc hd' (by decide)) (Uc hu (by decide)) ⟨rfl,rfl⟩
 ·exact ⟨rfl,rfl,rfl⟩
end Olaws11
theorem law_s11 {d u:Nat} (hd':d<=500) (hu:u<=4000) (L:Addr) (b:Nat) (bs:List Nat) (r:Loc) (hml:(Zn b).length=4) (hbl:bs.length=4) (hin:∀ mask < 16,∀ k < 4,(Z9 b mask).any (· == (Zn b).getD k nought)=bitN mask k) :
  WS prog w B d u (Zi L) (loc11 b bs r) [] (Ze 11) (Ends λl=>l=setL "order" (.lst (Z0 (Zz bs))) (loc11 b bs r)):=eps_all Olaws11.Rx Olaws11.main (d,u,L,b,bs,r) hd' hu hml hbl hin
theorem law_s12 {d u:Nat} (L:Addr) (ns:List Nat) (hl:ns.length<=100) (r:Loc) :
  WS prog w B d u (Zi L) (("read", .lst (Z0 ns)) :: r) [] (Ze 12) (Ends λl=>l=setL "few" (.lst (Z0 (ns.map (· % 16)))) (("read", .lst (Z0 ns)) :: r)):=by
 refine s_assign (.inr ⟨rfl,rfl⟩) (ZC _ (λ_=>rfl) rfl rfl (by decide) (by keq_rows) rfl (ZG (Y3 ?_))) rfl;kd_p;refine ⟨_,_,Zk,trivial,Z0 (ns.map (· % 16)),by rw [Z4,Z4,Ut],by rw [Z4]; exact Uc hl (by decide),trivial,λL' i a o hx ho=>?_,?_⟩
 ·obtain ⟨n,hn,rfl⟩:=ZN hx;rw [Z0,Tc,Ul,hn] at ho;obtain rfl:=Up.inj ho;refine ⟨_,Z8 (.inl rfl),by keq_hits,?_⟩;kd_p;exact ⟨_,Y2 (b:=16) (by decide),rfl,rfl⟩
 ·exact ⟨rfl,rfl,rfl⟩
noncomputable def YP (pages:List Str) (li:Nat) (few:List Nat) (mask:Nat):Bool:=decide (Txt.count (pages.getD mask nought) newline < (li:Int)) || few.any (· == mask)
noncomputable def barN (p:Nat->Bool):List Nat:=((Um 15).filter λi=>p (i+1)).map (·+1)
noncomputable abbrev loc13 (pages:List Str) (li:Nat) (few:List Nat) (r:Loc):Loc:=("pages", .lst (Z3 pages)) :: ("limit", .int (li:Int)) :: ("few", .lst (Z0 few)) :: r
theorem rng_mid:Builtin.Range.small 1 16 1=true/\Builtin.Range.rangeSize 1 16 1=((15:Nat):Int):=by decide +kernel
namespace Olaws13
noncomputable def Px (d u:Nat) (L:Addr) (pages:List Str) (li:Nat) (few:List Nat) (r:Loc):Prop:=∀ (hpl:pages.length=16),WS prog w B d u (Zi L) (loc13 pages li few r) [] (Ze 13) (Ends λl=>l=setL "barred" (.lst (Z0 (barN (YP pages li few)))) (loc13 pages li few r))
noncomputable def Rx (p:Nat × Nat × Addr × List Str × Nat × List Nat × Loc):Prop:=Px p.1 p.2.1 p.2.2.1 p.2.2.2.1 p.2.2.2.2.1 p.2.2.2.2.2.1 p.2.2.2.2.2.2
noncomputable section
def cx:=eps (neP neNt (neP neNt (neP neNt (neP neL (neP neNt (neP neL neL)))))) Rx
def d:=cx.1
def u:=cx.2.1
def L:=cx.2.2.1
def pages:=cx.2.2.2.1
def li:=cx.2.2.2.2.1
def few:=cx.2.2.2.2.2.1
def r:=cx.2.2.2.2.2.2
end
theorem main:Px d u L pages li few r:=by
 intro hpl;obtain ⟨hr1,hr2⟩:=rng_mid;refine XZ _ rfl (.inl rfl) (λ_=>rfl) rfl rfl (by decide) (by keq_rows) rfl (ZD (ZK ?_));kd_p;refine ⟨Z5,?_⟩;kd_p;refine c_fn0D f_range2 (Ug _) (Ug _) ⟨_,_,_,15,rfl,hr1,hr2,?_⟩;refine ⟨(Um 15).map λi=>if YP pages li few (i+1) then some (AV.int ((i+1:Nat):Int)) else none,by rw [Zm]; rfl,by rw [Zm]; decide,trivial,λL2 k a o hx2 ho2=>?_,?_⟩
 ·obtain ⟨hk,rfl⟩:=XS hx2;obtain rfl:=ZF hk ho2;rw [show ((1:Int)+(k:Int)*1)=((k+1:Nat):Int) by exact ar45];refine ⟨_,Z8 (.inl rfl),by keq_hits,?_⟩;kd_p;refine ⟨_,_,(vs_nat (U9 (Nat.succ_lt_succ hk) (by decide)) (strs_getD hpl (Nat.succ_lt_succ hk)) (λ_ _=>rfl)).m,?_⟩;refine ⟨_,Xg λA Er s t pl Q q=>PySem.GM.count q,callee_builtin,?_⟩;kd_p;refine c_fn0D f_count (Ug _) (Ug _) ?_;kd_p;refine ⟨_,vo_lt,i_split (λhc=>?_) λhc=>?_⟩
  ·have hb:YP pages li few (k+1)=true:=by rw [YP,hc]; rfl
   rw [if_pos hb];refine i_true rfl ?_;kd_p;exact ⟨rfl,rfl⟩
  ·kd_p;refine ⟨_,vo_inNats,i_split (λh2=>?_) λh2=>?_⟩
   ·have hb:YP pages li few (k+1)=true:=by rw [YP,hc]; exact h2
    rw [if_pos hb];kd_p;exact ⟨rfl,rfl⟩
   ·have hb:¬ YP pages li few (k+1)=true:=by rw [YP,hc,h2]; decide
    rw [if_neg hb];exact ⟨rfl,rfl⟩
 ·rw [YS (λi=>YP pages li few (i+1)) (λi:Nat=>AV.int ((i+1:Nat):Int))];have e:((Um 15).filter λi=>YP pages li few (i+1)).map (λi:Nat=>AV.int ((i+1:Nat):Int))=Z0 (barN (YP pages li few)):=by rw [Z0,barN,Tc]; rfl
  rw [e];exact ⟨rfl,rfl,rfl⟩
end Olaws13
theorem law_s13 {d u:Nat} (L:Addr) (pages:List Str) (hpl:pages.length=16) (li:Nat) (few:List Nat) (r:Loc) :
  WS prog w B d u (Zi L) (loc13 pages li few r) [] (Ze 13) (Ends λl=>l=setL "barred" (.lst (Z0 (barN (YP pages li few)))) (loc13 pages li few r)):=eps_all Olaws13.Rx Olaws13.main (d,u,L,pages,li,few,r) hpl
theorem law_s14 {d u:Nat} (hd':d<=500) (hu:u<=4000) (L:Addr) (ord brd:List Nat) (hol:ord.length=16) (hbl:brd.length<=2 ^ 16) (hbs:(ofN brd).Pairwise (·<=·)) (r:Loc) :
  WS prog w B d u (Zi L) (("order", .lst (Z0 ord)) :: ("barred", .lst (Z0 brd)) :: r) [] (Ze 14) (Ends λl=>l=setL "table" (.lst (Z0 (Zv ord brd 16))) (("order", .lst (Z0 ord)) :: ("barred", .lst (Z0 brd)) :: r)):=by
 refine s_assign (.inr ⟨rfl,rfl⟩) ?_ rfl;kd_p;refine ⟨Z2 (by rw [hB]; rfl),?_⟩;kd_p;refine Xe ((fn_kept ord brd (by rw [hol]; decide) hbl hbs).low hd' hu) ?_;rintro _ _ ⟨a,rfl,_,rfl⟩;rw [hol];exact .inr ⟨a,_,rfl,rfl,rfl,rfl,rfl⟩
end
section
open PySem PySem.W PyProof.Rows PySem.Calls Builtin
theorem fn_foundN (l:List Nat) (x:Nat) (hs:l.length<=2 ^ 20) (hp:(ofN l).Pairwise (·<=·)) :
  FN prog w B 600 6000 (.ref 278) [.lst (Z0 l), .int (x:Int)] [] [] (λav m ex=>av=.int ((cntR (ofN l) x:Int) - (cntL (ofN l) x:Int))/\m=[]/\ex=[]):=by
 rw [<- ofN_A l]; exact fn_found _ _ (by rw [ofN,Ut]; exact hs) hp
noncomputable abbrev loc15 (kep:List Nat) (r:Loc):Loc:=("table", .lst (Z0 kep)) :: r
namespace Olaws15
noncomputable def Px (d u:Nat) (L:Addr) (kep:List Nat) (r:Loc):Prop:=∀ (hd':d<=500) (hu:u<=4000) (hkl:kep.length<=16) (hks:(ofN kep).Pairwise (·<=·)) (hf:∀ a ∈ kep,∀ b ∈ kep,(cntR (ofN kep) ((a^^^b:Nat):Int):Int) - (cntL (ofN kep) ((a^^^b:Nat):Int):Int)=1),WS prog w B d u (Zi L) (loc15 kep r) [] (Ze 15) (Ends λl=>l=loc15 kep r)
noncomputable def Rx (p:Nat × Nat × Addr × List Nat × Loc):Prop:=Px p.1 p.2.1 p.2.2.1 p.2.2.2.1 p.2.2.2.2
noncomputable section
def cx:=eps (neP neNt (neP neNt (neP neNt (neP neL neL)))) Rx
def d:=cx.1
def u:=cx.2.1
def L:=cx.2.2.1
def kep:=cx.2.2.2.1
def r:=cx.2.2.2.2
end
theorem main:Px d u L kep r:=by
 intro hd' hu hkl hks hf;have hu':u+64 < cLine:=Uo (Uv hu 64) (by decide);have hk20:kep.length<=2 ^ 20:=Uc hkl (by decide);refine s_if ?_;kd_p;refine e_comp2 _ (λ_=>rfl) (λ_ _=>rfl) rfl rfl (by decide) (by keq_rows) rfl (Xc (Xo (λ_=>rfl) (λ_=>rfl) ?_));kd_p;refine ⟨rfl,?_⟩;kd_p;refine ⟨_,_,Zk,trivial,Te kep.length [],by rw [Zx,Z4,List.length_replicate],trivial,λL' i a o hx ho=>?_,?_⟩
 ·obtain ⟨one,h1,rfl⟩:=Yi hx;have hone:=Uk h1;obtain rfl:=T4 (Uk ho);refine ⟨_,Y8 (.inl rfl) (.inl rfl),wu_nestF (by keq_hits) (Y3 ?_)⟩;kd_p;refine Yc ?_;kd_p;refine ⟨some (i:Int),none,none,rfl,rfl,rfl,?_⟩;refine ⟨_,_,(Yq (by decide) (by rw [Z4]; exact hk20) (λ_ _=>⟨_,rfl⟩) (λ_ _=>rfl)).m,?_⟩;rw [Wk,Wr];have hfl:((Te kep.length ([]:List AV)).take i).flatten=[]:=List.flatten_eq_nil_iff.mpr λl hl=>T4 (List.mem_of_mem_take hl);have hdl:(kep.drop i).length<=16:=by rw [Sz]; exact Uc (Nat.sub_le _ _) hkl
  refine ⟨_,_,Zk,trivial,Te (kep.drop i).length none,by rw [Z4,List.length_replicate],by rw [hfl,Z4]; exact Uo (Tu hdl 0) (by decide),rfl,trivial,λj b o hx2 ho2=>?_,?_⟩
  ·obtain ⟨two,h2,rfl⟩:=ZN hx2;have htwo:=List.mem_of_mem_drop (Uk h2);obtain rfl:=T4 (Uk ho2);refine ⟨_,Z8 (.inl rfl),by keq_hits,?_⟩;kd_p;refine ⟨Z2 (by rw [hB]; rfl),?_⟩;kd_p;refine ⟨_,vn_xor,?_⟩;kd_p;refine c_fn0D (fn_foundN kep (one^^^two) hk20 hks) (Uc hd' (by decide)) (Uc hu (by decide)) ?_;kd_p;refine ⟨false,vo_is vo_ne (by rw [hf one hone two htwo]; rfl),?_⟩;exact ⟨rfl,rfl⟩
  ·refine ⟨rfl,?_⟩
   congr 1
   rw [List.filterMap_eq_nil_iff];exact λx hx=>by rw [T4 hx]; rfl
 ·have hfl:(Te kep.length ([]:List AV)).flatten=[]:=List.flatten_eq_nil_iff.mpr λl hl=>T4 hl;rw [hfl];refine Yg ?_;kd_p;refine ⟨by decide,false,vo_is (Wg (λa ha=>nomatch ha) (λa ha=>nomatch ha) hu') (Xw rfl),i_false rfl ?_⟩;kd_p;exact ⟨rfl,rfl,rfl⟩
end Olaws15
theorem law_s15 {d u:Nat} (hd':d<=500) (hu:u<=4000) (L:Addr) (kep:List Nat) (hkl:kep.length<=16) (hks:(ofN kep).Pairwise (·<=·)) (hf:∀ a ∈ kep,∀ b ∈ kep,(cntR (ofN kep) ((a^^^b:Nat):Int):Int) - (cntL (ofN kep) ((a^^^b:Nat):Int):Int)=1) (r:Loc) :
  WS prog w B d u (Zi L) (loc15 kep r) [] (Ze 15) (Ends λl=>l=loc15 kep r):=eps_all Olaws15.Rx Olaws15.main (d,u,L,kep,r) hd' hu hkl hks hf
theorem law_s16 {d u:Nat} (hd':d<=500) (hu:u<=4000) (L:Addr) (ord brd:List Nat) (hol:ord.length=16) (hox:∀ x ∈ ord,x < 16) (hbl:brd.length<=2 ^ 16) (r:Loc) :
  WS prog w B d u (Zi L) (("order", .lst (Z0 ord)) :: ("barred", .lst (Z0 brd)) :: r) [] (Ze 16) (Ends λl=>l=setL "worths" (.lst (Z0 (Zc ord brd 16))) (("order", .lst (Z0 ord)) :: ("barred", .lst (Z0 brd)) :: r)):=by
 refine s_assign (.inr ⟨rfl,rfl⟩) ?_ rfl;kd_p;refine ⟨Z2 (by rw [hB]; rfl),?_⟩;kd_p;refine Xe ((fn_worths ord brd (Us hol) hox hbl).low hd' hu) ?_;rintro _ _ ⟨a,rfl,_,rfl⟩;rw [hol];exact .inr ⟨a,_,rfl,rfl,rfl,rfl,rfl⟩
noncomputable def gN (wor:List Nat) (x:Nat):Nat:=wor.getD x 0
noncomputable abbrev loc17 (ord wor:List Nat) (r:Loc):Loc:=("order", .lst (Z0 ord)) :: ("worths", .lst (Z0 wor)) :: r
theorem law_s17 {d u:Nat} (hd':d<=500) (hu:u<=4000) (L:Addr) (ord wor:List Nat) (hol:ord.length=16) (hox:∀ x ∈ ord,x < 16) (hwl:wor.length=16) (r:Loc) :
  WS prog w B d u (Zi L) (loc17 ord wor r) [] (Ze 17) (Ends λl=>l=setL "classes" (.lst (Zw (Zf ord (gN wor) 16))) (loc17 ord wor r)):=by
 refine s_assign (.inr ⟨rfl,rfl⟩) ?_ rfl;kd_p;refine ⟨Z2 (by rw [hB]; rfl),?_⟩;kd_p;refine Xe ((fn_classes ord wor (gN wor) (by rw [hol]; decide) (λx hx=>?_) λx hx=>U5 (hox x hx) (by decide)).low hd' hu) ?_
 ·have:=hox x hx;rw [gN,Uu,Ui (hwl ▸ this)]; rfl
 rintro _ _ ⟨a,rfl,_,rfl⟩;rw [hol];exact .inr ⟨a,_,rfl,rfl,rfl,rfl,rfl⟩
noncomputable def oddN (i:Nat):Bool:=i / 2 % 2 != 0
noncomputable def laidA (ord:List Nat):List Nat:=((Um 16).filter oddN).map λi=>ord.getD i 0
noncomputable def laidB (ord:List Nat):List Nat:=((Um 16).filter λi=>i / 2 % 2 == 0).map λi=>ord.getD i 0
noncomputable def laidN (ord:List Nat):List Nat:=ZM (laidA ord) none none (some (-1))++laidB ord
theorem laidA_len (ord:List Nat):(laidA ord).length=8:=by rw [laidA,Ut]; decide
theorem enum16 {ord:List Nat} (hol:ord.length=16) {i:Nat} {a:AV} (h:(X7 0 (Z0 ord))[i]?=some a):i < 16/\a=.tup [.int ((i:Nat):Int), .int ((ord.getD i 0:Nat):Int)]:=by
 have:=Vu h
 rwa [hol] at this
theorem filt_N (p:Nat->Bool) (f:Nat->Nat) (l:List Nat):(l.filter p).map (λi=>AV.int ((f i:Nat):Int))=Z0 ((l.filter p).map f):=by rw [Z0,Tc]; rfl
namespace Olaws18
noncomputable def Px (d u:Nat) (L:Addr) (ord:List Nat) (r:Loc):Prop:=∀ (hol:ord.length=16) (hpl:(ZM (laidA ord) none none (some (-1))).length=8),WS prog w B d u (Zi L) (("order", .lst (Z0 ord)) :: r) [] (Ze 18) (Ends λl=>l=setL "laid" (.lst (Z0 (laidN ord))) (("order", .lst (Z0 ord)) :: r))
noncomputable def Rx (p:Nat × Nat × Addr × List Nat × Loc):Prop:=Px p.1 p.2.1 p.2.2.1 p.2.2.2.1 p.2.2.2.2
noncomputable section
def cx:=eps (neP neNt (neP neNt (neP neNt (neP neL neL)))) Rx
def d:=cx.1
def u:=cx.2.1
def L:=cx.2.2.1
def ord:=cx.2.2.2.1
def r:=cx.2.2.2.2
end
theorem main:Px d u L ord r:=by
 intro hol hpl;refine s_assign (.inr ⟨rfl,rfl⟩) ?_ rfl;kd_p;refine ZC _ (λ_=>rfl) rfl rfl (by decide) (by keq_rows) rfl (ZD (Xo (λ_=>rfl) (λ_=>rfl) ?_));kd_p;refine ⟨rfl,?_⟩;kd_p;refine ⟨_,_,Zk,trivial,(Um 16).map λi=>if oddN i then some (AV.int ((ord.getD i 0:Nat):Int)) else none,by rw [Zx,Z4,hol]; rfl,by rw [Zx,Z4,hol]; decide,trivial,λL' i a o hx ho=>?_,?_⟩
 ·obtain ⟨hi,rfl⟩:=enum16 hol hx;obtain rfl:=ZF hi ho;refine ⟨_,Y8 (.inl rfl) (.inl rfl),by keq_hits,?_⟩;refine Y0 ?_ (λ_=>rfl);kd_p;refine ⟨_,Xy (b:=2) (by decide) (by decide),?_⟩;kd_p;refine ⟨_,Y2 (b:=2) (by decide),_,XT,i_split (λhc=>?_) λhc=>?_⟩
  ·have hc':oddN i=true:=hc;rw [if_pos hc'];kd_p;exact ⟨rfl,rfl⟩
  ·have hc':oddN i=false:=hc;rw [hc'];exact ⟨rfl,rfl⟩
 ·rw [YS oddN (λi=>AV.int ((ord.getD i 0:Nat):Int)),filt_N];refine Yc ?_;kd_p;refine ⟨_,Xx,?_⟩;refine ⟨none,none,some (-1),rfl,rfl,rfl,?_⟩;refine ⟨_,_,(vs_tmp (x := "x") (p:=default) (Yq (by decide) (by rw [Z4]; exact Uc (Us (laidA_len ord)) (by decide)) (λ_ _=>⟨_,rfl⟩) (λ_ _=>rfl))).m,?_⟩;rw [Wk];refine ZC _ (λ_=>rfl) rfl rfl (by decide) (by keq_rows) rfl (ZD (Xo (λ_=>rfl) (λ_=>rfl) ?_));kd_p;refine ⟨rfl,?_⟩;kd_p;refine ⟨_,_,Zk,trivial,(Um 16).map λi=>if i / 2 % 2 == 0 then some (AV.int ((ord.getD i 0:Nat):Int)) else none,by rw [Zx,Z4,hol]; rfl,by rw [Zx,Z4,hol]; decide,trivial,λL' i a o hx ho=>?_,?_⟩
  ·obtain ⟨hi,rfl⟩:=enum16 hol hx;obtain rfl:=ZF hi ho;refine ⟨_,Y8 (.inl rfl) (.inl rfl),by keq_hits,?_⟩;kd_p;refine ⟨_,Xy (b:=2) (by decide) (by decide),?_⟩;kd_p;refine ⟨_,Y2 (b:=2) (by decide),?_⟩;kd_p;refine ⟨_,vn_eq (b:=0),i_split (λhc=>?_) λhc=>?_⟩
   ·rw [if_pos hc];kd_p;exact ⟨rfl,rfl⟩
   ·rw [hc];exact ⟨rfl,rfl⟩
  ·rw [YS (λi=>i / 2 % 2 == 0) (λi=>AV.int ((ord.getD i 0:Nat):Int)),filt_N];have hbl:(laidB ord).length=8:=by rw [laidB,Ut]; decide
   refine ⟨_,VQ (by rw [Z4]; exact Uc (Us hpl) (by decide)) (by rw [Z4]; exact Uc (Us hbl) (by decide)),?_⟩;refine ⟨rfl,?_,rfl⟩;rw [laidN,Z0,Z0,Z0,Tv]; rfl
end Olaws18
theorem law_s18 {d u:Nat} (L:Addr) (ord:List Nat) (hol:ord.length=16) (hpl:(ZM (laidA ord) none none (some (-1))).length=8) (r:Loc) :
  WS prog w B d u (Zi L) (("order", .lst (Z0 ord)) :: r) [] (Ze 18) (Ends λl=>l=setL "laid" (.lst (Z0 (laidN ord))) (("order", .lst (Z0 ord)) :: r)):=eps_all Olaws18.Rx Olaws18.main (d,u,L,ord,r) hol hpl
end
section
open PySem PySem.W PyProof.Rows PySem.Calls Builtin
theorem eq_same {p:Prop} {i:Decidable p} (h:p):AV.bool (@decide p i)=.bool true:=by rw [@decide_eq_true p i h]
noncomputable def Vz (wor lai:List Nat):List (Nat × Nat):=((Um 16).map λwo=>(lai.filter λx=>gN wor x == wo).map λx=>(wo,x)).flatten
theorem pairs_ok {ps:List (Nat × Nat)} {k:Nat}:∀ a ∈ Zw ps,kqdOk (k+1) (toD a)=true:=λa ha=>by
 obtain ⟨p,hp,rfl⟩:=Uq.mp ha
 cases k <;> rfl
noncomputable abbrev loc19 (wor lai:List Nat) (cls:List (Nat × Nat)) (r:Loc):Loc:=("worths", .lst (Z0 wor)) :: ("classes", .lst (Zw cls)) :: ("laid", .lst (Z0 lai)) :: r
namespace Olaws19
noncomputable def Px (d u:Nat) (L:Addr) (wor lai:List Nat) (r:Loc):Prop:=∀ (hd':d<=500) (hu:u<=4000) (hwl:wor.length=16) (hll:lai.length=16) (hlx:∀ x ∈ lai,x < 16),WS prog w B d u (Zi L) (loc19 wor lai (Vz wor lai) r) [] (Ze 19) (Ends λl=>l=loc19 wor lai (Vz wor lai) r)
noncomputable def Rx (p:Nat × Nat × Addr × List Nat × List Nat × Loc):Prop:=Px p.1 p.2.1 p.2.2.1 p.2.2.2.1 p.2.2.2.2.1 p.2.2.2.2.2
noncomputable section
def cx:=eps (neP neNt (neP neNt (neP neNt (neP neL (neP neL neL))))) Rx
def d:=cx.1
def u:=cx.2.1
def L:=cx.2.2.1
def wor:=cx.2.2.2.1
def lai:=cx.2.2.2.2.1
def r:=cx.2.2.2.2.2
end
theorem main:Px d u L wor lai r:=by
 intro hd' hu hwl hll hlx;have hu':u+64 < cLine:=Uo (Uv hu 64) (by decide);obtain ⟨hr1,hr2⟩:=Xv 16 (Ug _);refine s_if ?_;kd_p;refine e_comp2 _ (λ_=>rfl) (λ_ _=>rfl) rfl rfl (by decide) (by keq_rows) rfl (Xc (ZK ?_));kd_p;refine ⟨Z5,?_⟩;kd_p;refine c_fn0D ZS (Ug _) (Ug _) ⟨_,_,_,16,rfl,hr1,hr2,?_⟩;refine ⟨(Um 16).map λwo=>Zw ((lai.filter λx=>gN wor x == wo).map λx=>(wo,x)),by rw [Zm]; rfl,trivial,λL' i a o hx ho=>?_,?_⟩
 ·obtain ⟨hi,rfl⟩:=ZY hx;obtain rfl:=ZF hi ho
  have hys:(((Um 16).map λwo=>Zw ((lai.filter λx=>gN wor x == wo).map λx=>(wo,x))).take i).flatten.length<=16*16:=by
   rw [List.length_flatten];refine Uc (sum_le (c:=16) λn hn=>?_) (Sw 16 ?_)
   ·obtain ⟨l,hl,rfl⟩:=Uq.mp hn;obtain ⟨wo,_,rfl⟩:=Uq.mp (List.mem_of_mem_take hl);rw [Zw,Ut,Ut];exact Uc (T5 _ _) (Us hll)
   ·rw [Ut,Ti,Ut,Sx]; exact Sq _ _
  refine ⟨_,Z8 (.inl rfl),wu_nestF (by keq_hits) (Y3 ?_)⟩;kd_p;refine ⟨_,_,Zk,trivial,lai.map λx=>if gN wor x == i then some (Yp (i,x)) else none,by rw [Z4,Ut],by rw [Z4,hll]; exact Uo (Uv hys 16) (by decide),rfl,trivial,λj b o hx2 ho2=>?_,?_⟩
  ·obtain ⟨x,hxl,rfl⟩:=ZN hx2;have hx16:=hlx x (Uk hxl)
   obtain rfl:(if (gN wor x == i)=true then some (Yp (i,x)) else none)=o:=by
    rw [Ul,hxl] at ho2; exact Up.inj ho2
   refine ⟨_,Z8 (.inl rfl),by keq_hits,?_⟩;kd_p;refine ⟨_,_,(vs_nat (U5 hx16 (by decide)) (YI hwl hx16) (λ_ _=>rfl)).m,?_⟩;kd_p;refine ⟨_,vn_eq,i_split (λhc=>?_) λhc=>?_⟩
   ·have hc':(gN wor x == i)=true:=hc;rw [if_pos hc'];refine WM ?_;kd_p;exact ⟨by show 2<=2 ^ 20; decide,rfl,rfl⟩
   ·have hc':(gN wor x == i)=false:=hc;rw [hc'];exact ⟨rfl,rfl⟩
  ·refine ⟨rfl,?_⟩;rw [YS (λx=>gN wor x == i) (λx=>Yp (i,x)),Zw,Tc]; rfl
 ·have e:((Um 16).map λwo=>Zw ((lai.filter λx=>gN wor x == wo).map λx=>(wo,x))).flatten=Zw (Vz wor lai):=by
   rw [Vz,Zw,List.map_flatten,Tc]; rfl
  rw [e];refine ⟨false,vo_is (Wg pairs_ok pairs_ok hu') (Xw rfl),i_false rfl ?_⟩;kd_p;exact ⟨rfl,rfl,rfl⟩
end Olaws19
theorem law_s19 {d u:Nat} (hd':d<=500) (hu:u<=4000) (L:Addr) (wor lai:List Nat) (hwl:wor.length=16) (hll:lai.length=16) (hlx:∀ x ∈ lai,x < 16) (r:Loc) :
  WS prog w B d u (Zi L) (loc19 wor lai (Vz wor lai) r) [] (Ze 19) (Ends λl=>l=loc19 wor lai (Vz wor lai) r):=eps_all Olaws19.Rx Olaws19.main (d,u,L,wor,lai,r) hd' hu hwl hll hlx
noncomputable abbrev loc20 (wor kep:List Nat) (cls:List (Nat × Nat)) (r:Loc):Loc:=("worths", .lst (Z0 wor)) :: ("classes", .lst (Zw cls)) :: ("table", .lst (Z0 kep)) :: r
namespace Olaws20
noncomputable def Px (d u:Nat) (L:Addr) (wor kep:List Nat) (cls:List (Nat × Nat)) (r:Loc):Prop:=∀ (hd':d<=500) (hu:u<=4000) (hwl:wor.length=16) (hcl:cls.length<=2 ^ 16) (hcs:(Zl cls).Pairwise (·<=·)) (hkl:kep.length<=16) (ht:∀ wo ∈ wor,(cntR (Zl cls) (wo:Int):Int) - (cntL (Zl cls) (wo:Int):Int)=(kep.length:Int)),WS prog w B d u (Zi L) (loc20 wor kep cls r) [] (Ze 20) (Ends λl=>l=loc20 wor kep cls r)
noncomputable def Rx (p:Nat × Nat × Addr × List Nat × List Nat × (List (Nat × Nat)) × Loc):Prop:=Px p.1 p.2.1 p.2.2.1 p.2.2.2.1 p.2.2.2.2.1 p.2.2.2.2.2.1 p.2.2.2.2.2.2
noncomputable section
def cx:=eps (neP neNt (neP neNt (neP neNt (neP neL (neP neL (neP neL neL)))))) Rx
def d:=cx.1
def u:=cx.2.1
def L:=cx.2.2.1
def wor:=cx.2.2.2.1
def kep:=cx.2.2.2.2.1
def cls:=cx.2.2.2.2.2.1
def r:=cx.2.2.2.2.2.2
end
theorem main:Px d u L wor kep cls r:=by
 intro hd' hu hwl hcl hcs hkl ht;have hu':u+64 < cLine:=Uo (Uv hu 64) (by decide);refine s_if ?_;kd_p;refine ZC _ (λ_=>rfl) rfl rfl (by decide) (by keq_rows) rfl (ZD (Y3 ?_));kd_p;refine ⟨callee_builtin,?_⟩;kd_p;refine ⟨Z5,?_⟩;kd_p;have es:Z0 wor=(wor.map λn:Nat=>(n:Int)).map AV.int:=W7 wor;refine c_fn0D (a:=setA prog w (wor.map λn:Nat=>(n:Int))) (es ▸ f_set (by rw [Ut,hwl]; decide)) (Ug _) (Ug _) ?_;kd_p;refine Xe f_sorted ?_;rintro _ _ ⟨⟨ms,rfl,hs,hm⟩,_,rfl⟩;refine .inl ⟨rfl,?_⟩
 have hml:ms.length<=16:=by
  have h1:ms.Nodup:=hs.imp λh=>Int.ne_of_lt h;have h2:=List.Nodup.length_le_of_subset h1 (l₂:=wor.map λn:Nat=>(n:Int)) λz hz=>(hm z).mp hz;rw [Ut,hwl] at h2;exact h2
 refine ⟨_,_,Zk,trivial,Te ms.length none,by rw [Ut,List.length_replicate],by rw [Ut]; exact Uc hml (by decide),trivial,λL' i a o hx ho=>?_,?_⟩
 ·obtain rfl:=T4 (Uk ho);obtain ⟨z,hz,rfl⟩:∃ z,z ∈ ms/\AV.int z=a:=Uq.mp (Uk hx);obtain ⟨wo,hwo,rfl⟩:=Uq.mp ((hm z).mp hz);refine ⟨_,Z8 (.inl rfl),by keq_hits,?_⟩;kd_p;refine ⟨Z2 (by rw [hB]; rfl),?_⟩;kd_p;refine c_fn0D (fn_times cls wo (Uc hcl (by decide)) hcs) (Uc hd' (by decide)) (Uc hu (by decide)) ?_;kd_p;refine ⟨callee_builtin,?_⟩;kd_p;refine c_fn0D (f_len (by rw [Z4]; exact Uo hkl (by decide))) (Ug _) (Ug _) ?_;refine ⟨false,vo_is vo_ne (by rw [ht wo hwo,Z4]; simp),?_⟩;exact ⟨rfl,rfl⟩
 ·have hfl:(Te ms.length (none:Option AV)).filterMap id=[]:=by
   rw [List.filterMap_eq_nil_iff];exact λx hx=>by rw [T4 hx]; rfl
  rw [hfl];refine Yg ?_;kd_p;refine ⟨by decide,false,vo_is (Wg (λa ha=>nomatch ha) (λa ha=>nomatch ha) hu') (Xw rfl),i_false rfl ?_⟩;kd_p;exact ⟨rfl,rfl,rfl⟩
end Olaws20
theorem law_s20 {d u:Nat} (hd':d<=500) (hu:u<=4000) (L:Addr) (wor kep:List Nat) (cls:List (Nat × Nat)) (hwl:wor.length=16) (hcl:cls.length<=2 ^ 16) (hcs:(Zl cls).Pairwise (·<=·)) (hkl:kep.length<=16)
  (ht:∀ wo ∈ wor,(cntR (Zl cls) (wo:Int):Int) - (cntL (Zl cls) (wo:Int):Int)=(kep.length:Int)) (r:Loc) :
  WS prog w B d u (Zi L) (loc20 wor kep cls r) [] (Ze 20) (Ends λl=>l=loc20 wor kep cls r):=eps_all Olaws20.Rx Olaws20.main (d,u,L,wor,kep,cls,r) hd' hu hwl hcl hcs hkl ht
noncomputable def Y7 (wor:List Nat):List Nat:=(Um 16).filter λx=>gN wor x == 0
noncomputable abbrev loc21 (wor kep:List Nat) (r:Loc):Loc:=("worths", .lst (Z0 wor)) :: ("table", .lst (Z0 kep)) :: r
theorem law_s21 {d u:Nat} (hd':d<=500) (hu:u<=4000) (L:Addr) (wor:List Nat) (hwl:wor.length=16) (r:Loc) :
  WS prog w B d u (Zi L) (loc21 wor (Y7 wor) r) [] (Ze 21) (Ends λl=>l=loc21 wor (Y7 wor) r):=by
 have hu':u+64 < cLine:=Uo (Uv hu 64) (by decide);obtain ⟨hr1,hr2⟩:=Xv 16 (Ug _);refine s_if ?_;kd_p;refine ZC _ (λ_=>rfl) rfl rfl (by decide) (by keq_rows) rfl (ZD (ZK ?_));kd_p;refine ⟨Z5,?_⟩;kd_p;refine c_fn0D ZS (Ug _) (Ug _) ⟨_,_,_,16,rfl,hr1,hr2,?_⟩;refine ⟨(Um 16).map λx=>if gN wor x == 0 then some (AV.int ((x:Nat):Int)) else none,by rw [Zm]; rfl,by rw [Zm]; decide,trivial,λL2 k a o hx2 ho2=>?_,?_⟩
 ·obtain ⟨hk,rfl⟩:=ZY hx2;obtain rfl:=ZF hk ho2;refine ⟨_,Z8 (.inl rfl),by keq_hits,?_⟩;kd_p;refine ⟨_,_,(vs_nat (U5 hk (by decide)) (YI hwl hk) (λ_ _=>rfl)).m,?_⟩;kd_p;refine ⟨_,vn_eq (b:=0),i_split (λhc=>?_) λhc=>?_⟩
  ·have hc':(gN wor k == 0)=true:=hc;rw [if_pos hc'];kd_p;exact ⟨rfl,rfl⟩
  ·have hc':(gN wor k == 0)=false:=hc;rw [hc'];exact ⟨rfl,rfl⟩
 ·rw [YS (λx=>gN wor x == 0) (λx:Nat=>AV.int ((x:Nat):Int))];refine ⟨false,vo_is (Wg (YM (ns:=Y7 wor)) (YM (ns:=Y7 wor)) hu') (Xw rfl),i_false rfl ?_⟩;kd_p;exact ⟨rfl,rfl,rfl⟩
noncomputable def dueOf (bs wor:List Nat) (mask:Nat):Nat:=xorN ((V1 mask).map λk=>gN wor (bs.getD k 0))
noncomputable def duesN (bs wor:List Nat):List Nat:=(Um 16).map (dueOf bs wor)
noncomputable abbrev loc22 (bs wor:List Nat) (r:Loc):Loc:=("worths", .lst (Z0 wor)) :: ("basis", .lst (Z0 bs)) :: r
theorem law_s22 {d u:Nat} (hd':d<=500) (hu:u<=4000) (L:Addr) (bs wor:List Nat) (hbl:bs.length=4) (hbx:∀ k < 4,bs.getD k 0 < 16) (hwl:wor.length=16) (r:Loc) :
  WS prog w B d u (Zi L) (loc22 bs wor r) [] (Ze 22) (Ends λl=>l=setL "dues" (.lst (Z0 (duesN bs wor))) (loc22 bs wor r)):=by
 obtain ⟨hr1,hr2⟩:=Xv 16 (Ug _);obtain ⟨hq1,hq2⟩:=Xv 4 (by decide);refine XZ _ rfl (.inl rfl) (λ_=>rfl) rfl rfl (by decide) (by keq_rows) rfl (ZG (ZK ?_));kd_p;refine ⟨Z5,?_⟩;kd_p;refine c_fn0D ZS (Ug _) (Ug _) ⟨_,_,_,16,rfl,hr1,hr2,?_⟩;refine ⟨Z0 (duesN bs wor),by rw [Zm]; rfl,by rw [Zm]; decide,trivial,λL' i a o hx ho=>?_,?_⟩
 ·obtain ⟨hi,rfl⟩:=ZY hx;rw [Z0,duesN,Tc] at ho;obtain rfl:=ZF hi ho;refine ⟨_,Z8 (.inr ⟨rfl,rfl⟩),by keq_hits,?_⟩;kd_p;refine ⟨Z2 (by rw [hB]; rfl),?_⟩;kd_p;refine ZC _ (λ_=>rfl) rfl rfl (by decide) (by keq_rows) rfl (ZD (ZK ?_));kd_p;refine ⟨Z5,?_⟩;kd_p;refine c_fn0D ZS (Ug _) (Ug _) ⟨_,_,_,4,rfl,hq1,hq2,?_⟩;refine ⟨(Um 4).map λk=>if bitN i k then some (AV.int ((gN wor (bs.getD k 0):Nat):Int)) else none,by rw [Zm]; rfl,by rw [Zm]; decide,trivial,λL2 k a o hx2 ho2=>?_,?_⟩
  ·obtain ⟨hk,rfl⟩:=ZY hx2;obtain rfl:=ZF hk ho2;refine ⟨_,Z8 (.inl rfl),by keq_hits,?_⟩;refine Y0 ?_ (λ_=>rfl);kd_p;refine ⟨_,vn_shr,?_⟩;kd_p;refine ⟨_,Vg (b:=1),_,XT,?_⟩;refine i_split (λhc=>?_) λhc=>?_
   ·have hc':bitN i k=true:=hc;rw [if_pos hc'];kd_p;refine ⟨_,_,(vs_nat (U5 hk (by decide)) (YI hbl hk) (λ_ _=>rfl)).m,?_⟩;exact ⟨_,_,(vs_nat (U5 (hbx k hk) (by decide)) (YI hwl (hbx k hk)) (λ_ _=>rfl)).m,rfl,rfl⟩
   ·have hc':bitN i k=false:=hc;rw [hc'];exact ⟨rfl,rfl⟩
  ·rw [YS (bitN i) (λk=>AV.int ((gN wor (bs.getD k 0):Nat):Int)),filt_N];kd_p;exact c_fn0D (fn_sumN _) (Uc hd' (by decide)) (Uc hu (by decide)) ⟨rfl,rfl⟩
 ·exact ⟨rfl,rfl,rfl⟩
noncomputable abbrev loc23 (ord wor due:List Nat) (r:Loc):Loc:=("order", .lst (Z0 ord)) :: ("worths", .lst (Z0 wor)) :: ("dues", .lst (Z0 due)) :: r
theorem law_s23 {d u:Nat} (hd':d<=500) (hu:u<=4000) (L:Addr) (ord wor:List Nat) (hol:ord.length=16) (hox:∀ x ∈ ord,x < 16) (hwl:wor.length=16) (r:Loc) :
  WS prog w B d u (Zi L) (loc23 ord wor (ord.map (gN wor)) r) [] (Ze 23) (λf l m=>f=.ret (.bool true)/\m=[]):=by
 have hu':u+64 < cLine:=Uo (Uv hu 64) (by decide);refine s_return ?_;kd_p;refine ZC _ (λ_=>rfl) rfl rfl (by decide) (by keq_rows) rfl (ZG (Y3 ?_));kd_p;refine ⟨_,_,Zk,trivial,Z0 (ord.map (gN wor)),by rw [Z4,Z4,Ut],by rw [Z4,hol]; decide,trivial,λL' i a o hx ho=>?_,?_⟩
 ·obtain ⟨x,hxl,rfl⟩:=ZN hx;have hx16:=hox x (Uk hxl);rw [Z0,Tc,Ul,hxl] at ho;obtain rfl:=Up.inj ho;refine ⟨_,Z8 (.inl rfl),by keq_hits,?_⟩;kd_p;exact ⟨_,_,(vs_nat (U5 hx16 (by decide)) (YI hwl hx16) (λ_ _=>rfl)).m,rfl,rfl⟩
 ·kd_p;refine ⟨.bool true,vo_is (vo_eqL YM YM hu') (eq_same rfl),rfl,rfl⟩
end
section
open PySem PySem.W PyProof.Rows PySem.Calls Builtin
theorem b_st {d u:Nat} {env:Env} {loc:Loc} {st:Stmt} {rest:List Stmt} {Q:PF} (locP:Loc) {l1:Loc} (h:WS prog w B d u env locP [] st (Ends λl=>l=l1)) (h0:Sub locP loc) (k:WB prog w B d u env l1 [] rest Q):WB prog w B d u env loc [] (st :: rest) Q :=
 b_sub h0 (b_cons (WS.mono h λf l m z=>by obtain ⟨rfl,rfl,rfl⟩:=z; exact k))
structure LawFacts (b wd li hd:Nat) (ns bs ord brd kep wor lai:List Nat) (cls:List (Nat × Nat)):Prop where
 hb:b<=28
 hh:hd<=100
 hnl:ns.length<=100
 hml:(Zn b).length=4
 row:∀ mask < 16,rowN b mask=Z9 b mask
 R:Xi b
 inn:∀ mask < 16,∀ k < 4,(Z9 b mask).any (· == (Zn b).getD k nought)=bitN mask k
 P:X9 b wd hd
 bl:bs.length=4
 bx:∀ k < 4,bs.getD k 0 < 16
 ol:ord.length=16
 ox:∀ x ∈ ord,x < 16
 rl:brd.length<=2 ^ 16
 rs:(ofN brd).Pairwise (·<=·)
 kl:kep.length<=16
 ks:(ofN kep).Pairwise (·<=·)
 kf:∀ a ∈ kep,∀ b ∈ kep,(cntR (ofN kep) ((a^^^b:Nat):Int):Int) - (cntL (ofN kep) ((a^^^b:Nat):Int):Int)=1
 wl:wor.length=16
 pl:(ZM (laidA ord) none none (some (-1))).length=8
 ll:lai.length=16
 lx:∀ x ∈ lai,x < 16
 cl:cls.length<=2 ^ 16
 cs:(Zl cls).Pairwise (·<=·)
 tm:∀ wo ∈ wor,(cntR (Zl cls) (wo:Int):Int) - (cntL (Zl cls) (wo:Int):Int)=(kep.length:Int)
 eord:Zz bs=ord
 ekep:Zv ord brd 16=kep
 ewor:Zc ord brd 16=wor
 elai:laidN ord=lai
 ecls:Zf ord (gN wor) 16=cls
 qcls:cls=Vz wor lai
 qkep:kep=Y7 wor
 qdue:duesN bs wor=ord.map (gN wor)
theorem law_rest {d u:Nat} (hd':d<=500) (hu:u<=4000) (L:Addr) (c0 c1 c2 c3 c4 b wd li hd:Nat) (ns:List Nat) {ord brd kep wor lai:List Nat} {cls:List (Nat × Nat)}
  (hbrd:barN (YP (Yd b wd hd) li (ns.map (· % 16)))=brd) (H:LawFacts b wd li hd ns (Zg c1) ord brd kep wor lai cls) :
  WB prog w B d u (Zi L) [("cells", .lst (Z0 [c0,c1,c2,c3,c4])),("base", .int (b:Int)),("width", .int (wd:Int)),("limit", .int (li:Int)),("head", .int (hd:Int)),("numbers", .lst (Z0 ns)),("read", .lst (Z0 ns))] [] (lawD.2.1.drop 5) (λf l m=>f=.ret (.bool true)/\m=[]):=by
 have ew:V4 b=X4 b:=Tp λi hi=>by rw [H.row i (U0.mp hi)]
 show WB prog w B d u (Zi L) _ [] (Ze 5 :: Ze 6 :: Ze 7 :: Ze 8 :: Ze 9 :: Ze 10 :: Ze 11 :: Ze 12 :: Ze 13 :: Ze 14 :: Ze 15 :: Ze 16 :: Ze 17 :: Ze 18 :: Ze 19 :: Ze 20 :: Ze 21 :: Ze 22 :: Ze 23 :: []) _;refine b_st (("base", .int (b:Int)) :: [("cells", .lst (Z0 [c0,c1,c2,c3,c4])),("width", .int (wd:Int)),("limit", .int (li:Int)),("head", .int (hd:Int)),("numbers", .lst (Z0 ns)),("read", .lst (Z0 ns))]) (law_s5 hd' hu L b H.hb _) ⟨rfl,rfl,rfl,rfl,rfl,rfl,rfl,trivial⟩ ?_;refine b_st (("base", .int (b:Int)) :: [("cells", .lst (Z0 [c0,c1,c2,c3,c4])),("width", .int (wd:Int)),("limit", .int (li:Int)),("head", .int (hd:Int)),("numbers", .lst (Z0 ns)),("read", .lst (Z0 ns)),("marks", .lst (Z3 (Zn b)))]) (law_s6 hd' hu L b H.hb _) ⟨rfl,rfl,rfl,rfl,rfl,rfl,rfl,rfl,trivial⟩ ?_;refine b_st (loc7 b ns [("cells", .lst (Z0 [c0,c1,c2,c3,c4])),("width", .int (wd:Int)),("limit", .int (li:Int)),("head", .int (hd:Int))]) (law_s7 hd' hu L b ns _ H.hml H.row λm hm x hx=>(H.R.item m hm x hx).2) ⟨rfl,rfl,rfl,rfl,rfl,rfl,rfl,rfl,trivial⟩ ?_;rw [loc7,ew];refine b_st (loc8 b wd hd [("cells", .lst (Z0 [c0,c1,c2,c3,c4])),("limit", .int (li:Int)),("read", .lst (Z0 ns)),("marks", .lst (Z3 (Zn b)))]) (law_s8 hd' hu L b wd hd _ H.hh H.R) ⟨rfl,rfl,rfl,rfl,rfl,rfl,rfl,trivial⟩ ?_;refine b_st (loc9 b wd hd [("cells", .lst (Z0 [c0,c1,c2,c3,c4])),("limit", .int (li:Int)),("read", .lst (Z0 ns)),("marks", .lst (Z3 (Zn b)))]) (law_s9 hd' hu L b wd hd _ H.R H.P) ⟨rfl,rfl,rfl,rfl,rfl,rfl,rfl,rfl,trivial⟩ ?_;refine b_st (("cells", .lst (Z0 [c0,c1,c2,c3,c4])) :: [("limit", .int (li:Int)),("read", .lst (Z0 ns)),("marks", .lst (Z3 (Zn b))),("words", .lst (X4 b)),("pages", .lst (Z3 (Yd b wd hd)))]) (law_s10 hd' hu L c0 c1 c2 c3 c4 _) ⟨rfl,rfl,rfl,rfl,rfl,rfl,trivial⟩ ?_;refine b_st (loc11 b (Zg c1) [("limit", .int (li:Int)),("read", .lst (Z0 ns)),("pages", .lst (Z3 (Yd b wd hd)))]) (law_s11 hd' hu L b (Zg c1) _ H.hml H.bl H.inn) ⟨rfl,rfl,rfl,rfl,rfl,rfl,trivial⟩ ?_;rw [H.eord];refine b_st (("read", .lst (Z0 ns)) :: [("limit", .int (li:Int)),("pages", .lst (Z3 (Yd b wd hd))),("basis", .lst (Z0 (Zg c1))),("order", .lst (Z0 ord))]) (law_s12 L ns H.hnl _) ⟨rfl,rfl,rfl,rfl,rfl,trivial⟩ ?_;refine b_st (loc13 (Yd b wd hd) li (ns.map (· % 16)) [("basis", .lst (Z0 (Zg c1))),("order", .lst (Z0 ord))]) (law_s13 L _ (by rw [Yd,Ut,Sx]) li _ _) ⟨rfl,rfl,rfl,rfl,rfl,trivial⟩ ?_;rw [hbrd];refine b_st (("order", .lst (Z0 ord)) :: ("barred", .lst (Z0 brd)) :: [("basis", .lst (Z0 (Zg c1)))]) (law_s14 hd' hu L ord brd H.ol H.rl H.rs _) ⟨rfl,rfl,rfl,trivial⟩ ?_;rw [H.ekep];refine b_st (loc15 kep [("order", .lst (Z0 ord)),("barred", .lst (Z0 brd)),("basis", .lst (Z0 (Zg c1)))]) (law_s15 hd' hu L kep H.kl H.ks H.kf _) ⟨rfl,rfl,rfl,rfl,trivial⟩ ?_;refine b_st (("order", .lst (Z0 ord)) :: ("barred", .lst (Z0 brd)) :: [("basis", .lst (Z0 (Zg c1))),("table", .lst (Z0 kep))]) (law_s16 hd' hu L ord brd H.ol H.ox H.rl _) ⟨rfl,rfl,rfl,rfl,trivial⟩ ?_;rw [H.ewor];refine b_st (loc17 ord wor [("basis", .lst (Z0 (Zg c1))),("table", .lst (Z0 kep))]) (law_s17 hd' hu L ord wor H.ol H.ox H.wl _) ⟨rfl,rfl,rfl,rfl,trivial⟩ ?_;rw [H.ecls];refine b_st (("order", .lst (Z0 ord)) :: [("worths", .lst (Z0 wor)),("basis", .lst (Z0 (Zg c1))),("table", .lst (Z0 kep)),("classes", .lst (Zw cls))]) (law_s18 L ord H.ol H.pl _) ⟨rfl,rfl,rfl,rfl,rfl,trivial⟩ ?_;rw [H.elai,H.qcls];refine b_st (loc19 wor lai (Vz wor lai) [("order", .lst (Z0 ord)),("basis", .lst (Z0 (Zg c1))),("table", .lst (Z0 kep))]) (law_s19 hd' hu L wor lai H.wl H.ll H.lx _) ⟨rfl,rfl,rfl,rfl,rfl,rfl,trivial⟩ ?_;rw [<- H.qcls];refine b_st (loc20 wor kep cls [("order", .lst (Z0 ord)),("basis", .lst (Z0 (Zg c1)))]) (law_s20 hd' hu L wor kep cls H.wl H.cl H.cs H.kl H.tm _) ⟨rfl,rfl,rfl,rfl,rfl,trivial⟩ ?_;rw [H.qkep];refine b_st (loc21 wor (Y7 wor) [("order", .lst (Z0 ord)),("basis", .lst (Z0 (Zg c1)))]) (law_s21 hd' hu L wor H.wl _) ⟨rfl,rfl,rfl,rfl,trivial⟩ ?_;refine b_st (loc22 (Zg c1) wor [("order", .lst (Z0 ord))]) (law_s22 hd' hu L (Zg c1) wor H.bl H.bx H.wl _) ⟨rfl,rfl,rfl,trivial⟩ ?_;rw [H.qdue];refine b_sub (loc':=loc23 ord wor (ord.map (gN wor)) []) ⟨rfl,rfl,rfl,trivial⟩ (b_cons (WS.mono (law_s23 hd' hu L ord wor H.ol H.ox H.wl _) λf l m z=>?_));obtain ⟨rfl,rfl⟩:=z;exact ⟨rfl,rfl⟩
end
section
open PySem PySem.W PyProof.Rows PySem.Calls Builtin
noncomputable def Hall:Prop:=∀ c0 c1 c2 c3 c4:Nat,∃ ord brd kep wor lai cls,barN (YP (Yd (c0 % 29) (4+c0 / 29 % 40) (c0 / 3480 % 3*4)) (c0 / 1160 % 3) ([c2 % 64 ^ 4,c3 % 64 ^ 2,c4 % 64].map (· % 16)))=brd/\LawFacts (c0 % 29) (4+c0 / 29 % 40) (c0 / 1160 % 3) (c0 / 3480 % 3*4) [c2 % 64 ^ 4,c3 % 64 ^ 2,c4 % 64] (Zg c1) ord brd kep wor lai cls
theorem law_goes {A:Around} {F:FM} {s:Shared} {v:Value} {xs:List Int} (hA:AOK 301 4 A) (hfr:A.frames=some []) (hl:xs.length<=100)
  (Iv:Inv B s) (hn:B.n<=s.heap.objs.size) (hF:F.le s.heap.get?) (hTn:∀ a o,F a=some o->a ∉ B.tabs) (hTF:TabF B F s.heap) (hv:RV F v (.lst (xs.map .int)))
  (hall:Hall) :
  wpAny (model prog w) A (call (.ref 307) [v]) (λr s'=>r=.bool true/\Inv B s') FF s:=by
 refine Ve (mem:=[]) hB (defAt 307) [("script", .lst (xs.map .int))] rfl rfl rfl (Uo hA.dp (by decide)) ⟨_,λ_=>rfl, .cons hv .nil⟩ (λL=>⟨.inl rfl,trivial⟩) rfl rfl rfl ⟨rfl,trivial⟩ Iv hn hF hTn hTF ⟨(λp hp=>nomatch hp),Tz,(λa ha=>nomatch ha)⟩ λL s' R=>?_;have hA':=hA.deeper (Zi L);have R:Rel B ⟨s.heap,F,Z1 []⟩ F (Zi L) [("script", .lst (xs.map .int))] [] [] s':=R;show wpAny (model prog w) (A.deeper (Zi L)) (execs (Ze 0 :: Ze 1 :: Ze 2 :: Ze 3 :: Ze 4 :: lawD.2.1.drop 5) (Zi L)) _ _ s';refine XA hA' R (law_s0 L xs hl) λs₁ F1 l m k₁ R1 hP1=>?_;obtain ⟨⟨tl,htl,hl1⟩,rfl⟩:=hP1;refine XA hA' (R1.less hl1.get) (law_s1 L tl htl) λs2 F2 l m k₂ R₂ hP2=>?_;obtain ⟨⟨c0,c1,c2,c3,c4,hl2⟩,rfl⟩:=hP2;refine XA hA' (R₂.less hl2.get) (law_s2 L c0 c1 c2 c3 c4) λs3 F3 l m k3 R3 hP3=>?_;obtain ⟨hl3,rfl⟩:=hP3;refine XA hA' (R3.less hl3.get) (law_s3 L c0 c1 c2 c3 c4 _ _ _ _) λs4 F4 l m k4 R4 hP4=>?_;obtain ⟨hl4,rfl⟩:=hP4;have R4:=R4.less hl4.get;obtain ⟨ord,brd,kep,wor,lai,cls,hbrd,H⟩:=hall c0 c1 c2 c3 c4;generalize c0 % 29=b at R4 hbrd H;generalize 4+c0 / 29 % 40=wd at R4 hbrd H;generalize c0 / 1160 % 3=li at R4 hbrd H;generalize c0 / 3480 % 3*4=hd at R4 hbrd H;have h0:c2 % 64 ^ 4 < 64 ^ 4:=Sr _ (by decide);have h1:c3 % 64 ^ 2 < 64 ^ 2:=Sr _ (by decide);have h2:c4 % 64 < 64:=Sr _ (by decide);refine wpAny_execs_cons (wpAny_Assign_Name (call_E (P:=λa as m=>a=.raw (.ref 238)/\as=[.lst (Z0 [c2 % 64 ^ 4,c3 % 64 ^ 2,c4 % 64])]/\m=[]) (λ_=>rfl) hA' R4 ?_ ?_) rfl)
 ·kd_p;refine ⟨Z2 (by rw [hB]; rfl),?_⟩;kd_p;exact ⟨rfl,rfl,rfl⟩
 ·intro F5 s5 v₅ vs a as m k5 R5 rv rvs hP5;obtain ⟨rfl,rfl,rfl⟩:=hP5;obtain rfl:=rv.isRaw;obtain ⟨v1,rfl,r1⟩:=rvs.n1;have O:Wa B F5 s5.heap [Zi L]:=R5.out ⟨trivial,λa ha=>absurd ha Rc⟩ Iv (λa ha=>absurd ha Rc) rfl;refine law_read h0 h1 h2 (hA'.low (by decide) (by decide)) (Around.frames_deeper hfr) O R5.inv R5.size_le R5.le R5.offT R5.tf r1 λF6 s6 r X=>?_;have R6:=R5.afterX rfl X;refine Ud (Zu R6 X.rv (.inl rfl)) (λ_ s7 R7=>?_) λ_ _ x=>x;refine Ud (law_rest (d:=302) (u:=7) (by decide) (by decide) L c0 c1 c2 c3 c4 b wd li hd _ hbrd H (A.deeper (Zi L)) _ _ _ _ hA' (R7.less (Sub.get ⟨rfl,rfl,rfl,rfl,rfl,rfl,rfl,trivial⟩))) (λf s8 h₈=>?_) λ_ _ x=>x.elim;obtain ⟨af,l',m',F9,k9,rf,R9,rfl,_⟩:=h₈;obtain ⟨w',rfl,rw'⟩:=rf.isRet;exact ⟨rw'.isBool,R9.inv⟩
theorem law_ends (hall:Hall):WW prog w B:=λA F s v xs hA hfr hl Iv hn hF hTn hTF hv=>law_goes hA hfr hl Iv hn hF hTn hTF hv hall
end
section
open PySem PySem.W PySem.W.X PyProof.Rows PySem.Calls Builtin
theorem Wd (R:WRecords):∀ ds:List WData,WShape.hasItems R ds .int=true->∃ xs:List Int,ds=xs.map WData.int
 | [],_=>⟨[],rfl⟩
 | d :: ds,h=>by
  unfold WShape.hasItems at h;obtain ⟨h1,h2⟩:=Sv.mp h;obtain ⟨xs,rfl⟩:=Wd R ds h2
  cases d with
  | int i=>exact ⟨i :: xs,rfl⟩
  | _=>exact nomatch (show false=true by with_unfolding_all exact h1)
theorem pre_ints {args:List WData} (h:rw0.row.toRowW.claim.pre args=true):∃ xs:List Int,args=[.list (xs.map .int)]/\xs.length<=100:=by
 obtain ⟨h1,h2⟩:=Sv.mp h;change WShape.hasAll _ args [.list .int]=true at h1
 match args,h1,h2 with
 | [],h1,_=>exact nomatch (show false=true by with_unfolding_all exact h1)
 | d :: _ :: _,h1,_=>exact nomatch (Sv.mp (show (WShape.has rw0.row.toRowW.records d (.list .int) && false)=true by with_unfolding_all exact h1)).2
 | [d],h1,h2 =>
  have h1:=(Sv.mp (show (WShape.has rw0.row.toRowW.records d (.list .int) && true)=true by with_unfolding_all exact h1)).1
  cases d with
  | list ds =>
   have h1:WShape.hasItems rw0.row.toRowW.records ds .int=true:=(Bool.or_false _).symm.trans (show (WShape.hasItems rw0.row.toRowW.records ds .int || false)=true by with_unfolding_all exact h1);obtain ⟨xs,rfl⟩:=Wd _ ds h1;refine ⟨xs,rfl,?_⟩;change WTm.holds rw0.row.toRowW.records (.and (.not (.lt (.lit (.int 63)) (.len (.arg 0)))) (.lit (.bool true))) { args:=[.list (xs.map .int)] }=true at h2;have v1:WTm.value rw0.row.toRowW.records (.not (.lt (.lit (.int 63)) (.len (.arg 0)))) { args:=[.list (xs.map .int)] }=some (WData.bool (!decide ((63:Int) < ((xs.map WData.int).length:Int)))):=rfl;unfold WTm.holds WTm.value at h2;rw [v1,Ut] at h2
   by_cases hl:(63:Int) < (xs.length:Int)
   ·rw [decide_eq_true hl] at h2; cases h2
   ·exact ar81 hl
  | _=>exact nomatch (show false=true by with_unfolding_all exact h1)
theorem Ww {P:Params} {h:Heap} {F:FM}:∀ {vs:List Value} {xs:List Int},WellAll P h vs (xs.map .int)->RVs F vs (xs.map .int)
 | _, [],r=>by cases r; exact .nil
 | _,x :: xs,r=>by
  cases r with
  | cons h r=>cases h with | int i t=>exact .cons (.int _ _) (Ww r)
theorem tabs_at (P:Params):∀ t ∈ ZJ,∃ c o vs,(KA P).lookup c=some o/\o.cls=.type "code" /\ o.data=.fields vs/\vs[11]?=some (.ref t)/\(KA P).lookup t=some { cls:=.none,data:=.fields #[] }:=by
 intro t ht;simp only [ZJ,Ur,Rc,or_false] at ht;obtain rfl | rfl | rfl | rfl | rfl:=ht
 ·exact ⟨195,_,_,rfl,rfl,rfl,rfl,rfl⟩
 ·exact ⟨202,_,_,rfl,rfl,rfl,rfl,rfl⟩
 ·exact ⟨287,_,_,rfl,rfl,rfl,rfl,rfl⟩
 ·exact ⟨294,_,_,rfl,rfl,rfl,rfl,rfl⟩
 ·exact ⟨301,_,_,rfl,rfl,rfl,rfl,rfl⟩
theorem lookup_KZ (w:World) {a:Addr} {o:Obj} (h:(KZ w).lookup a=some o):(KA w.params).lookup a=some o/\a ∉ ZJ:=by
 have key:∀ l:Frag,(l.filter λp=>!ZJ.contains p.1).lookup a=some o->l.lookup a=some o/\a ∉ ZJ:=by
  intro l
  induction l with
  | nil=>intro h; cases h
  | cons p l ih =>
   intro h;obtain ⟨b,ob⟩:=p
   by_cases hb:ZJ.contains b=true
   ·rw [List.filter_cons_of_neg (by simp only [hb]; decide)] at h;obtain ⟨h1,h2⟩:=ih h;refine ⟨?_,h2⟩
    have hn:(a == b)=false:=by
     rw [beq_eq_false_iff_ne];rintro rfl;exact h2 (List.contains_iff_mem.mp hb)
    simp only [List.lookup,hn,h1]
   ·have hb':ZJ.contains b=false:=by simpa using hb
    rw [List.filter_cons_of_pos (by simp only [hb']; decide)] at h;simp only [List.lookup] at h ⊢
    split at h
    ·rename_i hq
     refine ⟨h,λhm=>?_⟩;rw [beq_iff_eq.mp hq] at hm;exact hb (List.contains_iff_mem.mpr hm)
    ·exact ih h
 exact key _ h
theorem main_at (P:Params):∃ o,(KA P).lookup mainGlobals=some o/\o.cls≠.type "module" := ⟨_,rfl,λh=>by injection h with h; revert h; decide⟩
theorem tabs_free (w:World) (a:Addr) (ha:a ∈ ZJ):(KZ w).lookup a=none:=by
 cases e:(KZ w).lookup a with
 | none=>rfl
 | some o=>exact absurd ha (lookup_KZ w e).2
theorem walk_ (hall:Hall)
  (d:DefRec) (kwd:List (Str × Expr)) (hd:d.name=rw0.row.name):WalkX vw lo (XL vw []) (obsZ asA) (valZ KA 308 617) rw0.row.toRowW d kwd (λf vs=>call f vs):=by
 intro w s₀ s₁ mg mb G Y a o pm cd doc dV kV h2 h3 h4 h5 h1 hgens args vs as L hpre hlay hrd hwell hlow;obtain ⟨xs,rfl,hl⟩:=pre_ints hpre;have hK:(KA w.params).In s₁.heap:=(Frag.in_of (asA_eq w.params) (congrArg Prod.fst Y)).keeps L.keeps;obtain ⟨bm,ob,b1,b2,b3,b4,b5,b6⟩:=G.T.bmain
 have htab:∀ P ∈ ZJ,∃ c,s₁.heap.TableAt c P #[]:=by
  intro P hP;obtain ⟨c,o,vs,q1,q2,q3,q4,q5⟩:=tabs_at w.params P hP;exact ⟨c,⟨o,vs,hK _ _ q1,q2,q3,q4⟩,hK _ _ q5⟩
 let B:Base:=⟨s₁.heap,s₁.heap.objs.size,ZJ,theTq,s₁.os,KZ w,mg,mb⟩
 have hBO:B.OK:=by
  refine ⟨λa o e=>hK a o (lookup_KZ w e).1,λa ha=>tabs_free w a ha,G.T.g,G.T.b,G.T.builtins,G.T.nolimit,rfl,λP hP=>?_,λP hP=>?_⟩
  ·obtain ⟨c,hc⟩:=htab P hP;refine ⟨?_,Heap.lt_size hc.2,c,hc⟩;have:∀ P ∈ ZJ,4<=P:=by decide
   exact this P hP
  ·obtain ⟨c,hc⟩:=htab P hP;refine ⟨bm,ob,b1,b2,λq=>?_,λq=>?_,b3,b4,b5,b6⟩
   ·subst q;obtain ⟨o',q1,q2⟩:=main_at w.params;rw [Up.inj (b3.symm.trans (hK _ _ q1))] at b4;exact q2 b4
   ·subst q;rw [Up.inj (b3.symm.trans hc.2)] at b4
    cases b4
 have Iv:Inv B s₁:=⟨hBO,λb o e _=>e,λP hP=>by obtain ⟨c,hc⟩:=htab P hP; exact ⟨_,hc.2⟩,rfl, .of_eq hgens⟩
 cases hwell with
 | cons hv hr =>
  cases hr
  cases hv with
  | list ho hw =>
   rename_i al vs
   have hm:mg "law" = some (.ref 307):=mg_of (K:=KA w.params) hK G.T.g (by rfl)
   have ha:a=307:=by
    rw [hd] at h1;have:=h1.symm.trans hm;injection this with this
    injection this
   subst ha;refine Ud (ends_all (law_ends hall) _ w B rfl rfl ⟨rfl,rfl⟩ callerA (λb=>if b=al then some { cls:=.type "list", data:=.seq vs.toArray } else none) s₁ (.ref al) xs ⟨rfl,by decide,by decide⟩ rfl hl Iv (Ug _) (λb o e=>?_) (λb o e=>?_) (λP hP=>?_) (.lst _ vs _ _ (if_pos rfl) (Ww hw))) (λr s' h=>?_) (λ_ _ x=>x.elim)
   ·by_cases q:b=al
    ·replace e:=(if_pos q).symm.trans e;subst q; rw [<- e]; exact ho
    ·exact nomatch (if_neg q).symm.trans e
   ·by_cases q:b=al
    ·replace e:=(if_pos q).symm.trans e;subst q;intro hm';obtain ⟨c,hc⟩:=htab _ hm';have:=Up.inj (hc.2.symm.trans ho)
     cases this
    ·exact nomatch (if_neg q).symm.trans e
   ·obtain ⟨c,hc⟩:=htab P hP;refine ⟨#[],hc.2,?_,λpos cv q=>?_⟩
    ·trivial
    ·cases q
   ·obtain ⟨rfl,I⟩:=h;refine ⟨.inl ⟨_, .bool true, [],rfl,λ_=>rfl, .bool true,?_,λ_=>⟨Tz,λa ha=>nomatch ha⟩⟩,⟨λb o e=>?_,λb o e=>?_⟩,I.os,I.gens⟩
    ·show (WShape.has rw0.row.toRowW.records (.bool true) .bool && WTm.holds rw0.row.toRowW.records (.eq .res (.lit (.bool true))) { args:=[.list (xs.map .int)],res:=some (.bool true),after:=[.list (xs.map .int)] })=true
     with_unfolding_all rfl
    ·by_cases hb:b ∈ ZJ
     ·obtain ⟨c,hc⟩:=htab b hb;obtain ⟨vs',hv'⟩:=I.tb b hb;have:=Up.inj (hc.2.symm.trans e);subst this;exact .inr (.inl ⟨hc.isCodeTable,rfl, #[],vs',rfl,by rw [hv',Array.empty_append]; rfl⟩)
     ·exact .inl (I.keep b o e hb)
    ·by_cases hb:b ∈ ZJ
     ·obtain ⟨vs',hv'⟩:=I.tb b hb;exact ⟨_,hv'⟩
     ·exact ⟨o,I.keep b o e hb⟩
theorem main_ (hall:Hall):rw0.Holds :=
 head_ λd kwd h1 _ _=>walk_ hall d kwd (defOf_name h1)
end
section
theorem cnt_eq (x:Int):∀ ns:List Int,cntR ns x=cntL ns x+ns.count x
 | []=>rfl
 | n :: ns=>by
  have ih:=cnt_eq x ns;unfold cntR cntL at ih ⊢;rw [Tj,Tj,List.count_cons];rcases Int.lt_trichotomy n x with q | q | q
  ·rw [if_pos (decide_eq_true (Int.le_of_lt q)),if_pos (decide_eq_true q),Td,Td,if_neg (by simp; exact Int.ne_of_lt q)]; exact ar150 ih
  ·subst q;rw [if_pos (decide_eq_true (Int.le_refl _)),if_neg (by simp),Td,if_pos (by simp)]; exact ar151 ih
  ·rw [if_neg (by simp; omega),if_neg (by simp; exact Int.le_of_lt q),if_neg (by simp; exact Int.ne_of_gt q)]; omega
theorem W6 (x:Nat):∀ l:List Nat,(ofN l).count (x:Int)=l.count x
 | []=>rfl
 | n :: l=>by
  show ((n:Int) :: ofN l).count (x:Int)=_;rw [List.count_cons,List.count_cons,W6 x l]
  congr 1
  by_cases h:n=x
  ·rw [if_pos (by simp [h]),if_pos (by simp [h])]
  ·rw [if_neg (by simp; exact Nat.ToInt.of_diseq rfl rfl h),if_neg (by simpa using h)]
theorem found_iff (brd:List Nat) (x:Nat):YO brd x=true↔brd.contains x=true:=by
 unfold YO;rw [decide_eq_true_iff,cnt_eq,W6,List.contains_iff_mem, <- List.count_pos_iff];exact ar142
theorem ins_perm {α:Type} (l:List α) (k:Nat) (x:α):(ins l k x).Perm (x :: l):=by
 unfold ins;refine List.perm_middle.trans ?_;rw [List.take_append_drop]
theorem kept_at {X:Nat->Nat} (hX:Lin X) {brd:List Nat} {g:Nat->Nat} (G:Game (λt=>brd.contains (X t)=true) g):∀ i≤16,(Zv ((Um 16).map X) brd i).Nodup/\∀ y,y ∈ Zv ((Um 16).map X) brd i↔∃ j < i,g j=0/\X j=y
 | 0,_=>⟨Tz,λy=>⟨(λh=>nomatch h),λhq1=>by obtain ⟨j,h,_⟩:=hq1; exact absurd h (Sk _)⟩⟩
 | i+1,hi=>by
  obtain ⟨h1,h2⟩:=kept_at hX G i (U6 hi);have e:Zv ((Um 16).map X) brd (i+1)=YR brd i (Zv ((Um 16).map X) brd i) (X i):=by rw [Zv,VR hi]
  have hz:(Zv ((Um 16).map X) brd i).filter (λone=>YO brd (X i^^^one))=[]↔g i=0:=by
   rw [T8];constructor
   ·intro h;rcases S2 (g i) with q | q
    ·exact q
    ·obtain ⟨j,j1,j2,j3⟩:=G.all i hi 0 q;refine absurd ((found_iff _ _).mpr ?_) (h (X j) ((h2 _).mpr ⟨j,j1,j3,rfl⟩));rw [<- hX.add i hi j (U5 j1 hi)]; exact j2
   ·intro q y hy hf;obtain ⟨j,j1,j2,rfl⟩:=(h2 y).mp hy;have:=(found_iff _ _).mp hf;rw [<- hX.add i hi j (U5 j1 hi)] at this;exact G.no i hi j j1 this (j2.trans q.symm)
  rw [e,YR]
  by_cases q:g i=0
  ·rw [if_pos (hz.mpr q)]
   have hp:∀ k,((ins (Zv ((Um 16).map X) brd i) k (X i)).Nodup/\∀ y,y ∈ ins (Zv ((Um 16).map X) brd i) k (X i)↔∃ j < i+1,g j=0/\X j=y):=λk=>by
    refine ⟨(ins_perm _ k _).nodup_iff.mpr (U3.mpr ⟨λhm=>?_,h1⟩),λy=>?_⟩
    ·obtain ⟨j,j1,_,j3⟩:=(h2 _).mp hm;exact hX.inj j1 hi j3
    ·rw [(ins_perm _ k _).mem_iff,Ur,h2];constructor
     ·rintro (rfl | ⟨j,j1,j2,j3⟩)
      ·exact ⟨i,Tg i,q,rfl⟩
      ·exact ⟨j,Tf j1,j2,j3⟩
     ·rintro ⟨j,j1,j2,j3⟩;rcases Ss (Sb j1) with r | rfl
      ·exact .inr ⟨j,r,j2,j3⟩
      ·exact .inl j3.symm
   split
   ·exact hp _
   ·exact hp _
  ·rw [if_neg λh=>q (hz.mp h)];refine ⟨h1,λy=>(h2 y).trans ⟨λ⟨j,j1,r⟩=>⟨j,Tf j1,r⟩,λ⟨j,j1,j2,j3⟩=>?_⟩⟩;rcases Ss (Sb j1) with r | rfl
   ·exact ⟨j,r,j2,j3⟩
   ·exact absurd j2 q
theorem kept_zero {X:Nat->Nat} (hX:Lin X) {brd wor:List Nat} (G:Game (λt=>brd.contains (X t)=true) (λk=>gN wor (X k))):Zv ((Um 16).map X) brd 16=Y7 wor:=by
 obtain ⟨h1,h2⟩:=kept_at hX G 16 (Ug _);have hs:=(YB ((Um 16).map X) brd 16).1;have hs:=Sg.mp hs;have hz:(Y7 wor).Pairwise (· < ·):=List.Pairwise.filter _ T9
 have hp:(Zv ((Um 16).map X) brd 16).Perm (Y7 wor):=by
  refine (List.perm_ext_iff_of_nodup h1 (hz.imp λh=>Ts h)).mpr λy=>?_;rw [h2,Y7,Ta,U0,beq_iff_eq];constructor
  ·rintro ⟨j,j1,j2,rfl⟩;exact ⟨hX.lt j1,j2⟩
  ·rintro ⟨q1,q2⟩;obtain ⟨j,j1,rfl⟩:=hX.onto q1;exact ⟨j,j1,q2,rfl⟩
 exact hp.eq_of_pairwise (le:=(·<=·)) (λa b _ _=>Tn) (hs.imp λh=>by exact ar152 h) (hz.imp λh=>Tq h)
theorem zero_closed {X:Nat->Nat} (hX:Lin X) {brd wor:List Nat} (G:Game (λt=>brd.contains (X t)=true) (λk=>gN wor (X k))) {a b:Nat} (ha:a ∈ Y7 wor) (hb:b ∈ Y7 wor) :
  (cntR (ofN (Y7 wor)) ((a^^^b:Nat):Int):Int) - (cntL (ofN (Y7 wor)) ((a^^^b:Nat):Int):Int)=1:=by
 obtain ⟨a1,a2⟩:=Ta.mp ha;obtain ⟨b1,b2⟩:=Ta.mp hb;obtain ⟨j,j1,rfl⟩:=hX.onto (U0.mp a1);obtain ⟨k,k1,rfl⟩:=hX.onto (U0.mp b1);have hn:(Y7 wor).Nodup:=(List.Pairwise.filter _ T9).imp λh=>Ts h;have hjk:j^^^k < 16:=Nat.xor_lt_two_pow (n:=4) j1 k1
 have hm:X j^^^X k ∈ Y7 wor:=by
  rw [<- hX.add j j1 k k1];refine Ta.mpr ⟨U0.mpr (hX.lt hjk),?_⟩;have:=G.lin j1 k1;rw [beq_iff_eq] at a2 b2 ⊢;rw [this,a2,b2]; rfl
 rw [cnt_eq,W6,hn.count,if_pos hm];exact ar154
end
section
noncomputable def blkG (g:Nat->Nat) (l:List Nat) (w:Nat):List (Nat × Nat):=(l.filter λx=>g x == w).map λx=>(w,x)
noncomputable abbrev clsG (g:Nat->Nat) (ws l:List Nat):List (Nat × Nat):=(ws.map (blkG g l)).flatten
theorem cntL_all {ns:List Int} {x:Int} (h:∀ n ∈ ns,n < x):cntL ns x=ns.length:=by
 unfold cntL;rw [List.filter_eq_self.mpr λn hn=>decide_eq_true (h n hn)]
theorem cntL_none {ns:List Int} {x:Int} (h:∀ n ∈ ns,x<=n):cntL ns x=0:=by
 unfold cntL;rw [T8.mpr λn hn hd=>by have:=h n hn; have:=of_decide_eq_true hd; omega]; rfl
theorem cntR_all {ns:List Int} {x:Int} (h:∀ n ∈ ns,n<=x):cntR ns x=ns.length:=by
 unfold cntR;rw [List.filter_eq_self.mpr λn hn=>decide_eq_true (h n hn)]
theorem cntR_none {ns:List Int} {x:Int} (h:∀ n ∈ ns,x < n):cntR ns x=0:=by
 unfold cntR;rw [T8.mpr λn hn hd=>by have:=h n hn; have:=of_decide_eq_true hd; omega]; rfl
theorem cntL_app (a b:List Int) (x:Int):cntL (a++b) x=cntL a x+cntL b x:=by simp [cntL]
theorem cntR_app (a b:List Int) (x:Int):cntR (a++b) x=cntR a x+cntR b x:=by simp [cntR]
theorem ins_app {α:Type} (a b:List α) (n:Nat) (x:α):ins (a++b) (a.length+n) x=a++ins b n x:=by
 have h1:a.take (a.length+n)=a:=Tw (U7 _ _);have h2:a.drop (a.length+n)=[]:=List.drop_of_length_le (U7 _ _);simp [ins,List.take_append,List.drop_append,h1,h2]
theorem keys_app (a b:List (Nat × Nat)):Zl (a++b)=Zl a++Zl b:=Tv
theorem keys_len (a:List (Nat × Nat)):(Zl a).length=a.length:=Ut _
theorem WG {g:Nat->Nat} {l:List Nat} {w:Nat}:∀ n ∈ Zl (blkG g l w),n=(w:Int):=λn hn=>by
 obtain ⟨p,hp,rfl⟩:=Uq.mp hn;obtain ⟨x,_,rfl⟩:=Uq.mp hp;rfl
theorem keys_cls {g:Nat->Nat} {l ws:List Nat}:∀ n ∈ Zl (clsG g ws l),∃ w ∈ ws,n=(w:Int):=λn hn=>by
 obtain ⟨p,hp,rfl⟩:=Uq.mp hn;obtain ⟨b,hb,hq⟩:=List.mem_flatten.mp hp;obtain ⟨w,hw,rfl⟩:=Uq.mp hb;obtain ⟨x,_,rfl⟩:=Uq.mp hq;exact ⟨w,hw,rfl⟩
theorem Vh {g:Nat->Nat} {l l':List Nat} {w x:Nat} (h:g x≠w):blkG g (x :: l) w=blkG g l w/\blkG g (l++[x]) w=blkG g l w:=by
 unfold blkG;rw [Tj,if_neg (by simpa using h),Sf,Tj,if_neg (by simpa using h)];simp
theorem cls_other {g:Nat->Nat} {l ws:List Nat} {x:Nat} (h:g x ∉ ws):clsG g ws (x :: l)=clsG g ws l/\clsG g ws (l++[x])=clsG g ws l :=
 ⟨congrArg List.flatten (Tp λw hw=>(Vh (l:=l) (l':=l) (w:=w) (x:=x) λe=>h (by rw [e]; exact hw)).1),congrArg List.flatten (Tp λw hw=>(Vh (l:=l) (l':=l) (w:=w) (x:=x) λe=>h (by rw [e]; exact hw)).2)⟩
theorem ins_cls (g:Nat->Nat) (l:List Nat) (x:Nat):∀ ws:List Nat,ws.Pairwise (· < ·)->g x ∈ ws ->
  ins (clsG g ws l) (cntL (Zl (clsG g ws l)) (g x:Int)) (g x,x)=clsG g ws (x :: l)/\ins (clsG g ws l) (cntR (Zl (clsG g ws l)) (g x:Int)) (g x,x)=clsG g ws (l++[x])
 | [],_,h=>nomatch h
 | w :: ws,hs,h=>by
  obtain ⟨h1,h2⟩:=List.pairwise_cons.mp hs;have e:∀ l,clsG g (w :: ws) l=blkG g l w++clsG g ws l:=λl=>rfl;rw [e,e,e,keys_app,cntL_app,cntR_app];rcases Nat.lt_or_ge w (g x) with q | q
  ·have hm:g x ∈ ws:=(Ur.mp h).resolve_left λr=>by omega
   obtain ⟨i1,i2⟩:=ins_cls g l x ws h2 hm;obtain ⟨b1,b2⟩:=Vh (l:=l) (l':=l) (Nat.ne_of_gt q);rw [cntL_all λn hn=>by rw [WG n hn]; exact ar93 q,cntR_all λn hn=>by rw [WG n hn]; exact ar100 q,keys_len,ins_app,ins_app,i1,i2,b1,b2];exact ⟨rfl,rfl⟩
  ·have hw:w=g x:=(Ur.mp h).elim (λr=>r.symm) λr=>by have:=h1 _ r; exact ar101 q this
   have hn:g x ∉ ws:=λr=>by have:=h1 _ r; omega
   obtain ⟨c1,c2⟩:=cls_other (l:=l) hn
   have up:∀ n ∈ Zl (clsG g ws l),(g x:Int) < n:=λn hn=>by
    obtain ⟨w',hw',rfl⟩:=keys_cls n hn;have:=h1 _ hw';exact ar105 hw this
   rw [cntL_none (ns:=Zl (blkG g l w)) λn hn=>by rw [WG n hn]; exact ar106 hw,cntL_none λn hn=>Int.le_of_lt (up n hn),cntR_all λn hn=>by rw [WG n hn]; exact Int.le_of_eq (congrArg Nat.cast hw),cntR_none up,keys_len,ins_app,c1,c2];subst hw;refine ⟨?_,?_⟩
   ·show (g x,x) :: (blkG g l (g x)++clsG g ws l)=_;unfold blkG;rw [Tj,if_pos (by simp)]; rfl
   ·show blkG g l (g x)++(g x,x) :: clsG g ws l=_;unfold blkG;rw [Sf,Tj,if_pos (by simp),Tv];simp
noncomputable def layA (X:Nat->Nat) (i:Nat):List Nat:=((Um i).filter oddN).map X
noncomputable def layB (X:Nat->Nat) (i:Nat):List Nat:=((Um i).filter λi=>i / 2 % 2 == 0).map X
theorem Z07 {X g:Nat->Nat} (hg:∀ k < 16,g (X k) < 16):∀ i≤16,Zf ((Um 16).map X) g i=clsG g (Um 16) ((layA X i).reverse++layB X i)
 | 0,_=>by
  show []=clsG g (Um 16) [];rfl
 | i+1,hi=>by
  have ih:=Z07 hg i (U6 hi);rw [Zf,VR hi];dsimp only;rw [ih];unfold Yj;obtain ⟨i1,i2⟩:=ins_cls g ((layA X i).reverse++layB X i) (X i) (Um 16) T9 (U0.mpr (hg i hi))
  by_cases q:i / 2 % 2=0
  ·have a:layA X (i+1)=layA X i:=by rw [layA,Sn,Sf,Tj,if_neg (by simp [oddN,q])]; simp [layA]
   have b:layB X (i+1)=layB X i++[X i]:=by rw [layB,Sn,Sf,Tj,if_pos (by simp [q])]; simp [layB]
   rw [if_pos q,i2,a,b,Sd]
  ·have a:layA X (i+1)=layA X i++[X i]:=by rw [layA,Sn,Sf,Tj,if_pos (by simpa [oddN] using q)]; simp [layA]
   have b:layB X (i+1)=layB X i:=by rw [layB,Sn,Sf,Tj,if_neg (by simp [q])]; simp [layB]
   rw [if_neg q,i1,a,b,List.reverse_append]; rfl
theorem WX {X g:Nat->Nat}:∀ i≤16,(Zf ((Um 16).map X) g i).Perm ((Um i).map λk=>(g (X k),X k))
 | 0,_=>.nil
 | i+1,hi=>by
  have ih:=WX (X:=X) (g:=g) i (U6 hi);rw [Zf,VR hi];dsimp only;have er:(Um (i+1)).map (λk=>(g (X k),X k))=(Um i).map (λk=>(g (X k),X k))++[(g (X i),X i)]:=by rw [Sn,Tv]; rfl
  rw [er]
  have key:∀ k,(ins (Zf ((Um 16).map X) g i) k (g (X i),X i)).Perm ((Um i).map (λk=>(g (X k),X k))++[(g (X i),X i)]):=λk =>
   (ins_perm _ _ _).trans ((List.Perm.cons _ ih).trans (List.perm_append_singleton _ _).symm)
  unfold Yj
  split
  ·exact key _
  ·exact key _
theorem xor_zero_eq {a b:Nat}:a^^^b=b↔a=0:=⟨λh=>by have:=WA b a; rw [h,Nat.xor_self] at this; exact this.symm,λh=>by rw [h,Nat.zero_xor]⟩
theorem xor_perm:∀ k < 16,((Um 16).map (·^^^k)).Perm (Um 16):=by decide +kernel
theorem class_times {X:Nat->Nat} (hX:Lin X) {brd wor:List Nat} (G:Game (λt=>brd.contains (X t)=true) (λk=>gN wor (X k))) (hw:wor.length=16) {wo:Nat} (h:wo ∈ wor) :
  (cntR (Zl (Zf ((Um 16).map X) (gN wor) 16)) (wo:Int):Int) - (cntL (Zl (Zf ((Um 16).map X) (gN wor) 16)) (wo:Int):Int)=((Y7 wor).length:Int):=by
 obtain ⟨x,hx⟩:=S6 h;have hx16:x < 16:=hw ▸ (Un.mp hx).1;obtain ⟨k0,hk0,rfl⟩:=hX.onto hx16;have e0:gN wor (X k0)=wo:=by rw [gN,Uu,hx]; rfl
 have ek:(Zl (Zf ((Um 16).map X) (gN wor) 16)).Perm (ofN ((Um 16).map λk=>gN wor (X k))):=by
  have:=(WX (X:=X) (g:=gN wor) 16 (Ug _)).map λp:Nat × Nat=>(p.1:Int)
  rw [Tc] at this;rw [ofN,Tc];exact this
 have e1:(Zl (Zf ((Um 16).map X) (gN wor) 16)).count (wo:Int)=(Um 16).countP λk=>gN wor (X k) == wo:=by
  rw [ek.count_eq,W6,List.count,List.countP_map]; rfl
 have e2:(Y7 wor).length=(Um 16).countP λk=>gN wor (X k) == 0:=by
  rw [Y7, <- List.countP_eq_length_filter, <- hX.perm.countP_eq,List.countP_map]; rfl
 have e3:((Um 16).countP λk=>gN wor (X k) == wo)=(Um 16).countP λk=>gN wor (X k) == 0:=by
  rw [<- (xor_perm k0 hk0).countP_eq,List.countP_map];refine List.countP_congr λk hk=>?_;have:=G.lin (U0.mp hk) hk0;dsimp only [Function.comp];rw [beq_iff_eq,beq_iff_eq,this,e0,xor_zero_eq]
 rw [cnt_eq,e1,e2,e3];exact ar102
end
section
theorem V6:∀ (l:List Nat) (a:Nat),l.foldl (·^^^·) a=a^^^xorN l
 | [],a=>(Nat.xor_zero a).symm
 | b :: l,a=>by
  show l.foldl (·^^^·) (a^^^b)=a^^^l.foldl (·^^^·) (0^^^b);rw [V6 l,V6 l,Nat.zero_xor,T3]
theorem YG (b:Nat) (l:List Nat):xorN (b :: l)=b^^^xorN l:=by
 show l.foldl (·^^^·) (0^^^b)=_;rw [V6,Nat.zero_xor]
theorem xor_split (f:Nat->Nat) (p q r:Nat->Bool):∀ l:List Nat,(∀ k ∈ l,r k=(p k ^^ q k))->xorN ((l.filter r).map f)=xorN ((l.filter p).map f)^^^xorN ((l.filter q).map f)
 | [],_=>(Nat.xor_self 0).symm
 | k :: l,h=>by
  have ih:=xor_split f p q r l λk hk=>h k (Tt _ hk);have hk:=h k Tx;rw [Tj,Tj,Tj,hk]
  cases hp:p k <;> cases hq:q k
  ·exact ih
  ·simp only [Bool.false_xor,if_true,To,YG,ih,U1,if_false];rw [<- T3, <- T3,Nat.xor_comm (f k)]
  ·simp only [Bool.xor_false,if_true,To,YG,ih,U1,if_false];rw [T3]
  ·simp only [Bool.xor_self,if_true,To,YG,ih,U1,if_false];rw [WH]
theorem bit_xor:∀ a < 16,∀ b < 16,∀ k < 4,bitN (a^^^b) k=(bitN a k ^^ bitN b k):=by decide +kernel
theorem order_add (bs:List Nat) (a:Nat) (ha:a < 16) (b:Nat) (hb:b < 16):ZU bs (a^^^b)=ZU bs a^^^ZU bs b :=
 xor_split _ _ _ _ _ λk hk=>bit_xor a ha b hb k (U0.mp hk)
theorem basis_mod (n:Nat):Zg n=Zg (n % 256):=by
 have e1:∀ k < 4,n % 256 / V9 k % (1*2 ^ k)=n / V9 k % (1*2 ^ k):=λk hk=>by
  match k,hk with
  | 0,_=>show n % 256 / 1 % 1=n / 1 % 1; exact ar169
  | 1,_=>show n % 256 / 1 % 2=n / 1 % 2; exact ar170
  | 2,_=>show n % 256 / 2 % 4=n / 2 % 4; exact ar171
  | 3,_=>show n % 256 / 8 % 8=n / 8 % 8; exact ar172
 have e2:n % 256 / 64 % 4=n / 64 % 4:=by exact ar174
 refine Tp λk hk=>?_;unfold VM;rw [e1 k (U0.mp hk),e2]
theorem basis_perm:∀ n < 256,(Zz (Zg n)).Perm (Um 16):=by decide +kernel
theorem basis_lt:∀ n < 256,∀ k < 4,(Zg n).getD k 0 < 16:=by decide +kernel
theorem basis_lin (n:Nat):Lin (ZU (Zg n)):=by
 rw [basis_mod];exact ⟨order_add _,basis_perm _ (Sr _ (by decide))⟩
theorem lin_xorN {F:Nat->Nat} (h0:F 0=0) (h:∀ a < 16,∀ b < 16,F (a^^^b)=F a^^^F b):∀ l:List Nat,(∀ x ∈ l,x < 16)->F (xorN l)=xorN (l.map F)/\xorN l < 16
 | [],_=>⟨h0,by decide⟩
 | b :: l,hl=>by
  obtain ⟨i1,i2⟩:=lin_xorN h0 h l λx hx=>hl x (Tt _ hx);have hb:=hl b Tx;rw [YG,To,YG,h b hb _ i2,i1];exact ⟨rfl,Nat.xor_lt_two_pow (n:=4) hb i2⟩
theorem mask_bits:∀ m < 16,xorN ((V1 m).map (2 ^ ·))=m:=by decide +kernel
theorem bits_one:∀ k < 4,V1 (2 ^ k)=[k]:=by decide +kernel
theorem WD {m k:Nat} (h:k ∈ V1 m):k < 4:=U0.mp (Ta.mp h).1
theorem pow_lt:∀ k < 4,2 ^ k < 16:=by decide
theorem dues_eq {bs wor:List Nat} {T:Nat->Prop} (G:Game T (λk=>gN wor (ZU bs k))):duesN bs wor=(Zz bs).map (gN wor):=by
 unfold duesN Zz;rw [Tc];refine Tp λm hm=>?_;have hm:=U0.mp hm
 have e:=(lin_xorN (F:=λk=>gN wor (ZU bs k)) G.zero (λa ha b hb=>G.lin ha hb) ((V1 m).map (2 ^ ·)) λx hx=>by
  obtain ⟨k,hk,rfl⟩:=Uq.mp hx
  exact pow_lt k (WD hk)).1
 rw [mask_bits m hm,Tc] at e;show dueOf bs wor m=gN wor (ZU bs m);rw [e];refine congrArg xorN (Tp λk hk=>?_);show gN wor (bs.getD k 0)=gN wor (ZU bs (2 ^ k));rw [ZU,bits_one k (WD hk),To,List.map_nil,YG];exact congrArg (gN wor) (Nat.xor_zero _).symm
end
section
open PySem
theorem laid_pick (bs:List Nat):ZM (laidA (Zz bs)) none none (some (-1))=(layA (ZU bs) 16).reverse:=by
 have h:sliceRange (sliceBounds none none (some (-1)) 8).1 (sliceBounds none none (some (-1)) 8).2.1 (sliceBounds none none (some (-1)) 8).2.2=[7,6,5,4,3,2,1,0]:=by decide +kernel
 unfold ZM;rw [laidA_len,h];rfl
theorem laid_at (bs:List Nat):laidN (Zz bs)=(layA (ZU bs) 16).reverse++layB (ZU bs) 16:=by
 rw [laidN,laid_pick]; rfl
theorem lay_mem {X:Nat->Nat} (hX:Lin X):∀ x ∈ (layA X 16).reverse++layB X 16,x < 16:=λx hx=>by
 rcases Ue.mp hx with h | h
 ·obtain ⟨i,hi,rfl⟩:=Uq.mp (List.mem_reverse.mp h);exact hX.lt (U0.mp (Ta.mp hi).1)
 ·obtain ⟨i,hi,rfl⟩:=Uq.mp h;exact hX.lt (U0.mp (Ta.mp hi).1)
theorem bar_facts (p:Nat->Bool):(barN p).length<=2 ^ 16/\(ofN (barN p)).Pairwise (·<=·):=by
 refine ⟨?_,?_⟩
 ·unfold barN;rw [Ut];refine Uc (T5 _ _) ?_;rw [Sx]; decide
 ·unfold ofN barN;rw [Sg,Sg];exact (List.Pairwise.filter _ T9).imp λh=>by exact ar173 h
theorem law_facts {b wd li hd:Nat} {ns:List Nat} {n:Nat} (brd:List Nat) (h1:b<=28) (h2:hd<=100) (h3:ns.length<=100) (hml:(Zn b).length=4) (row:∀ mask < 16,rowN b mask=Z9 b mask) (R:Xi b)
  (inn:∀ mask < 16,∀ k < 4,(Z9 b mask).any (· == (Zn b).getD k nought)=bitN mask k) (P:X9 b wd hd) (hb1:brd.length<=2 ^ 16) (hb2:(ofN brd).Pairwise (·<=·)) :
  ∃ ord kep wor lai cls,LawFacts b wd li hd ns (Zg n) ord brd kep wor lai cls:=by
 have hX:=basis_lin n;have G:=game_of hX brd;have hw:(Zc (Zz (Zg n)) brd 16).length=16:=Yo _ _ _;have ek:=kept_zero hX G;have ec:=Z07 (X:=ZU (Zg n)) (g:=gN (Zc (Zz (Zg n)) brd 16)) (λk hk=>G.lt k hk) 16 (Ug _);have hk:=YB (Zz (Zg n)) brd 16;have hc:=Yt (Zz (Zg n)) (gN (Zc (Zz (Zg n)) brd 16)) 16
 refine ⟨Zz (Zg n),Zv (Zz (Zg n)) brd 16,Zc (Zz (Zg n)) brd 16,laidN (Zz (Zg n)),Zf (Zz (Zg n)) (gN (Zc (Zz (Zg n)) brd 16)) 16,
  {
   hb:=h1,hh:=h2,hnl:=h3,hml:=hml,row:=row,R:=R,inn:=inn,P:=P,bl:=rfl,bx:=?_,ol:=?_,ox:=?_,rl:=hb1,rs:=hb2,kl:=hk.2,ks:=hk.1,kf:=?_,wl:=hw,pl:=?_,ll:=?_,lx:=?_,cl:=Uc hc.2 (by decide),cs:=hc.1,tm:=?_,
   eord:=rfl,ekep:=rfl,ewor:=rfl,elai:=rfl,ecls:=rfl,qcls:=?_,qkep:=ek,qdue:=dues_eq G }⟩
 ·rw [basis_mod]; exact basis_lt _ (Sr _ (by decide))
 ·rw [Zz,Ut,Sx]
 ·intro x hx;obtain ⟨k,hk,rfl⟩:=Uq.mp hx;exact hX.lt (U0.mp hk)
 ·intro a ha c hc;have ek:Zv (Zz (Zg n)) brd 16=Y7 (Zc (Zz (Zg n)) brd 16):=ek;rw [ek] at ha hc ⊢;exact zero_closed hX G ha hc
 ·rw [laid_pick]; rfl
 ·rw [laid_at]; rfl
 ·rw [laid_at]; exact lay_mem hX
 ·intro wo hwo;have ek:Zv (Zz (Zg n)) brd 16=Y7 (Zc (Zz (Zg n)) brd 16):=ek;rw [ek];exact class_times hX G hw hwo
 ·rw [laid_at]; exact ec
end
section
open PySem
section
open PySem.StrLaws PySem.Builtin PySem.Builtin.Str
theorem comma_at {x:Str} {a:Nat} {names:List Str} (e:x.cps.toList.drop a=(Str.join comma names).cps.toList) (n m:Str) (r:List Str) (hN:names=n :: m :: r) :
  At x comma x.length (a+n.length)/\x.cps.toList.drop (a+n.length+2)=(Str.join comma (m :: r)).cps.toList/\strSub x a (a+n.length)=n:=by
 subst hN
 have e':x.cps.toList.drop a=n.cps.toList++([44,32]++(Str.join comma (m :: r)).cps.toList):=by
  rw [e];show (n++comma++Str.join comma (m :: r)).cps.toList=_;rw [Str.cps_append,Str.cps_append,Array.toList_append,Array.toList_append,Sd]; rfl
 have d:x.cps.toList.drop (a+n.length)=[44,32]++(Str.join comma (m :: r)).cps.toList:=by
  rw [<- List.drop_drop,e']; exact List.drop_left
 refine ⟨⟨?_,?_⟩,?_,?_⟩
 ·have h:=congrArg List.length d;rw [Sz,U8] at h;have h2:x.cps.toList.length=x.length:=rfl;show a+n.length+2<=x.length;have h3:([44,32]:List Nat).length=2:=rfl;omega
 ·rw [subAt_eq,d]; rfl
 ·rw [<- List.drop_drop,d]; rfl
 ·apply Str.ext';apply Array.toList_inj.mp;rw [strSub_toList,e',Nat.add_sub_cancel_left]; exact List.take_left
theorem comma_no {x:Str} {a:Nat} {n:Str} {t:List Nat} (e:x.cps.toList.drop a=n.cps.toList++t) (hn:44 ∉ n.cps.toList) (k:Nat) (h1:a<=k) (h2:k < a+n.length):¬ At x comma x.length k:=λh=>by
 have h3:=h.2;rw [subAt_eq] at h3;obtain ⟨j,rfl⟩:∃ j,k=a+j:=⟨k - a,by omega⟩;have hj:j < n.cps.toList.length:=Nat.lt_of_add_lt_add_left h2;rw [<- List.drop_drop,e,List.drop_append_of_le_length (Tq hj),List.drop_eq_getElem_cons hj] at h3;have h4:=eq_of_beq h3;have h5:n.cps.toList[j]=44:=(List.cons.inj h4).1;exact hn (h5 ▸ T1 hj)
theorem Z03 (x:Str):∀ (names:List Str) (a:Nat) (cuts:List Nat) (f:Nat),names≠[]->(∀ p ∈ names,44 ∉ p.cps.toList)->x.cps.toList.drop a=(Str.join comma names).cps.toList ->
  ChainG x comma x.length a cuts f->(∀ k,f<=k->¬ At x comma x.length k)->partsFrom x comma.length a cuts=names
 | [],_,_,_,h,_,_,_,_=>absurd rfl h
 | [n],a,cuts,f,_,hp,e,hc,hf=>by
  have hx:x.length<=a+n.length:=by
   have h:=congrArg List.length e;rw [Sz] at h;have h2:x.cps.toList.length=x.length:=rfl;have h3:(Str.join comma [n]).cps.toList.length=n.length:=rfl;omega
  cases cuts with
  | nil =>
   have h:strSub x a x.length=n:=by
    apply Str.ext';apply Array.toList_inj.mp;rw [strSub_toList,e];exact Tw (by show n.length<=_; have h:=congrArg List.length e; rw [Sz] at h; exact Us h.symm)
   exact congrArg (· :: []) h
  | cons c r =>
   refine absurd hc.2.1 (comma_no (n:=n) (t:=[]) (by rw [e,Sj]; rfl) (hp n (Uj.mpr rfl)) c hc.1 ?_);have h:=hc.2.1.1;have h3:comma.length=2:=rfl;omega
 | n :: m :: r,a,cuts,f,_,hp,e,hc,hf=>by
  obtain ⟨h1,h2,h3⟩:=comma_at e n m r rfl
  have hno:=comma_no (x:=x) (a:=a) (n:=n) (t:=[44,32]++(Str.join comma (m :: r)).cps.toList) (by
   rw [e];show (n++comma++Str.join comma (m :: r)).cps.toList=_
   rw [Str.cps_append,Str.cps_append,Array.toList_append,Array.toList_append,Sd]; rfl) (hp n (.head _))
  cases cuts with
  | nil=>exact absurd h1 (hf _ (by rw [show f=a from hc]; exact U7 _ _))
  | cons c q =>
   obtain ⟨c1,c2,c3,c4⟩:=hc
   have ec:c=a+n.length:=by
    rcases Nat.lt_trichotomy c (a+n.length) with h | h | h
    ·exact absurd c2 (hno c c1 h)
    ·exact h
    ·exact absurd h1 (c3 _ (U7 _ _) h)
   subst ec;show strSub x a _ :: partsFrom x comma.length (a+n.length+2) q=_;rw [h3,Z03 x (m :: r) _ q f (List.cons_ne_nil _ _) (λp h=>hp p (.tail _ h)) h2 c4 hf]
theorem split_join (names:List Str) (h0:names≠[]) (hp:∀ p ∈ names,44 ∉ p.cps.toList):Txt.split (Txt.join comma names) comma=names:=by
 have ej:Txt.join comma names=Str.join comma names:=glued_eq_join comma names;rw [ej];generalize hx:Str.join comma names=x;obtain ⟨f,hG,hn⟩:=occ_tight x comma (by decide);have key:=Z03 x names 0 _ f h0 hp (by rw [hx]; rfl) hG hn;unfold Txt.split
 split
 ·rename_i hc
  rcases names with _ | ⟨n,_ | ⟨m,r⟩⟩
  ·exact absurd rfl h0
  ·rw [<- hx]; rfl
  ·obtain ⟨h1,_,_⟩:=comma_at (x:=x) (a:=0) (by rw [hx]; rfl) n m r rfl;rw [Bool.or_eq_true,decide_eq_true_eq,decide_eq_true_eq] at hc;rcases hc with h | h
   ·exact absurd (Uc (S5 _ _) h1.1) (Nat.not_le.mpr h)
   ·have h2:=h1.2;rw [subAt_eq] at h2;have hk:strKind comma=strKind ⟨#[44]⟩:=by decide +kernel
    refine absurd ?_ (kind_free x 44 (hk ▸ h));have h3:44 ∈ (x.cps.toList.drop (0+n.length)).take comma.length:=by rw [eq_of_beq h2]; exact .head _
    exact List.mem_of_mem_drop (List.mem_of_mem_take h3)
 ·split
  ·rename_i h
   rw [List.isEmpty_iff.mp h] at key;rw [<- key];exact congrArg (· :: []) (sub_whole x).symm
  ·rw [partsBetween_eq]; exact key
end
theorem flag_row:∀ b < 29,∀ mask < 16,Zo (mask*2 ^ b)=Z9 b mask:=by decide +kernel
theorem mark_free:∀ b < 29,∀ k < 4,44 ∉ ((Zn b).getD k nought).cps.toList:=by decide +kernel
theorem marks_len:∀ b < 29,(Zn b).length=4:=by decide +kernel
theorem row_inn:∀ b < 29,∀ mask < 16,∀ k < 4,(Z9 b mask).any (· == (Zn b).getD k nought)=bitN mask k:=by decide +kernel
theorem Xh:∀ b < 29,∀ mask < 16,Z9 b mask≠[]/\(Z9 b mask).length<=4:=by decide +kernel
theorem mark_item:∀ b < 29,∀ k < 4,((Zn b).getD k nought).length<=100/\PyData.strOk ((Zn b).getD k nought)=true/\((Zn b).getD k nought).length≠0:=by decide +kernel
theorem hex_item:hex0.length<=100/\PyData.strOk hex0=true/\hex0.length≠0:=by decide +kernel
theorem row_item {b:Nat} (hb:b < 29) {mask:Nat} {x:Str} (h:x ∈ Z9 b mask):x.length<=100/\PyData.strOk x=true/\x.length≠0:=by
 unfold Z9 at h
 split at h
 ·obtain rfl:=Uj.mp h;exact hex_item
 ·obtain ⟨k,hk,rfl⟩:=Uq.mp h;exact mark_item b hb k (WD hk)
theorem row_facts {b:Nat} (hb:b < 29):Xi b:=⟨λm hm=>(Xh b hb m hm).1,λm hm=>(Xh b hb m hm).2,λm hm x hx=>let h:=row_item hb hx; ⟨h.1,h.2.1⟩⟩
theorem mark_free0:44 ∉ hex0.cps.toList:=by decide +kernel
theorem row_all {b:Nat} (hb:b < 29) (mask:Nat) (hm:mask < 16):rowN b mask=Z9 b mask:=by
 unfold rowN;rw [flag_row b hb mask hm];refine split_join _ (Xh b hb mask hm).1 λp h=>?_;unfold Z9 at h
 split at h
 ·rw [Uj.mp h]; exact mark_free0
 ·obtain ⟨k,hk,rfl⟩:=Uq.mp h;exact mark_free b hb k (WD hk)
end
section
open PySem Builtin PySem.Builtin.Str
theorem W8 (p:Nat->Bool) (x y:Str):(x++y).cps.all p=(x.cps.all p && y.cps.all p):=by
 cases x; cases y
 show (Array.append _ _).all p=_;exact Array.all_append
theorem app_assoc (x y z:Str):x++y++z=x++(y++z):=by
 cases x; cases y; cases z
 exact congrArg Str.mk (Array.append_assoc ..)
theorem app_none (x:Str):x++(⟨#[]⟩:Str)=x:=by
 cases x
 exact congrArg Str.mk (Array.append_empty ..)
theorem none_app (x:Str):(⟨#[]⟩:Str)++x=x:=by
 cases x
 exact congrArg Str.mk (Array.empty_append ..)
theorem catS_app:∀ a b:List Str,catS (a++b)=catS a++catS b
 | [],b=>(none_app _).symm
 | x :: a,b=>by
  show x++catS (a++b)=x++catS a++catS b;rw [catS_app a b,app_assoc]
theorem text_app (a:List (Str × Str)) (p:Str × Str):ZV (a++[p])=ZV a++(p.1++p.2):=by
 unfold ZV;rw [Tv,catS_app];exact congrArg _ (app_none _)
theorem size_put (a:List (Str × Str)) (p:Str × Str):Zb (a++[p])=Zb a+(p.1.length+p.2.length):=by simp [Zb]
theorem VS (a:List (Str × Str)) (p:Str × Str):popL (a++[p])=p/\(a++[p]).dropLast=a:=by simp [popL]
theorem sp_eq:sp=blank:=by decide +kernel
theorem em_eq:em=(⟨#[]⟩:Str):=rfl
theorem no_eq:nought=(⟨#[]⟩:Str):=by decide +kernel
noncomputable abbrev Inky (x:Str):Prop:=x.cps.all Unicode.isSpace=false
theorem no_ink {p:Nat->Bool} (h:(#[]:Array Nat).all p=false):False:=by
 rw [Array.all_eq_false] at h;obtain ⟨i,hi,_⟩:=h;exact absurd hi (Sk i)
theorem Inky.ne {x:Str} (h:Inky x):x≠nought:=λe=>by
 rw [e,no_eq] at h;exact no_ink h
theorem Vv (l:List Str) (t x:Str):Ym (l++[t]) x=l++[t++x]:=by
 unfold Ym;simp
structure Same (s:FSt) (r:List Str × Nat):Prop where
 rows:r.1=s.1++[ZV s.2.1]
 used:r.2=s.2.2+Zb s.2.1
 last:∃ a p,s.2.1=a++[p]/\Inky p.2
theorem Z0o (b:Str):Zb [(blank,b)]=1+b.length:=by rw [YL,Ye]
theorem text_one (a b:Str):ZV [(a,b)]=a++b:=app_none _
theorem Same.put {s:FSt} {r:List Str × Nat} (h:Same s r) (mx:Nat) {b:Str} (hb:Inky b):Same (putL s.1 s.2.1 s.2.2 mx b) (Y6 mx r b):=by
 obtain ⟨l,ps,k⟩:=s;obtain ⟨rs,u⟩:=r;obtain ⟨h1,h2,h3⟩:=h;dsimp only at h1 h2 h3;subst h1 h2
 have e:k+Zb (ps++[(blank,b)])=k+Zb ps+1+b.length:=by
  rw [size_put];show k+(Zb ps+(blank.length+b.length))=_;rw [Ye]; exact ar121
 unfold putL Y6;dsimp only;rw [e,sp_eq]
 by_cases q:mx < k+Zb ps+1+b.length
 ·rw [if_pos q,if_pos q];refine ⟨?_,?_,⟨[],_,rfl,hb⟩⟩
  ·rw [Vv,em_eq,none_app,text_one]
  ·rw [Z0o]
 ·rw [if_neg q,if_neg q];refine ⟨?_,?_,⟨ps,_,rfl,hb⟩⟩
  ·rw [Vv,text_app]
  ·rw [size_put];show k+Zb ps+(1+b.length)=k+(Zb ps+(blank.length+b.length));rw [Ye]; exact Nat.add_assoc _ _ _
theorem Same.first (head mx:Nat) {b:Str} (hb:Inky b):Same (Yh head mx b) (Za b mx head):=by
 unfold Yh Za;have e:Zb [(nought,b)]=b.length:=by rw [YL,Yk,Rf]
 rw [e]
 by_cases q:mx < head+b.length/\0 < head
 ·rw [if_pos q,if_pos ⟨q.2,q.1⟩]
  have en:newL [] [] head=[⟨#[]⟩]:=by
   have e1:eolP []=[(("" : Str),("" : Str))]:=by decide +kernel
   have e2:Zb [(("" : Str),("" : Str))]=0:=by decide +kernel
   have e3:ZV [(("" : Str),("" : Str))]=⟨#[]⟩:=by decide +kernel
   unfold newL;rw [e1,e2,e3,if_pos (by exact ar123 q),if_neg (by simp)];rfl
  refine ⟨?_,?_,⟨[],_,rfl,hb⟩⟩
  ·rw [en,text_one,sp_eq]; rfl
  ·rw [Z0o]; exact (Rf _).symm
 ·rw [if_neg q,if_neg λh=>q ⟨h.2,h.1⟩];refine ⟨?_,?_,⟨[],_,rfl,hb⟩⟩
  ·rw [text_one,no_eq,none_app]; rfl
  ·rw [e]
theorem Same.all (w0:Str) (ws:List Str) (mx head:Nat) (hw:∀ x ∈ w0 :: ws,Inky x):∀ i≤ws.length,Same (stN (w0 :: ws) mx head (i+1)) (ZR ws mx (Za w0 mx head) i)
 | 0,_=>Same.first head mx (hw w0 Tx)
 | i+1,hi=>by
  have ih:=Same.all w0 ws mx head hw i (U6 hi);have hx:=Ui hi
  have e1:stN (w0 :: ws) mx head (i+1+1)=putL (stN (w0 :: ws) mx head (i+1)).1 (stN (w0 :: ws) mx head (i+1)).2.1 (stN (w0 :: ws) mx head (i+1)).2.2 mx ws[i]:=by
   rw [stN,List.getElem?_cons_succ,hx]; rfl
  have e2:ZR ws mx (Za w0 mx head) (i+1)=Y6 mx (ZR ws mx (Za w0 mx head) i) ws[i]:=by
   rw [ZR,hx]
  rw [e1,e2];exact ih.put mx (hw _ (Tt _ (T1 _)))
theorem inky_text {ps a:List (Str × Str)} {p:Str × Str} (e:ps=a++[p]) (h:Inky p.2):Txt.isspace (ZV ps)=false/\0 < Zb ps:=by
 subst e
 have hn:p.2.length≠0:=λq=>by
  have:p.2.cps=#[]:=Array.eq_empty_of_size_eq_zero q;unfold Inky at h;rw [this] at h;exact no_ink h
 rw [text_app,size_put];refine ⟨?_,by exact ar122 hn⟩;unfold Txt.isspace;rw [W8,W8,h,Bool.and_false,Bool.and_false,Bool.and_false]
theorem Same.new {s:FSt} {r:List Str × Nat} (h:Same s r):newL s.1 s.2.1 s.2.2=r.1/\newL s.1 (s.2.1++[trans]) s.2.2=r.1:=by
 obtain ⟨a,p,e,hp⟩:=h.last;obtain ⟨h1,h2⟩:=inky_text e hp
 have e1:eolP s.2.1=s.2.1:=by
  unfold eolP;rw [e,(VS a p).1,(VS a p).2,if_neg λq=>hp.ne (congrArg Prod.snd q)]
 have e2:eolP (s.2.1++[trans])=s.2.1:=by
  unfold eolP;rw [(VS _ _).1,(VS _ _).2,if_pos rfl]
 have key:(if 0 < s.2.2+Zb s.2.1 then (if XI s.2.2 s.2.1 && !s.1.isEmpty then s.1.set (s.1.length - 1) (s.1.getD (s.1.length - 1) nought++ZV s.2.1) else s.1++[ZV s.2.1]) else s.1)=r.1:=by
  have eo:XI s.2.2 s.2.1=false:=by
   unfold XI;rw [h1];have:(s.2.2+Zb s.2.1 != 0)=true:=by simp; exact ar125 h2
   rw [this]; simp
  rw [if_pos (by exact Nat.add_pos_right (Prod.snd (Prod.snd s)) h2),eo,if_neg (by simp),h.rows]
 unfold newL;rw [e1,e2];exact ⟨key,key⟩
theorem new_trans (l:List Str) (t:Str):newL (l++[t]) [trans,trans] 0=l++[t++blank]:=by
 have e1:eolP [trans,trans]=[trans]:=by decide +kernel
 have e2:Zb [trans]=1:=by decide +kernel
 have e3:ZV [trans]=blank:=by decide +kernel
 have e4:XI 0 [trans]=true:=by decide +kernel
 unfold newL;rw [e1,e2,e3,e4,if_pos (by decide),if_pos (by simp)];simp
theorem glue_last (g:Str) (l:List Str) (t x:Str):glued g (l++[t++x])=glued g (l++[t])++x:=by
 cases l with
 | nil=>rfl
 | cons a l =>
  unfold glued;simp only [List.cons_append,List.drop_succ_cons,List.drop_zero,List.foldl_append,Sm,List.foldl_nil,List.headD_cons];exact congrArg Str.mk (Array.append_assoc ..).symm
theorem page_eq {row:List Str} {wd hd:Nat} (hn:row≠[]) (hw:∀ x ∈ row,Inky x):Txt.join newline (linesN row wd hd)=YW row wd hd:=by
 cases row with
 | nil=>exact absurd rfl hn
 | cons w0 ws =>
  have S:=Same.all w0 ws wd hd hw ws.length (Ug _);obtain ⟨n1,n2⟩:=S.new;unfold linesN YW endN;rw [show (w0 :: ws).length=ws.length+1 from rfl]
  by_cases q:(ws.length+1 == 2)=true
  ·rw [if_pos q,if_pos q];dsimp only;rw [n2,S.rows,new_trans];show glued newline _=glued newline _++blank;rw [glue_last, <- S.rows]; rfl
  ·rw [if_neg q,if_neg q,n1,no_eq,app_none]; rfl
end
section
open PySem Builtin PySem.Builtin.Str
theorem fold_size (g:Str):∀ (l:List Str) (a:Array Nat),(l.foldl (λacc p=>acc++g.cps++p.cps) a).size=a.size+(l.map (·.length)).sum+l.length*g.length
 | [],a=>by simp
 | x :: l,a=>by
  rw [Sm,fold_size g l,Array.size_append,Array.size_append,To,Ri,Td,Nat.succ_mul];show a.size+g.length+x.length+_+_=a.size+(x.length+_)+_;exact ar129
theorem glued_size (g:Str) (l:List Str):(glued g l).length<=(l.map (·.length)).sum+l.length*g.length:=by
 cases l with
 | nil=>exact Tb _
 | cons x l =>
  show (l.foldl (λacc p=>acc++g.cps++p.cps) x.cps).size<=_;rw [fold_size,To,Ri,Td,Nat.succ_mul];show x.length+_+_<=_;exact ar126
theorem fold_all (p:Nat->Bool) (g:Str) (hg:g.cps.all p=true):∀ (l:List Str) (a:Array Nat),(∀ x ∈ l,x.cps.all p=true)->a.all p=true->(l.foldl (λacc p=>acc++g.cps++p.cps) a).all p=true
 | [],a,_,h=>h
 | x :: l,a,hl,h=>by
  rw [Sm];refine fold_all p g hg l _ (λy hy=>hl y (Tt _ hy)) ?_;rw [Array.all_append,Array.all_append,h,hg,hl x Tx]; rfl
theorem glued_all (p:Nat->Bool) (g:Str) (hg:g.cps.all p=true) (l:List Str) (hl:∀ x ∈ l,x.cps.all p=true):(glued g l).cps.all p=true:=by
 cases l with
 | nil=>exact Array.all_empty ..
 | cons x l=>exact fold_all p g hg l _ (λy hy=>hl y (Tt _ hy)) (hl x Tx)
theorem VF {p:Nat->Bool} {l:List Str} {x:Str} (hl:∀ y ∈ l,y.cps.all p=true) (hx:x.cps.all p=true):∀ y ∈ Ym l x,y.cps.all p=true:=λy hy=>by
 rcases S4 hy with h | rfl
 ·exact hl y h
 ·rw [W8,hx,Bool.and_true];rw [Uu]
  cases h:l[l.length - 1]? with
  | none=>exact Array.all_empty ..
  | some z=>exact hl z (Uk h)
theorem rows_all {p:Nat->Bool} (hs:sp.cps.all p=true) (w0:Str) (ws:List Str) (wd hd:Nat) (hw:∀ x ∈ w0 :: ws,x.cps.all p=true):∀ i≤ws.length,∀ y ∈ (ZR ws wd (Za w0 wd hd) i).1,y.cps.all p=true
 | 0,_=>by
  have h0:=hw w0 Tx;unfold ZR Za;intro y hy
  split at hy
  ·rcases Ur.mp hy with rfl | hy
   ·exact Array.all_empty ..
   ·obtain rfl:=Uj.mp hy;rw [W8,hs,h0]; rfl
  ·obtain rfl:=Uj.mp hy;exact h0
 | i+1,hi=>by
  have ih:=rows_all hs w0 ws wd hd hw i (U6 hi);have hx:=Ui hi;have h1:=hw ws[i] (Tt _ (T1 _));rw [ZR,hx];have hb:(sp++ws[i]).cps.all p=true:=by rw [W8,hs,h1]; rfl
  show ∀ y ∈ (Y6 wd _ ws[i]).1,_;unfold Y6
  split
  ·exact VF (λy hy=>by
    rcases Ue.mp hy with h | h
    ·exact ih y h
    ·obtain rfl:=Uj.mp h
     exact Array.all_empty ..) hb
  ·exact VF ih hb
theorem sum_len {l:List Str} {n:Nat} (h:∀ r ∈ l,r.length<=n):(l.map (·.length)).sum<=l.length*n:=by
 induction l with
 | nil=>exact Tb _
 | cons x l ih =>
  have:=ih λr hr=>h r (Tt _ hr);have:=h x Tx;rw [To,Ri,Td,Nat.succ_mul];omega
theorem mark_ink:∀ b < 29,∀ k < 4,Inky ((Zn b).getD k nought):=by decide +kernel
theorem hex_ink:Inky hex0:=by decide +kernel
theorem row_ink {b:Nat} (hb:b < 29) {mask:Nat} {x:Str} (h:x ∈ Z9 b mask):Inky x:=by
 unfold Z9 at h
 split at h
 ·obtain rfl:=Uj.mp h;exact hex_ink
 ·obtain ⟨k,hk,rfl⟩:=Uq.mp h;exact mark_ink b hb k (WD hk)
theorem line_ok:newline.cps.all (· < 0x110000)=true/\sp.cps.all (· < 0x110000)=true:=by decide +kernel
theorem page_facts {b wd hd:Nat} (hb:b < 29):X9 b wd hd:=by
 have key:∀ mask < 16,((Yu (Z9 b mask) wd hd).map (·.length)).sum+(Yu (Z9 b mask) wd hd).length*newline.length<=2 ^ 20/\∀ y ∈ Yu (Z9 b mask) wd hd,y.cps.all (· < 0x110000)=true:=λmask hm=>by
  obtain ⟨h1,h2⟩:=Xh b hb mask hm;have hi:=λx hx=>row_item (b:=b) hb (mask:=mask) (x:=x) hx;generalize Z9 b mask=row at *
  cases row with
  | nil=>exact absurd rfl h1
  | cons w0 ws =>
   have hl:ws.length<=3:=Nat.le_of_succ_le_succ h2;obtain ⟨r1,r2,r3⟩:=rows_inv ws wd w0 hd (Uc (hi w0 Tx).1 (by decide)) (λx hx=>Uc (hi x (Tt _ hx)).1 (by decide)) ws.length;refine ⟨?_,rows_all line_ok.2 w0 ws wd hd (λx hx=>(hi x hx).2.1) ws.length (Ug _)⟩;have hs:=sum_len r3;rw [VB];unfold Yu;dsimp only;generalize ZR ws wd (Za w0 wd hd) ws.length=st at *;have a1:(ws.length+1)*1001<=4004:=Sw 1001 (T7 hl);have a2:st.1.length*((ws.length+1)*1001)<=5*4004:=Nat.mul_le_mul (by exact ar133 hl r2) a1;exact ar140 hl r1 r2 hs a2
 have hink:∀ mask,∀ x ∈ Z9 b mask,Inky x:=λmask x hx=>row_ink hb hx
 have hlen:∀ mask < 16,(YW (Z9 b mask) wd hd).length<=2 ^ 24:=λmask hm=>by
  have h1:=Uc (glued_size newline (Yu (Z9 b mask) wd hd)) (key mask hm).1
  have h2:((if (Z9 b mask).length == 2 then blank else nought):Str).length<=1:=by
   split
   ·exact Us Ye
   ·rw [Yk]; decide
  unfold YW;rw [YC];have:(Txt.join newline (Yu (Z9 b mask) wd hd)).length<=2 ^ 20:=h1;exact ar149 h2 this
 refine ⟨λmask hm=>page_eq (Xh b hb mask hm).1 (hink mask),hlen,λmask hm=>?_,λmask hm=>Uc (key mask hm).1 (by decide)⟩;have e:pageN b wd hd mask=YW (Z9 b mask) wd hd:=page_eq (Xh b hb mask hm).1 (hink mask);rw [e,YW];show (_++_:Str).cps.all (· < 0x110000)=true;rw [W8,show (Txt.join newline (Yu (Z9 b mask) wd hd)).cps.all (· < 0x110000)=true from glued_all _ _ line_ok.1 _ (key mask hm).2,S9]
 split
 ·exact XJ
 ·exact YH
theorem law_holds:rw0.Holds:=main_ λc0 c1 c2 c3 c4=>by
 have hb:c0 % 29 < 29:=Sr _ (by decide);obtain ⟨b1,b2⟩:=bar_facts (YP (Yd (c0 % 29) (4+c0 / 29 % 40) (c0 / 3480 % 3*4)) (c0 / 1160 % 3) ([c2 % 64 ^ 4,c3 % 64 ^ 2,c4 % 64].map (· % 16)));have hh:c0 / 3480 % 3*4<=100:=by have:=Sr (c0 / 3480) (show 0 < 3 by decide); exact ar139 this
 obtain ⟨ord,kep,wor,lai,cls,H⟩:=law_facts (wd:=4+c0 / 29 % 40) (li:=c0 / 1160 % 3) (hd:=c0 / 3480 % 3*4) (ns:=[c2 % 64 ^ 4,c3 % 64 ^ 2,c4 % 64]) (n:=c1) _ (Sb hb) hh (by decide:3<=100) (marks_len _ hb) (row_all hb) (row_facts hb) (row_inn _ hb) (page_facts hb) b1 b2;exact ⟨ord,_,kep,wor,lai,cls,rfl,H⟩
end
end Mine
theorem PySem.Challenge.cw_wa0045_01_holds : PySem.Challenge.rw_wa0045_01.Holds :=
  Mine.law_holds
