/- A part of the proof of FnCurveOf. -/
import Derived.Test.YtofkehhflkdabaaGreatDoorP31
import Derived.Test.YtofkehhflkdabaaGreatDoorP34
set_option maxRecDepth 100000
set_option maxHeartbeats 8000000
namespace Go.Proofs.YtofkehhflkdabaaGreatDoor
open Go Go.RowKit
theorem St.getN {F:Nat→Prop} {w:World} {L:List (Nat×E)} (h:St F w L) {p N:Nat} (hm:(p,ofI (N:Int))∈L):∃a l k,Two w p (.bool false) (.slice a l k)∧IsNat w a l k N:=by
 obtain⟨a,l,k,h1,h2,-⟩:=h.getI hm
 have e:decide ((N:Int)<0)=false:=decide_eq_false (by omega)
 rw [e] at h1
 rw [Int.natAbs_natCast] at h2
 exact⟨a,l,k,h1,h2⟩
theorem isNat_long {w:World} {a:Option Addr} {l k N:Nat} (h:IsNat w a l k N) (hN:18446744073709551616≤N):1<l:=by
 rcases h with⟨_,_,_,h⟩ | ⟨b,c,_,_,_,h4,h5,_⟩
 ·omega
 ·rcases Nat.lt_or_ge 1 l with h' | h'
  ·exact h'
  ·exfalso
   have hW:W64=18446744073709551616:=rfl
   have:=val_lt (c:=c) (o:=0) (n:=l) (fun j hj=>by rw [Nat.zero_add];exact h4.lt j (by omega))
   rw [h5] at this
   have h6:W64^l≤W64:=by
    have h6:W64^l≤W64^1:=Nat.pow_le_pow_right (by rw [hW];omega) h'
    rwa [Nat.pow_one] at h6
   omega
theorem newNat_any (w:World) (x:Nat) (hx:x<9223372036854775808) (hx0:0<x) :
  Calls Tryz.prog 63 #[.int .i64 (x:Int)] w fun e w'=>∃r a k,e = .returned (pt r)∧Two w' r (.bool false) (.slice a 1 k)∧IsNat w' a 1 k x∧Keep Nope w w':=by
 have t1:¬((x:Int)<0):=by omega
 have t2:decide ((x:Int)<0)=false:=decide_eq_false t1
 have t3:IntKind.u64.wrap (x:Int)=(x:Int):=IntWalk.u64_in _ (by omega)
 have t4:((x:Int)==0)=false:=beq_eq_false_iff_ne.2 (by omega)
 have hxW:x<W64:=by rw [W64];omega
 have hk:Keep Nope w ((w.alloc (.cells #[.int .u64 (x:Int)] 102 (0,0))).alloc (.cells #[.bool false,.slice (some ⟨w.heap.size,0,none⟩) 1 1] 85 (0,0))):=((Keep.refl _ w).alloc _).alloc _
 have e:(w.alloc (.cells #[.int .u64 (x:Int)] 102 (0,0))).heap.size=w.heap.size+1:=Array.size_push _
 have ht:=Two.new (w.alloc (.cells #[.int .u64 (x:Int)] 102 (0,0))) (.bool false) (.slice (some ⟨w.heap.size,0,none⟩) 1 1) 85
 rw [e] at ht
 have hr:=(row_lit w x hxW 102).keep ((Keep.refl Nope _).alloc (.cells #[.bool false,.slice (some ⟨w.heap.size,0,none⟩) 1 1] 85 (0,0))) id
 have HT:Hid _:=ht
 have HR:Hid _:=hr
 have HK:Hid _:=hk
 clear t1 ht hr hk e
 go_enter Tryz.func63,Tryz.ntmps63
 go_wp2_with fail
 go_ret
 exact⟨_,_,_,rfl,oo HT,.inr ⟨_,_,rfl,Nat.le_refl _,by omega,oo HR,by simp [val],.inr (by simp;omega)⟩,oo HK⟩
theorem inv_uniq {M z zi:Nat} {U:Int} (h:∃t:Int,U*z=1+t*M) (h0:0≤U∧U≤M) (hi:zi<M) (hzi:zi*z%M=1) (h1:0<zi):U=(zi:Int):=by
 obtain⟨t,ht⟩:=h
 have e2:(zi:Int)*z=1+((zi*z / M:Nat):Int)*M:=by
  have:=Nat.div_add_mod (zi*z) M
  rw [hzi,Nat.mul_comm] at this
  exact_mod_cast (by omega:zi*z=1+zi*z / M*M)
 obtain⟨s,hs⟩:∃s:Int,s=((zi*z / M:Nat):Int):=⟨_,rfl⟩
 rw [← hs] at e2
 have e3:U-(zi:Int)=((zi:Int)*t-U*s)*M:=by
  have h5:U*((zi:Int)*z)=U+U*s*M:=by rw [e2,Int.mul_add,Int.mul_one,Int.mul_assoc]
  have h6:(zi:Int)*(U*z)=zi+zi*t*M:=by rw [ht,Int.mul_add,Int.mul_one,Int.mul_assoc]
  have h7:U*((zi:Int)*z)=(zi:Int)*(U*z):=by rw [← Int.mul_assoc,← Int.mul_assoc,Int.mul_comm U]
  rw [Int.sub_mul]
  omega
 generalize (zi:Int)*t-U*s=d at e3
 rcases Int.lt_trichotomy d 0 with hd | rfl | hd
 ·have:d*M≤(-1)*M:=Int.mul_le_mul_of_nonneg_right (by omega) (by omega)
  omega
 ·omega
 ·have:1*(M:Int)≤d*M:=Int.mul_le_mul_of_nonneg_right (by omega) (by omega)
  omega
def Nrp (F:Nat→Prop) (w:World) (L:List (Nat×E)) (T:TypeId) (pc pr pz z zi M q:Nat) (w':World):Prop:=
 ∃(q0 q1 q2 q3 q4:Nat) (L':List (Nat×E)),Blk w' q #[.iface T (pt pc),pt pr,pt pz,pt q0,pt q1,pt q2,pt q3,pt q4] 115∧w.heap.size≤q ∧
   St (fun b=>F b∨b=q) w' L'∧Keep (fun b=>¬F b) w w'∧(∀x∈L,x∈L')∧(q0,ofI (zi:Int))∈L'∧(q1,ofI ((z^2%M:Nat):Int))∈L'∧(q2,ofI ((z^3%M:Nat):Int))∈L'∧(q3,ofI ((zi^2%M:Nat):Int))∈L'∧(q4,ofI ((zi^3%M:Nat):Int))∈L'
theorem pow_more (M k n:Nat) (h:M<2^k) (hk:k≤n):M<2^n:=Nat.lt_of_lt_of_le h (Nat.pow_le_pow_right (by decide) hk)
def nrL (c s:Nat):Array Bool:=#[true,true,true,true,s.testBit 0,true,decide (0<c),true,true,true,true,decide (1<c),s.testBit 1,true,decide (2<c),true,true,true,true,decide (3<c),s.testBit 2,true,decide (4<c),true,true,true,true,decide (5<c),s.testBit 3,true,decide (6<c),true,true,true,true,decide (7<c),false,false,false]
def Zr (z zi M j:Nat):Nat:=(if j<2 then z else zi)^exOf j%M
theorem nj_exp {F:Nat→Prop} {w1:World} {L1:List (Nat×E)} {z zi M pz q0 pP:Nat} (hL:∀x∈L1,x.1<w1.heap.size) (hz:(pz,ofI (z:Int))∈L1) (hq:(q0,ofI (zi:Int))∈L1) (hP:(pP,ofI (M:Int))∈L1)
  (hz1:18446744073709551616≤z) (hzM:z<M) (hi1:18446744073709551616≤zi) (hiM:zi<M) (hM:M<2^640) {j s:Nat} {P R O:Nat→Value} {v:World} (h:Nj F w1 L1 (Zr z zi M) (2*j+1) s P R O v) (hj:j<4) (hb:s.testBit j=true) :
  Calls Tryz.prog 62 #[P j,pt (if j<2 then pz else q0),R j,pt pP] v fun e w'=>e = .returned (P j)∧Nj F w1 L1 (Zr z zi M) (2*j+1+1) s P R (upf O j (P j)) w':=by
 obtain⟨L,h1,h2,h3⟩:=h.st
 obtain⟨q,e,hq1,-,h5⟩:=h3 j hj hb
 obtain⟨-,ht⟩:=h5 (by omega)
 obtain⟨r,a,k,er,hr,hn⟩:=h.new j rfl
 have hB:(if j<2 then z else zi)<M∧18446744073709551616≤(if j<2 then z else zi):=by split<;>exact⟨by omega,by omega⟩
 have hbm:((if j<2 then pz else q0),ofI (((if j<2 then z else zi):Nat):Int))∈L:=by
  split
  ·exact h2 _ hz
  ·exact h2 _ hq
 obtain⟨ax,lx,kx,tx,nx⟩:=h1.getN hbm
 obtain⟨am,lm,km,tm,nm⟩:=h1.getN (h2 _ hP)
 have HM:Hid _:=hM
 have hM2:=pow_more M 640 (64*10) hM (by decide)
 have hB2:=Nat.lt_trans hB.1 hM2
 have lx2:=isNat_len nx hB2
 have lm2:=isNat_len nm hM2
 clear hM hB2 hM2
 have b:=h1.base
 have hpm:q≠pP:=by have:=hL _ hP;simp only at this;omega
 have he:exOf j=2∨exOf j=3:=by unfold exOf;split<;>simp
 have hC:=exp_any v q (if j<2 then pz else q0) r pP ax a am lx kx k lm km _ (exOf j) M ht tx hr tm hpm nx (isNat_long nx hB.2) (by omega) hn he nm (isNat_long nm (by omega)) (by omega) (by omega) b.c3 b.c4 b.c5 b.c6
 rw [er,e]
 refine(expE_any v _ _ _ _ _ hC).mono ?_
 rintro e' w' ⟨rfl,hg⟩
 exact⟨rfl,h.exp hj hb e hL hg⟩
theorem nj_num {F:Nat→Prop} {w1:World} {L1:List (Nat×E)} {Z:Nat→Nat} (n:Nat) {j s:Nat} {P R O:Nat→Value} {v:World} (h:Nj F w1 L1 Z (2*j) s P R O v) (hn:exOf j=n) :
  Calls Tryz.prog 63 #[.int .i64 (n:Int)] v fun e w'=>∃x,e = .returned x∧Nj F w1 L1 Z (2*j+1) s P (upf R j x) O w':=by
 have hn2:n=2∨n=3:=by rw [← hn,exOf];split<;>simp
 refine(newNat_any v n (by omega) (by omega)).mono ?_
 rintro e w' ⟨r,a,k,rfl,hT,hN,hk⟩
 exact⟨_,rfl,h.num hk hT (hn▸hN)⟩
theorem newR_any (F:Nat→Prop) (w:World) (L:List (Nat×E)) (h:St F w L) (T:TypeId) (pc pr pz pP:Nat) (z zi M:Nat) (hz:(pz,ofI (z:Int))∈L) (hP:(pP,ofI (M:Int))∈L) (cP:w.cell? ⟨pr,0,none⟩=some (pt pP)) (hF:F pr)
  (hz1:18446744073709551616≤z) (hzM:z<M) (hs:M<2^640) (hi1:18446744073709551616≤zi) (hiM:zi<M) (hzi:zi*z%M=1) :
  Calls Tryz.prog 56 #[.iface T (pt pc),pt pr,pt pz] w fun e w'=>∃q,e = .returned (pt q)∧Nrp F w L T pc pr pz z zi M q w':=by
 have HONE:Hid (∃m n:Int,m*M+n*z=1):=by
  refine⟨-((zi*z / M:Nat):Int),zi,?_⟩
  have:=Nat.div_add_mod (zi*z) M
  rw [hzi,Nat.mul_comm] at this
  have e:(zi:Int)*z=((zi*z / M:Nat):Int)*M+1:=by exact_mod_cast this.symm
  rw [e,Int.neg_mul]
  omega
 have HZI:Hid _:=hzi
 have HSZ:Hid _:=hs
 have HIN:Hid (z<M):=hzM
 have HZ1:Hid _:=hz1
 have HI1:Hid _:=hi1
 have h1:=h.alloc 85
 have k1:Keep Nope w (w.alloc iz):=(Keep.refl _ w).alloc _
 have cP1:=k1.cell cP id
 have hlt:=h.in hP
 clear hzi hs hz1 hi1
 go_enter Tryz.func56,Tryz.ntmps56
 go_wp2_with fail
 have hsz:(w.alloc iz).heap.size=w.heap.size+1:=Array.size_push _
 generalize hwa:w.alloc iz=wa at *
 generalize hqa:w.heap.size=q0 at *
 have HQ:Hid (w.heap.size=q0):=hqa
 clear hwa hqa
 refine(modInverse_any F _ _ h1 0 _ pz pP _ z M rfl (.tail _ hz) (.tail _ hP) (by have:=HZ1.out;omega) hzM HONE.out ⟨by have:=HSZ.out;omega⟩).mono ?_
 rintro e w1 ⟨U,hU,hUM,rfl,h2,hk2⟩
 obtain rfl:=inv_uniq hU hUM hiM HZI.out (by have:=HI1.out;omega)
 have h3:St F w1 ((q0,ofI (zi:Int))::L):=h2
 have KW:Hid (Keep (fun b=>¬F b) w w1):=(k1.mono fun _ _ h=>h.elim).trans hk2
 have cP2:=hk2.cell cP1 (fun h=>h hF)
 have hL:∀x∈((q0,ofI (zi:Int))::L),x.1<w1.heap.size:=fun x hx=>h3.in (v:=x.2) hx
 have H3:Hid (St F w1 ((q0,ofI (zi:Int))::L)):=h3
 have HL:Hid _:=hL
 clear hU hUM h2 hk2 h1 k1 cP cP1 h3 hL HONE HZI hlt
 go_upto_region 2 with fail
 refine RS (fun w'=>Keep Nope w1 w') [10,18,26,34] ?_
 have HS:(fun w':World=>Keep Nope w1 w') w1.drew:=((Keep.refl Nope w1).drew)
 refine AP 0 ?_
 refine AP 1 ?_
 refine AP 2 ?_
 refine AP 3 ?_
 refine AP 5 ?_
 refine AP 7 ?_
 refine AP 8 ?_
 refine AP 9 ?_
 refine AL 10 HS ?_ (hy:=fun w2 hw2=>by have y1:=Keep.cell hw2 cP2 id;go_simp;all_goals (with_reducible rfl))
 refine AP 13 ?_
 refine AP 15 ?_
 refine AP 16 ?_
 refine AP 17 ?_
 refine AL 18 HS ?_ (hy:=fun w2 hw2=>by have y1:=Keep.cell hw2 cP2 id;go_simp;all_goals (with_reducible rfl))
 refine AP 21 ?_
 refine AP 23 ?_
 refine AP 24 ?_
 refine AP 25 ?_
 refine AL 26 HS ?_ (hy:=fun w2 hw2=>by have y1:=Keep.cell hw2 cP2 id;go_simp;all_goals (with_reducible rfl))
 refine AP 29 ?_
 refine AP 31 ?_
 refine AP 32 ?_
 refine AP 33 ?_
 refine AL 34 HS ?_ (hy:=fun w2 hw2=>by have y1:=Keep.cell hw2 cP2 id;go_simp;all_goals (with_reducible rfl))
 simp only [Ls2,Ls0,Ls1,List.getElem_toArray,List.getElem_cons_succ,List.getElem_cons_zero]
 obtain⟨A0,hA0⟩:∃A0,A0=(fun P R O=>{ tmps:=#[.iface T (pt pc),pt pr,pt pz,undef,undef,undef,.pointer none,pt q0,.pointer (some ⟨q0,0,none⟩),pt pz,pt pr,.pointer (some ⟨pr,0,none⟩),.pointer (some ⟨pr,0,none⟩),pt pP,pt q0,.iface T (pt pc),pt pr,pt pz,pt q0,P 0,pt pz,R 0,pt pr,.pointer (some ⟨pr,0,none⟩),.pointer (some ⟨pr,0,none⟩),pt pP,O 0,P 1,pt pz,R 1,pt pr,.pointer (some ⟨pr,0,none⟩),.pointer (some ⟨pr,0,none⟩),pt pP,O 1,P 2,pt q0,R 2,pt pr,.pointer (some ⟨pr,0,none⟩),.pointer (some ⟨pr,0,none⟩),pt pP,O 2,P 3,pt q0,R 3,pt pr,.pointer (some ⟨pr,0,none⟩),.pointer (some ⟨pr,0,none⟩),pt pP,O 3,undef,undef],defers:=[] }:(Nat→Value)→(Nat→Value)→(Nat→Value)→Act):=⟨_,rfl⟩
 change AnyL _ _ _ _ _ _ (3+12) (nrL 0 0) ((fun P R O=>{ tmps:=#[.iface T (pt pc),pt pr,pt pz,undef,undef,undef,.pointer none,pt q0,.pointer (some ⟨q0,0,none⟩),pt pz,pt pr,.pointer (some ⟨pr,0,none⟩),.pointer (some ⟨pr,0,none⟩),pt pP,pt q0,.iface T (pt pc),pt pr,pt pz,pt q0,P 0,pt pz,R 0,pt pr,.pointer (some ⟨pr,0,none⟩),.pointer (some ⟨pr,0,none⟩),pt pP,O 0,P 1,pt pz,R 1,pt pr,.pointer (some ⟨pr,0,none⟩),.pointer (some ⟨pr,0,none⟩),pt pP,O 1,P 2,pt q0,R 2,pt pr,.pointer (some ⟨pr,0,none⟩),.pointer (some ⟨pr,0,none⟩),pt pP,O 2,P 3,pt q0,R 3,pt pr,.pointer (some ⟨pr,0,none⟩),.pointer (some ⟨pr,0,none⟩),pt pP,O 3,undef,undef],defers:=[] }:(Nat→Value)→(Nat→Value)→(Nat→Value)→Act) (fun _=>undef) (fun _=>undef) (fun _=>undef)) _
 rw [← hA0]
 refine chain_alloc (fun c=>#[6,11,14,19,22,27,30,35].getD c 0) (fun k=>#[4,12,20,28].getD k 0) (fun c s=>c%2==0||s.testBit (c / 2)) nrL (fun c s a v=>∃P R O,a=A0 P R O∧Nj F w1 ((q0,ofI (zi:Int))::L) (Zr z zi M) c s P R O v) (fun c s=>(List.range 4).all fun j=>s.testBit j||decide (c≤2*j+1)) ?_ ?_ ?_ ?_ ?_ ?_ ?_ 12 0 0 _ _ (by omega) (by omega) (by decide +kernel) ⟨_,_,_,rfl,(Keep.refl _ w1).drew,⟨_,(oo H3).drew,fun x h=>h,fun i hi hb=>by simp at hb⟩,fun i j hi hj hb=>by simp at hb,fun j h=>by omega,fun j _ h=>by omega,fun j _ _=>by omega⟩
 ·rintro c s a v ⟨P,R,O,-,hN⟩
  simp only [List.all_eq_true,List.mem_range,Bool.or_eq_true,decide_eq_true_eq]
  intro j hj
  cases hb:s.testBit j
  ·exact .inr (hN.ord j hj hb)
  ·exact .inl rfl
 ·decide +kernel
 ·decide +kernel
 ·decide +kernel
 ·intro c s a v hc hs he hJ
  obtain⟨P,R,O,rfl,hN⟩:=hJ
  have HN:Hid _:=hN
  clear hN
  subst hA0
  rcases(by omega:c=0∨c=1∨c=2∨c=3∨c=4∨c=5∨c=6∨c=7) with rfl | rfl | rfl | rfl | rfl | rfl | rfl | rfl
  ·refine wpOp_step (i:=6) rfl (fun K' hK'=>?_)
   have hK:Shut _:=hK'
   clear hK'
   go_simp
   refine(nj_num 2 (j:=0) (oo HN) rfl).mono ?_
   rintro e w2 ⟨x,rfl,h2⟩
   exact hK.out _ _ ⟨h2.keep,P,upf R 0 x,O,rfl,h2⟩
  ·have hb:s.testBit 0=true:=by simpa using he
   refine wpOp_step (i:=11) rfl (fun K' hK'=>?_)
   have hK:Shut _:=hK'
   clear hK'
   go_simp
   refine(nj_exp (j:=0) (oo HL) (.tail _ hz) (.head _) (.tail _ hP) HZ1.out hzM HI1.out hiM HSZ.out (oo HN) (by omega) hb).mono ?_
   rintro e w2 ⟨rfl,h2⟩
   exact hK.out _ _ ⟨h2.keep,P,R,upf O 0 (P 0),rfl,h2⟩
  ·refine wpOp_step (i:=14) rfl (fun K' hK'=>?_)
   have hK:Shut _:=hK'
   clear hK'
   go_simp
   refine(nj_num 3 (j:=1) (oo HN) rfl).mono ?_
   rintro e w2 ⟨x,rfl,h2⟩
   exact hK.out _ _ ⟨h2.keep,P,upf R 1 x,O,rfl,h2⟩
  ·have hb:s.testBit 1=true:=by simpa using he
   refine wpOp_step (i:=19) rfl (fun K' hK'=>?_)
   have hK:Shut _:=hK'
   clear hK'
   go_simp
   refine(nj_exp (j:=1) (oo HL) (.tail _ hz) (.head _) (.tail _ hP) HZ1.out hzM HI1.out hiM HSZ.out (oo HN) (by omega) hb).mono ?_
   rintro e w2 ⟨rfl,h2⟩
   exact hK.out _ _ ⟨h2.keep,P,R,upf O 1 (P 1),rfl,h2⟩
  ·refine wpOp_step (i:=22) rfl (fun K' hK'=>?_)
   have hK:Shut _:=hK'
   clear hK'
   go_simp
   refine(nj_num 2 (j:=2) (oo HN) rfl).mono ?_
   rintro e w2 ⟨x,rfl,h2⟩
   exact hK.out _ _ ⟨h2.keep,P,upf R 2 x,O,rfl,h2⟩
  ·have hb:s.testBit 2=true:=by simpa using he
   refine wpOp_step (i:=27) rfl (fun K' hK'=>?_)
   have hK:Shut _:=hK'
   clear hK'
   go_simp
   refine(nj_exp (j:=2) (oo HL) (.tail _ hz) (.head _) (.tail _ hP) HZ1.out hzM HI1.out hiM HSZ.out (oo HN) (by omega) hb).mono ?_
   rintro e w2 ⟨rfl,h2⟩
   exact hK.out _ _ ⟨h2.keep,P,R,upf O 2 (P 2),rfl,h2⟩
  ·refine wpOp_step (i:=30) rfl (fun K' hK'=>?_)
   have hK:Shut _:=hK'
   clear hK'
   go_simp
   refine(nj_num 3 (j:=3) (oo HN) rfl).mono ?_
   rintro e w2 ⟨x,rfl,h2⟩
   exact hK.out _ _ ⟨h2.keep,P,upf R 3 x,O,rfl,h2⟩
  ·have hb:s.testBit 3=true:=by simpa using he
   refine wpOp_step (i:=35) rfl (fun K' hK'=>?_)
   have hK:Shut _:=hK'
   clear hK'
   go_simp
   refine(nj_exp (j:=3) (oo HL) (.tail _ hz) (.head _) (.tail _ hP) HZ1.out hzM HI1.out hiM HSZ.out (oo HN) (by omega) hb).mono ?_
   rintro e w2 ⟨rfl,h2⟩
   exact hK.out _ _ ⟨h2.keep,P,R,upf O 3 (P 3),rfl,h2⟩
 ·intro c s k a v hc hs hk hb hJ
  obtain⟨P,R,O,rfl,hN⟩:=hJ
  have HN:Hid _:=hN.alloc hs hk hb
  clear hN
  subst hA0
  rcases(by omega:k=0∨k=1∨k=2∨k=3) with rfl | rfl | rfl | rfl
  ·refine wpOp_step (i:=4) rfl (fun K' hK'=>?_)
   have hK:Shut _:=hK'
   clear hK'
   go_simp
   exact hK.out _ _ ⟨(oo HN).keep,upf P 0 _,R,O,rfl,oo HN⟩
  ·refine wpOp_step (i:=12) rfl (fun K' hK'=>?_)
   have hK:Shut _:=hK'
   clear hK'
   go_simp
   exact hK.out _ _ ⟨(oo HN).keep,upf P 1 _,R,O,rfl,oo HN⟩
  ·refine wpOp_step (i:=20) rfl (fun K' hK'=>?_)
   have hK:Shut _:=hK'
   clear hK'
   go_simp
   exact hK.out _ _ ⟨(oo HN).keep,upf P 2 _,R,O,rfl,oo HN⟩
  ·refine wpOp_step (i:=28) rfl (fun K' hK'=>?_)
   have hK:Shut _:=hK'
   clear hK'
   go_simp
   exact hK.out _ _ ⟨(oo HN).keep,upf P 3 _,R,O,rfl,oo HN⟩
 ·intro a v hJ
  obtain⟨P,R,O,rfl,hN⟩:=hJ
  obtain⟨L2,h4,h5,h6⟩:=hN.st
  obtain⟨p0,e0,-,m0,-⟩:=h6 0 (by omega) (by decide)
  obtain⟨p1,e1,-,m1,-⟩:=h6 1 (by omega) (by decide)
  obtain⟨p2,e2,-,m2,-⟩:=h6 2 (by omega) (by decide)
  obtain⟨p3,e3,-,m3,-⟩:=h6 3 (by omega) (by decide)
  have o0:=(hN.out 0 (by omega) (by omega)).trans e0
  have o1:=(hN.out 1 (by omega) (by omega)).trans e1
  have o2:=(hN.out 2 (by omega) (by omega)).trans e2
  have o3:=(hN.out 3 (by omega) (by omega)).trans e3
  have KV:Hid (Keep Nope w1 v):=hN.keep
  have M0:Hid _:=m0 (by omega)
  have M1:Hid _:=m1 (by omega)
  have M2:Hid _:=m2 (by omega)
  have M3:Hid _:=m3 (by omega)
  have H4:Hid (St F v L2):=h4
  have H5:Hid _:=h5
  clear hN h4 h5 h6 m0 m1 m2 m3
  subst hA0
  dsimp only
  rw [o0,o1,o2,o3]
  clear e0 e1 e2 e3 o0 o1 o2 o3
  refine AP 36 ?_
  refine RO 37 (fun K hK=>?_)
  go_simp
  refine hK.out _ _ (.inr ((oo KV).alloc _)) ?_
  clear hK K
  refine AP 38 ?_
  try simp only [Ls0,Ls1,List.getElem_toArray,List.getElem_cons_succ,List.getElem_cons_zero]
  refine AnyL_done (by kernel_rfl) ?_
  have hm:=Mk.start (oo H4) #[.iface T (pt pc),pt pr,pt pz,pt q0,pt p0,pt p1,pt p2,pt p3] 115 (by intro x;simp)
  have hk:Keep Nope w1 _:=(oo KV).trans hm.keep
  have HALL:Hid (Nrp F w L T pc pr pz z zi M v.heap.size _):=⟨q0,p0,p1,p2,p3,L2,hm.blk,Nat.le_trans (oo KW).size (oo KV).size,hm.st,(oo KW).trans (hk.mono fun _ _ h=>h.elim),fun x hx=>(oo H5) x (.tail _ hx),(oo H5) _ (.head _),oo M0,oo M1,oo M2,oo M3⟩
  clear hm hk
  go_wp2_with fail
  go_ret
  exact⟨_,rfl,oo HALL⟩
end Go.Proofs.YtofkehhflkdabaaGreatDoor
