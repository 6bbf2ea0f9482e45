/- A part of the proof of FnCurveOf. -/
import Derived.Test.YtofkehhflkdabaaGreatDoorP26
import Derived.Test.YtofkehhflkdabaaGreatDoorP30
set_option maxRecDepth 100000
set_option maxHeartbeats 8000000
namespace Go.Proofs.YtofkehhflkdabaaGreatDoor
open Go Go.RowKit
def GState (F:Nat→Prop) (L0:List (Nat×E)) (P z:Nat) (w0:World) (pq:Nat) (g:Nat) (pA pB pUa pUb pr:Nat) (A B:Nat) (Ua Ub:Int) (w:World):Prop:=
 (∃eq er,St F w ((pA,ofI (A:Int))::(pB,ofI (B:Int))::(pUa,ofI Ua)::(pUb,ofI Ub)::(pq,eq)::(pr,er)::L0))∧LInv P z A B Ua Ub∧Ua.natAbs≤P∧Sz 1300 Ub∧A≤P∧A+B≤g∧Keep (fun b=>¬F b) w0 w
theorem St.ne01 {F:Nat→Prop} {w:World} {L:List (Nat×E)} (h:St F w L) {i j p q:Nat} {u v:E} (hi:L[i]?=some (p,u)) (hj:L[j]?=some (q,v)) (hij:i≠j):p≠q:=by
 obtain⟨a,l,k,b,m,n,gp,gs,hown,-⟩:=h.put2 hi hj hij
 rintro rfl
 exact hown p (.inl rfl) (.inl rfl)
theorem St.word {F:Nat→Prop} {w:World} {L:List (Nat×E)} (h:St F w L) {i p A:Nat} (hi:L[i]?=some (p,ofI (A:Int))) (hA:0<A) (hAW:A<W64) :
  ∃b k,w.cell? ⟨p,1,none⟩=some (.slice (some ⟨b,0,none⟩) 1 k)∧w.cell? ⟨b,0,none⟩=some (.int .u64 (A:Int))∧w.frozen? ⟨b,0,none⟩=false ∧
   ∀x:Nat,0<x→x<W64→St F (w.setCell ⟨b,0,none⟩ (.int .u64 (x:Int))) (L.set i (p,ofI (x:Int)))∧Keep (fun b=>¬F b) w (w.setCell ⟨b,0,none⟩ (.int .u64 (x:Int))):=by
 obtain⟨a,l,k,hg,-,hput⟩:=h.put hi
 have ht:Two w p (.bool (decide ((A:Int)<0))) (.slice a l k):=hg.two
 have hn:IsNat w a l k A:=hg.nat
 have hl:l=1:=by
  have h1:=isNat_len hn (m:=1) (by rw [W64_eq] at hAW;exact hAW)
  have h2:l≠0:=fun e=>by have:=(isNat_zero hn).1 e;omega
  omega
 subst hl
 have hna:¬At a p:=hg.noAt hg
 rcases hn with⟨_,h0,_⟩ | ⟨b,c,rfl,h2,h3,h4,h5,h6⟩
 ·omega
 ·have hc:=h4.cell (i:=0) (by omega)
  have e:c 0=A:=by rw [← h5];simp [val]
  rw [e] at hc
  refine⟨b,k,ht.cell1,hc,h4.frozen 0,fun x hx hxW=>?_⟩
  have hbp:b≠p:=fun e=>hna (by rw [← e];rfl)
  have ht':Two (w.setCell ⟨b,0,none⟩ (.int .u64 (x:Int))) p (.bool (decide ((x:Int)<0))) (.slice (some ⟨b,0,none⟩) 1 k):=by
   rw [show decide ((x:Int)<0)=decide ((A:Int)<0) from by rw [decide_eq_false (by omega),decide_eq_false (by omega)]]
   exact ht.other (p:=⟨b,0,none⟩) hbp _
  refine hput _ (ofI (x:Int)) (some ⟨b,0,none⟩) 1 k ((Keep.refl _ _).setCell (p:=⟨b,0,none⟩) (.inr rfl) _) ht' (.inr ⟨b,upd c 0 x,rfl,h2,h3,h4.set 0 x hxW,?_,.inr ?_⟩) (.inl rfl)
  ·simp [val,upd,ofI]
  ·simp [upd];omega
theorem lehmerGCD_any (F:Nat→Prop) (w:World) (L1:List (Nat×E)) (pz px pa pb:Nat) (ez ex:E) (z P:Nat) (h:St F w ((pz,ez)::(px,ex)::L1)) (ha:(pa,ofI (z:Int))∈L1) (hb:(pb,ofI (P:Int))∈L1)
  (hz:0<z) (hzP:z<P) (hone:∃m n:Int,m*P+n*z=1) (hs:Sz 640 (P:Int)) :
  Calls Tryz.prog 79 #[pt pz,pt px,.pointer none,pt pa,pt pb] w fun e w'=>
   ∃U:Int,(∃t:Int,U*z=1+t*P)∧U.natAbs≤P∧e = .returned (pt pz)∧St F w' ((pz,ofI 1)::(px,ofI U)::L1)∧Keep (fun b=>¬F b) w w':=by
 have hz64:Sz 640 (z:Int):=⟨by have:=hs.lt;simp only [Int.natAbs_natCast] at this ⊢;omega⟩
 have hinv:=LInv.start (P:=P) (z:=z) (by omega) (by omega) hone
 have HINV:Hid _:=hinv
 have HZP:Hid _:=hzP
 have HZ0:Hid _:=hz
 clear hinv hone hzP hz
 go_enter Tryz.func79,Tryz.ntmps79
 go_wp2_with fail
 have hA0:=h.alloc 85
 refine(intAbs_any F _ _ hA0 0 w.heap.size pa (ofI 0) z rfl (tl3 ha) 640 (by omega)).mono ?_
 rintro e w1 ⟨rfl,h1,k1⟩
 simp only [Ls0] at h1
 have K1:Keep (fun b=>¬F b) w w1:=((Keep.refl _ w).alloc _).trans k1
 have nA:w.heap.size<w1.heap.size:=h1.in (.head _)
 clear hA0 k1
 generalize w.heap.size=pA at *
 go_wp2_with fail
 refine(intAbs_any F _ _ (h1.alloc 85) 0 w1.heap.size pb (ofI 0) P rfl (tl4 hb) 640 (by omega)).mono ?_
 rintro e w2 ⟨rfl,h2,k2⟩
 simp only [Ls0] at h2
 have K2:Keep (fun b=>¬F b) w w2:=(K1.alloc _).trans k2
 clear k2 h1
 generalize w1.heap.size=pB at *
 go_wp2_with fail
 refine(setInt64_any F _ _ (h2.alloc 85) 0 w2.heap.size (ofI 0) rfl 1 (by omega)).mono ?_
 rintro e w3 ⟨rfl,h3,k3⟩
 simp only [Ls0] at h3
 have K3:Keep (fun b=>¬F b) w w3:=(K2.alloc _).trans k3
 clear k3 h2
 generalize w2.heap.size=pUa at *
 have h4:=((h3.alloc 85).alloc 85).alloc 85
 have K4:Keep (fun b=>¬F b) w _:=((K3.alloc iz).alloc iz).alloc iz
 clear h3
 go_wp2_with fail
 have hsz:∀(w:World) (o:Obj),(w.alloc o).heap.size=w.heap.size+1:=fun w o=>Array.size_push _
 simp only [hsz] at h4
 clear hsz
 generalize hW4:((w3.alloc iz).alloc iz).alloc iz=W4 at *
 clear hW4
 generalize w3.heap.size+1+1=pr at *
 generalize w3.heap.size+1=pq at *
 generalize w3.heap.size=pUb at *
 have h5:=St.pre (P:=[_,_,_,_,_,_]) h4 [(pB,ofI (P:Int)),(pA,ofI (z:Int)),(pUb,ofI 0),(pUa,ofI 1),(pq,ofI 0),(pr,ofI 0)] [4,5,2,3,1,0] (by decide) 6 rfl (by decide) rfl
 obtain⟨a1,l1,k1,gA,nA1,-⟩:=h5.getI (p:=pA) (v:=(z:Int)) (.tail _ (.head _))
 obtain⟨a2,l2,k2,gB,nB1,-⟩:=h5.getI (p:=pB) (v:=(P:Int)) (.head _)
 have c1:=gA.cell1
 have d1:=gB.cell1
 have hl1:=hz64.len nA1 (m:=10) (by omega)
 have hl2:=hs.len nB1 (m:=10) (by omega)
 have hC:=cmp_any W4.drew a1 a2 l1 k1 z l2 k2 P nA1.dr nB1.dr (by omega) (by omega)
 have tc:cmpN z P = -1:=cmpN_lt HZP.out
 rw [tc] at hC
 have HC:Hid _:=hC
 have H5:Hid _:=h5
 have HB4:Base F W4:=h4.base
 clear hC tc gA gB nA1 nB1 hl1 hl2 h4 h5 nA
 refine AnyL_start (fun w'=>w'.cell? ⟨pA,1,none⟩=some (.slice a1 l1 k1)∧w'.cell? ⟨pB,1,none⟩=some (.slice a2 l2 k2)) [3,7] (by kernel_rfl) ?_
 have HS:(fun w':World=>w'.cell? ⟨pA,1,none⟩=some (.slice a1 l1 k1)∧w'.cell? ⟨pB,1,none⟩=some (.slice a2 l2 k2)) W4.drew:=⟨c1,d1⟩
 refine AP 0 ?_
 refine AP 1 ?_
 refine AP 2 ?_
 refine AL 3 HS ?_
 refine AP 4 ?_
 refine AP 5 ?_
 refine AP 6 ?_
 refine AL 7 HS ?_
 refine AnyL_one 8 rfl (by kernel_rfl) (fun K hK=>?_)
 go_simp
 refine Calls.mono (oo HC) ?_
 rintro e w5 ⟨rfl,hk5⟩
 have hk5a:=hk5.undrew
 refine hK.out _ _ (.inl (by kernel_rfl)) ?_
 clear hK K
 try clear HS
 refine AnyL_one 9 rfl (by kernel_rfl) (fun K hK=>?_)
 go_simp
 refine hK.out _ _ (.inr ⟨hk5a.cell c1 id,hk5a.cell d1 id⟩) ?_
 clear hK K
 refine AnyL_done (by kernel_rfl) ?_
 have h6:=St.keep (oo H5) hk5a
 have K6:Keep (fun b=>¬F b) w w5:=K4.trans (hk5a.mono fun _ _ h=>h.elim)
 have H6:Hid _:=h6
 have HK6:Hid _:=K6
 have HS:Hid _:=hs
 have HHA:Hid _:=ha
 have HHB:Hid _:=hb
 clear h6 K6 K1 K2 K3 K4 hk5 hk5a c1 d1 HC H5 hs hz64 ha hb
 go_wp2_with fail
 go_loopg [11,12,13,14,17] (P+z) (fun g s11 s12 s13 s14 s17 wr=>∃(pA pB pUa pUb pr A B:Nat) (Ua Ub:Int),s11=pt pA∧s12=pt pB∧s13=pt pUa∧s14=pt pUb∧s17=pt pr∧GState F ((pz,ez)::(px,ex)::L1) P z w pq g pA pB pUa pUb pr A B Ua Ub wr)
 case atStart=>
  refine⟨pB,pA,pUb,pUa,pr,P,z,0,1,rfl,rfl,rfl,rfl,rfl,⟨_,_,oo H6⟩,HINV.out,by simp,⟨by decide +kernel⟩,Nat.le_refl _,Nat.le_refl _,oo HK6⟩
 case round=>
  obtain⟨pA,pB,pUa,pUb,pr,A,B,Ua,Ub,rfl,rfl,rfl,rfl,rfl,⟨eq,er,hst⟩,hinv,hsa,hsb,hAP,hg,hkw⟩:=hrel
  have HST:Hid _:=hst
  have HI:Hid _:=hinv
  have HA:Hid _:=hsa
  have HB:Hid _:=hsb
  have HAP:Hid _:=hAP
  have HG:Hid _:=hg
  have HK:Hid _:=hkw
  obtain⟨ab,lb,kb,gB,nB,-⟩:=hst.getI (p:=pB) (v:=(B:Int)) (.tail _ (.head _))
  rw [Int.natAbs_natCast] at nB
  have cB:=gB.cell1
  clear hst hinv hsa hsb hAP hg hkw gB
  by_cases hB2:W64≤B
  ·have hlb:1<lb:=by
    refine Nat.lt_of_not_le fun hle=>?_
    rcases nB with⟨_,_,_,h0⟩ | ⟨b,d,_,h2,_,hr,hv,_⟩
    ·rw [W64] at hB2;omega
    ·have h1:val d 0 lb<W64^lb:=val_lt fun i hi=>by rw [Nat.zero_add];exact hr.lt i (by omega)
     have h2:W64^lb≤W64^1:=Nat.pow_le_pow_right W64_pos hle
     rw [Nat.pow_one] at h2
     omega
   obtain⟨m,rfl⟩:∃m,lb=m+2:=⟨lb-2,by omega⟩
   have t1:(1:Int)<(m:Int)+2:=by omega
   have hBp:0<B:=by rw [W64] at hB2;omega
   have hszA:Sz 640 (A:Int):=⟨by have h1:=(oo HS).lt;have h2:=HAP.out;simp only [Int.natAbs_natCast] at h1 ⊢;omega⟩
   have hszB:Sz 640 (B:Int):=⟨by have h1:=hszA.lt;have h2:=(oo HI).le;simp only [Int.natAbs_natCast] at h1 ⊢;omega⟩
   have hbd:=(oo HI).bound (by omega)
   have hUa:Sz 640 Ua:=⟨by have h1:=(oo HS).lt;omega⟩
   have hUb:Sz 640 Ub:=⟨by have h1:=(oo HS).lt;omega⟩
   have hBA:B≤A:=by have:=(oo HI).le;omega
   have Q1:Hid _:=hszA
   have Q2:Hid _:=hszB
   have Q3:Hid _:=hUa
   have Q4:Hid _:=hUb
   have Q5:Hid _:=hBA
   have Q6:Hid _:=hBp
   have Q7:Hid _:=hB2
   clear hlb nB hbd hszA hszB hUa hUb hBA hBp hB2 HA HB
   go_wp2_with fail
   refine(lehmerSimulate_any F wr _ (oo HST) pA pB A B (.head _) (.tail _ (.head _)) Q5.out Q7.out 640 Q1.out (by omega)).mono ?_
   rintro e w5 ⟨u0,u1,v0,v1,even,rfl,hwords,htold,hk5⟩
   have h5:=St.keep (oo HST) hk5
   have W1:Hid _:=hwords
   have HT:Hid _:=htold
   have H5:Hid _:=h5
   have HK5:Hid (Keep (fun b=>¬F b) w w5):=(oo HK).trans (hk5.mono fun _ _ h=>h.elim)
   clear hwords htold h5 hk5 cB HST HK
   by_cases hv0:v0=0
   ·subst hv0
    go_wp2_with fail
    refine(euclidUpdate_any F w5 _ pA pB pUa pUb pq pr A B Ua Ub eq er (oo H5) (St.ne01 (oo H5) (i:=0) (j:=4) rfl rfl (by decide)) (St.ne01 (oo H5) (i:=1) (j:=4) rfl rfl (by decide)) (St.ne01 (oo H5) (i:=1) (j:=5) rfl rfl (by decide))
     (by omega) (by have:=Q6.out;omega) 640 640 Q1.out Q2.out (by omega) Q3.out Q4.out (by omega)).mono ?_
    rintro e w6 ⟨eq',rfl,h6,hk6⟩
    have hes:=euclid_step (oo HI) Q6.out
    have hsz:Sz 1300 (Ua-(A:Int) / (B:Int)*Ub):=by
     have hq:Sz 640 ((A:Int) / (B:Int)):=⟨by
      have h1:=(Q1.out).lt
      rw [show ((A:Int) / (B:Int))=((A / B:Nat):Int) from rfl,Int.natAbs_natCast]
      rw [Int.natAbs_natCast] at h1
      exact Nat.lt_of_le_of_lt (Nat.div_le_self _ _) h1⟩
     exact(sz_euc Q3.out Q4.out hq).mono (by omega)
    have H6:Hid _:=h6
    have HK6:Hid (Keep (fun b=>¬F b) w w6):=(oo HK5).trans hk6
    have HES:Hid _:=hes
    have HSZ:Hid _:=hsz
    clear h6 hk6 hes hsz H5 HK5
    go_wp2_with fail
    go_roundg (B+A%B)
    case measure=>have:=HG.out;have:=(oo HES).2.1;have:=Q5.out;omega
    case rel=>
     exact⟨pB,pr,pUb,pUa,pA,B,A%B,Ub,_,rfl,rfl,rfl,rfl,rfl,⟨_,_,oo H6⟩,(oo HES).1,by have:=((oo HI).bound (by have:=Q6.out;omega)).2;simpa using this,HSZ.out,by have:=HAP.out;have:=Q5.out;omega,Nat.le_refl _,oo HK6⟩
   ·have t2:((v0:Int) != 0)=true:=by rw [bne_iff_ne];omega
    have hst:=told_step (oo HI) ((oo HT).resolve_left hv0) (Nat.pos_of_ne_zero hv0)
    obtain⟨A',B',eA,eB,hinv',hle',hbp'⟩:=hst
    have HBP':Hid _:=hbp'
    clear hbp'
    have EA:Hid _:=eA
    have EB:Hid _:=eB
    have HI':Hid _:=hinv'
    have HL':Hid _:=hle'
    clear eA eB hinv' hle' hv0 HT
    go_wp2_with fail
    refine(lehmerUpdate_any F w5 ((pUa,ofI Ua)::(pUb,ofI Ub)::(pz,ez)::(px,ex)::L1) pA pB pq pr A B eq er (St.pre (P:=[_,_,_,_,_,_]) (oo H5) [_,_,_,_,_,_] [0,1,4,5,2,3] (by decide) 6 rfl (by decide) rfl)
     u0 u1 v0 v1 even 640 Q1.out Q2.out (by omega) W1.out.1 W1.out.2.1 W1.out.2.2.1 W1.out.2.2.2).mono ?_
    rintro e w6 ⟨eq',er',rfl,h6,hk6⟩
    rw [← EA.out,← EB.out] at h6
    have H6:Hid _:=h6
    have HK6:Hid (Keep (fun b=>¬F b) w w6):=(oo HK5).trans hk6
    clear h6 hk6 H5 HK5
    go_wp2_with fail
    refine(lehmerUpdate_any F w6 ((pA,ofI (A':Int))::(pB,ofI (B':Int))::(pz,ez)::(px,ex)::L1) pUa pUb pq pr Ua Ub eq' er' (St.pre (P:=[_,_,_,_,_,_]) (oo H6) [_,_,_,_,_,_] [4,5,2,3,0,1] (by decide) 6 rfl (by decide) rfl)
     u0 u1 v0 v1 even 640 Q3.out Q4.out (by omega) W1.out.1 W1.out.2.1 W1.out.2.2.1 W1.out.2.2.2).mono ?_
    rintro e w7 ⟨eq2,er2,rfl,h7,hk7⟩
    have H7:Hid _:=St.pre (P:=[_,_,_,_,_,_]) h7 [(pA,ofI (A':Int)),(pB,ofI (B':Int)),_,_,_,_] [4,5,0,1,2,3] (by decide) 6 rfl (by decide) rfl
    have HK7:Hid (Keep (fun b=>¬F b) w w7):=(oo HK6).trans hk7
    have hs1:=sz_lin (even:=even) Q3.out Q4.out W1.out.1 W1.out.2.2.1
    have hs2:=sz_lin (even:=even) Q4.out Q3.out W1.out.2.2.2 W1.out.2.1
    have HS1:Hid _:=hs1
    have HS2:Hid _:=hs2
    clear h7 hk7 H6 HK6 hs1 hs2
    go_wp2_with fail
    go_roundg (A'+B')
    case measure=>have:=HG.out;have:=Q6.out;have:=HL'.out;omega
    case rel=>
     exact⟨pA,pB,pUa,pUb,pr,A',B',_,_,rfl,rfl,rfl,rfl,rfl,⟨_,_,oo H7⟩,oo HI',by have:=((oo HI').bound (by have:=HBP'.out;omega)).1;simpa using this,(oo HS2).mono (by omega),by have:=HAP.out;have:=HL'.out;omega,Nat.le_refl _,oo HK7⟩
  ·have hlb:¬1<lb:=by
    intro hlt
    rcases nB with⟨_,h0,_⟩ | ⟨b,d,_,h2,_,hr,hv,ht⟩
    ·omega
    ·obtain⟨t,rfl⟩:∃t,lb=t+2:=⟨lb-2,by omega⟩
     rcases ht with h | h
     ·omega
     ·rw [show t+2-1=t+1 by omega] at h
      have a2:val d 0 (t+2)=val d 0 (t+1)+d (0+(t+1))*W64^(t+1):=rfl
      rw [Nat.zero_add] at a2
      have a3:W64^(t+1)≤d (t+1)*W64^(t+1):=Nat.le_mul_of_pos_left _ (by omega)
      have a4:W64^1≤W64^(t+1):=Nat.pow_le_pow_right W64_pos (by omega)
      rw [Nat.pow_one] at a4
      omega
   have hlz:=isNat_zero nB
   have HLZ:Hid _:=hlz
   have hBW:B<W64:=by omega
   have HBW:Hid _:=hBW
   have HLB:Hid (¬1<lb):=hlb
   have t1:decide ((1:Int)<(lb:Int))=false:=decide_eq_false (by omega)
   have t1':lb≤1:=by omega
   clear hlb hlz nB hBW hB2
   go_upto_if 122 with fail
   go_cut [11,13] from 11 to 212 (fun sA sU wx=>∃(pA pU:Nat) (U:Int),sA=pt pA∧sU=pt pU∧St F wx ((pA,ofI 1)::(pU,ofI U)::(pz,ez)::(px,ex)::L1)∧(∃t:Int,U*z=1+t*P)∧U.natAbs≤P∧Keep (fun b=>¬F b) w wx)
   case first=>
    by_cases hB0:B=0
    ·have hl0:lb=0:=HLZ.out.2 hB0
     subst hl0 hB0
     have hfin:=(oo HI).finish
     have HF:Hid _:=hfin
     clear hfin
     go_wp2_with fail
     go_meet
     refine⟨pA,pUa,Ua,rfl,rfl,?_,(oo HF).2,HA.out,oo HK⟩
     have e:=(oo HF).1
     rw [e] at HST
     exact St.pre (P:=[_,_,_,_,_,_]) (oo HST) [_,_] [0,2] (by decide) 6 rfl (by decide) rfl
    ·have hl1:lb=1:=by have:=HLZ.out;have:=HLB.out;omega
     subst hl1
     have hBp:0<B:=by omega
     have HBP:Hid _:=hBp
     have hszA:Sz 640 (A:Int):=⟨by have h1:=(oo HS).lt;have h2:=HAP.out;simp only [Int.natAbs_natCast] at h1 ⊢;omega⟩
     have hszB:Sz 640 (B:Int):=⟨by have h1:=hszA.lt;have h2:=(oo HI).le;simp only [Int.natAbs_natCast] at h1 ⊢;omega⟩
     have hbd:=(oo HI).bound (by omega)
     have hUa:Sz 640 Ua:=⟨by have h1:=(oo HS).lt;omega⟩
     have hUb:Sz 640 Ub:=⟨by have h1:=(oo HS).lt;omega⟩
     have Q1:Hid _:=hszA
     have Q2:Hid _:=hszB
     have Q3:Hid _:=hUa
     have Q4:Hid _:=hUb
     obtain⟨aa,la,ka,gA,nA,-⟩:=St.getI (oo HST) (p:=pA) (v:=(A:Int)) (.head _)
     rw [Int.natAbs_natCast] at nA
     have cA:=gA.cell1
     have HNA:Hid _:=nA
     clear hBp hB0 hszA hszB hbd hUa hUb gA nA HA HB
     go_upto_if 128 with fail
     go_cut [11,12,13,14,15] from 11 to 142 (fun sA sB sU sV s15 wx=>∃(pA pB pUa pUb A B:Nat) (Ua Ub:Int),sA=pt pA∧sB=pt pB∧sU=pt pUa∧sV=pt pUb∧s15 = .bool true∧St F wx ((pA,ofI (A:Int))::(pB,ofI (B:Int))::(pUa,ofI Ua)::(pUb,ofI Ub)::(pz,ez)::(px,ex)::L1) ∧
      LInv P z A B Ua Ub∧A<W64∧B<W64∧Ua.natAbs≤P∧Sz 1300 Ub∧Keep (fun b=>¬F b) w wx)
     case first=>
      by_cases hA2:W64≤A
      ·have hla:1<la:=by
        refine Nat.lt_of_not_le fun hle=>?_
        rcases oo HNA with⟨_,_,_,h0⟩ | ⟨b,d,_,h2,_,hr,hv,_⟩
        ·rw [W64] at hA2;omega
        ·have h1:val d 0 la<W64^la:=val_lt fun i hi=>by rw [Nat.zero_add];exact hr.lt i (by omega)
         have h2:W64^la≤W64^1:=Nat.pow_le_pow_right W64_pos hle
         rw [Nat.pow_one] at h2
         omega
       have t1:(1:Int)<(la:Int):=by omega
       clear hA2 hla
       go_wp2_with fail
       refine(euclidUpdate_any F wr _ pA pB pUa pUb pq pr A B Ua Ub eq er (oo HST) (St.ne01 (oo HST) (i:=0) (j:=4) rfl rfl (by decide)) (St.ne01 (oo HST) (i:=1) (j:=4) rfl rfl (by decide)) (St.ne01 (oo HST) (i:=1) (j:=5) rfl rfl (by decide))
        (by omega) (by have:=HBP.out;omega) 640 640 Q1.out Q2.out (by omega) Q3.out Q4.out (by omega)).mono ?_
       rintro e w6 ⟨eq',rfl,h6,hk6⟩
       have hes:=euclid_step (oo HI) HBP.out
       have hsz:Sz 1300 (Ua-(A:Int) / (B:Int)*Ub):=by
        have hq:Sz 640 ((A:Int) / (B:Int)):=⟨by
         have h1:=(Q1.out).lt
         rw [show ((A:Int) / (B:Int))=((A / B:Nat):Int) from rfl,Int.natAbs_natCast]
         rw [Int.natAbs_natCast] at h1
         exact Nat.lt_of_le_of_lt (Nat.div_le_self _ _) h1⟩
        exact(sz_euc Q3.out Q4.out hq).mono (by omega)
       have H6:Hid _:=h6
       have HK6:Hid (Keep (fun b=>¬F b) w w6):=(oo HK).trans hk6
       have HES:Hid _:=hes
       have HSZ:Hid _:=hsz
       clear h6 hk6 hes hsz HST HK
       go_wp2_with fail
       go_meet
       refine⟨pB,pr,pUb,pUa,B,A%B,Ub,_,rfl,rfl,rfl,rfl,rfl,?_,(oo HES).1,HBW.out,by have:=(oo HES).2.1;have:=HBW.out;omega,(by have:=((oo HI).bound (by have:=HBP.out;omega)).2;simpa using this),HSZ.out,oo HK6⟩
       exact St.pre (P:=[_,_,_,_,_,_]) (oo H6) [_,_,_,_] [0,1,2,3] (by decide) 6 rfl (by decide) rfl
      ·have hla:¬1<la:=by
        intro hlt
        rcases oo HNA with⟨_,h0,_⟩ | ⟨b,d,_,h2,_,hr,hv,ht⟩
        ·omega
        ·obtain⟨t,rfl⟩:∃t,la=t+2:=⟨la-2,by omega⟩
         rcases ht with h | h
         ·omega
         ·rw [show t+2-1=t+1 by omega] at h
          have a2:val d 0 (t+2)=val d 0 (t+1)+d (0+(t+1))*W64^(t+1):=rfl
          rw [Nat.zero_add] at a2
          have a3:W64^(t+1)≤d (t+1)*W64^(t+1):=Nat.le_mul_of_pos_left _ (by omega)
          have a4:W64^1≤W64^(t+1):=Nat.pow_le_pow_right W64_pos (by omega)
          rw [Nat.pow_one] at a4
          omega
       have t1:(la:Int)≤1:=by omega
       have HAW:Hid (A<W64):=Nat.lt_of_not_le hA2
       clear hA2 hla
       go_wp2_with fail
       go_meet
       refine⟨pA,pB,pUa,pUb,A,B,Ua,Ub,rfl,rfl,rfl,rfl,rfl,?_,oo HI,HAW.out,HBW.out,(by have:=((oo HI).bound (by have:=HBP.out;omega)).1;simpa using this),(Q4.out).mono (by omega),oo HK⟩
       exact St.pre (P:=[_,_,_,_,_,_]) (oo HST) [_,_,_,_] [0,1,2,3] (by decide) 6 rfl (by decide) rfl
     case rest=>
      clear HST HI HAP HG HK HLZ HBW HLB HBP Q1 Q2 Q3 Q4 HNA cA cB
      obtain⟨pA,pB,pUa,pUb,A,B,Ua,Ub,rfl,rfl,rfl,rfl,rfl,hst,hinv,hAW,hBW,hsa,hsb,hkw⟩:=hcut
      have HST:Hid _:=hst
      have HI:Hid _:=hinv
      have HA:Hid _:=hsa
      have HB:Hid _:=hsb
      have HAW:Hid _:=hAW
      have HBW:Hid _:=hBW
      have HK:Hid _:=hkw
      obtain⟨ab,lb,kb,gB,nB,-⟩:=hst.getI (p:=pB) (v:=(B:Int)) (.tail _ (.head _))
      rw [Int.natAbs_natCast] at nB
      have cB:=gB.cell1
      have hlz:=isNat_zero nB
      clear hst hinv hsa hsb hAW hBW hkw gB
      by_cases hB0:B=0
      ·have hl0:lb=0:=hlz.2 hB0
       subst hl0 hB0
       have hfin:=(oo HI).finish
       have HF:Hid _:=hfin
       clear hfin nB hlz
       go_wp2_with fail
       go_meet
       refine⟨pA,pUa,Ua,rfl,rfl,?_,(oo HF).2,HA.out,oo HK⟩
       have e:=(oo HF).1
       rw [e] at HST
       exact St.pre (P:=[_,_,_,_]) (oo HST) [_,_] [0,2] (by decide) 4 rfl (by decide) rfl
      ·have hBp:0<B:=by omega
       have hl1:lb=1:=by
        have h1:=isNat_len nB (m:=1) (by have:=HBW.out;rw [W64_eq] at this;exact this)
        have h2:lb≠0:=fun e=>hB0 (hlz.1 e)
        omega
       subst hl1
       obtain⟨aa,la,ka,gA,nA,-⟩:=St.getI (oo HST) (p:=pA) (v:=(A:Int)) (.head _)
       rw [Int.natAbs_natCast] at nA
       have hla:la=1:=by
        have h1:=isNat_len nA (m:=1) (by have:=HAW.out;rw [W64_eq] at this;exact this)
        have h2:la≠0:=fun e=>by have:=(isNat_zero nA).1 e;have:=(oo HI).pos;omega
        omega
       subst hla
       have cA:=gA.cell1
       obtain⟨ba,rfl,fA,hka,-,-⟩:=isNat_one nA
       obtain⟨bb,rfl,fB,hkb,-,-⟩:=isNat_one nB
       have hUb6:Sz 640 Ub:=⟨by have h1:=(oo HS).lt;have h2:=(oo HI).bound (by omega);omega⟩
       have HUB6:Hid _:=hUb6
       have hUa6:Sz 640 Ua:=⟨by have h1:=(oo HS).lt;have h2:=HA.out;rw [Int.natAbs_natCast] at h1;omega⟩
       have HUA6:Hid _:=hUa6
       clear hUb6 hUa6
       have hw0:=WRel.start (oo HI) HAW.out HBW.out (by have:=HA.out;simpa using this)
       have HW0:Hid _:=hw0
       clear hw0 hlz hB0 nA nB gA hBp hka hkb
       go_wp2_with fail
       refine AnyL_start (fun w'=>w'.cell? ⟨pA,1,none⟩=some (.slice (some ⟨ba,0,none⟩) 1 ka)∧w'.cell? ⟨ba,0,none⟩=some (.int .u64 (A:Int))∧w'.cell? ⟨pB,1,none⟩=some (.slice (some ⟨bb,0,none⟩) 1 kb)∧w'.cell? ⟨bb,0,none⟩=some (.int .u64 (B:Int))) [3,5,9,11] (by kernel_rfl) ?_
       have HS:(fun w':World=>w'.cell? ⟨pA,1,none⟩=some (.slice (some ⟨ba,0,none⟩) 1 ka)∧w'.cell? ⟨ba,0,none⟩=some (.int .u64 (A:Int))∧w'.cell? ⟨pB,1,none⟩=some (.slice (some ⟨bb,0,none⟩) 1 kb)∧w'.cell? ⟨bb,0,none⟩=some (.int .u64 (B:Int))) wc.drew:=⟨cA,fA,cB,fB⟩
       refine AP 0 ?_
       refine AP 1 ?_
       refine AP 2 ?_
       refine AL 3 HS ?_
       refine AP 4 ?_
       refine AL 5 HS ?_
       refine AP 6 ?_
       refine AP 7 ?_
       refine AP 8 ?_
       refine AL 9 HS ?_
       refine AP 10 ?_
       refine AL 11 HS ?_
       refine AP 12 ?_
       refine AP 13 ?_
       refine AnyL_done (by kernel_rfl) ?_
       have hkd:Keep Nope wc wc.drew:=(Keep.refl _ _).drew
       have HKD:Hid _:=hkd
       clear hkd cA cB fA fB
       go_wp2_with fail
       go_loopg [23,24,25,26,27,28,29] B (fun g s23 s24 s25 s26 s27 s28 s29 wx=>∃(aw ua ub va vb:Nat) (even:Bool),s23 = .int .u64 (aw:Int)∧s24 = .int .u64 (g:Int)∧s25 = .int .u64 (ua:Int)∧s26 = .int .u64 (ub:Int)∧s27 = .int .u64 (va:Int)∧s28 = .int .u64 (vb:Int)∧s29 = .bool even ∧
        WRel P z A B Ua Ub aw g ua ub va vb even∧Keep Nope wc wx)
       case atStart=>exact⟨A,1,0,0,1,true,rfl,rfl,rfl,rfl,rfl,rfl,rfl,oo HW0,oo HKD⟩
       case round=>
        obtain⟨aw,ua,ub,va,vb,even,rfl,rfl,rfl,rfl,rfl,rfl,rfl,hwr,hkx⟩:=hrel
        have HWR:Hid _:=hwr
        have HKX:Hid _:=hkx
        clear hwr hkx HW0
        have hg64:gk<W64:=(oo HWR).2.2.2.2.1
        by_cases hg0:gk=0
        ·subst hg0
         have hfin:=WRel.finish (oo HWR)
         have HF:Hid _:=hfin
         have hwd:ua<W64∧va<W64:=⟨(oo HWR).2.2.2.2.2.1,(oo HWR).2.2.2.2.2.2.2.1⟩
         have HWD:Hid _:=hwd
         have hx0:=St.keep (oo HST) (oo HKX)
         have HX0:Hid _:=hx0
         have HKW:Hid (Keep (fun b=>¬F b) w wr):=(oo HK).trans ((oo HKX).mono fun _ _ h=>h.elim)
         have hlaw:=upd_law Ua Ub ua va even
         have HLAW:Hid _:=hlaw
         have bb1:=big_mul (HUA6.out) (by omega) (hwd.1)
         have bb2:=big_mul (HB.out) (by omega) (hwd.2)
         have B1:Hid _:=bb1
         have B2:Hid _:=bb2
         clear hfin hwd hx0 hlaw bb1 bb2 hg64
         go_wp2_with fail
         refine(mulW_any F wr _ (oo HX0) 2 pUa pUa (ofI Ua) Ua (!even) ua rfl (tl2 (.head _)) 640 (hs:=HUA6.out) (by omega) HWD.out.1).mono ?_
         rintro e w7 ⟨rfl,h7,k7⟩
         simp only [Ls0,Ls1] at h7
         have H7:Hid _:=h7
         have K7:Hid _:=k7
         clear h7 k7
         go_wp2_with fail
         refine(mulW_any F w7 _ (oo H7) 3 pUb pUb (ofI Ub) Ub even va rfl (tl3 (.head _)) 1300 (hs:=HB.out) (by omega) HWD.out.2).mono ?_
         rintro e w8 ⟨rfl,h8,k8⟩
         simp only [Ls0,Ls1] at h8
         have H8:Hid _:=h8
         have K8:Hid _:=k8
         clear h8 k8
         go_wp2_with fail
         refine(addR_any F w8 _ (oo H8) 2 pUa pUa pUb _ _ _ _ _ rfl (tl2 (.head _)) (tl3 (.head _)) (oo B1) (oo B2)).mono ?_
         rintro e w9 ⟨rfl,h9,k9⟩
         simp only [Ls0,Ls1] at h9
         rw [HLAW.out] at h9
         obtain⟨bw,kw,z1,z2,z3,hst2⟩:=St.word h9 (i:=0) rfl (by have:=(oo HI).pos;omega) HAW.out
         have HS2:Hid _:=hst2 1 (by omega) (by rw [W64];omega)
         have K9:Hid _:=k9
         have e1:aw=1:=(oo HF).1
         subst e1
         clear h9 k9 hst2
         go_wp2_with fail
         go_meet
         simp only [Ls0] at HS2
         refine⟨pA,pUa,sg even*(ua*Ua-va*Ub),rfl,rfl,St.pre (P:=[_,_,_,_]) (oo HS2).1 [_,_] [0,2] (by decide) 4 rfl (by decide) rfl,(oo HF).2,?_,((((oo HKW).trans (oo K7)).trans (oo K8)).trans (oo K9)).trans (oo HS2).2⟩
         have:=(oo HWR).2.2.2.2.2.2.2.2.2
         simpa using this
        ·have hgp:0<gk:=by omega
         have hnext:=WRel.next (oo HWR) HAW.out HBW.out hgp
         have haw:aw<W64:=(oo HWR).2.2.2.1
         obtain⟨q,hq'⟩:∃q,aw / gk=q:=⟨_,rfl⟩
         obtain⟨r,hr'⟩:∃r,aw%gk=r:=⟨_,rfl⟩
         obtain⟨uu,huu⟩:∃uu,ua+q*ub=uu:=⟨_,rfl⟩
         obtain⟨vv,hvv⟩:∃vv,va+q*vb=vv:=⟨_,rfl⟩
         have HN:Hid _:=hnext
         rw [hq',hr',huu,hvv] at HN
         have huW:uu<W64:=(oo HN).2.2.2.2.2.2.1
         have hvW:vv<W64:=(oo HN).2.2.2.2.2.2.2.2.1
         have hqW:q<W64:=by rw [← hq'];exact Nat.lt_of_le_of_lt (Nat.div_le_self _ _) haw
         have hrlt:r<gk:=by rw [← hr'];exact Nat.mod_lt _ hgp
         have e1:((aw:Int) / (gk:Int))=(q:Int):=by rw [← hq'];rfl
         have e2:((aw:Int)%(gk:Int))=(r:Int):=by rw [← hr'];rfl
         have e3:((aw:Int).tdiv (gk:Int))=(q:Int):=by rw [← hq',Int.ofNat_tdiv]
         have e4:((aw:Int).tmod (gk:Int))=(r:Int):=by rw [← hr',Int.ofNat_tmod]
         obtain⟨qu2,hqu2⟩:∃z,q*ub=z:=⟨_,rfl⟩
         obtain⟨qv2,hqv2⟩:∃z,q*vb=z:=⟨_,rfl⟩
         rw [hqu2] at huu
         rw [hqv2] at hvv
         have m1:IntKind.u64.wrap ((q:Int)*(ub:Int))=(qu2:Int):=by
          rw [← Int.natCast_mul,hqu2]
          exact IntWalk.u64_in _ (by rw [W64] at huW;omega)
         have m2:IntKind.u64.wrap ((q:Int)*(vb:Int))=(qv2:Int):=by
          rw [← Int.natCast_mul,hqv2]
          exact IntWalk.u64_in _ (by rw [W64] at hvW;omega)
         have m3:IntKind.u64.wrap ((ua:Int)+(qu2:Int))=(uu:Int):=by
          rw [show (ua:Int)+(qu2:Int)=(uu:Int) by omega]
          exact IntWalk.u64_in _ (by rw [W64] at huW;omega)
         have m4:IntKind.u64.wrap ((va:Int)+(qv2:Int))=(vv:Int):=by
          rw [show (va:Int)+(qv2:Int)=(vv:Int) by omega]
          exact IntWalk.u64_in _ (by rw [W64] at hvW;omega)
         have w1:IntKind.u64.wrap (q:Int)=(q:Int):=IntWalk.u64_in _ (by rw [W64] at hqW;omega)
         have w2:IntKind.u64.wrap (r:Int)=(r:Int):=IntWalk.u64_in _ (by rw [W64] at hg64;omega)
         have t0:((gk:Int)==0)=false:=beq_eq_false_iff_ne.2 (by omega)
         have t2:((gk:Int) != 0)=true:=by rw [bne_iff_ne];omega
         have HRLT:Hid _:=hrlt
         clear hnext haw hq' hr' huu hvv huW hvW hqW hrlt hqu2 hqv2 hg64
         go_wp2_with fail
         go_region
         go_wp2_with fail
         go_roundg r
         case measure=>exact HRLT.out
         case rel=>
          exact⟨gk,ub,uu,vb,vv,!even,by go_num,by go_num,by go_num,by go_num,by go_num,by go_num,by go_num,oo HN,(oo HKX).drew⟩
   case rest=>
    clear HST HI HA HB HAP HG HK HLZ HBW HLB cB
    obtain⟨pA,pU,U,rfl,rfl,hst,hU,hszU,hkw⟩:=hcut
    have hpa:(pa,ofI (z:Int))∈((pA,ofI 1)::(pU,ofI U)::(pz,ez)::(px,ex)::L1):=.tail _ (tl3 (oo HHA))
    obtain⟨aa,la,ka,gA,-,-⟩:=hst.getI hpa
    have cA:=gA.cell0
    have hd:decide ((z:Int)<0)=false:=decide_eq_false (by omega)
    rw [hd] at cA
    have HST:Hid _:=hst
    have HU:Hid _:=hU
    have HSU:Hid _:=hszU
    have HK:Hid _:=hkw
    clear hst hU hszU hkw gA hd hpa
    go_wp2_with fail
    refine(intSet_any F wc _ (oo HST) 3 px pU ex U rfl (.tail _ (.head _)) 640 (hs:=⟨by have h1:=(oo HS).lt;have h2:=HSU.out;rw [Int.natAbs_natCast] at h1;omega⟩) (by omega)).mono ?_
    rintro e w5 ⟨rfl,h5,k5⟩
    simp only [Ls0,Ls1] at h5
    have H5:Hid _:=h5
    have K5:Hid _:=k5
    clear h5 k5
    go_wp2_with fail
    refine(intSet_any F w5 _ (oo H5) 2 pz pA ez 1 rfl (.head _) 1 (hs:=⟨by decide⟩) (by omega)).mono ?_
    rintro e w6 ⟨rfl,h6,k6⟩
    simp only [Ls0,Ls1] at h6
    have H6:Hid _:=h6
    have K6:Hid _:=k6
    clear h6 k6
    go_wp2_with fail
    go_ret
    exact⟨U,oo HU,HSU.out,rfl,St.pre (P:=[_,_]) (oo H6) [] [] (by decide) 2 rfl (by decide) rfl,((oo HK).trans (oo K5)).trans (oo K6)⟩
end Go.Proofs.YtofkehhflkdabaaGreatDoor
