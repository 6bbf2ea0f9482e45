/- A part of the proof of FnCurveOf. -/
import Derived.Test.YtofkehhflkdabaaGreatDoorP25
set_option maxRecDepth 100000
set_option maxHeartbeats 8000000
namespace Go.Proofs.YtofkehhflkdabaaGreatDoor
open Go Go.RowKit
theorem val_two {c:Nat→Nat} {k:Nat}:val c 0 (k+2)=val c 0 k+c k*W64^k+c (k+1)*W64^(k+1):=by
 show val c 0 k+c (0+k)*W64^k+c (0+(k+1))*W64^(k+1)=_
 rw [Nat.zero_add,Nat.zero_add]
theorem lehmerSimulate_any (F:Nat→Prop) (w:World) (L:List (Nat×E)) (h:St F w L) (pA pB:Nat) (A B:Nat) (hA:(pA,ofI (A:Int))∈L) (hB:(pB,ofI (B:Int))∈L) (hBA:B≤A) (hB2:W64≤B) (s:Nat) (hsA:Sz s (A:Int)) (hs':s≤4000) :
  Calls Tryz.prog 96 #[pt pA,pt pB] w fun e w'=>
   ∃u0 u1 v0 v1:Nat,∃even:Bool,e = .returned (.tuple #[.int .u64 (u0:Int),.int .u64 (u1:Int),.int .u64 (v0:Int),.int .u64 (v1:Int),.bool even])∧(u0<W64∧u1<W64∧v0<W64∧v1<W64)∧(v0=0∨Told A B u0 u1 v0 v1 even)∧Keep Nope w w':=by
 obtain⟨aa,la,ka,gA,nA,-⟩:=h.getI hA
 obtain⟨ab,lb,kb,gB,nB,-⟩:=h.getI hB
 have hla:=hsA.len nA (m:=63) (by omega)
 simp only [Int.natAbs_natCast] at nA nB
 rcases nA with⟨_,_,_,h0⟩ | ⟨ba,c,rfl,hla1,hka,hra,hva,hta⟩
 ·rw [W64] at hB2;omega
 rcases nB with⟨_,_,_,h0⟩ | ⟨bb,d,rfl,hlb1,hkb,hrb,hvb,htb⟩
 ·rw [W64] at hB2;omega
 have hlb2:2≤lb:=by
  refine Nat.le_of_not_lt fun hlt=>?_
  have:val d 0 lb<W64^lb:=val_lt fun i hi=>by rw [Nat.zero_add];exact hrb.lt i (by omega)
  have:W64^lb≤W64^1:=Nat.pow_le_pow_right W64_pos (by omega)
  rw [Nat.pow_one] at this
  omega
 have hlen:lb≤la:=by
  refine Nat.le_of_not_lt fun hlt=>?_
  have a1:val c 0 la<W64^la:=val_lt fun i hi=>by rw [Nat.zero_add];exact hra.lt i (by omega)
  obtain⟨t,rfl⟩:∃t,lb=t+1:=⟨lb-1,by omega⟩
  have a2:val d 0 (t+1)=val d 0 t+d (0+t)*W64^t:=rfl
  rw [Nat.zero_add] at a2
  rcases htb with h | h
  ·omega
  ·simp only [Nat.add_sub_cancel] at h
   have a3:W64^t≤d t*W64^t:=Nat.le_mul_of_pos_left _ (by omega)
   have a4:W64^la≤W64^t:=Nat.pow_le_pow_right W64_pos (by omega)
   omega
 obtain⟨k,rfl⟩:∃k,la=k+2:=⟨la-2,by omega⟩
 have htop:c (k+1)≠0:=hta.resolve_left (by omega)
 have c1:=gA.cell1
 have d1:=gB.cell1
 have ch:=hra.cell (i:=k+1) (by omega)
 have cl:=hra.cell (i:=k) (by omega)
 have hhi:=hra.lt (k+1) (by omega)
 have hlo:=hra.lt k (by omega)
 have hcl:∀i,i<k→c (0+i)<W64:=fun i hi=>by rw [Nat.zero_add];exact hra.lt i (by omega)
 rw [val_two] at hva
 have hr0:val c 0 k<W64^k:=val_lt hcl
 obtain⟨hi,hhi'⟩:∃x,c (k+1)=x:=⟨_,rfl⟩
 obtain⟨lo,hlo'⟩:∃x,c k=x:=⟨_,rfl⟩
 obtain⟨r0,hr0'⟩:∃x,val c 0 k=x:=⟨_,rfl⟩
 rw [hhi'] at htop ch hhi hva
 rw [hlo'] at cl hlo hva
 rw [hr0'] at hr0 hva
 clear hhi' hlo' hr0' hta hcl
 obtain⟨hs1,hs2,hs3⟩:=nlz_spec (x:=hi) (by omega) hhi
 obtain⟨sh,hsh⟩:∃x,nlzN hi=x:=⟨_,rfl⟩
 rw [hsh] at hs1 hs2 hs3
 obtain⟨t,hst⟩:∃t,sh+t=64:=⟨64-sh,by omega⟩
 have hBw:∃hj lj s0,B=s0+lj*W64^k+hj*W64^(k+1)∧s0<W64^k∧lj<W64∧hj<W64 ∧
   ((lb=k+2∧d (k+1)=hj∧d k=lj)∨(lb=k+1∧hj=0∧d k=lj)∨(lb<k+1∧hj=0∧lj=0)):=by
  have dl:∀i,i<lb→d i<W64:=fun i hi=>hrb.lt i (by omega)
  rcases(show lb=k+2∨lb=k+1∨lb<k+1 by omega) with e | e | e
  ·subst e
   rw [val_two] at hvb
   exact⟨d (k+1),d k,val d 0 k,hvb.symm,val_lt (fun i hi=>by rw [Nat.zero_add];exact dl i (by omega)),dl _ (by omega),dl _ (by omega),.inl ⟨rfl,rfl,rfl⟩⟩
  ·subst e
   have:val d 0 (k+1)=val d 0 k+d (0+k)*W64^k:=rfl
   rw [Nat.zero_add] at this
   exact⟨0,d k,val d 0 k,by rw [← hvb,this];simp,val_lt (fun i hi=>by rw [Nat.zero_add];exact dl i (by omega)),dl _ (by omega),W64_pos,.inr (.inl ⟨rfl,rfl,rfl⟩)⟩
  ·refine⟨0,0,B,by simp,?_,W64_pos,W64_pos,.inr (.inr ⟨e,rfl,rfl⟩)⟩
   have:val d 0 lb<W64^lb:=val_lt fun i hi=>by rw [Nat.zero_add];exact dl i hi
   rw [← hvb]
   exact Nat.lt_of_lt_of_le this (Nat.pow_le_pow_right W64_pos (by omega))
 obtain⟨hj,lj,s0,hB0,hs0,hlj,hhj,hcase⟩:=hBw
 have hjle:hj≤hi:=by
  refine Nat.le_of_not_lt fun hlt=>?_
  have m1:=Nat.mul_le_mul_right (W64^(k+1)) (show hi+1≤hj from hlt)
  rw [Nat.succ_mul] at m1
  have m2:=Nat.mul_le_mul_right (W64^k) (show lo+1≤W64 from hlo)
  rw [Nat.succ_mul] at m2
  rw [Nat.pow_succ,Nat.mul_comm (W64^k)] at m1
  rw [Nat.pow_succ,Nat.mul_comm (W64^k)] at hva hB0
  omega
 have hjW:hj*2^sh<W64:=Nat.lt_of_le_of_lt (Nat.mul_le_mul_right _ hjle) hs3
 obtain⟨ra,hra1,hra2⟩:=top_word hst hr0 hs3 hlo
 obtain⟨rb,hrb1,hrb2⟩:=top_word hst hs0 hjW hlj
 rw [hva] at hra1
 rw [← hB0] at hrb1
 have xlt:=or_lt hst hi hlo
 have ylt:=or_lt hst hj hlj
 have ox:=bits_or_shl hst hi hlo
 have oy:=bits_or_shl hst hj hlj
 obtain⟨x,hx⟩:∃x,orN hi sh lo t=x:=⟨_,rfl⟩
 obtain⟨y,hy⟩:∃y,orN hj sh lj t=y:=⟨_,rfl⟩
 rw [hx] at hra1 xlt ox
 rw [hy] at hrb1 ylt oy
 have HY:Hid (hj=0→shrN lj t=y):=fun e=>by
  rw [← hy,e];unfold orN shlN;simp
 have HY0:Hid (hj=0→lj=0→y=0):=fun e e'=>by
  rw [← HY.out e,e'];unfold shrN;simp
 clear hx hy
 have HAK:Hid _:=hra1
 have HBK:Hid _:=hrb1
 have HRA:Hid _:=hra2
 have HRB:Hid _:=hrb2
 have hyx:y≤x:=by
  refine Nat.le_of_not_lt fun hlt=>?_
  have m1:=Nat.mul_le_mul_right (2^t*W64^k) (show x+1≤y from hlt)
  rw [Nat.succ_mul] at m1
  omega
 have HYX:Hid _:=hyx
 have XLT:Hid _:=xlt
 have YLT:Hid _:=ylt
 have HCASE:Hid _:=hcase
 have w1:IntKind.i64.wrap ((k:Int)+2-1)=(k:Int)+1:=by rw [show (k:Int)+2-1=(k:Int)+1 by omega];exact IntWalk.i64_in _ (by omega)
 have w2:IntKind.i64.wrap (k:Int)=(k:Int):=IntWalk.i64_in _ (by omega)
 have w5:((k:Int)+1).toNat=k+1:=by omega
 have w6:(0:Int)≤(k:Int)+1:=by omega
 have w7:(k:Int)+1<(k:Int)+2:=by omega
 have w8:(k:Int)<(k:Int)+2:=by omega
 have w9:(k:Int)+2-2=(k:Int):=by omega
 have w3:IntKind.u64.wrap (64-(sh:Int))=(t:Int):=by rw [show (64-(sh:Int))=(t:Int) by omega];exact IntWalk.u64_in _ (by omega)
 have fl:=shl_form sh hs1
 have fr:∀z:Nat,(z:Int) / 2^min t 64=(shrN z t:Nat):=fun z=>by rw [Nat.min_eq_left (by omega)];exact shr_form' t z
 have fr':=shr_form' t
 have fl':=shl_form' sh
 clear hra1 hrb1 hra2 hrb2 hyx xlt ylt hcase hs2 hs3 hjW hjle hva hB0 hr0 hs0 hlb2 hlen hsA hB2 hBA hvb htb
 have HS0:Hid (SimRel A B x y x y 0 1 0 0 0 1 false):=by
  refine⟨?_,XLT.out,W64_pos,by rw [W64];omega,W64_pos,W64_pos,W64_pos,by rw [W64];omega,.inl rfl⟩
  have:=Sim.start (x:=x) (y:=y) (by omega) (by have:=HYX.out;omega)
  simpa [sg] using this
 go_enter Tryz.func96,Tryz.ntmps96
 go_wp2_with fail
 refine(nlz_any hi hhi _).mono ?_
 rintro e w0 ⟨rfl,rfl⟩
 rw [hsh]
 rcases HCASE.out with⟨e1,e2,e3⟩ | ⟨e1,e2,e3⟩ | ⟨e1,e2,e3⟩
 ·subst e1
  have dh:=hrb.cell (i:=k+1) (by omega)
  have dl:=hrb.cell (i:=k) (by omega)
  rw [e2] at dh
  rw [e3] at dl
  clear e2 e3
  go_wp2_with fail
  refine AnyL_start (fun w'=>w'.cell? ⟨pA,1,none⟩=some (.slice (some ⟨ba,0,none⟩) (k+2) ka)∧w'.cell? ⟨ba,k+1,none⟩=some (.int .u64 (hi:Int))∧w'.cell? ⟨ba,k,none⟩=some (.int .u64 (lo:Int))) [3,7,13,17] (by kernel_rfl) ?_
  have HS:(fun w':World=>w'.cell? ⟨pA,1,none⟩=some (.slice (some ⟨ba,0,none⟩) (k+2) ka)∧w'.cell? ⟨ba,k+1,none⟩=some (.int .u64 (hi:Int))∧w'.cell? ⟨ba,k,none⟩=some (.int .u64 (lo:Int))) w.drew:=⟨c1,ch,cl⟩
  refine AP 0 ?_
  refine AP 1 ?_
  refine AP 2 ?_
  refine AL 3 HS ?_
  refine AP 4 ?_
  refine AP 5 ?_
  refine AP 6 ?_
  refine AL 7 HS ?_
  refine AP 8 ?_
  refine AP 9 ?_
  refine AP 10 ?_
  refine AP 11 ?_
  refine AP 12 ?_
  refine AL 13 HS ?_
  refine AP 14 ?_
  refine AP 15 ?_
  refine AP 16 ?_
  refine AL 17 HS ?_
  refine AP 18 ?_
  refine AP 19 ?_
  refine AP 20 ?_
  refine AP 21 ?_
  refine AP 22 ?_
  refine AnyL_done (by kernel_rfl) ?_
  go_wp2_with fail
  refine AnyL_start (fun w'=>w'.cell? ⟨pB,1,none⟩=some (.slice (some ⟨bb,0,none⟩) (k+2) kb)∧w'.cell? ⟨bb,k+1,none⟩=some (.int .u64 (hj:Int))∧w'.cell? ⟨bb,k,none⟩=some (.int .u64 (lj:Int))) [3,7,13,17] (by kernel_rfl) ?_
  have HS:(fun w':World=>w'.cell? ⟨pB,1,none⟩=some (.slice (some ⟨bb,0,none⟩) (k+2) kb)∧w'.cell? ⟨bb,k+1,none⟩=some (.int .u64 (hj:Int))∧w'.cell? ⟨bb,k,none⟩=some (.int .u64 (lj:Int))) w.drew.drew:=⟨d1,dh,dl⟩
  refine AP 0 ?_
  refine AP 1 ?_
  refine AP 2 ?_
  refine AL 3 HS ?_
  refine AP 4 ?_
  refine AP 5 ?_
  refine AP 6 ?_
  refine AL 7 HS ?_
  refine AP 8 ?_
  refine AP 9 ?_
  refine AP 10 ?_
  refine AP 11 ?_
  refine AP 12 ?_
  refine AL 13 HS ?_
  refine AP 14 ?_
  refine AP 15 ?_
  refine AP 16 ?_
  refine AL 17 HS ?_
  refine AP 18 ?_
  refine AP 19 ?_
  refine AP 20 ?_
  refine AP 21 ?_
  refine AP 22 ?_
  refine AnyL_done (by kernel_rfl) ?_
  go_wp2_with fail
  have KW:Hid (Keep Nope w w.drew.drew):=(Keep.refl Nope w).drew.drew
  clear c1 d1 ch cl w1 w2 w3 w5 w6 w7 w8 w9 fl fr fr' fl' hra hrb gA gB ox oy
  go_loopw [4,5,6,7,8,9,10,11,12] (fun s4 s5 s6 s7 s8 s9 s10 s11 s12 wr=>∃(a1 a2 u0 u1 u2 v0 v1 v2:Nat) (even:Bool),s4 = .int .u64 (u0:Int)∧s5 = .int .u64 (u1:Int)∧s6 = .int .u64 (v0:Int)∧s7 = .int .u64 (v1:Int)∧s8 = .bool even ∧
   s9 = .int .u64 (a1:Int)∧s10 = .int .u64 (a2:Int)∧s11 = .int .u64 (u2:Int)∧s12 = .int .u64 (v2:Int)∧Keep Nope w wr∧SimRel A B x y a1 a2 u0 u1 u2 v0 v1 v2 even) (fun _ _ _ _ _ _ s10 _ _ _=>(intOf s10).toNat)
  case atStart=>exact⟨x,y,0,1,0,0,0,1,false,rfl,rfl,rfl,rfl,rfl,rfl,rfl,rfl,rfl,oo KW,HS0.out⟩
  case round=>
   obtain⟨a1,a2,u0,u1,u2,v0,v1,v2,even,rfl,rfl,rfl,rfl,rfl,rfl,rfl,rfl,rfl,hkr,hsim⟩:=hrel
   have HSIM:Hid _:=hsim
   have HKR:Hid _:=hkr
   clear hsim hkr HS0
   by_cases hc1:v2≤a2
   ·have hle:a2≤a1:=by have:=(oo HSIM).1.le;omega
    have hv2:1≤v2:=by have:=(oo HSIM).1.v2p;omega
    have hsum:v1+v2<W64:=by
     have h1:=(oo HSIM).1.smallSum (by omega)
     have h2:=XLT.out
     omega
    have ha1:a1<W64:=(oo HSIM).2.1
    obtain⟨z,hz⟩:∃z,z=a1-a2:=⟨_,rfl⟩
    obtain⟨m,hm⟩:∃m,m=v1+v2:=⟨_,rfl⟩
    have n1:IntKind.u64.wrap ((a1:Int)-(a2:Int))=(z:Int):=by
     rw [show (a1:Int)-(a2:Int)=(z:Int) by omega]
     exact IntWalk.u64_in _ (by rw [W64] at ha1;omega)
    have n2:IntKind.u64.wrap ((v1:Int)+(v2:Int))=(m:Int):=by
     rw [show (v1:Int)+(v2:Int)=(m:Int) by omega]
     exact IntWalk.u64_in _ (by rw [W64] at hsum;omega)
    by_cases hc2:m≤z
    ·obtain⟨hnext,ha2,hq⟩:=simRel_next (oo HSIM) XLT.out hc1 (by omega) HAK.out HBK.out HRA.out HRB.out
     have HN:Hid _:=hnext
     obtain⟨q,hq'⟩:∃q,a1 / a2=q:=⟨_,rfl⟩
     obtain⟨r,hr'⟩:∃r,a1%a2=r:=⟨_,rfl⟩
     obtain⟨uu,huu⟩:∃uu,u1+q*u2=uu:=⟨_,rfl⟩
     obtain⟨vv,hvv⟩:∃vv,v1+q*v2=vv:=⟨_,rfl⟩
     rw [hq',hr',huu,hvv] at HN
     have huW:uu<W64:=(oo HN).2.2.2.2.1
     have hvW:vv<W64:=(oo HN).2.2.2.2.2.2.2.1
     have e1:((a1:Int) / (a2:Int))=(q:Int):=by rw [← hq'];rfl
     have e2:((a1:Int)%(a2:Int))=(r:Int):=by rw [← hr'];rfl
     have e3:((a1:Int).tdiv (a2:Int))=(q:Int):=by rw [← hq',Int.ofNat_tdiv]
     have e4:((a1:Int).tmod (a2:Int))=(r:Int):=by rw [← hr',Int.ofNat_tmod]
     have qu:q*u2<W64:=by omega
     have qv:q*v2<W64:=by omega
     have m1:IntKind.u64.wrap ((q:Int)*(u2:Int))=((q*u2:Nat):Int):=by
      rw [← Int.natCast_mul]
      exact IntWalk.u64_in _ (by rw [W64] at qu;omega)
     have m2:IntKind.u64.wrap ((q:Int)*(v2:Int))=((q*v2:Nat):Int):=by
      rw [← Int.natCast_mul]
      exact IntWalk.u64_in _ (by rw [W64] at qv;omega)
     obtain⟨qu2,hqu2⟩:∃z,q*u2=z:=⟨_,rfl⟩
     obtain⟨qv2,hqv2⟩:∃z,q*v2=z:=⟨_,rfl⟩
     rw [hqu2] at m1 huu
     rw [hqv2] at m2 hvv
     have m3:IntKind.u64.wrap ((u1:Int)+(qu2:Int))=(uu:Int):=by
      rw [show (u1:Int)+(qu2:Int)=(uu:Int) by omega]
      exact IntWalk.u64_in _ (by rw [W64] at huW;omega)
     have m4:IntKind.u64.wrap ((v1:Int)+(qv2:Int))=(vv:Int):=by
      rw [show (v1:Int)+(qv2:Int)=(vv:Int) by omega]
      exact IntWalk.u64_in _ (by rw [W64] at hvW;omega)
     have hrlt:r<a2:=by rw [← hr'];exact Nat.mod_lt _ ha2
     have w1:IntKind.u64.wrap (q:Int)=(q:Int):=IntWalk.u64_in _ (by rw [W64] at hq;omega)
     have w2:IntKind.u64.wrap (r:Int)=(r:Int):=IntWalk.u64_in _ (by rw [W64] at ha1;omega)
     have t0:((a2:Int)==0)=false:=beq_eq_false_iff_ne.2 (by omega)
     have HRLT:Hid _:=hrlt
     clear hnext hq hq' hr' huu hvv huW hvW qu qv hqu2 hqv2 hz hm hsum ha1 hrlt hv2 hle HSIM
     go_wp2_with fail
     go_region
     go_wp2_with fail
     go_roundw
     case rel=>
      exact⟨a2,r,u1,u2,uu,v1,v2,vv,!even,by go_num,by go_num,by go_num,by go_num,by go_num,by go_num,by go_num,by go_num,by go_num,(oo HKR).drew,oo HN⟩
     case measure=>simp [intOf];exact HRLT.out
    ·have hc3:z<m:=by omega
     clear hc2 hz hm
     go_wp2_with fail
     (try simp only [Exit.inBlock,Exit.then])
     refine bodyPost_ret (results_tmp5 rfl _ _ _) rfl ?_
     exact⟨u0,u1,v0,v1,even,rfl,⟨(oo HSIM).2.2.1,(oo HSIM).2.2.2.1,(oo HSIM).2.2.2.2.2.1,(oo HSIM).2.2.2.2.2.2.1⟩,(oo HSIM).2.2.2.2.2.2.2.2,oo HKR⟩
   ·have hc3:a2<v2:=by omega
    clear hc1
    go_wp2_with fail
    (try simp only [Exit.inBlock,Exit.then])
    refine bodyPost_ret (results_tmp5 rfl _ _ _) rfl ?_
    exact⟨u0,u1,v0,v1,even,rfl,⟨(oo HSIM).2.2.1,(oo HSIM).2.2.2.1,(oo HSIM).2.2.2.2.2.1,(oo HSIM).2.2.2.2.2.2.1⟩,(oo HSIM).2.2.2.2.2.2.2.2,oo HKR⟩
 ·subst e1
  have dl:=hrb.cell (i:=k) (by omega)
  rw [e3] at dl
  have hy':=HY.out e2
  have t1:((k:Int)+2==(k:Int)+1)=false:=beq_eq_false_iff_ne.2 (by omega)
  have t2:IntKind.i64.wrap ((k:Int)+1+1)=(k:Int)+2:=by rw [show (k:Int)+1+1=(k:Int)+2 by omega];exact IntWalk.i64_in _ (by omega)
  clear e2 e3
  go_wp2_with fail
  refine AnyL_start (fun w'=>w'.cell? ⟨pA,1,none⟩=some (.slice (some ⟨ba,0,none⟩) (k+2) ka)∧w'.cell? ⟨ba,k+1,none⟩=some (.int .u64 (hi:Int))∧w'.cell? ⟨ba,k,none⟩=some (.int .u64 (lo:Int))) [3,7,13,17] (by kernel_rfl) ?_
  have HS:(fun w':World=>w'.cell? ⟨pA,1,none⟩=some (.slice (some ⟨ba,0,none⟩) (k+2) ka)∧w'.cell? ⟨ba,k+1,none⟩=some (.int .u64 (hi:Int))∧w'.cell? ⟨ba,k,none⟩=some (.int .u64 (lo:Int))) w.drew:=⟨c1,ch,cl⟩
  refine AP 0 ?_
  refine AP 1 ?_
  refine AP 2 ?_
  refine AL 3 HS ?_
  refine AP 4 ?_
  refine AP 5 ?_
  refine AP 6 ?_
  refine AL 7 HS ?_
  refine AP 8 ?_
  refine AP 9 ?_
  refine AP 10 ?_
  refine AP 11 ?_
  refine AP 12 ?_
  refine AL 13 HS ?_
  refine AP 14 ?_
  refine AP 15 ?_
  refine AP 16 ?_
  refine AL 17 HS ?_
  refine AP 18 ?_
  refine AP 19 ?_
  refine AP 20 ?_
  refine AP 21 ?_
  refine AP 22 ?_
  refine AnyL_done (by kernel_rfl) ?_
  go_wp2_with fail
  have KW:Hid (Keep Nope w w.drew):=(Keep.refl Nope w).drew
  clear c1 d1 ch cl w1 w2 w3 w5 w6 w7 w8 w9 fl fr fr' fl' hra hrb gA gB ox oy
  go_loopw [4,5,6,7,8,9,10,11,12] (fun s4 s5 s6 s7 s8 s9 s10 s11 s12 wr=>∃(a1 a2 u0 u1 u2 v0 v1 v2:Nat) (even:Bool),s4 = .int .u64 (u0:Int)∧s5 = .int .u64 (u1:Int)∧s6 = .int .u64 (v0:Int)∧s7 = .int .u64 (v1:Int)∧s8 = .bool even ∧
   s9 = .int .u64 (a1:Int)∧s10 = .int .u64 (a2:Int)∧s11 = .int .u64 (u2:Int)∧s12 = .int .u64 (v2:Int)∧Keep Nope w wr∧SimRel A B x y a1 a2 u0 u1 u2 v0 v1 v2 even) (fun _ _ _ _ _ _ s10 _ _ _=>(intOf s10).toNat)
  case atStart=>exact⟨x,y,0,1,0,0,0,1,false,rfl,rfl,rfl,rfl,rfl,rfl,rfl,rfl,rfl,oo KW,HS0.out⟩
  case round=>
   obtain⟨a1,a2,u0,u1,u2,v0,v1,v2,even,rfl,rfl,rfl,rfl,rfl,rfl,rfl,rfl,rfl,hkr,hsim⟩:=hrel
   have HSIM:Hid _:=hsim
   have HKR:Hid _:=hkr
   clear hsim hkr HS0
   by_cases hc1:v2≤a2
   ·have hle:a2≤a1:=by have:=(oo HSIM).1.le;omega
    have hv2:1≤v2:=by have:=(oo HSIM).1.v2p;omega
    have hsum:v1+v2<W64:=by
     have h1:=(oo HSIM).1.smallSum (by omega)
     have h2:=XLT.out
     omega
    have ha1:a1<W64:=(oo HSIM).2.1
    obtain⟨z,hz⟩:∃z,z=a1-a2:=⟨_,rfl⟩
    obtain⟨m,hm⟩:∃m,m=v1+v2:=⟨_,rfl⟩
    have n1:IntKind.u64.wrap ((a1:Int)-(a2:Int))=(z:Int):=by
     rw [show (a1:Int)-(a2:Int)=(z:Int) by omega]
     exact IntWalk.u64_in _ (by rw [W64] at ha1;omega)
    have n2:IntKind.u64.wrap ((v1:Int)+(v2:Int))=(m:Int):=by
     rw [show (v1:Int)+(v2:Int)=(m:Int) by omega]
     exact IntWalk.u64_in _ (by rw [W64] at hsum;omega)
    by_cases hc2:m≤z
    ·obtain⟨hnext,ha2,hq⟩:=simRel_next (oo HSIM) XLT.out hc1 (by omega) HAK.out HBK.out HRA.out HRB.out
     have HN:Hid _:=hnext
     obtain⟨q,hq'⟩:∃q,a1 / a2=q:=⟨_,rfl⟩
     obtain⟨r,hr'⟩:∃r,a1%a2=r:=⟨_,rfl⟩
     obtain⟨uu,huu⟩:∃uu,u1+q*u2=uu:=⟨_,rfl⟩
     obtain⟨vv,hvv⟩:∃vv,v1+q*v2=vv:=⟨_,rfl⟩
     rw [hq',hr',huu,hvv] at HN
     have huW:uu<W64:=(oo HN).2.2.2.2.1
     have hvW:vv<W64:=(oo HN).2.2.2.2.2.2.2.1
     have e1:((a1:Int) / (a2:Int))=(q:Int):=by rw [← hq'];rfl
     have e2:((a1:Int)%(a2:Int))=(r:Int):=by rw [← hr'];rfl
     have e3:((a1:Int).tdiv (a2:Int))=(q:Int):=by rw [← hq',Int.ofNat_tdiv]
     have e4:((a1:Int).tmod (a2:Int))=(r:Int):=by rw [← hr',Int.ofNat_tmod]
     have qu:q*u2<W64:=by omega
     have qv:q*v2<W64:=by omega
     have m1:IntKind.u64.wrap ((q:Int)*(u2:Int))=((q*u2:Nat):Int):=by
      rw [← Int.natCast_mul]
      exact IntWalk.u64_in _ (by rw [W64] at qu;omega)
     have m2:IntKind.u64.wrap ((q:Int)*(v2:Int))=((q*v2:Nat):Int):=by
      rw [← Int.natCast_mul]
      exact IntWalk.u64_in _ (by rw [W64] at qv;omega)
     obtain⟨qu2,hqu2⟩:∃z,q*u2=z:=⟨_,rfl⟩
     obtain⟨qv2,hqv2⟩:∃z,q*v2=z:=⟨_,rfl⟩
     rw [hqu2] at m1 huu
     rw [hqv2] at m2 hvv
     have m3:IntKind.u64.wrap ((u1:Int)+(qu2:Int))=(uu:Int):=by
      rw [show (u1:Int)+(qu2:Int)=(uu:Int) by omega]
      exact IntWalk.u64_in _ (by rw [W64] at huW;omega)
     have m4:IntKind.u64.wrap ((v1:Int)+(qv2:Int))=(vv:Int):=by
      rw [show (v1:Int)+(qv2:Int)=(vv:Int) by omega]
      exact IntWalk.u64_in _ (by rw [W64] at hvW;omega)
     have hrlt:r<a2:=by rw [← hr'];exact Nat.mod_lt _ ha2
     have w1:IntKind.u64.wrap (q:Int)=(q:Int):=IntWalk.u64_in _ (by rw [W64] at hq;omega)
     have w2:IntKind.u64.wrap (r:Int)=(r:Int):=IntWalk.u64_in _ (by rw [W64] at ha1;omega)
     have t0:((a2:Int)==0)=false:=beq_eq_false_iff_ne.2 (by omega)
     have HRLT:Hid _:=hrlt
     clear hnext hq hq' hr' huu hvv huW hvW qu qv hqu2 hqv2 hz hm hsum ha1 hrlt hv2 hle HSIM
     go_wp2_with fail
     go_region
     go_wp2_with fail
     go_roundw
     case rel=>
      exact⟨a2,r,u1,u2,uu,v1,v2,vv,!even,by go_num,by go_num,by go_num,by go_num,by go_num,by go_num,by go_num,by go_num,by go_num,(oo HKR).drew,oo HN⟩
     case measure=>simp [intOf];exact HRLT.out
    ·have hc3:z<m:=by omega
     clear hc2 hz hm
     go_wp2_with fail
     (try simp only [Exit.inBlock,Exit.then])
     refine bodyPost_ret (results_tmp5 rfl _ _ _) rfl ?_
     exact⟨u0,u1,v0,v1,even,rfl,⟨(oo HSIM).2.2.1,(oo HSIM).2.2.2.1,(oo HSIM).2.2.2.2.2.1,(oo HSIM).2.2.2.2.2.2.1⟩,(oo HSIM).2.2.2.2.2.2.2.2,oo HKR⟩
   ·have hc3:a2<v2:=by omega
    clear hc1
    go_wp2_with fail
    (try simp only [Exit.inBlock,Exit.then])
    refine bodyPost_ret (results_tmp5 rfl _ _ _) rfl ?_
    exact⟨u0,u1,v0,v1,even,rfl,⟨(oo HSIM).2.2.1,(oo HSIM).2.2.2.1,(oo HSIM).2.2.2.2.2.1,(oo HSIM).2.2.2.2.2.2.1⟩,(oo HSIM).2.2.2.2.2.2.2.2,oo HKR⟩
 ·have t1:((k:Int)+2==(lb:Int))=false:=beq_eq_false_iff_ne.2 (by omega)
  have t2:IntKind.i64.wrap ((lb:Int)+1)=(lb:Int)+1:=IntWalk.i64_in _ (by omega)
  have t3:((k:Int)+2==(lb:Int)+1)=false:=beq_eq_false_iff_ne.2 (by omega)
  have HY00:Hid (y=0):=HY0.out e2 e3
  clear e1 e2 e3
  go_wp2_with fail
  refine AnyL_start (fun w'=>w'.cell? ⟨pA,1,none⟩=some (.slice (some ⟨ba,0,none⟩) (k+2) ka)∧w'.cell? ⟨ba,k+1,none⟩=some (.int .u64 (hi:Int))∧w'.cell? ⟨ba,k,none⟩=some (.int .u64 (lo:Int))) [3,7,13,17] (by kernel_rfl) ?_
  have HS:(fun w':World=>w'.cell? ⟨pA,1,none⟩=some (.slice (some ⟨ba,0,none⟩) (k+2) ka)∧w'.cell? ⟨ba,k+1,none⟩=some (.int .u64 (hi:Int))∧w'.cell? ⟨ba,k,none⟩=some (.int .u64 (lo:Int))) w.drew:=⟨c1,ch,cl⟩
  refine AP 0 ?_
  refine AP 1 ?_
  refine AP 2 ?_
  refine AL 3 HS ?_
  refine AP 4 ?_
  refine AP 5 ?_
  refine AP 6 ?_
  refine AL 7 HS ?_
  refine AP 8 ?_
  refine AP 9 ?_
  refine AP 10 ?_
  refine AP 11 ?_
  refine AP 12 ?_
  refine AL 13 HS ?_
  refine AP 14 ?_
  refine AP 15 ?_
  refine AP 16 ?_
  refine AL 17 HS ?_
  refine AP 18 ?_
  refine AP 19 ?_
  refine AP 20 ?_
  refine AP 21 ?_
  refine AP 22 ?_
  refine AnyL_done (by kernel_rfl) ?_
  go_wp2_with fail
  have KW:Hid (Keep Nope w w.drew):=(Keep.refl Nope w).drew
  clear c1 d1 ch cl w1 w2 w3 w5 w6 w7 w8 w9 fl fr fr' fl' hra hrb gA gB ox oy
  go_loopw [4,5,6,7,8,9,10,11,12] (fun s4 s5 s6 s7 s8 s9 s10 s11 s12 wr=>∃(a1 a2 u0 u1 u2 v0 v1 v2:Nat) (even:Bool),s4 = .int .u64 (u0:Int)∧s5 = .int .u64 (u1:Int)∧s6 = .int .u64 (v0:Int)∧s7 = .int .u64 (v1:Int)∧s8 = .bool even ∧
   s9 = .int .u64 (a1:Int)∧s10 = .int .u64 (a2:Int)∧s11 = .int .u64 (u2:Int)∧s12 = .int .u64 (v2:Int)∧Keep Nope w wr∧SimRel A B x y a1 a2 u0 u1 u2 v0 v1 v2 even) (fun _ _ _ _ _ _ s10 _ _ _=>(intOf s10).toNat)
  case atStart=>exact⟨x,y,0,1,0,0,0,1,false,rfl,rfl,rfl,rfl,rfl,rfl,(by rw [HY00.out];rfl),rfl,rfl,oo KW,HS0.out⟩
  case round=>
   obtain⟨a1,a2,u0,u1,u2,v0,v1,v2,even,rfl,rfl,rfl,rfl,rfl,rfl,rfl,rfl,rfl,hkr,hsim⟩:=hrel
   have HSIM:Hid _:=hsim
   have HKR:Hid _:=hkr
   clear hsim hkr HS0
   by_cases hc1:v2≤a2
   ·have hle:a2≤a1:=by have:=(oo HSIM).1.le;omega
    have hv2:1≤v2:=by have:=(oo HSIM).1.v2p;omega
    have hsum:v1+v2<W64:=by
     have h1:=(oo HSIM).1.smallSum (by omega)
     have h2:=XLT.out
     omega
    have ha1:a1<W64:=(oo HSIM).2.1
    obtain⟨z,hz⟩:∃z,z=a1-a2:=⟨_,rfl⟩
    obtain⟨m,hm⟩:∃m,m=v1+v2:=⟨_,rfl⟩
    have n1:IntKind.u64.wrap ((a1:Int)-(a2:Int))=(z:Int):=by
     rw [show (a1:Int)-(a2:Int)=(z:Int) by omega]
     exact IntWalk.u64_in _ (by rw [W64] at ha1;omega)
    have n2:IntKind.u64.wrap ((v1:Int)+(v2:Int))=(m:Int):=by
     rw [show (v1:Int)+(v2:Int)=(m:Int) by omega]
     exact IntWalk.u64_in _ (by rw [W64] at hsum;omega)
    by_cases hc2:m≤z
    ·obtain⟨hnext,ha2,hq⟩:=simRel_next (oo HSIM) XLT.out hc1 (by omega) HAK.out HBK.out HRA.out HRB.out
     have HN:Hid _:=hnext
     obtain⟨q,hq'⟩:∃q,a1 / a2=q:=⟨_,rfl⟩
     obtain⟨r,hr'⟩:∃r,a1%a2=r:=⟨_,rfl⟩
     obtain⟨uu,huu⟩:∃uu,u1+q*u2=uu:=⟨_,rfl⟩
     obtain⟨vv,hvv⟩:∃vv,v1+q*v2=vv:=⟨_,rfl⟩
     rw [hq',hr',huu,hvv] at HN
     have huW:uu<W64:=(oo HN).2.2.2.2.1
     have hvW:vv<W64:=(oo HN).2.2.2.2.2.2.2.1
     have e1:((a1:Int) / (a2:Int))=(q:Int):=by rw [← hq'];rfl
     have e2:((a1:Int)%(a2:Int))=(r:Int):=by rw [← hr'];rfl
     have e3:((a1:Int).tdiv (a2:Int))=(q:Int):=by rw [← hq',Int.ofNat_tdiv]
     have e4:((a1:Int).tmod (a2:Int))=(r:Int):=by rw [← hr',Int.ofNat_tmod]
     have qu:q*u2<W64:=by omega
     have qv:q*v2<W64:=by omega
     have m1:IntKind.u64.wrap ((q:Int)*(u2:Int))=((q*u2:Nat):Int):=by
      rw [← Int.natCast_mul]
      exact IntWalk.u64_in _ (by rw [W64] at qu;omega)
     have m2:IntKind.u64.wrap ((q:Int)*(v2:Int))=((q*v2:Nat):Int):=by
      rw [← Int.natCast_mul]
      exact IntWalk.u64_in _ (by rw [W64] at qv;omega)
     obtain⟨qu2,hqu2⟩:∃z,q*u2=z:=⟨_,rfl⟩
     obtain⟨qv2,hqv2⟩:∃z,q*v2=z:=⟨_,rfl⟩
     rw [hqu2] at m1 huu
     rw [hqv2] at m2 hvv
     have m3:IntKind.u64.wrap ((u1:Int)+(qu2:Int))=(uu:Int):=by
      rw [show (u1:Int)+(qu2:Int)=(uu:Int) by omega]
      exact IntWalk.u64_in _ (by rw [W64] at huW;omega)
     have m4:IntKind.u64.wrap ((v1:Int)+(qv2:Int))=(vv:Int):=by
      rw [show (v1:Int)+(qv2:Int)=(vv:Int) by omega]
      exact IntWalk.u64_in _ (by rw [W64] at hvW;omega)
     have hrlt:r<a2:=by rw [← hr'];exact Nat.mod_lt _ ha2
     have w1:IntKind.u64.wrap (q:Int)=(q:Int):=IntWalk.u64_in _ (by rw [W64] at hq;omega)
     have w2:IntKind.u64.wrap (r:Int)=(r:Int):=IntWalk.u64_in _ (by rw [W64] at ha1;omega)
     have t0:((a2:Int)==0)=false:=beq_eq_false_iff_ne.2 (by omega)
     have HRLT:Hid _:=hrlt
     clear hnext hq hq' hr' huu hvv huW hvW qu qv hqu2 hqv2 hz hm hsum ha1 hrlt hv2 hle HSIM
     go_wp2_with fail
     go_region
     go_wp2_with fail
     go_roundw
     case rel=>
      exact⟨a2,r,u1,u2,uu,v1,v2,vv,!even,by go_num,by go_num,by go_num,by go_num,by go_num,by go_num,by go_num,by go_num,by go_num,(oo HKR).drew,oo HN⟩
     case measure=>simp [intOf];exact HRLT.out
    ·have hc3:z<m:=by omega
     clear hc2 hz hm
     go_wp2_with fail
     (try simp only [Exit.inBlock,Exit.then])
     refine bodyPost_ret (results_tmp5 rfl _ _ _) rfl ?_
     exact⟨u0,u1,v0,v1,even,rfl,⟨(oo HSIM).2.2.1,(oo HSIM).2.2.2.1,(oo HSIM).2.2.2.2.2.1,(oo HSIM).2.2.2.2.2.2.1⟩,(oo HSIM).2.2.2.2.2.2.2.2,oo HKR⟩
   ·have hc3:a2<v2:=by omega
    clear hc1
    go_wp2_with fail
    (try simp only [Exit.inBlock,Exit.then])
    refine bodyPost_ret (results_tmp5 rfl _ _ _) rfl ?_
    exact⟨u0,u1,v0,v1,even,rfl,⟨(oo HSIM).2.2.1,(oo HSIM).2.2.2.1,(oo HSIM).2.2.2.2.2.1,(oo HSIM).2.2.2.2.2.2.1⟩,(oo HSIM).2.2.2.2.2.2.2.2,oo HKR⟩
end Go.Proofs.YtofkehhflkdabaaGreatDoor
