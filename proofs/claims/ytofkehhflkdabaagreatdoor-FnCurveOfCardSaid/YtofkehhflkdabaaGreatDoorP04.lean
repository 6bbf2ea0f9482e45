/- A part of the proof of FnCurveOf. -/
import Derived.Test.YtofkehhflkdabaaGreatDoorP02
set_option maxRecDepth 100000
set_option maxHeartbeats 8000000
namespace Go.Proofs.YtofkehhflkdabaaGreatDoor
open Go Go.RowKit
theorem wrap_nat (n:Int):∃k:Nat,IntKind.u64.wrap n=(k:Int)∧(k:Int)=n%18446744073709551616:=
 ⟨(n%18446744073709551616).toNat,by rw [IntKind.wrap_u64];omega,by omega⟩
theorem wrap_id (n:Nat) (h:n<W64):IntKind.u64.wrap (n:Int)=(n:Int):=by
 unfold W64 at h;exact IntWalk.u64_in _ (by omega)
theorem wrap_is {n:Int} {k:Nat} (h:n=(k:Int)) (hk:k<W64):IntKind.u64.wrap n=(k:Int):=by
 rw [h];exact wrap_id k hk
theorem and_low (n:Nat) (h:n<W64):bits .and .u64 (n:Int) 4294967295=((n%4294967296:Nat):Int):=by
 unfold W64 at h
 have:=bits_and_u64_nat n 4294967295 (by omega) (by omega)
 rw [show ((4294967295:Nat):Int)=4294967295 from rfl] at this
 rw [this,show 4294967295=2^32-1 from rfl,Nat.and_two_pow_sub_one_eq_mod]
theorem or_zero (n:Nat) (h:n<W64):bits .or .u64 (n:Int) 0=(n:Int):=by
 unfold W64 at h
 have:=bits_or_u64_nat n 0 (by omega) (by omega)
 rw [show ((0:Nat):Int)=0 from rfl] at this
 rw [this];simp
theorem nlz_top {y:Nat} (hy:y<W64) (hy0:9223372036854775808≤y):nlzN y=0:=by
 have:=nlz_spec (by omega) hy
 refine Classical.byContradiction fun h=>?_
 obtain⟨k,hk⟩:∃k,nlzN y=k+1:=⟨nlzN y-1,by omega⟩
 rw [hk,Nat.pow_succ 2 k] at this
 have h1:=Nat.mul_le_mul_left y (show 1≤2^k from Nat.pos_of_ne_zero (by simp))
 have h2:y*(2^k*2)=2*(y*2^k):=by grind
 unfold W64 at this
 omega
def qW (hi lo y:Nat):Nat:=(hi*W64+lo) / y
def rW (hi lo y:Nat):Nat:=(hi*W64+lo)%y
def Dig (u un1 yn1 yn0 q r:Nat):Prop:=
 r+q*yn1=u∧r<4294967296∧q≤4294967297∧u*4294967296+un1<(q+1)*(yn1*4294967296+yn0)
theorem dig_start {u un1 yn1 yn0:Nat} (h1:2147483648≤yn1) (h2:yn1<4294967296) (h3:yn0<4294967296) (hu:u<yn1*4294967296+yn0) (hun:un1<4294967296) :
  Dig u un1 yn1 yn0 (u / yn1) (u-u / yn1*yn1):=by
 have e:=Nat.div_add_mod u yn1
 have hm:=Nat.mod_lt u (show 0<yn1 by omega)
 rw [Nat.mul_comm] at e
 refine⟨by omega,by omega,?_,?_⟩
 ·have:u / yn1<4294967298:=by
   rw [Nat.div_lt_iff_lt_mul (by omega)];omega
  omega
 ·have e2:(u / yn1+1)*(yn1*4294967296+yn0)=(u / yn1*yn1)*4294967296+yn1*4294967296+(u / yn1+1)*yn0:=by grind
  rw [e2]
  omega
theorem tail_facts {u un y yn1 yn0 Q:Nat} (hy:y<W64) (b1:2147483648≤yn1) (b2:yn1<4294967296) (b3:yn0<4294967296) (_hun:un<4294967296) (HY:y=yn1*4294967296+yn0)
  (hQ:(u*4294967296+un) / (yn1*4294967296+yn0)=Q) :
  ∃h1 h2 h3 u2:Nat,IntKind.u64.wrap ((u:Int)*4294967296)=(h1:Int)∧IntKind.u64.wrap ((h1:Int)+(un:Int))=(h2:Int)∧IntKind.u64.wrap ((Q:Int)*(y:Int))=(h3:Int) ∧
   IntKind.u64.wrap ((h2:Int)-(h3:Int))=(u2:Int)∧u2<y∧u*4294967296+un=Q*y+u2:=by
 obtain⟨h1,e1,m1⟩:=wrap_nat ((u:Int)*4294967296)
 obtain⟨h2,e2,m2⟩:=wrap_nat ((h1:Int)+(un:Int))
 obtain⟨h3,e3,m3⟩:=wrap_nat ((Q:Int)*(y:Int))
 have hd:=Nat.div_add_mod (u*4294967296+un) y
 have hm:=Nat.mod_lt (u*4294967296+un) (show 0<y by omega)
 rw [← HY] at hQ
 rw [hQ,Nat.mul_comm] at hd
 refine⟨h1,h2,h3,(u*4294967296+un)%y,e1,e2,e3,?_,hm,hd.symm⟩
 generalize (u*4294967296+un)%y=u2 at *
 have hc:(Q:Int)*(y:Int)=((Q*y:Nat):Int):=by simp
 rw [hc] at m3
 generalize Q*y=P at *
 unfold W64 at hy
 rw [IntKind.wrap_u64]
 omega
theorem next_facts {u un yn1 yn0:Nat} (hu:u<W64) (b1:2147483648≤yn1) (b2:yn1<4294967296) (b3:yn0<4294967296) (hun:un<4294967296) (hlt:u<yn1*4294967296+yn0) :
  ∃q p r:Nat,(u:Int) / (yn1:Int)=(q:Int)∧IntKind.u64.wrap (q:Int)=(q:Int)∧IntKind.u64.wrap ((q:Int)*(yn1:Int))=(p:Int)∧(u:Int)-(p:Int)=(r:Int) ∧
   IntKind.u64.wrap (r:Int)=(r:Int)∧Dig u un yn1 yn0 q r:=by
 have plt:u / yn1*yn1≤u:=Nat.div_mul_le_self u yn1
 have qle:=Nat.div_le_self u yn1
 refine⟨u / yn1,u / yn1*yn1,u-u / yn1*yn1,by simp,wrap_id _ (by omega),wrap_is (by simp) (by omega),by rw [Int.natCast_sub plt],wrap_id _ (by omega),dig_start b1 b2 b3 hlt hun⟩
theorem fin_facts {B hi lo y u2 Q q0 un1 un0 u3:Nat} (hB:W64=B*B) (hhi:hi<y) (HLO:lo=un1*B+un0) (hlo:lo<W64) (h1:hi*B+un1=Q*y+u2)
  (h2:u2*B+un0=q0*y+u3) (h3:u3<y) :
  (hi*W64+lo) / y=Q*B+q0∧(hi*W64+lo)%y=u3∧Q*B+q0<W64:=by
 have e:hi*W64+lo=(Q*B+q0)*y+u3:=by
  have a2:(hi*B+un1)*B=(Q*y+u2)*B:=by rw [h1]
  rw [hB,HLO]
  grind
 obtain⟨d1,d2⟩:=div_of e h3
 refine⟨d1,d2,?_⟩
 rw [← d1,Nat.div_lt_iff_lt_mul (by omega)]
 have:hi*W64+W64≤W64*y:=by
  rw [Nat.mul_comm hi,← Nat.mul_succ];exact Nat.mul_le_mul_left _ hhi
 omega
theorem bitsDiv64_top (hi lo y:Nat) (hhi:hi<y) (hlo:lo<W64) (hy:y<W64) (hy0:9223372036854775808≤y) (h0:0<hi) (w:World) :
  Calls Tryz.prog 179 #[.int .u64 (hi:Int),.int .u64 (lo:Int),.int .u64 (y:Int)] w fun e w'=>
   e = .returned (.tuple #[.int .u64 (qW hi lo y:Nat),.int .u64 (rW hi lo y:Nat)])∧Keep Nope w w':=by
 have t1:((y:Int)==0)=false:=beq_eq_false_iff_ne.2 (by omega)
 have t2:((hi:Int)==0)=false:=beq_eq_false_iff_ne.2 (by omega)
 have hn:=nlz_top hy hy0
 have hlen:(64-(Lib.bitLen y:Int))=0:=by have:=bitLen_le hy;unfold nlzN at hn;omega
 have wy:=wrap_id y hy
 have wh:=wrap_id hi (by omega)
 have wl:=wrap_id lo hlo
 have d1:(lo:Int) / 18446744073709551616=0:=by unfold W64 at hlo;omega
 have o1:=or_zero hi (by omega)
 have hyW:y<18446744073709551616:=hy
 have hloW:lo<18446744073709551616:=hlo
 obtain⟨yn1,hyn1⟩:∃k,y / 4294967296=k:=⟨_,rfl⟩
 obtain⟨yn0,hyn0⟩:∃k,y%4294967296=k:=⟨_,rfl⟩
 obtain⟨un1,hun1⟩:∃k,lo / 4294967296=k:=⟨_,rfl⟩
 obtain⟨un0,hun0⟩:∃k,lo%4294967296=k:=⟨_,rfl⟩
 have a1:=and_low y hy
 have a2:=and_low lo hlo
 rw [hyn0] at a1
 rw [hun0] at a2
 have a3:(y:Int) / 4294967296=(yn1:Int):=by omega
 have a4:(lo:Int) / 4294967296=(un1:Int):=by omega
 have b1:2147483648≤yn1:=by omega
 have b2:yn1<4294967296:=by omega
 have b3:yn0<4294967296:=by omega
 have b4:un1<4294967296:=by omega
 have b5:un0<4294967296:=by omega
 have HY:Hid (y=yn1*4294967296+yn0):=(by omega:y=yn1*4294967296+yn0)
 have HLO:Hid (lo=un1*4294967296+un0):=(by omega:lo=un1*4294967296+un0)
 have hd:=dig_start (u:=hi) (un1:=un1) b1 b2 b3 (by rw [← HY.out];exact hhi) b4
 have qlt:hi / yn1<W64:=by have:=Nat.div_le_self hi yn1;omega
 have plt:hi / yn1*yn1≤hi:=Nat.div_mul_le_self hi yn1
 have c1:(hi:Int) / (yn1:Int)=((hi / yn1:Nat):Int):=by simp
 generalize hqe:hi / yn1=q at *
 generalize hpe:q*yn1=p at *
 have c2:IntKind.u64.wrap ((q:Int)*(yn1:Int))=(p:Int):=wrap_is (by rw [← hpe];simp) (by omega)
 have c3:IntKind.u64.wrap (q:Int)=(q:Int):=wrap_id q qlt
 generalize hre:hi-p=r at *
 have c4:(hi:Int)-(p:Int)=(r:Int):=by omega
 have c5:IntKind.u64.wrap (r:Int)=(r:Int):=wrap_id r (by omega)
 have HD:Hid (Dig hi un1 yn1 yn0 q r):=hd
 have hhi':hi<yn1*4294967296+yn0:=by rw [← HY.out];exact hhi
 clear hd hqe hpe hre hyn1 hyn0 hun1 hun0 hn
 go_enter Tryz.func179,Tryz.ntmps179
 go_wp2_with fail
 refine(LeadingZeros64_any y hy _).mono ?_
 rintro e w1 ⟨rfl,rfl⟩
 rw [hlen]
 clear hlen
 go_wp2_with fail
 go_loop [15,16] (fun x1 x2=>∃q r:Nat,x1 = .int .u64 (q:Int)∧x2 = .int .u64 (r:Int)∧Dig hi un1 yn1 yn0 q r) (fun x1 _=>(intOf x1).toNat)
 case atStart=>exact⟨_,_,rfl,rfl,HD.out⟩
 case round=>
  obtain⟨q,r,rfl,rfl,hr1,hr2,hr3,hr4⟩:=hrel
  clear HD
  have HR4:Hid (hi*4294967296+un1<(q+1)*(yn1*4294967296+yn0)):=hr4
  have m1lt:q*yn0<W64:=by
   have h1:=Nat.mul_le_mul hr3 (show yn0≤4294967295 by omega)
   unfold W64;omega
  have HR1:Hid (r+q*yn1=hi):=hr1
  obtain⟨m1,hm1⟩:∃k,q*yn0=k:=⟨_,rfl⟩
  have f1:IntKind.u64.wrap ((q:Int)*(yn0:Int))=(m1:Int):=wrap_is (by rw [← hm1];simp) (by omega)
  have HM1:Hid (q*yn0=m1):=hm1
  clear hm1 hr4 hr1 m1lt
  obtain⟨m2,hm2⟩:∃k,4294967296*r=k:=⟨_,rfl⟩
  have f2:IntKind.u64.wrap (4294967296*(r:Int))=(m2:Int):=wrap_is (by omega) (by unfold W64;omega)
  obtain⟨m3,hm3⟩:∃k,m2+un1=k:=⟨_,rfl⟩
  have f3:IntKind.u64.wrap ((m2:Int)+(un1:Int))=(m3:Int):=wrap_is (by omega) (by unfold W64;omega)
  have HM3:Hid (4294967296*r+un1=m3):=(by omega:4294967296*r+un1=m3)
  clear hm2 hm3
  by_cases hA:4294967296≤q∨m3<m1
  ·have q0:0<q:=by
    rcases hA with h | h
    ·omega
    ·refine Nat.pos_of_ne_zero fun e=>?_
     have:=HM1.out
     rw [e,Nat.zero_mul] at this
     omega
   have HA:Hid (4294967296≤q∨m3<m1):=hA
   have hdown:hi*4294967296+un1<(q-1+1)*(yn1*4294967296+yn0):=by
    rcases hA with h | h
    ·have h1:=hhi'
     have h2:=Nat.mul_le_mul_right (yn1*4294967296+yn0) h
     rw [Nat.sub_add_cancel q0]
     omega
    ·exact digit_down q0 HR1.out (by have:=HM1.out;have:=HM3.out;omega)
   obtain⟨q',hq'⟩:∃k,q=k+1:=⟨q-1,by omega⟩
   have f4:IntKind.u64.wrap ((q:Int)-1)=(q':Int):=wrap_is (by omega) (by unfold W64;omega)
   obtain⟨r',hr'⟩:∃k,r+yn1=k:=⟨_,rfl⟩
   have f5:IntKind.u64.wrap ((r:Int)+(yn1:Int))=(r':Int):=wrap_is (by omega) (by unfold W64;omega)
   have hsum:r'+q'*yn1=hi:=by
    have:=HR1.out
    rw [hq',Nat.succ_mul] at this
    omega
   rw [hq',Nat.add_sub_cancel] at hdown
   have HDN:Hid (hi*4294967296+un1<(q'+1)*(yn1*4294967296+yn0)):=hdown
   have HS:Hid (r'+q'*yn1=hi):=hsum
   have hqq:q'<q:=by omega
   have HQ:Hid (q=q'+1):=hq'
   have HQ2:Hid (q'≤4294967297):=(by omega:q'≤4294967297)
   clear hdown hsum hq' hr' hA hr2 hr3
   by_cases hB:4294967296≤r'
   ·have hfin:(hi*4294967296+un1) / (yn1*4294967296+yn0)=q':=by
     refine digit_ok b3 b4 HS.out ?_ HDN.out
     have hq32:q'<4294967296:=by
      refine Classical.byContradiction fun h=>?_
      have h1:=Nat.mul_le_mul_right yn1 (show 4294967296≤q' by omega)
      have h2:=HS.out
      have h3:=hhi'
      omega
     have h1:=Nat.mul_le_mul (show q'≤4294967296 by omega) (show yn0≤4294967296 by omega)
     omega
    have T3:decide ((4294967296:Int)≤(r':Int))=true:=by simp;omega
    clear hB hqq
    obtain⟨h1,h2,h3,u2,g1,g2,g3,g4,hu2,heq⟩:=tail_facts (u:=hi) (un:=un1) hy b1 b2 b3 b4 HY.out hfin
    have HEQ:Hid (hi*4294967296+un1=q'*y+u2):=heq
    obtain⟨q0',p0,r0,k1,k2,k3,k4,k5,hdig⟩:=next_facts (u:=u2) (un:=un0) (by omega) b1 b2 b3 b5 (by rw [← HY.out];exact hu2)
    have hu2':u2<yn1*4294967296+yn0:=by rw [← HY.out];exact hu2
    have HD2:Hid (Dig u2 un0 yn1 yn0 q0' r0):=hdig
    clear heq hdig hfin
    by_cases hA2:4294967296≤q
    ·have T1:decide ((4294967296:Int)≤(q:Int))=true:=by simp;omega
     clear hA2
     go_wp2_with fail
     go_loop [18,16] (fun x1 x2=>∃s t:Nat,x1 = .int .u64 (s:Int)∧x2 = .int .u64 (t:Int)∧Dig u2 un0 yn1 yn0 s t) (fun x1 _=>(intOf x1).toNat)
     case atStart=>exact⟨_,_,rfl,rfl,HD2.out⟩
     case round=>
      obtain⟨s,t,rfl,rfl,hr1,hr2,hr3,hr4⟩:=hrel
      clear HD2
      have HR4:Hid (u2*4294967296+un0<(s+1)*(yn1*4294967296+yn0)):=hr4
      have m1lt:s*yn0<W64:=by
       have h1:=Nat.mul_le_mul hr3 (show yn0≤4294967295 by omega)
       unfold W64;omega
      have HR1:Hid (t+s*yn1=u2):=hr1
      obtain⟨n1,hm1⟩:∃k,s*yn0=k:=⟨_,rfl⟩
      have f1:IntKind.u64.wrap ((s:Int)*(yn0:Int))=(n1:Int):=wrap_is (by rw [← hm1];simp) (by omega)
      have HM1:Hid (s*yn0=n1):=hm1
      clear hm1 hr4 hr1 m1lt
      obtain⟨n2,hm2⟩:∃k,4294967296*t=k:=⟨_,rfl⟩
      have f2:IntKind.u64.wrap (4294967296*(t:Int))=(n2:Int):=wrap_is (by omega) (by unfold W64;omega)
      obtain⟨n3,hm3⟩:∃k,n2+un0=k:=⟨_,rfl⟩
      have f3:IntKind.u64.wrap ((n2:Int)+(un0:Int))=(n3:Int):=wrap_is (by omega) (by unfold W64;omega)
      have HM3:Hid (4294967296*t+un0=n3):=(by omega:4294967296*t+un0=n3)
      clear hm2 hm3
      by_cases hA:4294967296≤s∨n3<n1
      ·have s0:0<s:=by
        rcases hA with h | h
        ·omega
        ·refine Nat.pos_of_ne_zero fun e=>?_
         have:=HM1.out
         rw [e,Nat.zero_mul] at this
         omega
       have HA:Hid (4294967296≤s∨n3<n1):=hA
       have hdown:u2*4294967296+un0<(s-1+1)*(yn1*4294967296+yn0):=by
        rcases hA with h | h
        ·have h1:=hu2'
         have h2:=Nat.mul_le_mul_right (yn1*4294967296+yn0) h
         rw [Nat.sub_add_cancel s0]
         omega
        ·exact digit_down s0 HR1.out (by have:=HM1.out;have:=HM3.out;omega)
       obtain⟨s',hs'⟩:∃k,s=k+1:=⟨s-1,by omega⟩
       have f4:IntKind.u64.wrap ((s:Int)-1)=(s':Int):=wrap_is (by omega) (by unfold W64;omega)
       obtain⟨t',ht'⟩:∃k,t+yn1=k:=⟨_,rfl⟩
       have f5:IntKind.u64.wrap ((t:Int)+(yn1:Int))=(t':Int):=wrap_is (by omega) (by unfold W64;omega)
       have hsum:t'+s'*yn1=u2:=by
        have:=HR1.out
        rw [hs',Nat.succ_mul] at this
        omega
       rw [hs',Nat.add_sub_cancel] at hdown
       have HDN:Hid (u2*4294967296+un0<(s'+1)*(yn1*4294967296+yn0)):=hdown
       have HS:Hid (t'+s'*yn1=u2):=hsum
       have hqq:s'<s:=by omega
       have HQ:Hid (s=s'+1):=hs'
       have HQ2:Hid (s'≤4294967297):=(by omega:s'≤4294967297)
       clear hdown hsum hs' ht' hA hr2 hr3
       by_cases hB:4294967296≤t'
       ·have hfin:(u2*4294967296+un0) / (yn1*4294967296+yn0)=s':=by
         refine digit_ok b3 b5 HS.out ?_ HDN.out
         have hq32:s'<4294967296:=by
          refine Classical.byContradiction fun h=>?_
          have h1:=Nat.mul_le_mul_right yn1 (show 4294967296≤s' by omega)
          have h2:=HS.out
          have h3:=hu2'
          omega
         have h1:=Nat.mul_le_mul (show s'≤4294967296 by omega) (show yn0≤4294967296 by omega)
         omega
        have T3:decide ((4294967296:Int)≤(t':Int))=true:=by simp;omega
        clear hB hqq
        obtain⟨h4,h5,h6,u3,g5,g6,g7,g8,hu3,heq2⟩:=tail_facts (u:=u2) (un:=un0) hy b1 b2 b3 b5 HY.out hfin
        obtain⟨x1,x2,x3⟩:=fin_facts (B:=4294967296) rfl hhi HLO.out hlo HEQ.out heq2 hu3
        obtain⟨v1,hv1⟩:∃k,q'*4294967296=k:=⟨_,rfl⟩
        rw [hv1] at x1 x3
        have z1:IntKind.u64.wrap ((q':Int)*4294967296)=(v1:Int):=wrap_is (by rw [← hv1];simp) (by omega)
        obtain⟨v2,hv2⟩:∃k,v1+s'=k:=⟨_,rfl⟩
        rw [hv2] at x1 x3
        have z2:IntKind.u64.wrap ((v1:Int)+(s':Int))=(v2:Int):=wrap_is (by omega) x3
        have X1:Hid (qW hi lo y=v2):=x1
        have X2:Hid (rW hi lo y=u3):=x2
        clear x1 x2 x3 hv1 hv2 heq2 hfin
        by_cases hA2:4294967296≤s
        ·have T1:decide ((4294967296:Int)≤(s:Int))=true:=by simp;omega
         clear hA2
         go_wp2_with fail
         go_ret2
         rw [X1.out,X2.out]
         exact⟨rfl,Keep.refl _ _⟩
        ·have T1:decide ((4294967296:Int)≤(s:Int))=false:=by simp;omega
         have T2:n3<n1:=by have:=HA.out;omega
         clear hA2
         go_wp2_with fail
         go_ret2
         rw [X1.out,X2.out]
         exact⟨rfl,Keep.refl _ _⟩
       ·have T3:decide ((4294967296:Int)≤(t':Int))=false:=by simp;omega
        have HB:Hid (t'<4294967296):=(by omega:t'<4294967296)
        clear hB
        by_cases hA2:4294967296≤s
        ·have T1:decide ((4294967296:Int)≤(s:Int))=true:=by simp;omega
         clear hA2
         go_wp2_with fail
         go_round
         case rel=>exact⟨s',t',rfl,rfl,HS.out,HB.out,HQ2.out,HDN.out⟩
         case measure=>simp [intOf];omega
        ·have T1:decide ((4294967296:Int)≤(s:Int))=false:=by simp;omega
         have T2:n3<n1:=by have:=HA.out;omega
         clear hA2
         go_wp2_with fail
         go_round
         case rel=>exact⟨s',t',rfl,rfl,HS.out,HB.out,HQ2.out,HDN.out⟩
         case measure=>simp [intOf];omega
      ·have T1:decide ((4294967296:Int)≤(s:Int))=false:=by simp;omega
       have T2:n1≤n3:=by omega
       have hfin:(u2*4294967296+un0) / (yn1*4294967296+yn0)=s:=by
        refine digit_ok b3 b5 HR1.out ?_ HR4.out
        have:=HM1.out;have:=HM3.out
        omega
       clear hA hr2 hr3
       obtain⟨s',hqq⟩:∃k,k=s:=⟨_,rfl⟩
       rw [← hqq] at hfin
       obtain⟨h4,h5,h6,u3,g5,g6,g7,g8,hu3,heq2⟩:=tail_facts (u:=u2) (un:=un0) hy b1 b2 b3 b5 HY.out hfin
       obtain⟨x1,x2,x3⟩:=fin_facts (B:=4294967296) rfl hhi HLO.out hlo HEQ.out heq2 hu3
       obtain⟨v1,hv1⟩:∃k,q'*4294967296=k:=⟨_,rfl⟩
       rw [hv1] at x1 x3
       have z1:IntKind.u64.wrap ((q':Int)*4294967296)=(v1:Int):=wrap_is (by rw [← hv1];simp) (by omega)
       obtain⟨v2,hv2⟩:∃k,v1+s'=k:=⟨_,rfl⟩
       rw [hv2] at x1 x3
       have z2:IntKind.u64.wrap ((v1:Int)+(s':Int))=(v2:Int):=wrap_is (by omega) x3
       have X1:Hid (qW hi lo y=v2):=x1
       have X2:Hid (rW hi lo y=u3):=x2
       clear x1 x2 x3 hv1 hv2 heq2 hfin
       subst hqq
       go_wp2_with fail
       go_ret2
       rw [X1.out,X2.out]
       exact⟨rfl,Keep.refl _ _⟩
    ·have T1:decide ((4294967296:Int)≤(q:Int))=false:=by simp;omega
     have T2:m3<m1:=by have:=HA.out;omega
     clear hA2
     go_wp2_with fail
     go_loop [18,16] (fun x1 x2=>∃s t:Nat,x1 = .int .u64 (s:Int)∧x2 = .int .u64 (t:Int)∧Dig u2 un0 yn1 yn0 s t) (fun x1 _=>(intOf x1).toNat)
     case atStart=>exact⟨_,_,rfl,rfl,HD2.out⟩
     case round=>
      obtain⟨s,t,rfl,rfl,hr1,hr2,hr3,hr4⟩:=hrel
      clear HD2
      have HR4:Hid (u2*4294967296+un0<(s+1)*(yn1*4294967296+yn0)):=hr4
      have m1lt:s*yn0<W64:=by
       have h1:=Nat.mul_le_mul hr3 (show yn0≤4294967295 by omega)
       unfold W64;omega
      have HR1:Hid (t+s*yn1=u2):=hr1
      obtain⟨n1,hm1⟩:∃k,s*yn0=k:=⟨_,rfl⟩
      have f1:IntKind.u64.wrap ((s:Int)*(yn0:Int))=(n1:Int):=wrap_is (by rw [← hm1];simp) (by omega)
      have HM1:Hid (s*yn0=n1):=hm1
      clear hm1 hr4 hr1 m1lt
      obtain⟨n2,hm2⟩:∃k,4294967296*t=k:=⟨_,rfl⟩
      have f2:IntKind.u64.wrap (4294967296*(t:Int))=(n2:Int):=wrap_is (by omega) (by unfold W64;omega)
      obtain⟨n3,hm3⟩:∃k,n2+un0=k:=⟨_,rfl⟩
      have f3:IntKind.u64.wrap ((n2:Int)+(un0:Int))=(n3:Int):=wrap_is (by omega) (by unfold W64;omega)
      have HM3:Hid (4294967296*t+un0=n3):=(by omega:4294967296*t+un0=n3)
      clear hm2 hm3
      by_cases hA:4294967296≤s∨n3<n1
      ·have s0:0<s:=by
        rcases hA with h | h
        ·omega
        ·refine Nat.pos_of_ne_zero fun e=>?_
         have:=HM1.out
         rw [e,Nat.zero_mul] at this
         omega
       have HA:Hid (4294967296≤s∨n3<n1):=hA
       have hdown:u2*4294967296+un0<(s-1+1)*(yn1*4294967296+yn0):=by
        rcases hA with h | h
        ·have h1:=hu2'
         have h2:=Nat.mul_le_mul_right (yn1*4294967296+yn0) h
         rw [Nat.sub_add_cancel s0]
         omega
        ·exact digit_down s0 HR1.out (by have:=HM1.out;have:=HM3.out;omega)
       obtain⟨s',hs'⟩:∃k,s=k+1:=⟨s-1,by omega⟩
       have f4:IntKind.u64.wrap ((s:Int)-1)=(s':Int):=wrap_is (by omega) (by unfold W64;omega)
       obtain⟨t',ht'⟩:∃k,t+yn1=k:=⟨_,rfl⟩
       have f5:IntKind.u64.wrap ((t:Int)+(yn1:Int))=(t':Int):=wrap_is (by omega) (by unfold W64;omega)
       have hsum:t'+s'*yn1=u2:=by
        have:=HR1.out
        rw [hs',Nat.succ_mul] at this
        omega
       rw [hs',Nat.add_sub_cancel] at hdown
       have HDN:Hid (u2*4294967296+un0<(s'+1)*(yn1*4294967296+yn0)):=hdown
       have HS:Hid (t'+s'*yn1=u2):=hsum
       have hqq:s'<s:=by omega
       have HQ:Hid (s=s'+1):=hs'
       have HQ2:Hid (s'≤4294967297):=(by omega:s'≤4294967297)
       clear hdown hsum hs' ht' hA hr2 hr3
       by_cases hB:4294967296≤t'
       ·have hfin:(u2*4294967296+un0) / (yn1*4294967296+yn0)=s':=by
         refine digit_ok b3 b5 HS.out ?_ HDN.out
         have hq32:s'<4294967296:=by
          refine Classical.byContradiction fun h=>?_
          have h1:=Nat.mul_le_mul_right yn1 (show 4294967296≤s' by omega)
          have h2:=HS.out
          have h3:=hu2'
          omega
         have h1:=Nat.mul_le_mul (show s'≤4294967296 by omega) (show yn0≤4294967296 by omega)
         omega
        have T3:decide ((4294967296:Int)≤(t':Int))=true:=by simp;omega
        clear hB hqq
        obtain⟨h4,h5,h6,u3,g5,g6,g7,g8,hu3,heq2⟩:=tail_facts (u:=u2) (un:=un0) hy b1 b2 b3 b5 HY.out hfin
        obtain⟨x1,x2,x3⟩:=fin_facts (B:=4294967296) rfl hhi HLO.out hlo HEQ.out heq2 hu3
        obtain⟨v1,hv1⟩:∃k,q'*4294967296=k:=⟨_,rfl⟩
        rw [hv1] at x1 x3
        have z1:IntKind.u64.wrap ((q':Int)*4294967296)=(v1:Int):=wrap_is (by rw [← hv1];simp) (by omega)
        obtain⟨v2,hv2⟩:∃k,v1+s'=k:=⟨_,rfl⟩
        rw [hv2] at x1 x3
        have z2:IntKind.u64.wrap ((v1:Int)+(s':Int))=(v2:Int):=wrap_is (by omega) x3
        have X1:Hid (qW hi lo y=v2):=x1
        have X2:Hid (rW hi lo y=u3):=x2
        clear x1 x2 x3 hv1 hv2 heq2 hfin
        by_cases hA2:4294967296≤s
        ·have T1:decide ((4294967296:Int)≤(s:Int))=true:=by simp;omega
         clear hA2
         go_wp2_with fail
         go_ret2
         rw [X1.out,X2.out]
         exact⟨rfl,Keep.refl _ _⟩
        ·have T1:decide ((4294967296:Int)≤(s:Int))=false:=by simp;omega
         have T2:n3<n1:=by have:=HA.out;omega
         clear hA2
         go_wp2_with fail
         go_ret2
         rw [X1.out,X2.out]
         exact⟨rfl,Keep.refl _ _⟩
       ·have T3:decide ((4294967296:Int)≤(t':Int))=false:=by simp;omega
        have HB:Hid (t'<4294967296):=(by omega:t'<4294967296)
        clear hB
        by_cases hA2:4294967296≤s
        ·have T1:decide ((4294967296:Int)≤(s:Int))=true:=by simp;omega
         clear hA2
         go_wp2_with fail
         go_round
         case rel=>exact⟨s',t',rfl,rfl,HS.out,HB.out,HQ2.out,HDN.out⟩
         case measure=>simp [intOf];omega
        ·have T1:decide ((4294967296:Int)≤(s:Int))=false:=by simp;omega
         have T2:n3<n1:=by have:=HA.out;omega
         clear hA2
         go_wp2_with fail
         go_round
         case rel=>exact⟨s',t',rfl,rfl,HS.out,HB.out,HQ2.out,HDN.out⟩
         case measure=>simp [intOf];omega
      ·have T1:decide ((4294967296:Int)≤(s:Int))=false:=by simp;omega
       have T2:n1≤n3:=by omega
       have hfin:(u2*4294967296+un0) / (yn1*4294967296+yn0)=s:=by
        refine digit_ok b3 b5 HR1.out ?_ HR4.out
        have:=HM1.out;have:=HM3.out
        omega
       clear hA hr2 hr3
       obtain⟨s',hqq⟩:∃k,k=s:=⟨_,rfl⟩
       rw [← hqq] at hfin
       obtain⟨h4,h5,h6,u3,g5,g6,g7,g8,hu3,heq2⟩:=tail_facts (u:=u2) (un:=un0) hy b1 b2 b3 b5 HY.out hfin
       obtain⟨x1,x2,x3⟩:=fin_facts (B:=4294967296) rfl hhi HLO.out hlo HEQ.out heq2 hu3
       obtain⟨v1,hv1⟩:∃k,q'*4294967296=k:=⟨_,rfl⟩
       rw [hv1] at x1 x3
       have z1:IntKind.u64.wrap ((q':Int)*4294967296)=(v1:Int):=wrap_is (by rw [← hv1];simp) (by omega)
       obtain⟨v2,hv2⟩:∃k,v1+s'=k:=⟨_,rfl⟩
       rw [hv2] at x1 x3
       have z2:IntKind.u64.wrap ((v1:Int)+(s':Int))=(v2:Int):=wrap_is (by omega) x3
       have X1:Hid (qW hi lo y=v2):=x1
       have X2:Hid (rW hi lo y=u3):=x2
       clear x1 x2 x3 hv1 hv2 heq2 hfin
       subst hqq
       go_wp2_with fail
       go_ret2
       rw [X1.out,X2.out]
       exact⟨rfl,Keep.refl _ _⟩
   ·have T3:decide ((4294967296:Int)≤(r':Int))=false:=by simp;omega
    have HB:Hid (r'<4294967296):=(by omega:r'<4294967296)
    clear hB
    by_cases hA2:4294967296≤q
    ·have T1:decide ((4294967296:Int)≤(q:Int))=true:=by simp;omega
     clear hA2
     go_wp2_with fail
     go_round
     case rel=>exact⟨q',r',rfl,rfl,HS.out,HB.out,HQ2.out,HDN.out⟩
     case measure=>simp [intOf];omega
    ·have T1:decide ((4294967296:Int)≤(q:Int))=false:=by simp;omega
     have T2:m3<m1:=by have:=HA.out;omega
     clear hA2
     go_wp2_with fail
     go_round
     case rel=>exact⟨q',r',rfl,rfl,HS.out,HB.out,HQ2.out,HDN.out⟩
     case measure=>simp [intOf];omega
  ·have T1:decide ((4294967296:Int)≤(q:Int))=false:=by simp;omega
   have T2:m1≤m3:=by omega
   have hfin:(hi*4294967296+un1) / (yn1*4294967296+yn0)=q:=by
    refine digit_ok b3 b4 HR1.out ?_ HR4.out
    have:=HM1.out;have:=HM3.out
    omega
   clear hA hr2 hr3
   obtain⟨q',hqq⟩:∃k,k=q:=⟨_,rfl⟩
   rw [← hqq] at hfin
   obtain⟨h1,h2,h3,u2,g1,g2,g3,g4,hu2,heq⟩:=tail_facts (u:=hi) (un:=un1) hy b1 b2 b3 b4 HY.out hfin
   have HEQ:Hid (hi*4294967296+un1=q'*y+u2):=heq
   obtain⟨q0',p0,r0,k1,k2,k3,k4,k5,hdig⟩:=next_facts (u:=u2) (un:=un0) (by omega) b1 b2 b3 b5 (by rw [← HY.out];exact hu2)
   have hu2':u2<yn1*4294967296+yn0:=by rw [← HY.out];exact hu2
   have HD2:Hid (Dig u2 un0 yn1 yn0 q0' r0):=hdig
   clear heq hdig hfin
   subst hqq
   go_wp2_with fail
   go_loop [18,16] (fun x1 x2=>∃s t:Nat,x1 = .int .u64 (s:Int)∧x2 = .int .u64 (t:Int)∧Dig u2 un0 yn1 yn0 s t) (fun x1 _=>(intOf x1).toNat)
   case atStart=>exact⟨_,_,rfl,rfl,HD2.out⟩
   case round=>
    obtain⟨s,t,rfl,rfl,hr1,hr2,hr3,hr4⟩:=hrel
    clear HD2
    have HR4:Hid (u2*4294967296+un0<(s+1)*(yn1*4294967296+yn0)):=hr4
    have m1lt:s*yn0<W64:=by
     have h1:=Nat.mul_le_mul hr3 (show yn0≤4294967295 by omega)
     unfold W64;omega
    have HR1:Hid (t+s*yn1=u2):=hr1
    obtain⟨n1,hm1⟩:∃k,s*yn0=k:=⟨_,rfl⟩
    have f1:IntKind.u64.wrap ((s:Int)*(yn0:Int))=(n1:Int):=wrap_is (by rw [← hm1];simp) (by omega)
    have HM1:Hid (s*yn0=n1):=hm1
    clear hm1 hr4 hr1 m1lt
    obtain⟨n2,hm2⟩:∃k,4294967296*t=k:=⟨_,rfl⟩
    have f2:IntKind.u64.wrap (4294967296*(t:Int))=(n2:Int):=wrap_is (by omega) (by unfold W64;omega)
    obtain⟨n3,hm3⟩:∃k,n2+un0=k:=⟨_,rfl⟩
    have f3:IntKind.u64.wrap ((n2:Int)+(un0:Int))=(n3:Int):=wrap_is (by omega) (by unfold W64;omega)
    have HM3:Hid (4294967296*t+un0=n3):=(by omega:4294967296*t+un0=n3)
    clear hm2 hm3
    by_cases hA:4294967296≤s∨n3<n1
    ·have s0:0<s:=by
      rcases hA with h | h
      ·omega
      ·refine Nat.pos_of_ne_zero fun e=>?_
       have:=HM1.out
       rw [e,Nat.zero_mul] at this
       omega
     have HA:Hid (4294967296≤s∨n3<n1):=hA
     have hdown:u2*4294967296+un0<(s-1+1)*(yn1*4294967296+yn0):=by
      rcases hA with h | h
      ·have h1:=hu2'
       have h2:=Nat.mul_le_mul_right (yn1*4294967296+yn0) h
       rw [Nat.sub_add_cancel s0]
       omega
      ·exact digit_down s0 HR1.out (by have:=HM1.out;have:=HM3.out;omega)
     obtain⟨s',hs'⟩:∃k,s=k+1:=⟨s-1,by omega⟩
     have f4:IntKind.u64.wrap ((s:Int)-1)=(s':Int):=wrap_is (by omega) (by unfold W64;omega)
     obtain⟨t',ht'⟩:∃k,t+yn1=k:=⟨_,rfl⟩
     have f5:IntKind.u64.wrap ((t:Int)+(yn1:Int))=(t':Int):=wrap_is (by omega) (by unfold W64;omega)
     have hsum:t'+s'*yn1=u2:=by
      have:=HR1.out
      rw [hs',Nat.succ_mul] at this
      omega
     rw [hs',Nat.add_sub_cancel] at hdown
     have HDN:Hid (u2*4294967296+un0<(s'+1)*(yn1*4294967296+yn0)):=hdown
     have HS:Hid (t'+s'*yn1=u2):=hsum
     have hqq:s'<s:=by omega
     have HQ:Hid (s=s'+1):=hs'
     have HQ2:Hid (s'≤4294967297):=(by omega:s'≤4294967297)
     clear hdown hsum hs' ht' hA hr2 hr3
     by_cases hB:4294967296≤t'
     ·have hfin:(u2*4294967296+un0) / (yn1*4294967296+yn0)=s':=by
       refine digit_ok b3 b5 HS.out ?_ HDN.out
       have hq32:s'<4294967296:=by
        refine Classical.byContradiction fun h=>?_
        have h1:=Nat.mul_le_mul_right yn1 (show 4294967296≤s' by omega)
        have h2:=HS.out
        have h3:=hu2'
        omega
       have h1:=Nat.mul_le_mul (show s'≤4294967296 by omega) (show yn0≤4294967296 by omega)
       omega
      have T3:decide ((4294967296:Int)≤(t':Int))=true:=by simp;omega
      clear hB hqq
      obtain⟨h4,h5,h6,u3,g5,g6,g7,g8,hu3,heq2⟩:=tail_facts (u:=u2) (un:=un0) hy b1 b2 b3 b5 HY.out hfin
      obtain⟨x1,x2,x3⟩:=fin_facts (B:=4294967296) rfl hhi HLO.out hlo HEQ.out heq2 hu3
      obtain⟨v1,hv1⟩:∃k,q'*4294967296=k:=⟨_,rfl⟩
      rw [hv1] at x1 x3
      have z1:IntKind.u64.wrap ((q':Int)*4294967296)=(v1:Int):=wrap_is (by rw [← hv1];simp) (by omega)
      obtain⟨v2,hv2⟩:∃k,v1+s'=k:=⟨_,rfl⟩
      rw [hv2] at x1 x3
      have z2:IntKind.u64.wrap ((v1:Int)+(s':Int))=(v2:Int):=wrap_is (by omega) x3
      have X1:Hid (qW hi lo y=v2):=x1
      have X2:Hid (rW hi lo y=u3):=x2
      clear x1 x2 x3 hv1 hv2 heq2 hfin
      by_cases hA2:4294967296≤s
      ·have T1:decide ((4294967296:Int)≤(s:Int))=true:=by simp;omega
       clear hA2
       go_wp2_with fail
       go_ret2
       rw [X1.out,X2.out]
       exact⟨rfl,Keep.refl _ _⟩
      ·have T1:decide ((4294967296:Int)≤(s:Int))=false:=by simp;omega
       have T2:n3<n1:=by have:=HA.out;omega
       clear hA2
       go_wp2_with fail
       go_ret2
       rw [X1.out,X2.out]
       exact⟨rfl,Keep.refl _ _⟩
     ·have T3:decide ((4294967296:Int)≤(t':Int))=false:=by simp;omega
      have HB:Hid (t'<4294967296):=(by omega:t'<4294967296)
      clear hB
      by_cases hA2:4294967296≤s
      ·have T1:decide ((4294967296:Int)≤(s:Int))=true:=by simp;omega
       clear hA2
       go_wp2_with fail
       go_round
       case rel=>exact⟨s',t',rfl,rfl,HS.out,HB.out,HQ2.out,HDN.out⟩
       case measure=>simp [intOf];omega
      ·have T1:decide ((4294967296:Int)≤(s:Int))=false:=by simp;omega
       have T2:n3<n1:=by have:=HA.out;omega
       clear hA2
       go_wp2_with fail
       go_round
       case rel=>exact⟨s',t',rfl,rfl,HS.out,HB.out,HQ2.out,HDN.out⟩
       case measure=>simp [intOf];omega
    ·have T1:decide ((4294967296:Int)≤(s:Int))=false:=by simp;omega
     have T2:n1≤n3:=by omega
     have hfin:(u2*4294967296+un0) / (yn1*4294967296+yn0)=s:=by
      refine digit_ok b3 b5 HR1.out ?_ HR4.out
      have:=HM1.out;have:=HM3.out
      omega
     clear hA hr2 hr3
     obtain⟨s',hqq⟩:∃k,k=s:=⟨_,rfl⟩
     rw [← hqq] at hfin
     obtain⟨h4,h5,h6,u3,g5,g6,g7,g8,hu3,heq2⟩:=tail_facts (u:=u2) (un:=un0) hy b1 b2 b3 b5 HY.out hfin
     obtain⟨x1,x2,x3⟩:=fin_facts (B:=4294967296) rfl hhi HLO.out hlo HEQ.out heq2 hu3
     obtain⟨v1,hv1⟩:∃k,q'*4294967296=k:=⟨_,rfl⟩
     rw [hv1] at x1 x3
     have z1:IntKind.u64.wrap ((q':Int)*4294967296)=(v1:Int):=wrap_is (by rw [← hv1];simp) (by omega)
     obtain⟨v2,hv2⟩:∃k,v1+s'=k:=⟨_,rfl⟩
     rw [hv2] at x1 x3
     have z2:IntKind.u64.wrap ((v1:Int)+(s':Int))=(v2:Int):=wrap_is (by omega) x3
     have X1:Hid (qW hi lo y=v2):=x1
     have X2:Hid (rW hi lo y=u3):=x2
     clear x1 x2 x3 hv1 hv2 heq2 hfin
     subst hqq
     go_wp2_with fail
     go_ret2
     rw [X1.out,X2.out]
     exact⟨rfl,Keep.refl _ _⟩
theorem bitsDiv_any (hi lo y:Nat) (hhi:hi<y) (hlo:lo<W64) (hy:y<W64) (hy0:hi=0∨9223372036854775808≤y) (w:World) :
  Calls Tryz.prog 167 #[.int .u64 (hi:Int),.int .u64 (lo:Int),.int .u64 (y:Int)] w fun e w'=>
   e = .returned (.tuple #[.int .u64 (qW hi lo y:Nat),.int .u64 (rW hi lo y:Nat)])∧Keep Nope w w':=by
 have h64:Calls Tryz.prog 179 #[.int .u64 (hi:Int),.int .u64 (lo:Int),.int .u64 (y:Int)] w fun e w'=>
   e = .returned (.tuple #[.int .u64 (qW hi lo y:Nat),.int .u64 (rW hi lo y:Nat)])∧Keep Nope w w':=by
  by_cases h0:hi=0
  ·subst h0
   have:=bitsDiv64_low lo y hlo hy (by omega) w
   unfold qW rW
   rw [Nat.zero_mul,Nat.zero_add]
   exact this
  ·exact bitsDiv64_top hi lo y hhi hlo hy (by omega) (by omega) w
 have H:Hid (Calls Tryz.prog 179 #[.int .u64 (hi:Int),.int .u64 (lo:Int),.int .u64 (y:Int)] w fun e w'=>
   e = .returned (.tuple #[.int .u64 (qW hi lo y:Nat),.int .u64 (rW hi lo y:Nat)])∧Keep Nope w w'):=h64
 clear h64 hy0
 go_enter Tryz.func167,Tryz.ntmps167
 go_wp2_with fail
 refine Calls.mono H.out ?_
 rintro e w1 ⟨rfl,hk⟩
 go_wp2_with fail
 go_ret2
 exact⟨rfl,hk⟩
def recN (d:Nat):Nat:=(W64*W64-1) / d-W64
theorem recN_spec {d:Nat} (h1:9223372036854775808≤d) (h2:d<W64):recN d<W64∧(recN d+W64)*d≤W64*W64-1∧W64*W64-1<(recN d+W64+1)*d∧qW (W64-1-d) (W64-1) d=recN d:=by
 have hge:W64≤(W64*W64-1) / d:=by
  rw [Nat.le_div_iff_mul_le (by omega)]
  have:=Nat.mul_le_mul_left W64 (show d≤W64-1 by omega)
  have e:W64*(W64-1)=W64*W64-W64:=by rw [Nat.mul_sub,Nat.mul_one]
  have:=W64_pos
  omega
 have hlt:(W64*W64-1) / d<2*W64:=by
  rw [Nat.div_lt_iff_lt_mul (by omega)]
  have:=Nat.mul_le_mul_left (2*W64) h1
  have e:2*W64*9223372036854775808=W64*W64:=by decide
  have:0<W64*W64:=by decide
  omega
 have hm:=Nat.div_add_mod (W64*W64-1) d
 have hr:=Nat.mod_lt (W64*W64-1) (show 0<d by omega)
 unfold recN
 rw [Nat.sub_add_cancel hge]
 have hc:=Nat.mul_comm d ((W64*W64-1) / d)
 refine⟨by omega,by omega,by rw [Nat.succ_mul];omega,?_⟩
 unfold qW
 have e:(W64-1-d)*W64+(W64-1)=W64*W64-1-W64*d:=by
  have e1:(W64-1-d)*W64=W64*W64-W64-W64*d:=by rw [Nat.sub_mul,Nat.sub_mul,Nat.one_mul,Nat.mul_comm d]
  have e2:W64*d+W64≤W64*W64:=by rw [← Nat.mul_succ];exact Nat.mul_le_mul_left _ h2
  have:=W64_pos
  omega
 rw [e,Nat.mul_comm W64 d,Nat.sub_mul_div]
theorem not_word (u:Nat) (hu:u<W64):bits .xor .u64 IntKind.u64.max (u:Int)=((W64-1-u:Nat):Int):=by
 have hu':u<18446744073709551616:=hu
 have h:=bits_xor_u64_nat 18446744073709551615 u (by omega) hu'
 have e1:(IntKind.u64.max:Int)=((18446744073709551615:Nat):Int):=by decide
 rw [e1,h]
 congr 1
 have h2:(~~~ (BitVec.ofNat 64 u)).toNat=2^64-1-(BitVec.ofNat 64 u).toNat:=BitVec.toNat_not
 rw [BitVec.not_def,BitVec.toNat_xor,BitVec.toNat_allOnes,BitVec.toNat_ofNat,Nat.mod_eq_of_lt (by omega)] at h2
 rw [W64_eq]
 exact h2
theorem norm_word {y:Nat} (hy:y<W64) (hy0:0<y):IntKind.u64.wrap ((y:Int)*2^min (nlzN y) 64)=((y*2^nlzN y:Nat):Int):=by
 obtain⟨h1,h2,h3⟩:=nlz_spec hy0 hy
 rw [shl_form _ h1]
 congr 1
 unfold shlN
 exact Nat.mod_eq_of_lt h3
theorem reciprocalWord_any (y:Nat) (hy:y<W64) (hy0:0<y) (w:World) :
  Calls Tryz.prog 168 #[.int .u64 (y:Int)] w fun e w'=>e = .returned (.int .u64 (recN (y*2^nlzN y):Nat))∧Keep Nope w w':=by
 obtain⟨h1,h2,h3⟩:=nlz_spec hy0 hy
 have hw:=norm_word hy hy0
 generalize hu:y*2^nlzN y=u at *
 have hu2:9223372036854775808≤u:=h2
 obtain⟨r1,r2,r3,r4⟩:=recN_spec hu2 h3
 have hx:=not_word u h3
 have hb:=bitsDiv_any (W64-1-u) (W64-1) u (by unfold W64 at h3 ⊢;omega) (by decide) h3 (.inr hu2)
 rw [r4] at hb
 have HB:Hid (∀w,Calls Tryz.prog 167 #[.int .u64 ((W64-1-u:Nat):Int),.int .u64 ((W64-1:Nat):Int),.int .u64 (u:Int)] w fun e w'=>
   e = .returned (.tuple #[.int .u64 (recN u:Nat),.int .u64 (rW (W64-1-u) (W64-1) u:Nat)])∧Keep Nope w w'):=hb
 generalize W64-1-u=v at *
 clear hb r1 r2 r3 r4 hu2 h1 h2 h3 hu
 go_enter Tryz.func168,Tryz.ntmps168
 go_wp2_with fail
 refine(nlz_any y hy _).mono ?_
 rintro e w1 ⟨rfl,rfl⟩
 go_wp2_with fail
 refine Calls.mono (HB.out _) ?_
 rintro e w1 ⟨rfl,hk⟩
 go_wp2_with fail
 go_ret
 exact⟨rfl,hk⟩
theorem divWW_parts {x1 x0 d:Nat} (hd1:9223372036854775808≤d) (hd:d<W64) (hx1:x1<d) (hx0:x0<W64) :
  ∃q r:Nat,addLo (mulHi (recN d) x1 0) x1 (addHi (mulLo (recN d) x1 0) x0 0)=q∧x1*W64+x0=q*d+r∧r<W64+d∧q<W64 ∧
   subLo x0 (mulLo d q 0) 0=r%W64∧subLo x1 (mulHi d q 0) (subHi x0 (mulLo d q 0) 0)=r / W64:=by
 obtain⟨r1,r2,r3,_⟩:=recN_spec hd1 hd
 have hx1':x1<W64:=by omega
 have m1:=mul_eq (recN d) x1 0
 have a1:=add_eq (mulLo (recN d) x1 0) x0 0
 have l1:=addLo_lt (mulLo (recN d) x1 0) x0 0
 have c1:=addHi_le (mulLo_lt (recN d) x1 0) hx0 (show 0≤1 by omega)
 generalize addHi (mulLo (recN d) x1 0) x0 0=c at *
 generalize addLo (mulLo (recN d) x1 0) x0 0=lo at *
 generalize mulLo (recN d) x1 0=t0 at *
 generalize mulHi (recN d) x1 0=t1 at *
 generalize recN d=M at *
 have e1:(M+W64)*x1+x0=(t1+x1+c)*W64+lo:=by
  have b1:(M+W64)*x1=M*x1+W64*x1:=Nat.add_mul _ _ _
  have b2:(t1+x1+c)*W64=W64*t1+W64*x1+W64*c:=by grind
  omega
 obtain⟨g1,g2⟩:=guess (d:=d) (v:=M+W64) (x1:=x1) (x0:=x0) (q:=t1+x1+c) (by omega) hx1 hx0 r2 r3 (by omega) (by rw [Nat.succ_mul];omega)
 have qlt:t1+x1+c<W64:=by
  refine Classical.byContradiction fun h=>?_
  have h1:=Nat.mul_le_mul_right d (show W64≤t1+x1+c by omega)
  have h2:x1*W64+W64≤d*W64:=by rw [← Nat.succ_mul];exact Nat.mul_le_mul_right _ hx1
  have h3:=Nat.mul_comm d W64
  omega
 have q1:addLo t1 x1 c=t1+x1+c:=by unfold addLo;exact Nat.mod_eq_of_lt qlt
 generalize hq:t1+x1+c=q at *
 refine⟨q,x1*W64+x0-q*d,q1,by omega,by omega,qlt,?_⟩
 have m2:=mul_eq d q 0
 have l2:=mulLo_lt d q 0
 have s1:=sub_eq hx0 l2 (show 0≤1 by omega)
 have l3:=subLo_lt x0 (mulLo d q 0) 0
 have b1:=subHi_le x0 (mulLo d q 0) 0
 have hq2:mulHi d q 0<W64:=mulHi_lt hd qlt W64_pos
 generalize mulLo d q 0=d0 at *
 generalize mulHi d q 0=d1 at *
 have hdq:=Nat.mul_comm d q
 have e2:(d1+subHi x0 d0 0)*W64+(x1*W64+x0-q*d)=x1*W64+subLo x0 d0 0:=by
  have b2:(d1+subHi x0 d0 0)*W64=W64*d1+W64*subHi x0 d0 0:=by grind
  omega
 generalize hrr:x1*W64+x0-q*d=r at *
 have e3:d1+subHi x0 d0 0≤x1:=by
  refine Classical.byContradiction fun h=>?_
  have h1:=Nat.mul_le_mul_right W64 (show x1+1≤d1+subHi x0 d0 0 by omega)
  rw [Nat.succ_mul] at h1
  omega
 obtain⟨k,hk⟩:∃k,x1=d1+subHi x0 d0 0+k:=⟨x1-(d1+subHi x0 d0 0),by omega⟩
 have e4:r=k*W64+subLo x0 d0 0:=by
  have:x1*W64=(d1+subHi x0 d0 0)*W64+k*W64:=by rw [hk,Nat.add_mul]
  omega
 obtain⟨f1,f2⟩:=div_of e4 l3
 rw [f1,f2]
 refine⟨rfl,?_⟩
 unfold subLo
 rw [show x1+W64-d1-subHi x0 d0 0=k+W64 from by omega,Nat.add_mod_right,Nat.mod_eq_of_lt (by omega)]
theorem divWW_fix {N d q r:Nat} (hd1:9223372036854775808≤d) (hd:d<W64) (h:N=q*d+r) (hr:r<W64+d) :
  (r / W64=0∧r%W64<d→N / d=q∧N%d=r%W64) ∧
  (r / W64=0∧d≤r%W64→N / d=q+1∧N%d=r%W64-d) ∧
  (r / W64≠0→r / W64=1∧subLo (r%W64) d 0=r-d∧(r-d<d→N / d=q+1∧N%d=r-d)∧(d≤r-d→N / d=q+2∧N%d=r-d-d)):=by
 have hm:=Nat.div_add_mod r W64
 have hml:=Nat.mod_lt r W64_pos
 have hW:W64=18446744073709551616:=rfl
 have hdiv:r / W64<2:=by rw [Nat.div_lt_iff_lt_mul W64_pos];omega
 refine⟨fun⟨h1,h2⟩=>?_,fun⟨h1,h2⟩=>?_,fun h1=>?_⟩
 ·rw [h1] at hm
  have e:r%W64=r:=by omega
  rw [e] at h2 ⊢
  exact div_of h h2
 ·rw [h1] at hm
  have e:r%W64=r:=by omega
  rw [e] at h2 ⊢
  exact div_of (by rw [Nat.succ_mul];omega) (by omega)
 ·have h1':r / W64=1:=by revert h1 hdiv;generalize r / W64=t;omega
  rw [h1'] at hm
  refine⟨h1',?_,fun h2=>div_of (by rw [Nat.succ_mul];omega) h2,fun h2=>?_⟩
  ·unfold subLo
   rw [show r%W64+W64-d-0=r-d from by omega,Nat.mod_eq_of_lt (by omega)]
  ·have e:(q+2)*d=q*d+2*d:=Nat.add_mul _ _ _
   exact div_of (by rw [e];omega) (by omega)
theorem divWW_top (x1 x0 d:Nat) (hd1:9223372036854775808≤d) (hd:d<W64) (hx1:x1<d) (hx0:x0<W64) (w:World) :
  Calls Tryz.prog 169 #[.int .u64 (x1:Int),.int .u64 (x0:Int),.int .u64 (d:Int),.int .u64 (recN d:Nat)] w fun e w'=>
   e = .returned (.tuple #[.int .u64 (qW x1 x0 d:Nat),.int .u64 (rW x1 x0 d:Nat)])∧Keep Nope w w':=by
 have hn:=nlz_top hd hd1
 have r1:=(recN_spec hd1 hd).1
 obtain⟨q,r,p1,p2,p3,qlt,p5,p6⟩:=divWW_parts hd1 hd hx1 hx0
 obtain⟨f1,f2,f3⟩:=divWW_fix hd1 hd p2 p3
 have hrlt:r%W64<W64:=Nat.mod_lt _ W64_pos
 have hrdm:=Nat.div_add_mod r W64
 obtain⟨r0,hr0e⟩:∃k,r%W64=k:=⟨_,rfl⟩
 obtain⟨k1,hk1e⟩:∃k,r / W64=k:=⟨_,rfl⟩
 rw [hr0e] at p5 f1 f2 f3 hrlt hrdm
 rw [hk1e] at p6 f1 f2 f3 hrdm
 have HDM:Hid (W64*k1+r0=r):=hrdm
 clear hrdm hr0e hk1e
 have hx1':x1<W64:=by omega
 have cle:=addHi_le (mulLo_lt (recN d) x1 0) hx0 (show 0≤1 by omega)
 have ble:=subHi_le x0 (mulLo d q 0) 0
 have P1:Hid (addLo (mulHi (recN d) x1 0) x1 (addHi (mulLo (recN d) x1 0) x0 0)=q):=p1
 have P5:Hid (subLo x0 (mulLo d q 0) 0=r0):=p5
 have P6:Hid (subLo x1 (mulHi d q 0) (subHi x0 (mulLo d q 0) 0)=k1):=p6
 have hd0:0<d:=by omega
 clear p1 p5 p6 hd1
 go_enter Tryz.func169,Tryz.ntmps169
 go_wp2_with fail
 refine(nlz_any d hd _).mono ?_
 rintro e w1 ⟨rfl,rfl⟩
 rw [hn]
 clear hn
 go_wp2_with fail
 refine(Mul_any (recN d) x1 r1 hx1' _).mono ?_
 rintro e w1 ⟨rfl,rfl⟩
 go_wp2_with fail
 refine(Add_any (mulLo (recN d) x1 0) x0 0 (mulLo_lt _ _ _) hx0 (by omega) _).mono ?_
 rintro e w1 ⟨rfl,rfl⟩
 go_wp2_with fail
 refine(Add_any (mulHi (recN d) x1 0) x1 (addHi (mulLo (recN d) x1 0) x0 0) (mulHi_lt r1 hx1' W64_pos) hx1' cle _).mono ?_
 rintro e w1 ⟨rfl,rfl⟩
 rw [P1.out]
 go_wp2_with fail
 refine(Mul_any d q hd qlt _).mono ?_
 rintro e w1 ⟨rfl,rfl⟩
 go_wp2_with fail
 refine(Sub_any x0 (mulLo d q 0) 0 (by omega) _).mono ?_
 rintro e w1 ⟨rfl,rfl⟩
 rw [P5.out]
 go_wp2_with fail
 refine(Sub_any x1 (mulHi d q 0) (subHi x0 (mulLo d q 0) 0) ble _).mono ?_
 rintro e w1 ⟨rfl,rfl⟩
 rw [P6.out]
 clear cle ble
 by_cases hk:k1=0
 ·have T1:((k1:Int) != 0)=false:=by rw [hk];rfl
  by_cases hc:r0<d
  ·obtain⟨F1,F2⟩:=f1 ⟨hk,hc⟩
   have G1:Hid ((x1*W64+x0) / d=q):=F1
   have G2:Hid ((x1*W64+x0)%d=r0):=F2
   have hr0:=hrlt
   clear f1 f2 f3 F1 F2 hk p2 p3
   clear hd hx0 qlt r1 P1 hr0 hrlt HDM hx1 hx1' P5 P6
   go_wp2_with fail
   go_ret2
   rw [show qW x1 x0 d=q from G1.out,show rW x1 x0 d=r0 from G2.out]
   exact⟨rfl,Keep.refl _ _⟩
  ·obtain⟨F1,F2⟩:=f2 ⟨hk,by omega⟩
   have G1:Hid ((x1*W64+x0) / d=q+1):=F1
   have G2:Hid ((x1*W64+x0)%d=r0-d):=F2
   have hr0:=hrlt
   clear f1 f2 f3 F1 F2 hk p2 p3
   have hq1:q+1<W64:=by
    have:=G1.out
    rw [← this,Nat.div_lt_iff_lt_mul (by omega)]
    have h1:x1*W64+W64≤d*W64:=by rw [← Nat.succ_mul];exact Nat.mul_le_mul_right _ hx1
    have h2:=Nat.mul_comm d W64
    omega
   obtain⟨q1,hq1e⟩:∃k,q+1=k:=⟨_,rfl⟩
   obtain⟨r2,hr2e⟩:∃k,r0-d=k:=⟨_,rfl⟩
   have z1:IntKind.u64.wrap ((q:Int)+1)=(q1:Int):=wrap_is (by omega) (by omega)
   have z2:IntKind.u64.wrap ((r0:Int)-(d:Int))=(r2:Int):=wrap_is (by omega) (by omega)
   rw [hq1e] at G1
   rw [hr2e] at G2
   have hge:d≤r0:=by omega
   have hr2:r2<W64:=by omega
   clear hc hq1e hr2e hd hx0 qlt r1 P1 hr0 hrlt HDM hx1 hx1' P5 P6 hr2 hq1
   go_wp2_with fail
   go_ret2
   rw [show qW x1 x0 d=q1 from G1.out,show rW x1 x0 d=r2 from G2.out]
   exact⟨rfl,Keep.refl _ _⟩
 ·obtain⟨h1,hs,g1,g2⟩:=f3 hk
  have T1:((k1:Int) != 0)=true:=by rw [h1];rfl
  have hr0:=hrlt
  have hrW:W64≤r:=by
   have:=HDM.out
   rw [h1] at this;omega
  have z2:IntKind.u64.wrap ((r0:Int)-(d:Int))=((r-d:Nat):Int):=by
   rw [IntKind.wrap_u64]
   have:=HDM.out
   rw [h1] at this
   have hW:W64=18446744073709551616:=rfl
   omega
  have hq1:q+1<W64:=by
   have h3:q*d+d≤x1*W64+x0:=by omega
   have h1:x1*W64+W64≤d*W64:=by rw [← Nat.succ_mul];exact Nat.mul_le_mul_right _ hx1
   refine Classical.byContradiction fun hh=>?_
   have h4:=Nat.mul_le_mul_right d (show W64≤q+1 by omega)
   rw [Nat.succ_mul] at h4
   have h2:=Nat.mul_comm d W64
   omega
  by_cases hc:r-d<d
  ·obtain⟨F1,F2⟩:=g1 hc
   have G1:Hid ((x1*W64+x0) / d=q+1):=F1
   have G2:Hid ((x1*W64+x0)%d=r-d):=F2
   clear f1 f2 f3 F1 F2 hk h1 hs g1 g2 hrW p2 p3
   generalize r-d=r2 at *
   obtain⟨q1,hq1e⟩:∃k,q+1=k:=⟨_,rfl⟩
   have z1:IntKind.u64.wrap ((q:Int)+1)=(q1:Int):=wrap_is (by omega) (by omega)
   rw [hq1e] at G1
   have hr2:r2<W64:=by omega
   clear hq1e hd hx0 qlt r1 P1 hr0 hrlt HDM hx1 hx1' P5 P6 hr2 hq1
   go_wp2_with fail
   go_ret2
   rw [show qW x1 x0 d=q1 from G1.out,show rW x1 x0 d=r2 from G2.out]
   exact⟨rfl,Keep.refl _ _⟩
  ·obtain⟨F1,F2⟩:=g2 (by omega)
   have G1:Hid ((x1*W64+x0) / d=q+2):=F1
   have G2:Hid ((x1*W64+x0)%d=r-d-d):=F2
   have hr2:r-d<W64:=by omega
   clear f1 f2 f3 F1 F2 hk h1 hs g1 g2 hrW p2 p3
   generalize r-d=r2 at *
   have hq2:q+2<W64:=by
    have:=G1.out
    rw [← this,Nat.div_lt_iff_lt_mul (by omega)]
    have h1:x1*W64+W64≤d*W64:=by rw [← Nat.succ_mul];exact Nat.mul_le_mul_right _ hx1
    have h2:=Nat.mul_comm d W64
    omega
   obtain⟨q1,hq1e⟩:∃k,q+1=k:=⟨_,rfl⟩
   obtain⟨q3,hq2e⟩:∃k,q+2=k:=⟨_,rfl⟩
   obtain⟨r4,hr4e⟩:∃k,r2-d=k:=⟨_,rfl⟩
   have z1:IntKind.u64.wrap ((q:Int)+1)=(q1:Int):=wrap_is (by omega) (by omega)
   have z3:IntKind.u64.wrap ((q1:Int)+1)=(q3:Int):=wrap_is (by omega) (by omega)
   have z4:IntKind.u64.wrap ((r2:Int)-(d:Int))=(r4:Int):=wrap_is (by omega) (by omega)
   rw [hq2e] at G1
   rw [hr4e] at G2
   have hge:d≤r2:=by omega
   have hr4:r4<W64:=by omega
   clear hc hq1e hq2e hr4e hd hx0 qlt r1 P1 hr0 hrlt HDM hx1 hx1' P5 P6 hr2 hq1 hr4 hq2
   go_wp2_with fail
   go_ret2
   rw [show qW x1 x0 d=q3 from G1.out,show rW x1 x0 d=r4 from G2.out]
   exact⟨rfl,Keep.refl _ _⟩
theorem divWW_low (y1 y0 y:Nat) (hy0:0<y) (hy:y<9223372036854775808) (hx1y:y1<y) (hx0y:y0<W64) (w:World) :
  Calls Tryz.prog 169 #[.int .u64 (y1:Int),.int .u64 (y0:Int),.int .u64 (y:Int),.int .u64 (recN (y*2^nlzN y):Nat)] w fun e w'=>
   e = .returned (.tuple #[.int .u64 (qW y1 y0 y:Nat),.int .u64 (rW y1 y0 y:Nat)])∧Keep Nope w w':=by
 have hyW:y<W64:=by unfold W64;omega
 obtain⟨hn1,hn2,hn3⟩:=nlz_spec hy0 hyW
 have hyd:shlN y (nlzN y)=y*2^nlzN y:=Nat.mod_eq_of_lt hn3
 generalize hs:nlzN y=s at *
 have hs0:0<s:=by
  refine Nat.pos_of_ne_zero fun e=>?_
  rw [e] at hn2
  omega
 obtain⟨t,hst⟩:∃t,s+t=64:=⟨64-s,by omega⟩
 have c1:((s:Int) != 0)=true:=by rw [bne_iff_ne];omega
 have c2:(64-(s:Int))=(t:Int):=by omega
 have c3:IntKind.u64.wrap (64-(s:Int))=(t:Int):=wrap_is c2 (by unfold W64;omega)
 have c4:=shr_form t (by omega)
 have c4':=shr_form' t
 have c5:=shl_form s hn1
 have c5':=shl_form' s
 have c6:=bits_or_shl hst y1 hx0y
 have c7:=shr_form s hn1
 have c7':=shr_form' s
 have hd:y*2^s<W64:=hn3
 have hd1:9223372036854775808≤y*2^s:=hn2
 have hx1s:y1*2^s<y*2^s:=Nat.mul_lt_mul_of_pos_right hx1y (Nat.pow_pos (by decide))
 have hy1:shlN y1 s=y1*2^s:=Nat.mod_eq_of_lt (by omega)
 have hss:=shl_shr hst y0
 have hNN:orN y1 s y0 t*W64+shlN y0 s=(y1*W64+y0)*2^s:=by
  unfold orN;rw [hy1];grind
 have hx1:orN y1 s y0 t<y*2^s:=by
  refine Classical.byContradiction fun h=>?_
  have h1:=Nat.mul_le_mul_right W64 (Nat.le_of_not_lt h)
  have h2:(y1*W64+y0)*2^s<(y1*W64+W64)*2^s:=Nat.mul_lt_mul_of_pos_right (by omega) (Nat.pow_pos (by decide))
  have h3:(y1*W64+W64)*2^s≤y*2^s*W64:=by
   have:y1*W64+W64≤y*W64:=by rw [← Nat.succ_mul];exact Nat.mul_le_mul_right _ hx1y
   have:=Nat.mul_le_mul_right (2^s) this
   have e:y*W64*2^s=y*2^s*W64:=by grind
   omega
  omega
 have hx0:=shlN_lt y0 s
 have hq:qW y1 y0 y=(orN y1 s y0 t*W64+shlN y0 s) / (y*2^s):=by
  unfold qW;rw [hNN,Nat.mul_div_mul_right _ _ (Nat.pow_pos (by decide))]
 have hr:rW y1 y0 y=shrN ((orN y1 s y0 t*W64+shlN y0 s)%(y*2^s)) s:=by
  unfold rW shrN;rw [hNN,Nat.mul_mod_mul_right,Nat.mul_div_cancel _ (Nat.pow_pos (by decide))]
 generalize hx1e:orN y1 s y0 t=x1 at *
 generalize hx0e:shlN y0 s=x0 at *
 generalize hde:y*2^s=d at *
 have HQ:Hid (qW y1 y0 y=(x1*W64+x0) / d):=hq
 have HR:Hid (rW y1 y0 y=shrN ((x1*W64+x0)%d) s):=hr
 have HS:Hid (nlzN y=s):=hs
 clear hq hr hs hn2 hn3 hst hss hNN hx1s hde c2 hy hy1
 have r1:=(recN_spec hd1 hd).1
 obtain⟨q,r,p1,p2,p3,qlt,p5,p6⟩:=divWW_parts hd1 hd hx1 hx0
 obtain⟨f1,f2,f3⟩:=divWW_fix hd1 hd p2 p3
 have hrlt:r%W64<W64:=Nat.mod_lt _ W64_pos
 have hrdm:=Nat.div_add_mod r W64
 obtain⟨r0,hr0e⟩:∃k,r%W64=k:=⟨_,rfl⟩
 obtain⟨k1,hk1e⟩:∃k,r / W64=k:=⟨_,rfl⟩
 rw [hr0e] at p5 f1 f2 f3 hrlt hrdm
 rw [hk1e] at p6 f1 f2 f3 hrdm
 have HDM:Hid (W64*k1+r0=r):=hrdm
 clear hrdm hr0e hk1e
 have hx1':x1<W64:=by omega
 have cle:=addHi_le (mulLo_lt (recN d) x1 0) hx0 (show 0≤1 by omega)
 have ble:=subHi_le x0 (mulLo d q 0) 0
 have P1:Hid (addLo (mulHi (recN d) x1 0) x1 (addHi (mulLo (recN d) x1 0) x0 0)=q):=p1
 have P5:Hid (subLo x0 (mulLo d q 0) 0=r0):=p5
 have P6:Hid (subLo x1 (mulHi d q 0) (subHi x0 (mulLo d q 0) 0)=k1):=p6
 have hd0:0<d:=by omega
 clear p1 p5 p6 hd1
 go_enter Tryz.func169,Tryz.ntmps169
 go_wp2_with fail
 refine(nlz_any y hyW _).mono ?_
 rintro e w1 ⟨rfl,rfl⟩
 rw [HS.out]
 go_wp2_with fail
 refine(Mul_any (recN d) x1 r1 hx1' _).mono ?_
 rintro e w1 ⟨rfl,rfl⟩
 go_wp2_with fail
 refine(Add_any (mulLo (recN d) x1 0) x0 0 (mulLo_lt _ _ _) hx0 (by omega) _).mono ?_
 rintro e w1 ⟨rfl,rfl⟩
 go_wp2_with fail
 refine(Add_any (mulHi (recN d) x1 0) x1 (addHi (mulLo (recN d) x1 0) x0 0) (mulHi_lt r1 hx1' W64_pos) hx1' cle _).mono ?_
 rintro e w1 ⟨rfl,rfl⟩
 rw [P1.out]
 go_wp2_with fail
 refine(Mul_any d q hd qlt _).mono ?_
 rintro e w1 ⟨rfl,rfl⟩
 go_wp2_with fail
 refine(Sub_any x0 (mulLo d q 0) 0 (by omega) _).mono ?_
 rintro e w1 ⟨rfl,rfl⟩
 rw [P5.out]
 go_wp2_with fail
 refine(Sub_any x1 (mulHi d q 0) (subHi x0 (mulLo d q 0) 0) ble _).mono ?_
 rintro e w1 ⟨rfl,rfl⟩
 rw [P6.out]
 clear cle ble
 by_cases hk:k1=0
 ·have T1:((k1:Int) != 0)=false:=by rw [hk];rfl
  by_cases hc:r0<d
  ·obtain⟨F1,F2⟩:=f1 ⟨hk,hc⟩
   have G1:Hid ((x1*W64+x0) / d=q):=F1
   have G2:Hid ((x1*W64+x0)%d=r0):=F2
   have hr0:=hrlt
   clear f1 f2 f3 F1 F2 hk p2 p3
   clear hd hx0 qlt r1 P1 hr0 hrlt HDM hx1 hx1' P5 P6
   go_wp2_with fail
   go_ret2
   rw [HQ.out,HR.out,G1.out,G2.out]
   exact⟨rfl,Keep.refl _ _⟩
  ·obtain⟨F1,F2⟩:=f2 ⟨hk,by omega⟩
   have G1:Hid ((x1*W64+x0) / d=q+1):=F1
   have G2:Hid ((x1*W64+x0)%d=r0-d):=F2
   have hr0:=hrlt
   clear f1 f2 f3 F1 F2 hk p2 p3
   have hq1:q+1<W64:=by
    have:=G1.out
    rw [← this,Nat.div_lt_iff_lt_mul (by omega)]
    have h1:x1*W64+W64≤d*W64:=by rw [← Nat.succ_mul];exact Nat.mul_le_mul_right _ hx1
    have h2:=Nat.mul_comm d W64
    omega
   obtain⟨q1,hq1e⟩:∃k,q+1=k:=⟨_,rfl⟩
   obtain⟨r2,hr2e⟩:∃k,r0-d=k:=⟨_,rfl⟩
   have z1:IntKind.u64.wrap ((q:Int)+1)=(q1:Int):=wrap_is (by omega) (by omega)
   have z2:IntKind.u64.wrap ((r0:Int)-(d:Int))=(r2:Int):=wrap_is (by omega) (by omega)
   rw [hq1e] at G1
   rw [hr2e] at G2
   have hge:d≤r0:=by omega
   have hr2:r2<W64:=by omega
   clear hc hq1e hr2e hd hx0 qlt r1 P1 hr0 hrlt HDM hx1 hx1' P5 P6 hr2 hq1
   go_wp2_with fail
   go_ret2
   rw [HQ.out,HR.out,G1.out,G2.out]
   exact⟨rfl,Keep.refl _ _⟩
 ·obtain⟨h1,hs,g1,g2⟩:=f3 hk
  have T1:((k1:Int) != 0)=true:=by rw [h1];rfl
  have hr0:=hrlt
  have hrW:W64≤r:=by
   have:=HDM.out
   rw [h1] at this;omega
  have z2:IntKind.u64.wrap ((r0:Int)-(d:Int))=((r-d:Nat):Int):=by
   rw [IntKind.wrap_u64]
   have:=HDM.out
   rw [h1] at this
   have hW:W64=18446744073709551616:=rfl
   omega
  have hq1:q+1<W64:=by
   have h3:q*d+d≤x1*W64+x0:=by omega
   have h1:x1*W64+W64≤d*W64:=by rw [← Nat.succ_mul];exact Nat.mul_le_mul_right _ hx1
   refine Classical.byContradiction fun hh=>?_
   have h4:=Nat.mul_le_mul_right d (show W64≤q+1 by omega)
   rw [Nat.succ_mul] at h4
   have h2:=Nat.mul_comm d W64
   omega
  by_cases hc:r-d<d
  ·obtain⟨F1,F2⟩:=g1 hc
   have G1:Hid ((x1*W64+x0) / d=q+1):=F1
   have G2:Hid ((x1*W64+x0)%d=r-d):=F2
   clear f1 f2 f3 F1 F2 hk h1 hs g1 g2 hrW p2 p3
   generalize r-d=r2 at *
   obtain⟨q1,hq1e⟩:∃k,q+1=k:=⟨_,rfl⟩
   have z1:IntKind.u64.wrap ((q:Int)+1)=(q1:Int):=wrap_is (by omega) (by omega)
   rw [hq1e] at G1
   have hr2:r2<W64:=by omega
   clear hq1e hd hx0 qlt r1 P1 hr0 hrlt HDM hx1 hx1' P5 P6 hr2 hq1
   go_wp2_with fail
   go_ret2
   rw [HQ.out,HR.out,G1.out,G2.out]
   exact⟨rfl,Keep.refl _ _⟩
  ·obtain⟨F1,F2⟩:=g2 (by omega)
   have G1:Hid ((x1*W64+x0) / d=q+2):=F1
   have G2:Hid ((x1*W64+x0)%d=r-d-d):=F2
   have hr2:r-d<W64:=by omega
   clear f1 f2 f3 F1 F2 hk h1 hs g1 g2 hrW p2 p3
   generalize r-d=r2 at *
   have hq2:q+2<W64:=by
    have:=G1.out
    rw [← this,Nat.div_lt_iff_lt_mul (by omega)]
    have h1:x1*W64+W64≤d*W64:=by rw [← Nat.succ_mul];exact Nat.mul_le_mul_right _ hx1
    have h2:=Nat.mul_comm d W64
    omega
   obtain⟨q1,hq1e⟩:∃k,q+1=k:=⟨_,rfl⟩
   obtain⟨q3,hq2e⟩:∃k,q+2=k:=⟨_,rfl⟩
   obtain⟨r4,hr4e⟩:∃k,r2-d=k:=⟨_,rfl⟩
   have z1:IntKind.u64.wrap ((q:Int)+1)=(q1:Int):=wrap_is (by omega) (by omega)
   have z3:IntKind.u64.wrap ((q1:Int)+1)=(q3:Int):=wrap_is (by omega) (by omega)
   have z4:IntKind.u64.wrap ((r2:Int)-(d:Int))=(r4:Int):=wrap_is (by omega) (by omega)
   rw [hq2e] at G1
   rw [hr4e] at G2
   have hge:d≤r2:=by omega
   have hr4:r4<W64:=by omega
   clear hc hq1e hq2e hr4e hd hx0 qlt r1 P1 hr0 hrlt HDM hx1 hx1' P5 P6 hr2 hq1 hr4 hq2
   go_wp2_with fail
   go_ret2
   rw [HQ.out,HR.out,G1.out,G2.out]
   exact⟨rfl,Keep.refl _ _⟩
end Go.Proofs.YtofkehhflkdabaaGreatDoor
