/- A part of the proof of FnCurveOf. -/
import Derived.Test.YtofkehhflkdabaaGreatDoorP25
set_option maxRecDepth 100000
set_option maxHeartbeats 8000000
namespace Go.Proofs.YtofkehhflkdabaaGreatDoor
theorem sg_or (e:Bool):sg e=1∨sg e = -1:=by cases e<;>simp [sg]
theorem told_step {P z:Int} {A B u0 u1 v0 v1:Nat} {Ua Ub:Int} {even:Bool} (h:LInv P z A B Ua Ub) (ht:Told A B u0 u1 v0 v1 even) (hv0:0<v0) :
  ∃A' B':Nat,(A':Int)=sg even*(u0*A-v0*B)∧(B':Int)=sg even*(v1*B-u1*A)∧LInv P z A' B' (sg even*(u0*Ua-v0*Ub)) (sg even*(v1*Ub-u1*Ua))∧A'+B'≤A∧0<B':=by
 obtain⟨h1,h2,h3,h4,h5⟩:=ht
 obtain⟨A',hA⟩:∃x:Int,sg even*(u0*A-v0*B)=x:=⟨_,rfl⟩
 obtain⟨B',hB⟩:∃x:Int,sg even*(v1*B-u1*A)=x:=⟨_,rfl⟩
 rw [hA,hB] at h2 h3 h4
 rw [hB] at h1
 have hs:=h.step (A':=A') (B':=B') (u0:=u0) (u1:=u1) (v0:=v0) (v1:=v1) (g:=sg even) (by omega) (by omega) (by omega) (by omega) (sg_or even) h3 h4 hA.symm hB.symm h2 (by omega)
 obtain⟨a,rfl⟩:∃a:Nat,A'=a:=⟨A'.toNat,by omega⟩
 obtain⟨b,rfl⟩:∃b:Nat,B'=b:=⟨B'.toNat,by omega⟩
 refine⟨a,b,hA.symm,hB.symm,hs,?_,by omega⟩
 have m1:(1:Int)*a≤v1*a:=Int.mul_le_mul_of_nonneg_right (by omega) (by omega)
 have m2:(1:Int)*b≤v0*b:=Int.mul_le_mul_of_nonneg_right (by omega) (by omega)
 omega
theorem euclid_step {P z:Int} {A B:Nat} {Ua Ub:Int} (h:LInv P z A B Ua Ub) (hB:0<B) :
  LInv P z (B:Nat) ((A%B:Nat):Int) Ub (Ua-(A:Int) / (B:Int)*Ub)∧A%B<B∧B≤A:=by
 have:=h.euclid (by omega)
 exact⟨this,Nat.mod_lt _ hB,by have:=h.le;omega⟩
theorem sz_lin {a b:Int} {s u v:Nat} {even:Bool} (ha:Sz s a) (hb:Sz s b) (hu:u<W64) (hv:v<W64):Sz (s+66) (sg even*(u*a-v*b)):=⟨by
 have e:(sg even*(u*a-v*b)).natAbs=(u*a-v*b).natAbs:=by
  rw [Int.natAbs_mul];cases even<;>simp [sg]
 rw [e]
 have h1:(u*a:Int).natAbs<2^64*2^s:=by
  rw [Int.natAbs_mul,Int.natAbs_natCast]
  exact Nat.mul_lt_mul_of_lt_of_lt (by rw [← W64_eq];exact hu) ha.lt
 have h2:(v*b:Int).natAbs<2^64*2^s:=by
  rw [Int.natAbs_mul,Int.natAbs_natCast]
  exact Nat.mul_lt_mul_of_lt_of_lt (by rw [← W64_eq];exact hv) hb.lt
 rw [Nat.pow_add,show (2:Nat)^66=4*2^64 from rfl]
 have:2^s*(4*2^64)=4*(2^64*2^s):=by grind
 omega⟩
theorem sz_euc {a b q:Int} {s:Nat} (ha:Sz s a) (hb:Sz s b) (hq:Sz s q):Sz (s+s+1) (a-q*b):=by
 have:=ha.sub (hq.mul hb)
 exact this.mono (by omega)
def WRel (P z:Int) (A B:Nat) (Ua Ub:Int) (aw bw ua ub va vb:Nat) (even:Bool):Prop:=
 LInv P z aw bw (sg even*(ua*Ua-va*Ub)) (sg even*(vb*Ub-ub*Ua))∧A=vb*aw+va*bw∧B=ub*aw+ua*bw∧aw<W64∧bw<W64∧ua<W64∧ub<W64∧va<W64∧vb<W64∧(sg even*(ua*Ua-va*Ub)).natAbs≤P.natAbs
theorem WRel.start {P z:Int} {A B:Nat} {Ua Ub:Int} (h:LInv P z A B Ua Ub) (hA:A<W64) (hB:B<W64) (hU:Ua.natAbs≤P.natAbs):WRel P z A B Ua Ub A B 1 0 0 1 true:=by
 have h1:(1:Nat)<W64:=by rw [W64];omega
 have e1:sg true*(((1:Nat):Int)*Ua-((0:Nat):Int)*Ub)=Ua:=by simp [sg]
 have e2:sg true*(((1:Nat):Int)*Ub-((0:Nat):Int)*Ua)=Ub:=by simp [sg]
 exact⟨by rw [e1,e2];exact h,by omega,by omega,hA,hB,h1,W64_pos,W64_pos,h1,by rw [e1];exact hU⟩
theorem WRel.next {P z:Int} {A B:Nat} {Ua Ub:Int} {aw bw ua ub va vb:Nat} {even:Bool} (h:WRel P z A B Ua Ub aw bw ua ub va vb even) (hA:A<W64) (hB:B<W64) (hb:0<bw) :
  WRel P z A B Ua Ub bw (aw%bw) ub (ua+aw / bw*ub) vb (va+aw / bw*vb) (!even):=by
 obtain⟨h1,h2,h3,h4,h5,h6,h7,h8,h9,h10⟩:=h
 have hbd:=h1.bound (by omega)
 have he:=(euclid_step h1 hb).1
 have hm:=Nat.mod_lt aw hb
 have hd:=Nat.div_add_mod aw bw
 generalize hq:aw / bw=q at *
 generalize hr:aw%bw=r at *
 have e0:((aw:Int) / (bw:Int))=(q:Int):=by rw [← hq];rfl
 rw [e0] at he
 have e1:sg (!even)*((ub:Int)*Ua-vb*Ub)=sg even*(vb*Ub-ub*Ua):=by cases even<;>simp only [sg,Bool.not_true,Bool.not_false,if_true,if_false,Bool.false_eq_true]<;>omega
 have e2:sg (!even)*(((va+q*vb:Nat):Int)*Ub-((ua+q*ub:Nat):Int)*Ua)=sg even*(ua*Ua-va*Ub)-q*(sg even*(vb*Ub-ub*Ua)):=by
  push_cast
  cases even<;>simp only [sg,Bool.not_true,Bool.not_false,if_true,if_false,Bool.false_eq_true]<;>grind
 have a1:A=(va+q*vb)*bw+vb*r:=by
  rw [h2,← hd];grind
 have a2:B=(ua+q*ub)*bw+ub*r:=by
  rw [h3,← hd];grind
 have b1:va+q*vb≤(va+q*vb)*bw:=Nat.le_mul_of_pos_right _ hb
 have b2:ua+q*ub≤(ua+q*ub)*bw:=Nat.le_mul_of_pos_right _ hb
 exact⟨by rw [e1,e2];exact he,a1,a2,h5,by omega,h7,by omega,h9,by omega,by rw [e1];exact hbd.2⟩
theorem WRel.finish {P z:Int} {A B:Nat} {Ua Ub:Int} {aw ua ub va vb:Nat} {even:Bool} (h:WRel P z A B Ua Ub aw 0 ua ub va vb even) :
  aw=1∧∃t,(sg even*(ua*Ua-va*Ub))*z=1+t*P:=by
 have:=h.1.finish
 exact⟨by have:=this.1;omega,this.2⟩
end Go.Proofs.YtofkehhflkdabaaGreatDoor
