/- A part of the proof of FnCurveOf. -/
import Derived.Test.YtofkehhflkdabaaGreatDoorP42
set_option maxRecDepth 100000
set_option maxHeartbeats 8000000
namespace Go.Proofs.YtofkehhflkdabaaGreatDoor
open Go Go.RowKit
theorem link {p:Nat} [NeZero p] {a b g h:Fin p} {N E f:Nat} (G:Ec.Good p a b g h N) (_h0:0<E) (_hN:E<N) (hf:E<2^f) {x y:Fin p} (hl:Ec.lin a (some (g,h)) E=some (x,y)) :
  (Ec.jdad a ⟨g,h,1⟩ f E).z≠0∧(Ec.jdad a ⟨g,h,1⟩ f E).x*(Ec.inv (Ec.jdad a ⟨g,h,1⟩ f E).z*Ec.inv (Ec.jdad a ⟨g,h,1⟩ f E).z)=x ∧
   (Ec.jdad a ⟨g,h,1⟩ f E).y*(Ec.inv (Ec.jdad a ⟨g,h,1⟩ f E).z*Ec.inv (Ec.jdad a ⟨g,h,1⟩ f E).z*Ec.inv (Ec.jdad a ⟨g,h,1⟩ f E).z)=y:=by
 have hr:=Ec.rep_jdad G.hp G.two (a:=a) (Ec.rep_one (g,h) G.one) f E
 rw [Ec.dad_lin G.dbl f E hf,hl] at hr
 have hz:=Ec.rep_z hr (by simp)
 obtain⟨e1,e2⟩:=Ec.rep_affine G.hp hr (Ec.mul_inv G.hp hz)
 exact⟨hz,e1.symm,e2.symm⟩
theorem preN_byt {d:Nat→Nat}:∀(n N:Nat),(∀i,i<n→d i<256)→preN d n=N→∀j,j<n→d j=byt N (n-1-j)
 | 0,_,_,_,j,hj=>by omega
 | n+1,N,hd,hN,j,hj=>by
  have e:preN d n*256+d n=N:=hN
  have h1:=hd n (by omega)
  rcases Nat.lt_or_ge j n with h | h
  ·rw [preN_byt n (preN d n) (fun i hi=>hd i (by omega)) rfl j h]
   unfold byt
   rw [show n+1-1-j=(n-1-j)+1 from by omega,Nat.pow_succ,Nat.mul_comm (256^_),← Nat.div_div_eq_div_mul]
   rw [show N / 256=preN d n from by omega]
  ·obtain rfl:j=n:=by omega
   unfold byt
   rw [show j+1-1-j=0 from by omega,Nat.pow_zero,Nat.div_one]
   omega
theorem fi_val_lt {p x:Nat} [NeZero p] (hx:x<p):(Ec.fi p (x:Int)).val=x:=by
 have h:=Ec.fi_val (p:=p) (x:Int)
 rw [Int.emod_eq_of_lt (by omega) (by omega)] at h
 omega
theorem secret_bound {c:Nat→Nat} (h:∀i,i<16→c i<256):0<preN (upd c 15 (c 15 / 2*2+1)) 16∧preN (upd c 15 (c 15 / 2*2+1)) 16<340282366920938463463374607431768211456:=by
 have h1:∀i,i<16→upd c 15 (c 15 / 2*2+1) i<256:=fun i hi=>by
  unfold upd
  split
  ·have:=h 15 (by omega);omega
  ·exact h i hi
 have h2:=preN_lt (c:=upd c 15 (c 15 / 2*2+1)) 16 h1
 refine⟨?_,h2⟩
 show 0<preN _ 15*256+upd c 15 (c 15 / 2*2+1) 15
 simp only [upd,if_true]
 omega
theorem Rwb.dbo {w:World} {b n:Nat} {c:Nat→Nat} (h:Rwb w b n c) (hn:n<1000000):Dbo w (some ⟨b,0,none⟩) n n c:=
 ⟨⟨Nat.le_refl _,by omega⟩,fun i hi=>⟨b,0,rfl,by rw [Nat.zero_add];exact h.cell hi,h.lt i hi⟩⟩
theorem bytes_eq {cc d:Nat→Nat} {n x y:Nat} (h0:cc 0=4) (hx:∀j,j<n→cc (1+j)=byt x (n-1-j)) (hy:∀j,j<n→cc (1+n+j)=byt y (n-1-j)) (hd:∀i,i<1+n+n→d i<256) (d0:d 0=4)
  (dx:preN (fun i=>d (1+i)) n=x) (dy:preN (fun i=>d (1+n+i)) n=y):∀i,i<1+n+n→cc i=d i:=by
 intro i hi
 rcases(by omega:i=0∨(1≤i∧i<1+n)∨1+n≤i) with rfl | h | h
 ·rw [h0,d0]
 ·obtain⟨j,rfl⟩:∃j,i=1+j:=⟨i-1,by omega⟩
  rw [hx j (by omega)]
  exact(preN_byt n x (fun k hk=>hd (1+k) (by omega)) dx j (by omega)).symm
 ·obtain⟨j,rfl⟩:∃j,i=1+n+j:=⟨i-(1+n),by omega⟩
  rw [hy j (by omega)]
  exact(preN_byt n y (fun k hk=>hd (1+n+k) (by omega)) dy j (by omega)).symm
theorem pow16 (l:Nat):W16^l=2^(16*l):=by rw [Nat.pow_mul];rfl
end Go.Proofs.YtofkehhflkdabaaGreatDoor
