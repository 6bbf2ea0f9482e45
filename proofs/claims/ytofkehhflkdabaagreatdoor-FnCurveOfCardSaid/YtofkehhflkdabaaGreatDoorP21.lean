/- A part of the proof of FnCurveOf. -/
import Derived.Test.YtofkehhflkdabaaGreatDoorP14
import Derived.Test.YtofkehhflkdabaaGreatDoorP17
set_option maxRecDepth 100000
set_option maxHeartbeats 8000000
namespace Go.Proofs.YtofkehhflkdabaaGreatDoor
open Go Go.RowKit
theorem tdiv_sign (x y:Int):decide (x.tdiv y<0)=(decide (0<x.natAbs / y.natAbs)&&(decide (x<0) != decide (y<0))):=by
 obtain⟨X,hX⟩:∃X:Nat,x.natAbs=X:=⟨_,rfl⟩
 obtain⟨Y,hY⟩:∃Y:Nat,y.natAbs=Y:=⟨_,rfl⟩
 rw [hX,hY]
 by_cases hx:x<0<;>by_cases hy:y<0
 ·obtain rfl:x = -(X:Int):=by omega
  obtain rfl:y = -(Y:Int):=by omega
  rw [Int.neg_tdiv,Int.tdiv_neg,Int.neg_neg,← Int.ofNat_tdiv,decide_eq_true hx,decide_eq_true hy]
  generalize X / Y=Z
  have:¬(Z:Int)<0:=by omega
  rw [decide_eq_false this];simp
 ·obtain rfl:x = -(X:Int):=by omega
  obtain rfl:y=(Y:Int):=by omega
  rw [Int.neg_tdiv,← Int.ofNat_tdiv,decide_eq_true hx,decide_eq_false hy]
  generalize X / Y=Z
  rw [show (true != false)=true from rfl,Bool.and_true,decide_eq_decide];omega
 ·obtain rfl:x=(X:Int):=by omega
  obtain rfl:y = -(Y:Int):=by omega
  rw [Int.tdiv_neg,← Int.ofNat_tdiv,decide_eq_false hx,decide_eq_true hy]
  generalize X / Y=Z
  rw [show (false != true)=true from rfl,Bool.and_true,decide_eq_decide];omega
 ·obtain rfl:x=(X:Int):=by omega
  obtain rfl:y=(Y:Int):=by omega
  rw [← Int.ofNat_tdiv,decide_eq_false hx,decide_eq_false hy]
  generalize X / Y=Z
  have:¬(Z:Int)<0:=by omega
  rw [decide_eq_false this];simp
theorem tmod_sign (x y:Int):decide (x.tmod y<0)=(decide (0<x.natAbs%y.natAbs)&&decide (x<0)):=by
 obtain⟨X,hX⟩:∃X:Nat,x.natAbs=X:=⟨_,rfl⟩
 have e:(x.tmod y)=if x<0 then -((X%y.natAbs:Nat):Int) else ((X%y.natAbs:Nat):Int):=by
  obtain⟨Y,hY⟩:∃Y:Nat,y.natAbs=Y:=⟨_,rfl⟩
  rw [hY]
  have e2:∀x:Int,x.tmod y=x.tmod (Y:Int):=by
   intro x
   rcases(show y=(Y:Int)∨y = -(Y:Int) by omega) with h | h
   ·rw [h]
   ·rw [h,Int.tmod_neg]
  rw [e2]
  by_cases hx:x<0
  ·rw [if_pos hx]
   obtain rfl:x = -(X:Int):=by omega
   rw [Int.neg_tmod,← Int.ofNat_tmod]
  ·rw [if_neg hx]
   obtain rfl:x=(X:Int):=by omega
   rw [← Int.ofNat_tmod]
 rw [e,hX]
 by_cases hx:x<0
 ·simp only [hx,if_true,decide_true,Bool.and_true]
  rw [decide_eq_decide];omega
 ·simp only [hx,if_false,decide_false,Bool.and_false]
  rw [decide_eq_false_iff_not];omega
theorem quoRem_any (F:Nat→Prop) (w:World) (L:List (Nat×E)) (h:St F w L) (i j p q r s:Nat) (v0 u0:E) (x y:Int) (hi:L[i]?=some (p,v0)) (hj:L[j]?=some (s,u0)) (hij:i≠j) (_hpq:p≠q) (_hpr:p≠r) (_hsr:s≠r)
  (hq:(q,ofI x)∈L) (hr:(r,ofI y)∈L) (sx sy:Nat) [hs:Sz sx x] [ht:Sz sy y] (hs':sx≤4000) (ht':sy≤2496) (hy:y≠0) :
  Calls Tryz.prog 76 #[pt p,pt q,pt r,pt s] w fun e w'=>e = .returned (.tuple #[pt p,pt s])∧St F w' ((L.set i (p,ofI (x.tdiv y))).set j (s,ofI (x.tmod y)))∧Keep (fun b=>¬F b) w w':=by
 have hg6:=h.base.c6
 obtain⟨a,l,k,b,m,n,gp,gs,hown,hall,hput⟩:=h.put2 hi hj hij
 obtain⟨a',l',k',gq,nq1,nq2⟩:=hall q (ofI x) hq
 obtain⟨a2,l2,k2,gr,nr1,nr2⟩:=hall r (ofI y) hr
 have hps:p≠s:=fun e=>hown p (.inl rfl) (.inl e)
 have hl:l'≤63:=hs.len gq.nat (by omega)
 have hl2:l2≤39:=ht.len gr.nat (by omega)
 have p1:=gp.two.cell1
 have s1:=gs.two.cell1
 have q1:=gq.two.cell1
 have r1:=gr.two.cell1
 have hsig1:=tdiv_sign x y
 have hsig2:=tmod_sign x y
 have hna1:(x.tdiv y).natAbs=x.natAbs / y.natAbs:=Int.natAbs_tdiv x y
 have hna2:=Int.natAbs_tmod x y
 have hC:=div_nil w.drew a b a' a2 l k m n l' k' l2 k2 x.natAbs y.natAbs (gp.nat.buf.keep (Keep.refl Nope w).drew (fun _ _=>id)) (gs.nat.buf.keep (Keep.refl Nope w).drew (fun _ _=>id)) (gq.nat.keep (Keep.refl Nope w).drew (fun _ _=>id)) (gr.nat.keep (Keep.refl Nope w).drew (fun _ _=>id)) (by omega) (by omega) (by omega) (fun x h1 h2=>hown x (.inr h1) (.inr h2)) hg6
 have tp:=gp.two
 have ts:=gs.two
 have tq:Two w q (.bool (decide (x<0))) (.slice a' l' k'):=gq.two
 have tr:Two w r (.bool (decide (y<0))) (.slice a2 l2 k2):=gr.two
 have np1:¬At a p:=gp.noAt gp
 have np2:¬At b p:=gp.noAt gs
 have ns1:¬At a s:=gs.noAt gp
 have ns2:¬At b s:=gs.noAt gs
 generalize x.tdiv y=Q0 at *
 generalize x.tmod y=R0 at *
 have HS1:Hid _:=hsig1
 have HS2:Hid _:=hsig2
 have HN1:Hid _:=hna1
 have HN2:Hid _:=hna2
 obtain⟨gx,hgx⟩:∃g,decide (x<0)=g:=⟨_,rfl⟩
 obtain⟨gy,hgy⟩:∃g,decide (y<0)=g:=⟨_,rfl⟩
 simp only [hgx] at HS1 HS2 tq
 simp only [hgy] at HS1 tr
 have HC:Hid _:=hC
 clear hsig1 hsig2 hna1 hna2 hgx hgy hC gp gs gq gr hall hl hl2 hs ht hy
 go_enter Tryz.func76,Tryz.ntmps76
 go_wp2_with fail
 refine AnyL_start (fun w'=>w'.cell? ⟨p,1,none⟩=some (.slice a l k)∧w'.cell? ⟨s,1,none⟩=some (.slice b m n)∧w'.cell? ⟨q,1,none⟩=some (.slice a' l' k')∧w'.cell? ⟨r,1,none⟩=some (.slice a2 l2 k2)) [5,9,13,17] (by kernel_rfl) ?_
 have HS:(fun w':World=>w'.cell? ⟨p,1,none⟩=some (.slice a l k)∧w'.cell? ⟨s,1,none⟩=some (.slice b m n)∧w'.cell? ⟨q,1,none⟩=some (.slice a' l' k')∧w'.cell? ⟨r,1,none⟩=some (.slice a2 l2 k2)) w.drew:=⟨p1,s1,q1,r1⟩
 refine AP 0 ?_
 refine AP 1 ?_
 refine AP 2 ?_
 refine AP 3 ?_
 refine AP 4 ?_
 refine AL 5 HS ?_
 refine AP 6 ?_
 refine AP 7 ?_
 refine AP 8 ?_
 refine AL 9 HS ?_
 refine AP 10 ?_
 refine AP 11 ?_
 refine AP 12 ?_
 refine AL 13 HS ?_
 refine AP 14 ?_
 refine AP 15 ?_
 refine AP 16 ?_
 refine AL 17 HS ?_
 refine AnyL_one 18 rfl (by kernel_rfl) (fun K hK=>?_)
 go_simp
 refine Calls.mono (oo HC) ?_
 rintro e w1 ⟨aq,lq,kq,ar,lr,kr,rfl,hq1,hr1,ho1,ho2,hk1,hne1⟩
 have hk0:=hk1.undrew
 have tp1:=tp.keep hk0 (fun h=>h.elim np1 (fun h=>h.elim np2 id))
 have ts1:=ts.keep hk0 (fun h=>h.elim ns1 (fun h=>h.elim ns2 id))
 have tq1:=tq.keep hk0 (fun h=>h.elim nq1 (fun h=>h.elim nq2 id))
 have tr1:=tr.keep hk0 (fun h=>h.elim nr1 (fun h=>h.elim nr2 id))
 have c1:=tp1.cell1
 have c2:=ts1.cell1
 have c3:=tp1.cell0
 have c4:=ts1.cell0
 have c5:=tq1.cell0
 have c6:=tr1.cell0
 have f1:=tp1.frozen
 have f2:=ts1.frozen
 have hsp:s≠p:=fun e=>hps e.symm
 refine hK.out _ _ (.inl (by kernel_rfl)) ?_
 clear hK K
 try clear HS
 refine AP 19 ?_
 refine AP 20 ?_
 refine AP 21 ?_
 refine AP 22 ?_
 refine AP 23 ?_
 refine AnyL_one 24 rfl (by kernel_rfl) (fun K hK=>?_)
 go_simp
 refine hK.out _ _ (.inl (by kernel_rfl)) ?_
 clear hK K
 refine AP 25 ?_
 refine AP 26 ?_
 refine AnyL_one 27 rfl (by kernel_rfl) (fun K hK=>?_)
 go_simp
 refine hK.out _ _ (.inl (by kernel_rfl)) ?_
 clear hK K
 refine AnyL_done (by kernel_rfl) ?_
 have HQ0:Hid _:=isNat_zero hq1
 have HR0:Hid _:=isNat_zero hr1
 have nqp:¬At aq p:=fun e=>by
  obtain⟨n,c,hr⟩:=hq1.row p e
  exact tp1.noRow hr
 have nqs:¬At aq s:=fun e=>by
  obtain⟨n,c,hr⟩:=hq1.row s e
  exact ts1.noRow hr
 have nrp:¬At ar p:=fun e=>by
  obtain⟨n,c,hr⟩:=hr1.row p e
  exact tp1.noRow hr
 have nrs:¬At ar s:=fun e=>by
  obtain⟨n,c,hr⟩:=hr1.row s e
  exact ts1.noRow hr
 have T2p:=(tp1.set1 (.slice aq lq kq)).other (p:=⟨s,1,none⟩) hsp (.slice ar lr kr)
 have T2s:=(ts1.other (p:=⟨p,1,none⟩) hps (.slice aq lq kq)).set1 (.slice ar lr kr)
 have k12:Keep (fun x=>x=p∨x=s) w1 ((w1.setCell ⟨p,1,none⟩ (.slice aq lq kq)).setCell ⟨s,1,none⟩ (.slice ar lr kr)):=
  ((Keep.refl (fun x=>x=p∨x=s) w1).setCell (p:=⟨p,1,none⟩) (.inl rfl) _).setCell (p:=⟨s,1,none⟩) (.inr rfl) _
 have g3:((w1.setCell ⟨p,1,none⟩ (.slice aq lq kq)).setCell ⟨s,1,none⟩ (.slice ar lr kr)).cell? ⟨q,0,none⟩=some (.bool gx):=by
  rw [World.cell?_setCell_other _ _ _ _ (by simp),World.cell?_setCell_other _ _ _ _ (by simp)];exact c5
 have g4:((w1.setCell ⟨p,1,none⟩ (.slice aq lq kq)).setCell ⟨s,1,none⟩ (.slice ar lr kr)).cell? ⟨r,0,none⟩=some (.bool gy):=by
  rw [World.cell?_setCell_other _ _ _ _ (by simp),World.cell?_setCell_other _ _ _ _ (by simp)];exact c6
 clear c1 c2 c3 c4 c5 c6 f1 f2 tq1 tr1 tp ts tq tr p1 s1 q1 r1
 generalize hW2:((w1.setCell ⟨p,1,none⟩ (.slice aq lq kq)).setCell ⟨s,1,none⟩ (.slice ar lr kr))=W2 at *
 clear hW2
 have g1:=T2p.cell1
 have g2:=T2s.cell1
 have g5:=T2p.cell0
 have g6:=T2s.cell0
 have f1:=T2p.frozen
 have f2:=T2s.frozen
 have hfin:∀bp bs,bp=decide (Q0<0)→bs=decide (R0<0)→St F ((W2.drew.setCell ⟨p,0,none⟩ (.bool bp)).setCell ⟨s,0,none⟩ (.bool bs)) ((L.set i (p,ofI Q0)).set j (s,ofI R0))∧Keep (fun b=>¬F b) w ((W2.drew.setCell ⟨p,0,none⟩ (.bool bp)).setCell ⟨s,0,none⟩ (.bool bs)):=by
  rintro bp bs rfl rfl
  have T3p:=((T2p.keep (Keep.refl Nope W2).drew id).set0 (.bool (decide (Q0<0)))).other (p:=⟨s,0,none⟩) hsp (.bool (decide (R0<0)))
  have T3s:=((T2s.keep (Keep.refl Nope W2).drew id).other (p:=⟨p,0,none⟩) hps (.bool (decide (Q0<0)))).set0 (.bool (decide (R0<0)))
  have k3:Keep (fun x=>x=p∨x=s) w1 _:=((k12.drew.setCell (p:=⟨p,0,none⟩) (.inl rfl) (.bool (decide (Q0<0)))).setCell (p:=⟨s,0,none⟩) (.inr rfl) (.bool (decide (R0<0))))
  refine hput _ (ofI Q0) aq lq kq (ofI R0) ar lr kr ?_ T3p ?_ ?_ T3s ?_ ?_ hne1
  ·exact(hk0.mono fun x _ h=>by
    rcases h with h | h | h
    ·exact .inl (.inr h)
    ·exact .inr (.inr h)
    ·exact h.elim).trans (k3.mono fun x _ h=>h.elim (fun h=>.inl (.inl h)) (fun h=>.inr (.inl h)))
  ·show IsNat _ aq lq kq Q0.natAbs
   rw [oo HN1]
   exact hq1.keep k3 (fun x e h=>h.elim (fun h=>nqp (h▸e)) (fun h=>nqs (h▸e)))
  ·exact ho1
  ·show IsNat _ ar lr kr R0.natAbs
   rw [oo HN2]
   exact hr1.keep k3 (fun x e h=>h.elim (fun h=>nrp (h▸e)) (fun h=>nrs (h▸e)))
  ·exact ho2
 have HF:Hid _:=hfin
 clear hfin T2p T2s k12 hq1 hr1 ho1 ho2 hk1 hk0 tp1 ts1 hput hown
 obtain⟨gz,hgz⟩:∃g,g=(!(gx==gy)):=⟨_,rfl⟩
 rcases lq with _ | mq
 ·have zq:x.natAbs / y.natAbs=0:=(oo HQ0).1 rfl
  have ZQ:Hid _:=zq
  clear zq
  rcases lr with _ | mr
  ·have zr:x.natAbs%y.natAbs=0:=(oo HR0).1 rfl
   have ZR:Hid _:=zr
   clear zr
   go_wp2_with fail
   refine AnyL_start (fun w'=>w'.cell? ⟨p,1,none⟩=some (.slice aq 0 kq)∧w'.cell? ⟨s,1,none⟩=some (.slice ar 0 kr)∧w'.cell? ⟨q,0,none⟩=some (.bool gx)∧w'.cell? ⟨r,0,none⟩=some (.bool gy)) [5,22] (by kernel_rfl) ?_
   have HS:(fun w':World=>w'.cell? ⟨p,1,none⟩=some (.slice aq 0 kq)∧w'.cell? ⟨s,1,none⟩=some (.slice ar 0 kr)∧w'.cell? ⟨q,0,none⟩=some (.bool gx)∧w'.cell? ⟨r,0,none⟩=some (.bool gy)) W2.drew:=⟨g1,g2,g3,g4⟩
   refine AP 0 ?_
   refine AP 1 ?_
   refine AP 2 ?_
   refine AP 3 ?_
   refine AP 4 ?_
   refine AL 5 HS ?_
   refine AP 6 ?_
   refine AP 7 ?_
   refine AP 8 ?_
   refine AnyL_skip 9 rfl (by kernel_rfl) (by kernel_rfl) (by kernel_rfl) (fun _ _ _ h=>h) (by kernel_rfl) ?_
   try simp only [Act.put]
   refine AnyL_skip 10 rfl (by kernel_rfl) (by kernel_rfl) (by kernel_rfl) (fun _ _ _ h=>h) (by kernel_rfl) ?_
   try simp only [Act.put]
   refine AnyL_skip 11 rfl (by kernel_rfl) (by kernel_rfl) (by kernel_rfl) (fun _ _ _ h=>h) (by kernel_rfl) ?_
   try simp only [Act.put]
   refine AnyL_skip 12 rfl (by kernel_rfl) (by kernel_rfl) (by kernel_rfl) (fun _ _ _ h=>h) (by kernel_rfl) ?_
   try simp only [Act.put]
   refine AnyL_skip 13 rfl (by kernel_rfl) (by kernel_rfl) (by kernel_rfl) (fun _ _ _ h=>h) (by kernel_rfl) ?_
   try simp only [Act.put]
   refine AnyL_skip 14 rfl (by kernel_rfl) (by kernel_rfl) (by kernel_rfl) (fun _ _ _ h=>h) (by kernel_rfl) ?_
   try simp only [Act.put]
   refine AnyL_skip 15 rfl (by kernel_rfl) (by kernel_rfl) (by kernel_rfl) (fun _ _ _ h=>h) (by kernel_rfl) ?_
   try simp only [Act.put]
   refine AnyL_skip 16 rfl (by kernel_rfl) (by kernel_rfl) (by kernel_rfl) (fun _ _ _ h=>h) (by kernel_rfl) ?_
   try simp only [Act.put]
   refine AnyL_skip 17 rfl (by kernel_rfl) (by kernel_rfl) (by kernel_rfl) (fun _ _ _ h=>h) (by kernel_rfl) ?_
   try simp only [Act.put]
   refine AP 18 ?_
   refine AP 19 ?_
   refine AP 20 ?_
   refine AP 21 ?_
   refine AL 22 HS ?_
   refine AP 23 ?_
   refine AP 24 ?_
   refine AP 25 ?_
   refine AnyL_skip 26 rfl (by kernel_rfl) (by kernel_rfl) (by kernel_rfl) (fun _ _ _ h=>h) (by kernel_rfl) ?_
   try simp only [Act.put]
   refine AnyL_skip 27 rfl (by kernel_rfl) (by kernel_rfl) (by kernel_rfl) (fun _ _ _ h=>h) (by kernel_rfl) ?_
   try simp only [Act.put]
   refine AnyL_skip 28 rfl (by kernel_rfl) (by kernel_rfl) (by kernel_rfl) (fun _ _ _ h=>h) (by kernel_rfl) ?_
   try simp only [Act.put]
   refine AnyL_skip 29 rfl (by kernel_rfl) (by kernel_rfl) (by kernel_rfl) (fun _ _ _ h=>h) (by kernel_rfl) ?_
   try simp only [Act.put]
   refine AP 30 ?_
   refine AP 31 ?_
   refine AP 32 ?_
   refine AnyL_one 33 rfl (by kernel_rfl) (fun K hK=>?_)
   go_simp
   refine hK.out _ _ (.inl (by kernel_rfl)) ?_
   clear hK K
   refine AP 34 ?_
   refine AP 35 ?_
   refine AnyL_one 36 rfl (by kernel_rfl) (fun K hK=>?_)
   go_simp
   refine hK.out _ _ (.inl (by kernel_rfl)) ?_
   clear hK K
   refine AnyL_done (by kernel_rfl) ?_
   go_wp2_with fail
   go_ret2
   exact⟨rfl,oo HF (false) (false) (by rw [oo HS1,oo ZQ];cases gx<;>cases gy<;>rfl) (by rw [oo HS2,oo ZR];cases gx<;>rfl)⟩
  ·have zr:0<x.natAbs%y.natAbs:=Nat.pos_of_ne_zero fun e=>absurd ((oo HR0).2 e) (by omega)
   have ZR:Hid _:=zr
   clear zr
   have tr:(0:Int)<(mr:Int)+1:=by omega
   go_wp2_with fail
   refine AnyL_start (fun w'=>w'.cell? ⟨p,1,none⟩=some (.slice aq 0 kq)∧w'.cell? ⟨s,1,none⟩=some (.slice ar (mr+1) kr)∧w'.cell? ⟨q,0,none⟩=some (.bool gx)∧w'.cell? ⟨r,0,none⟩=some (.bool gy)) [5,22,29] (by kernel_rfl) ?_
   have HS:(fun w':World=>w'.cell? ⟨p,1,none⟩=some (.slice aq 0 kq)∧w'.cell? ⟨s,1,none⟩=some (.slice ar (mr+1) kr)∧w'.cell? ⟨q,0,none⟩=some (.bool gx)∧w'.cell? ⟨r,0,none⟩=some (.bool gy)) W2.drew:=⟨g1,g2,g3,g4⟩
   refine AP 0 ?_
   refine AP 1 ?_
   refine AP 2 ?_
   refine AP 3 ?_
   refine AP 4 ?_
   refine AL 5 HS ?_
   refine AP 6 ?_
   refine AP 7 ?_
   refine AP 8 ?_
   refine AnyL_skip 9 rfl (by kernel_rfl) (by kernel_rfl) (by kernel_rfl) (fun _ _ _ h=>h) (by kernel_rfl) ?_
   try simp only [Act.put]
   refine AnyL_skip 10 rfl (by kernel_rfl) (by kernel_rfl) (by kernel_rfl) (fun _ _ _ h=>h) (by kernel_rfl) ?_
   try simp only [Act.put]
   refine AnyL_skip 11 rfl (by kernel_rfl) (by kernel_rfl) (by kernel_rfl) (fun _ _ _ h=>h) (by kernel_rfl) ?_
   try simp only [Act.put]
   refine AnyL_skip 12 rfl (by kernel_rfl) (by kernel_rfl) (by kernel_rfl) (fun _ _ _ h=>h) (by kernel_rfl) ?_
   try simp only [Act.put]
   refine AnyL_skip 13 rfl (by kernel_rfl) (by kernel_rfl) (by kernel_rfl) (fun _ _ _ h=>h) (by kernel_rfl) ?_
   try simp only [Act.put]
   refine AnyL_skip 14 rfl (by kernel_rfl) (by kernel_rfl) (by kernel_rfl) (fun _ _ _ h=>h) (by kernel_rfl) ?_
   try simp only [Act.put]
   refine AnyL_skip 15 rfl (by kernel_rfl) (by kernel_rfl) (by kernel_rfl) (fun _ _ _ h=>h) (by kernel_rfl) ?_
   try simp only [Act.put]
   refine AnyL_skip 16 rfl (by kernel_rfl) (by kernel_rfl) (by kernel_rfl) (fun _ _ _ h=>h) (by kernel_rfl) ?_
   try simp only [Act.put]
   refine AnyL_skip 17 rfl (by kernel_rfl) (by kernel_rfl) (by kernel_rfl) (fun _ _ _ h=>h) (by kernel_rfl) ?_
   try simp only [Act.put]
   refine AP 18 ?_
   refine AP 19 ?_
   refine AP 20 ?_
   refine AP 21 ?_
   refine AL 22 HS ?_
   refine AP 23 ?_
   refine AP 24 ?_
   refine AP 25 ?_
   refine AP 26 ?_
   refine AP 27 ?_
   refine AP 28 ?_
   refine AL 29 HS ?_
   refine AP 30 ?_
   refine AP 31 ?_
   refine AP 32 ?_
   refine AnyL_one 33 rfl (by kernel_rfl) (fun K hK=>?_)
   go_simp
   refine hK.out _ _ (.inl (by kernel_rfl)) ?_
   clear hK K
   refine AP 34 ?_
   refine AP 35 ?_
   refine AnyL_one 36 rfl (by kernel_rfl) (fun K hK=>?_)
   go_simp
   refine hK.out _ _ (.inl (by kernel_rfl)) ?_
   clear hK K
   refine AnyL_done (by kernel_rfl) ?_
   go_wp2_with fail
   go_ret2
   exact⟨rfl,oo HF (false) (gx) (by rw [oo HS1,oo ZQ];cases gx<;>cases gy<;>rfl) (by rw [oo HS2,decide_eq_true (oo ZR)];cases gx<;>rfl)⟩
 ·have zq:0<x.natAbs / y.natAbs:=Nat.pos_of_ne_zero fun e=>absurd ((oo HQ0).2 e) (by omega)
  have ZQ:Hid _:=zq
  clear zq
  have tq:(0:Int)<(mq:Int)+1:=by omega
  rcases lr with _ | mr
  ·have zr:x.natAbs%y.natAbs=0:=(oo HR0).1 rfl
   have ZR:Hid _:=zr
   clear zr
   go_wp2_with fail
   refine AnyL_start (fun w'=>w'.cell? ⟨p,1,none⟩=some (.slice aq (mq+1) kq)∧w'.cell? ⟨s,1,none⟩=some (.slice ar 0 kr)∧w'.cell? ⟨q,0,none⟩=some (.bool gx)∧w'.cell? ⟨r,0,none⟩=some (.bool gy)) [5,12,16,22] (by kernel_rfl) ?_
   have HS:(fun w':World=>w'.cell? ⟨p,1,none⟩=some (.slice aq (mq+1) kq)∧w'.cell? ⟨s,1,none⟩=some (.slice ar 0 kr)∧w'.cell? ⟨q,0,none⟩=some (.bool gx)∧w'.cell? ⟨r,0,none⟩=some (.bool gy)) W2.drew:=⟨g1,g2,g3,g4⟩
   refine AP 0 ?_
   refine AP 1 ?_
   refine AP 2 ?_
   refine AP 3 ?_
   refine AP 4 ?_
   refine AL 5 HS ?_
   refine AP 6 ?_
   refine AP 7 ?_
   refine AP 8 ?_
   refine AP 9 ?_
   refine AP 10 ?_
   refine AP 11 ?_
   refine AL 12 HS ?_
   refine AP 13 ?_
   refine AP 14 ?_
   refine AP 15 ?_
   refine AL 16 HS ?_
   refine AP 17 ?_
   refine AP 18 ?_
   refine AP 19 ?_
   refine AP 20 ?_
   refine AP 21 ?_
   refine AL 22 HS ?_
   refine AP 23 ?_
   refine AP 24 ?_
   refine AP 25 ?_
   refine AnyL_skip 26 rfl (by kernel_rfl) (by kernel_rfl) (by kernel_rfl) (fun _ _ _ h=>h) (by kernel_rfl) ?_
   try simp only [Act.put]
   refine AnyL_skip 27 rfl (by kernel_rfl) (by kernel_rfl) (by kernel_rfl) (fun _ _ _ h=>h) (by kernel_rfl) ?_
   try simp only [Act.put]
   refine AnyL_skip 28 rfl (by kernel_rfl) (by kernel_rfl) (by kernel_rfl) (fun _ _ _ h=>h) (by kernel_rfl) ?_
   try simp only [Act.put]
   refine AnyL_skip 29 rfl (by kernel_rfl) (by kernel_rfl) (by kernel_rfl) (fun _ _ _ h=>h) (by kernel_rfl) ?_
   try simp only [Act.put]
   refine AP 30 ?_
   refine AP 31 ?_
   refine AP 32 ?_
   refine AnyL_one 33 rfl (by kernel_rfl) (fun K hK=>?_)
   go_simp
   refine hK.out _ _ (.inl (by kernel_rfl)) ?_
   clear hK K
   refine AP 34 ?_
   refine AP 35 ?_
   refine AnyL_one 36 rfl (by kernel_rfl) (fun K hK=>?_)
   go_simp
   refine hK.out _ _ (.inl (by kernel_rfl)) ?_
   clear hK K
   refine AnyL_done (by kernel_rfl) ?_
   go_wp2_with fail
   go_ret2
   exact⟨rfl,oo HF (!(gx==gy)) (false) (by rw [oo HS1,decide_eq_true (oo ZQ)];cases gx<;>cases gy<;>rfl) (by rw [oo HS2,oo ZR];cases gx<;>rfl)⟩
  ·have zr:0<x.natAbs%y.natAbs:=Nat.pos_of_ne_zero fun e=>absurd ((oo HR0).2 e) (by omega)
   have ZR:Hid _:=zr
   clear zr
   have tr:(0:Int)<(mr:Int)+1:=by omega
   go_wp2_with fail
   refine AnyL_start (fun w'=>w'.cell? ⟨p,1,none⟩=some (.slice aq (mq+1) kq)∧w'.cell? ⟨s,1,none⟩=some (.slice ar (mr+1) kr)∧w'.cell? ⟨q,0,none⟩=some (.bool gx)∧w'.cell? ⟨r,0,none⟩=some (.bool gy)) [5,12,16,22,29] (by kernel_rfl) ?_
   have HS:(fun w':World=>w'.cell? ⟨p,1,none⟩=some (.slice aq (mq+1) kq)∧w'.cell? ⟨s,1,none⟩=some (.slice ar (mr+1) kr)∧w'.cell? ⟨q,0,none⟩=some (.bool gx)∧w'.cell? ⟨r,0,none⟩=some (.bool gy)) W2.drew:=⟨g1,g2,g3,g4⟩
   refine AP 0 ?_
   refine AP 1 ?_
   refine AP 2 ?_
   refine AP 3 ?_
   refine AP 4 ?_
   refine AL 5 HS ?_
   refine AP 6 ?_
   refine AP 7 ?_
   refine AP 8 ?_
   refine AP 9 ?_
   refine AP 10 ?_
   refine AP 11 ?_
   refine AL 12 HS ?_
   refine AP 13 ?_
   refine AP 14 ?_
   refine AP 15 ?_
   refine AL 16 HS ?_
   refine AP 17 ?_
   refine AP 18 ?_
   refine AP 19 ?_
   refine AP 20 ?_
   refine AP 21 ?_
   refine AL 22 HS ?_
   refine AP 23 ?_
   refine AP 24 ?_
   refine AP 25 ?_
   refine AP 26 ?_
   refine AP 27 ?_
   refine AP 28 ?_
   refine AL 29 HS ?_
   refine AP 30 ?_
   refine AP 31 ?_
   refine AP 32 ?_
   refine AnyL_one 33 rfl (by kernel_rfl) (fun K hK=>?_)
   go_simp
   refine hK.out _ _ (.inl (by kernel_rfl)) ?_
   clear hK K
   refine AP 34 ?_
   refine AP 35 ?_
   refine AnyL_one 36 rfl (by kernel_rfl) (fun K hK=>?_)
   go_simp
   refine hK.out _ _ (.inl (by kernel_rfl)) ?_
   clear hK K
   refine AnyL_done (by kernel_rfl) ?_
   go_wp2_with fail
   go_ret2
   exact⟨rfl,oo HF (!(gx==gy)) (gx) (by rw [oo HS1,decide_eq_true (oo ZQ)];cases gx<;>cases gy<;>rfl) (by rw [oo HS2,decide_eq_true (oo ZR)];cases gx<;>rfl)⟩
end Go.Proofs.YtofkehhflkdabaaGreatDoor
