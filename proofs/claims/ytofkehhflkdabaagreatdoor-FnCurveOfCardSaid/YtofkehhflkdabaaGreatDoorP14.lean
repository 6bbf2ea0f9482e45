/- A part of the proof of FnCurveOf. -/
import Derived.Test.YtofkehhflkdabaaGreatDoorP13
set_option maxRecDepth 100000
set_option maxHeartbeats 8000000
namespace Go.Proofs.YtofkehhflkdabaaGreatDoor
open Go Go.RowKit
theorem Rwb.noI {w:World} {b n k:Nat} {c:Nat→Nat} {x:Int} (h:Rwb w b n c) (hn:0<n) (hg:w.cell? ⟨k,0,none⟩=some (.int .i64 x)):k≠b:=by
 rintro rfl
 have:=h.cell hn
 rw [hg] at this
 simp at this
theorem Base.past {F:Nat→Prop} {w w':World} {b n:Nat} {c:Nat→Nat} (h:Base F w) (hb:Rwb w b n c) (hn:0<n) (k:Keep (·=b) w w'):Base F w':=
 ⟨fun b hb=>Nat.lt_of_lt_of_le (h.lt b hb) k.size,h.three,h.four,h.five,h.six,k.cell h.c3 (hb.noI hn h.c3),k.cell h.c4 (hb.noI hn h.c4),k.cell h.c5 (hb.noI hn h.c5),k.cell h.c6 (hb.noI hn h.c6)⟩
theorem St.past {F:Nat→Prop} {w w':World} {L:List (Nat×E)} {b n:Nat} {c:Nat→Nat} (h:St F w L) (hb:Rwb w b n c) (hn:0<n) (k:Keep (·=b) w w') (hF:F b):St F w' L:=
 h.keepF (h.base.past hb hn k) (k.mono fun _ _ e=>e▸hF)
theorem fill_any (F:Nat→Prop) (w:World) (L:List (Nat×E)) (h:St F w L) (p:Nat) (x:Int) (hx:(p,ofI x)∈L) (bb ob n kb Nb:Nat) (c:Nat→Nat) (hb:Rwb w bb Nb c) (hFb:F bb) (hob:ob+n≤Nb) (hn0:0<n) (hn:n<1000) (hX:x.natAbs<256^n) (s:Nat) (hs:Sz s x) (hs':s≤2496) :
  Calls Tryz.prog 35 #[pt p,.slice (some ⟨bb,ob,none⟩) n kb] w fun e w'=>
   ∃c',e = .returned (.slice (some ⟨bb,ob,none⟩) n kb)∧St F w' L∧Rwb w' bb Nb c'∧Keep (·=bb) w w'∧(∀i,i<ob∨ob+n≤i→c' i=c i)∧(∀j,j<n→c' (ob+j)=byt x.natAbs (n-1-j)):=by
 obtain⟨w1,c1,hrun,hr1,hk1,hin1,hout1⟩:=run_clear_u8 23 0 Tryz.underlying23 (n:=n) (dK:=kb) hb hob
 have h1:St F w1 L:=h.past hb (by omega) hk1 hFb
 obtain⟨a,l,k,hg1,hg2,hg3⟩:=h1.getI hx
 have hll:l≤39:=hs.len hg2 (by omega)
 have d1:=hg1.cell1
 have hne:∀k,a=some ⟨k,0,none⟩→k≠bb:=fun k e e'=>hg3 k (.inr e) (e'▸hFb)
 have HX:Hid _:=hX
 clear hX
 go_enter Tryz.func35,Tryz.ntmps35
 go_wp2_with fail
 refine(bytes_any w1 a l k x.natAbs bb ob n kb Nb c1 hg2 (by omega) hr1 hob hn hin1 HX.out hne).mono ?_
 rintro e w2 ⟨r,c2,rfl,hr2,hk2,hout2,hin2⟩
 go_wp2_with fail
 go_ret
 exact⟨c2,rfl,h1.past hr1 (by omega) hk2 hFb,hr2,hk1.trans hk2,fun i hi=>by rw [hout2 i hi,hout1 i hi],hin2⟩
theorem St.put2 {F:Nat→Prop} {w:World} {L:List (Nat×E)} (h:St F w L) {i j p q:Nat} {v u:E} (hi:L[i]?=some (p,v)) (hj:L[j]?=some (q,u)) (hij:i≠j) :
  ∃a l k b m n,(ICell.mk p v a l k).Good F w∧(ICell.mk q u b m n).Good F w∧(∀x,(ICell.mk p v a l k).Owns x→¬(ICell.mk q u b m n).Owns x) ∧
   (∀r y,(r,y)∈L→∃a' l' k',(ICell.mk r y a' l' k').Good F w∧¬At a r∧¬At b r) ∧
   ∀w' v' a' l' k' u' b' m' n',Keep (fun x=>(x=p∨At a x)∨(x=q∨At b x)) w w' →
    Two w' p (.bool v'.1) (.slice a' l' k')→IsNat w' a' l' k' v'.2→Own w a a' →
    Two w' q (.bool u'.1) (.slice b' m' n')→IsNat w' b' m' n' u'.2→Own w b b'→(∀x,At a' x→¬At b' x) →
    St F w' ((L.set i (p,v')).set j (q,u'))∧Keep (fun b=>¬F b) w w':=by
 obtain⟨hb,C,rfl,hg,hd⟩:=h
 rw [List.getElem?_map] at hi hj
 obtain⟨c,hc,e⟩:=Option.map_eq_some_iff.1 hi
 simp only [Prod.mk.injEq] at e
 obtain⟨rfl,rfl⟩:=e
 obtain⟨d,hd',e⟩:=Option.map_eq_some_iff.1 hj
 simp only [Prod.mk.injEq] at e
 obtain⟨rfl,rfl⟩:=e
 have hcg:=hg c (List.mem_of_getElem? hc)
 have hdg:=hg d (List.mem_of_getElem? hd')
 refine⟨c.a,c.l,c.k,d.a,d.l,d.k,hcg,hdg,hd i j c d hc hd' hij,?_,?_⟩
 ·intro r y hr
  obtain⟨x,hx,e⟩:=List.mem_map.1 hr
  simp only [Prod.mk.injEq] at e
  obtain⟨rfl,rfl⟩:=e
  exact⟨x.a,x.l,x.k,hg x hx,(hg x hx).noAt hcg,(hg x hx).noAt hdg⟩
 ·intro w' v' a' l' k' u' b' m' n' hk ht hn ho ht2 hn2 ho2 hab
  have hk2:Keep (fun b=>¬F b) w w':=hk.mono fun b _ hS hF=>by
   rcases hS with(rfl | hS) | (rfl | hS)
   ·exact hcg.out _ (.inl rfl) hF
   ·exact hcg.out _ (.inr hS) hF
   ·exact hdg.out _ (.inl rfl) hF
   ·exact hdg.out _ (.inr hS) hF
  have hli:i<C.length:=(List.getElem?_eq_some_iff.1 hc).1
  have hlj:j<C.length:=(List.getElem?_eq_some_iff.1 hd').1
  have hget:∀(m:Nat) (x:ICell),((C.set i ⟨c.p,v',a',l',k'⟩).set j ⟨d.p,u',b',m',n'⟩)[m]?=some x→(m=j∧x=⟨d.p,u',b',m',n'⟩)∨(m=i∧m≠j∧x=⟨c.p,v',a',l',k'⟩)∨(m≠i∧m≠j∧C[m]?=some x):=by
   intro m x hx
   by_cases e:m=j
   ·subst e
    rw [List.getElem?_set_self (by rw [List.length_set];exact hlj)] at hx
    exact .inl ⟨rfl,(Option.some.inj hx).symm⟩
   ·rw [List.getElem?_set_ne (fun h=>e h.symm)] at hx
    by_cases e':m=i
    ·subst e'
     rw [List.getElem?_set_self hli] at hx
     exact .inr (.inl ⟨rfl,e,(Option.some.inj hx).symm⟩)
    ·rw [List.getElem?_set_ne (fun h=>e' h.symm)] at hx
     exact .inr (.inr ⟨e',e,hx⟩)
  have oc:∀x,(ICell.mk c.p v' a' l' k').Owns x→c.Owns x∨w.heap.size≤x:=by
   rintro x (rfl | hx)
   ·exact .inl (.inl rfl)
   ·rcases ho with ho | ⟨k,ho,hk'⟩
    ·exact .inl (.inr (ho▸hx))
    ·simp only [At,ho,Option.some.injEq,Addr.mk.injEq,and_true] at hx
     exact .inr (by omega)
  have od:∀x,(ICell.mk d.p u' b' m' n').Owns x→d.Owns x∨w.heap.size≤x:=by
   rintro x (rfl | hx)
   ·exact .inl (.inl rfl)
   ·rcases ho2 with ho | ⟨k,ho,hk'⟩
    ·exact .inl (.inr (ho▸hx))
    ·simp only [At,ho,Option.some.injEq,Addr.mk.injEq,and_true] at hx
     exact .inr (by omega)
  have cd:∀x,(ICell.mk c.p v' a' l' k').Owns x→¬(ICell.mk d.p u' b' m' n').Owns x:=by
   intro x h1 h2
   rcases oc x h1 with g1 | g1
   ·rcases od x h2 with g2 | g2
    ·exact hd i j c d hc hd' hij x g1 g2
    ·have:=hcg.has x g1;omega
   ·rcases od x h2 with g2 | g2
    ·have:=hdg.has x g2;omega
    ·rcases h1 with h1 | h1
     ·have:=hcg.has c.p (.inl rfl)
      simp only at h1
      omega
     ·rcases h2 with h2 | h2
      ·have:=hdg.has d.p (.inl rfl)
       simp only at h2
       omega
      ·exact hab x h1 h2
  refine⟨⟨hb.keep hk2,(C.set i ⟨c.p,v',a',l',k'⟩).set j ⟨d.p,u',b',m',n'⟩,?_,?_,?_⟩,hk2⟩
  ·rw [List.map_set,List.map_set]
  ·intro x hx
   obtain⟨m,hm⟩:=List.mem_iff_getElem?.1 hx
   rcases hget m x hm with⟨_,rfl⟩ | ⟨_,_,rfl⟩ | ⟨e1,e2,hx'⟩
   ·refine⟨ht2,hn2,fun y hy hF=>?_⟩
    rcases od y hy with g | g
    ·exact hdg.out y g hF
    ·have:=hb.lt y hF;omega
   ·refine⟨ht,hn,fun y hy hF=>?_⟩
    rcases oc y hy with g | g
    ·exact hcg.out y g hF
    ·have:=hb.lt y hF;omega
   ·refine(hg x (List.mem_of_getElem? hx')).keep hk fun y h1 h2=>?_
    rcases h2 with h2 | h2
    ·exact hd m i x c hx' hc e1 y h1 h2
    ·exact hd m j x d hx' hd' e2 y h1 h2
  ·intro m n x y hm hn' hmn z h1 h2
   rcases hget m x hm with⟨e,rfl⟩ | ⟨e,e',rfl⟩ | ⟨e1,e2,hx'⟩<;>rcases hget n y hn' with⟨f,rfl⟩ | ⟨f,f',rfl⟩ | ⟨f1,f2,hy'⟩
   ·omega
   ·exact cd z h2 h1
   ·rcases od z h1 with g | g
    ·exact hd j n d y hd' hy' (fun h=>f2 h.symm) z g h2
    ·have:=(hg y (List.mem_of_getElem? hy')).has z h2;omega
   ·exact cd z h1 h2
   ·omega
   ·rcases oc z h1 with g | g
    ·exact hd i n c y hc hy' (fun h=>f1 h.symm) z g h2
    ·have:=(hg y (List.mem_of_getElem? hy')).has z h2;omega
   ·rcases od z h2 with g | g
    ·exact hd m j x d hx' hd' e2 z h1 g
    ·have:=(hg x (List.mem_of_getElem? hx')).has z h1;omega
   ·rcases oc z h2 with g | g
    ·exact hd m i x c hx' hc e1 z h1 g
    ·have:=(hg x (List.mem_of_getElem? hx')).has z h1;omega
   ·exact hd m n x y hx' hy' hmn z h1 h2
theorem St.alloc {F:Nat→Prop} {w:World} {L:List (Nat×E)} (h:St F w L) (T:TypeId):St F (w.alloc (.cells #[.bool false,.slice none 0 0] T (0,0))) ((w.heap.size,ofI 0)::L):=
 h.new ((Keep.refl _ _).alloc _) (Nat.le_refl _) (fun b hb=>by simp [At] at hb) (Two.new w _ _ T) (.inl ⟨rfl,rfl,rfl,rfl⟩)
end Go.Proofs.YtofkehhflkdabaaGreatDoor
