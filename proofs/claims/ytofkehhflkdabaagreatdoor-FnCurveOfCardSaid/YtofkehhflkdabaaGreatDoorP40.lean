/- A part of the proof of FnCurveOf. -/
import Derived.Test.YtofkehhflkdabaaGreatDoorP31
import Derived.Test.YtofkehhflkdabaaGreatDoorP37
import Derived.Test.YtofkehhflkdabaaGreatDoorP38
set_option maxRecDepth 100000
set_option maxHeartbeats 8000000
namespace Go.Proofs.YtofkehhflkdabaaGreatDoor
open Go Go.RowKit
theorem Sz.below {s:Nat} {x:Int} {p:Nat} (h:Sz s (p:Int)) (hx:0≤x∧x<p):Sz s x:=⟨by have:=h.lt;omega⟩
def Ace (F:Nat→Prop) (L:List (Nat×E)) (p:Nat) [NeZero p] (a g h:Fin p) (w0:World) (n:Nat) (px py pz:Nat) (w:World):Prop:=
 ∃(M:List (Nat×E)) (X Y Z:Int),St F w (M++L)∧(px,ofI X)∈M++L∧(py,ofI Y)∈M++L∧(pz,ofI Z)∈M++L∧(0≤X∧X<p)∧(0≤Y∧Y<p)∧(0≤Z∧Z<p) ∧
  Rp (⟨Ec.fi p X,Ec.fi p Y,Ec.fi p Z⟩:Ec.Tri p) (Ec.lin a (some (g,h)) n)∧Keep (fun b=>¬F b) w0 w
theorem Ace.keep {F:Nat→Prop} {L:List (Nat×E)} {p:Nat} [NeZero p] {a g h:Fin p} {w0:World} {n px py pz:Nat} {w:World} (h:Ace F L p a g h w0 n px py pz w):Keep (fun b=>¬F b) w0 w:=by
 obtain⟨_,_,_,_,_,_,_,_,_,_,_,_,k⟩:=h;exact k
theorem ellBase_any (F:Nat→Prop) (w:World) (L:List (Nat×E)) (h:St F w L) (pc pP p1 p2 p3 p4 p5 p6:Nat) (x1 y1 x2 y2 z2:Int) (p:Nat) [NeZero p] (hp1:1<p) (hx1:(p1,ofI x1)∈L) (hy1:(p2,ofI y1)∈L) (hz1:(p3,ofI 1)∈L) (hx2:(p4,ofI x2)∈L) (hy2:(p5,ofI y2)∈L) (hz2:(p6,ofI z2)∈L) (hP:(pP,ofI (p:Int))∈L)
  (cP0:w.cell? ⟨pc,0,none⟩=some (pt pP)) (hFc:F pc) (sP:Sz 384 (p:Int)) (bx1:0≤x1∧x1<p) (by1:0≤y1∧y1<p) (bx2:0≤x2∧x2<p) (by2:0≤y2∧y2<p) (bz2:0≤z2∧z2<p) :
  Calls Tryz.prog 210 #[pt pc,pt p1,pt p2,pt p3,pt p4,pt p5,pt p6] w fun e w'=>∃(a b c:Nat) (X Y Z:Int),e = .returned (.tuple #[pt a,pt b,pt c])∧St F w' ((a,ofI X)::(b,ofI Y)::(c,ofI Z)::L)∧Keep (fun b=>¬F b) w w' ∧
   Hid ((⟨Ec.fi p X,Ec.fi p Y,Ec.fi p Z⟩:Ec.Tri p)=Ec.gadd ⟨Ec.fi p x1,Ec.fi p y1,Ec.fi p 1⟩ ⟨Ec.fi p x2,Ec.fi p y2,Ec.fi p z2⟩)∧(0≤X∧X<p)∧(0≤Y∧Y<p)∧(0≤Z∧Z<p):=by
 have s1:Sz 384 (1:Int):=⟨by decide +kernel⟩
 by_cases hz:z2=0
 ·subst hz
  refine(ellAddZ_any F w L h pc pP p1 p2 p3 p4 p5 p6 x1 y1 1 x2 y2 p hx1 hy1 hz1 hx2 hy2 hz2 hP cP0 hFc (sP.below bx1) (sP.below by1) s1 (sP.below bx2) (sP.below by2) ⟨by decide⟩ sP ⟨by omega,by omega⟩).mono ?_
  rintro e w' ⟨a,b,c,rfl,h1,k1⟩
  refine⟨a,b,c,x1,y1,1,rfl,h1,k1,?_,bx1,by1,by omega,by omega⟩
  show _=_
  have h0:(Ec.fi p 1:Fin p)≠0:=by
   rw [Ec.fi_one];intro e
   have:=congrArg Fin.val e
   have e1:((1:Fin p).val)=1%p:=rfl
   rw [e1,Nat.mod_eq_of_lt hp1] at this
   simp at this
  simp only [Ec.gadd,if_neg h0,Ec.fi_zero,if_true]
 ·exact ellAdd_any F w L h pc pP p1 p2 p3 p4 p5 p6 x1 y1 1 x2 y2 z2 p hx1 hy1 hz1 hx2 hy2 hz2 hP cP0 hFc (sP.below bx1) (sP.below by1) s1 (sP.below bx2) (sP.below by2) (sP.below bz2) sP ⟨by omega,by omega⟩ ⟨by omega,by omega⟩
theorem ellScalar_any (F:Nat→Prop) (w:World) (L:List (Nat×E)) (hst:St F w L) (pc pP pB pX pY:Nat) (x y bI:Int) (p:Nat) [NeZero p] (a b g h:Fin p) (N:Nat) (G:Ec.Good p a b g h N) (ha:a = -3) (hx:(pX,ofI x)∈L) (hy:(pY,ofI y)∈L) (hP:(pP,ofI (p:Int))∈L) (hB:(pB,ofI bI)∈L)
  (cP0:w.cell? ⟨pc,0,none⟩=some (pt pP)) (cB0:w.cell? ⟨pc,2,none⟩=some (pt pB)) (hFc:F pc) (sB:Sz 384 bI) (sP:Sz 384 (p:Int)) (bx:0<x∧x<p) (by':0≤y∧y<p) (hcurve:(x*x*x-3*x+bI)%(p:Int)=(y*y)%(p:Int)) (ex:Ec.fi p x=g) (ey:Ec.fi p y=h)
  (bk ok m kk:Nat) (c:Nat→Nat) (hb:Bts w bk ok m c) (hFb:F bk) (hm:m<1000) (hn0:0<preN c m) (hnN:preN c m<N) :
  Calls Tryz.prog 207 #[pt pc,pt pX,pt pY,.slice (some ⟨bk,ok,none⟩) m kk] w fun e w'=>∃(p1 p2:Nat) (X Y:Int),e = .returned (.tuple #[pt p1,pt p2])∧St F w' ((p1,ofI X)::(p2,ofI Y)::L)∧Keep (fun b=>¬F b) w w' ∧
   Ec.lin a (some (g,h)) (preN c m)=some (Ec.fi p X,Ec.fi p Y)∧(0≤X∧X<p)∧(0≤Y∧Y<p):=by
 have hp2:=G.hp.1
 go_enter Tryz.func207,Tryz.ntmps207
 go_wp2_with fail
 refine(panicOn_any F _ L hst pc pX pY x hx bx.1 (ellOn_any F _ L hst pc pP pB pX pY x y bI p hx hy hP hB cP0 cB0 hFc (sP.below ⟨by omega,bx.2⟩) (sP.below by') sB sP ⟨by omega,bx.2⟩ by' hcurve)).mono ?_
 rintro e w1 ⟨rfl,h1,k1⟩
 have HCU:Hid _:=hcurve
 clear hcurve
 have h1a:=h1.alloc 85
 go_wp2_with fail
 refine(setInt64_any F _ _ h1a 0 w1.heap.size (ofI 0) rfl 1 (by omega)).mono ?_
 rintro e w2 ⟨rfl,h2,k2⟩
 simp only [Ls0] at h2
 have K2:Hid (Keep (fun b=>¬F b) w w2):=k1.trans (((Keep.refl _ w1).alloc _).trans k2)
 have h3:=((h2.alloc 85).alloc 85).alloc 85
 have H3:Hid _:=h3
 clear k1 k2 h1 h1a h2 h3
 generalize w1.heap.size=pBz at *
 have K3:Hid (Keep (fun b=>¬F b) w (((w2.alloc iz).alloc iz).alloc iz)):=(((oo K2).alloc _).alloc _).alloc _
 have hm1:(m:Int)<1000:=by omega
 go_wp2_with fail
 go_loopw [11,12,13,28] (fun s11 s12 s13 s28 wr=>∃(i px py pz:Nat),s11=pt px∧s12=pt py∧s13=pt pz∧s28 = .int .i64 (i:Int)∧i≤m∧Ace F ((pBz,ofI 1)::L) p a g h w (preN c i) px py pz wr) (fun _ _ _ s28 _=>(m-(intOf s28).toNat:Nat))
 case atStart=>
  refine⟨0,_,_,_,rfl,rfl,rfl,rfl,by omega,[_,_,_],0,0,0,oo H3,?_,?_,?_,⟨by omega,by omega⟩,⟨by omega,by omega⟩,⟨by omega,by omega⟩,?_,oo K3⟩
  ·simp
  ·simp
  ·simp
  ·show Ec.rep _ _
   rw [Ec.fi_zero]
   exact rfl
 case round=>
  obtain⟨i,px,py,pz,rfl,rfl,rfl,rfl,him,hacc⟩:=hrel
  have HACC:Hid _:=hacc
  clear hacc
  by_cases hi:i=m
  ·subst hi
   obtain⟨M,X,Y,Z,h1,h2,h3,h4,h5,h6,h7,h9,h11⟩:=oo HACC
   obtain⟨zn,rfl⟩:∃z:Nat,Z=z:=⟨Z.toNat,by omega⟩
   have cP:wr.cell? ⟨pc,0,none⟩=some (pt pP):=h11.cell cP0 (fun h=>h hFc)
   have hne:=G.ord _ hn0 hnN
   have hz:=Ec.rep_z h9.rep hne
   have hz0:0<zn:=by
    refine Nat.pos_of_ne_zero fun e=>?_
    subst e
    exact hz Ec.fi_zero
   have hzp:zn<p:=by omega
   have H1:Hid _:=h1
   have H11:Hid _:=h11
   have H9:Hid (Rp _ _):=h9
   have HNE:Hid _:=hne
   clear h1 h9 h11 hz hne HACC
   go_wp2_with fail
   refine(ellAffine_any F wr _ (oo H1) pc pP px py pz X Y zn p h2 h3 h4 (List.mem_append_right _ (.tail _ hP)) cP hFc (sP.below h5) (sP.below h6) (sP.below h7) sP hz0 hzp (Ec.bezout G.hp hz0 hzp)).mono ?_
   rintro e w5 ⟨p1,p2,X',Y',rfl,h12,k12,⟨ii,hi1,hi2,hi3⟩,-,-,hbX,hbY⟩
   have H12:Hid _:=h12
   have K12:Hid _:=k12
   clear h12 k12
   go_wp2_with fail
   go_ret2
   refine⟨p1,p2,X',Y',rfl,?_,(oo H11).trans (oo K12),?_,hbX,hbY⟩
   ·have h13:St F w5 (((p1,ofI X')::(p2,ofI Y')::(M++[(pBz,ofI 1)]))++L):=by
     have e:((p1,ofI X')::(p2,ofI Y')::(M++[(pBz,ofI 1)]))++L=(p1,ofI X')::(p2,ofI Y')::(M++(pBz,ofI 1)::L):=by simp
     rw [e];exact oo H12
    exact St.pre h13 [_,_] [0,1] (by decide) _ rfl (by intro i hi;simp at hi;simp;omega) rfl
   ·rcases e:Ec.lin a (some (g,h)) (preN c i) with _ | ⟨x0,y0⟩
    ·exact absurd e (oo HNE)
    ·have hr:Ec.rep (⟨Ec.fi p X,Ec.fi p Y,Ec.fi p zn⟩:Ec.Tri p) (some (x0,y0)):=by rw [← e];exact Rp.rep (oo H9)
     have:=Ec.rep_affine G.hp hr hi1
     rw [this.1,this.2,hi2,hi3]
  ·have hi':i<m:=by omega
   have hbi:=hb i hi'
   have fb:wr.cell? ⟨bk,ok+i,none⟩=some (.int .u8 (c i:Nat)):=(Ace.keep (oo HACC)).cell hbi.1 (fun h=>h hFb)
   have hci:=hbi.2
   have t1:(i:Int)<(m:Int):=by omega
   obtain⟨by0,hby⟩:∃x,c i=x:=⟨_,rfl⟩
   rw [hby] at fb hci
   have HA0:Hid (Ace F ((pBz,ofI 1)::L) p a g h w (preB c i 0) px py pz wr):=by
    rw [preB_zero (by rw [hby];exact hci)]
    exact oo HACC
   have HBY:Hid _:=hby
   clear hi hbi HACC hby
   go_wp2_with fail
   go_loopw [11,12,13,15,32] (fun s11 s12 s13 s15 s32 wx=>∃(j px py pz:Nat),s11=pt px∧s12=pt py∧s13=pt pz∧s15 = .int .u8 (shB by0 j:Nat)∧s32 = .int .i64 (j:Int)∧j≤8∧Ace F ((pBz,ofI 1)::L) p a g h w (preB c i j) px py pz wx) (fun _ _ _ _ s32 _=>(8-(intOf s32).toNat:Nat))
   case atStart=>
    refine⟨0,px,py,pz,rfl,rfl,rfl,?_,rfl,by omega,oo HA0⟩
    rw [show shB by0 0=by0 by simp [shB];omega]
   case round=>
    obtain⟨j,px,py,pz,rfl,rfl,rfl,rfl,rfl,hj,hacc⟩:=hrel
    have HACC:Hid _:=hacc
    clear hacc HA0 fb
    by_cases hj8:j=8
    ·subst hj8
     have w1:IntKind.i64.wrap ((i:Int)+1)=(i:Int)+1:=IntWalk.i64_in _ (by omega)
     go_wp2_with fail
     go_roundw
     case rel=>
      refine⟨i+1,px,py,pz,by go_num,by go_num,by go_num,by go_num,by omega,?_⟩
      have:=oo HACC
      rwa [preB_eight] at this
     case measure=>simp [intOf];omega
    ·have hj':j<8:=by omega
     have w1:IntKind.i64.wrap ((j:Int)+1)=(j:Int)+1:=IntWalk.i64_in _ (by omega)
     have hnx:=preB_next (c:=c) (i:=i) (by rw [HBY.out];exact hci) hj'
     rw [HBY.out] at hnx
     have hsn:=shB_next hci hj'
     obtain⟨sb,hsb⟩:∃x,shB by0 j=x:=⟨_,rfl⟩
     rw [hsb] at hnx hsn
     have hsl:sb<256:=by rw [← hsb];exact Nat.mod_lt _ (by decide)
     rw [hsb]
     have ba:=and128 ⟨sb,hsl⟩
     simp only at ba
     have HNX:Hid _:=hnx
     have HSN:Hid _:=hsn
     clear hnx hsn hsb hj8
     obtain⟨M,X,Y,Z,h1,h2,h3,h4,h5,h6,h7,h9,h11⟩:=oo HACC
     have cP:wr.cell? ⟨pc,0,none⟩=some (pt pP):=h11.cell cP0 (fun h=>h hFc)
     have H1:Hid _:=h1
     have H9:Hid (Rp _ _):=h9
     have H11:Hid _:=h11
     clear h1 h9 h11 HACC
     by_cases hbit:128≤sb
     ·rw [if_pos hbit] at ba
      go_wp2_with fail
      refine(ellDouble_any F wr _ (oo H1) pc pP px py pz X Y Z p h2 h3 h4 (List.mem_append_right _ (.tail _ hP)) cP hFc (sP.below h5) (sP.below h6) (sP.below h7) sP).mono ?_
      rintro e w5 ⟨a1,b1,c1,X',Y',Z',rfl,h12,k12,heq,s1,s2,s3⟩
      have hr:=G.gdbl ha (Rp.rep (oo H9))
      rw [← heq.out] at hr
      have HR:Hid (Rp _ _):=hr
      have H12:Hid _:=h12
      have K12:Hid (Keep (fun b=>¬F b) w w5):=(oo H11).trans k12
      clear hr h12 k12 heq cP H9 H11 H1
      have cP5:w5.cell? ⟨pc,0,none⟩=some (pt pP):=(oo K12).cell cP0 (fun h=>h hFc)
      go_wp2_with fail
      refine(ellBase_any F w5 _ (oo H12) pc pP pX pY pBz a1 b1 c1 x y X' Y' Z' p (by omega) (tl3 (List.mem_append_right _ (.tail _ hx))) (tl3 (List.mem_append_right _ (.tail _ hy))) (tl3 (List.mem_append_right _ (.head _)))
       (.head _) (.tail _ (.head _)) (tl2 (.head _)) (tl3 (List.mem_append_right _ (.tail _ hP))) cP5 hFc sP ⟨by omega,bx.2⟩ by' s1 s2 s3).mono ?_
      rintro e w6 ⟨a2,b2,c2,X2,Y2,Z2,rfl,h13,k13,heq,s4,s5,s6⟩
      have hr:=G.gadd (n:=2*preB c i j) ha (Rp.rep (oo HR))
      rw [ex,ey,Ec.fi_one] at heq
      rw [← heq.out] at hr
      have HR2:Hid (Rp _ _):=hr
      have H13:Hid _:=h13
      have K13:=hh ((oo K12).trans k13)
      clear hr h13 k13 heq cP5 H12 K12 HR
      go_wp2_with fail
      go_roundw
      case rel=>
       refine⟨j+1,a2,b2,c2,by go_num,by go_num,by go_num,by rw [HSN.out];go_num,by go_num,by omega,?_⟩
       have e1:=HNX.out
       rw [if_pos hbit] at e1
       rw [e1]
       exact⟨(a2,ofI X2)::(b2,ofI Y2)::(c2,ofI Z2)::(a1,ofI X')::(b1,ofI Y')::(c1,ofI Z')::M,X2,Y2,Z2,oo H13,.head _,.tail _ (.head _),.tail _ (.tail _ (.head _)),s4,s5,s6,oo HR2,oo K13⟩
      case measure=>simp [intOf];omega
     ·rw [if_neg hbit] at ba
      go_wp2_with fail
      refine(ellDouble_any F wr _ (oo H1) pc pP px py pz X Y Z p h2 h3 h4 (List.mem_append_right _ (.tail _ hP)) cP hFc (sP.below h5) (sP.below h6) (sP.below h7) sP).mono ?_
      rintro e w5 ⟨a1,b1,c1,X',Y',Z',rfl,h12,k12,heq,s1,s2,s3⟩
      have hr:=G.gdbl ha (Rp.rep (oo H9))
      rw [← heq.out] at hr
      have HR:Hid (Rp _ _):=hr
      have H12:Hid _:=h12
      have K12:Hid (Keep (fun b=>¬F b) w w5):=(oo H11).trans k12
      clear hr h12 k12 heq cP H9 H11 H1
      go_wp2_with fail
      go_roundw
      case rel=>
       refine⟨j+1,a1,b1,c1,by go_num,by go_num,by go_num,by rw [HSN.out];go_num,by go_num,by omega,?_⟩
       have e1:=HNX.out
       rw [if_neg hbit,Nat.add_zero] at e1
       rw [e1]
       exact⟨(a1,ofI X')::(b1,ofI Y')::(c1,ofI Z')::M,X',Y',Z',oo H12,.head _,.tail _ (.head _),.tail _ (.tail _ (.head _)),s1,s2,s3,oo HR,oo K12⟩
      case measure=>simp [intOf];omega
theorem ellBaseMult_any (F:Nat→Prop) (w:World) (L:List (Nat×E)) (hst:St F w L) (pc pP pB pX pY:Nat) (x y bI:Int) (p:Nat) [NeZero p] (a b g h:Fin p) (N:Nat) (G:Ec.Good p a b g h N) (ha:a = -3) (hx:(pX,ofI x)∈L) (hy:(pY,ofI y)∈L) (hP:(pP,ofI (p:Int))∈L) (hB:(pB,ofI bI)∈L)
  (cP0:w.cell? ⟨pc,0,none⟩=some (pt pP)) (cB0:w.cell? ⟨pc,2,none⟩=some (pt pB)) (cX0:w.cell? ⟨pc,3,none⟩=some (pt pX)) (cY0:w.cell? ⟨pc,4,none⟩=some (pt pY)) (hFc:F pc) (sB:Sz 384 bI) (sP:Sz 384 (p:Int)) (bx:0<x∧x<p) (by':0≤y∧y<p) (hcurve:(x*x*x-3*x+bI)%(p:Int)=(y*y)%(p:Int)) (ex:Ec.fi p x=g) (ey:Ec.fi p y=h)
  (bk ok m kk:Nat) (c:Nat→Nat) (hb:Bts w bk ok m c) (hFb:F bk) (hm:m<1000) (hn0:0<preN c m) (hnN:preN c m<N) :
  Calls Tryz.prog 206 #[pt pc,.slice (some ⟨bk,ok,none⟩) m kk] w fun e w'=>∃(p1 p2:Nat) (X Y:Int),e = .returned (.tuple #[pt p1,pt p2])∧St F w' ((p1,ofI X)::(p2,ofI Y)::L)∧Keep (fun b=>¬F b) w w' ∧
   Ec.lin a (some (g,h)) (preN c m)=some (Ec.fi p X,Ec.fi p Y)∧(0≤X∧X<p)∧(0≤Y∧Y<p):=by
 have hC:=ellScalar_any F w.drew L hst.drew pc pP pB pX pY x y bI p a b g h N G ha hx hy hP hB cP0 cB0 hFc sB sP bx by' hcurve ex ey bk ok m kk c hb hFb hm hn0 hnN
 have HC:Hid _:=hC
 clear hC hb hn0 hnN G hcurve
 go_enter Tryz.func206,Tryz.ntmps206
 go_wp2_with fail
 refine AnyL_start (fun w'=>w'.cell? ⟨pc,3,none⟩=some (pt pX)∧w'.cell? ⟨pc,4,none⟩=some (pt pY)) [4,8] (by kernel_rfl) ?_
 have HS:(fun w':World=>w'.cell? ⟨pc,3,none⟩=some (pt pX)∧w'.cell? ⟨pc,4,none⟩=some (pt pY)) w.drew:=⟨cX0,cY0⟩
 refine AP 0 ?_
 refine AP 1 ?_
 refine AP 2 ?_
 refine AP 3 ?_
 refine AL 4 HS ?_
 refine AP 5 ?_
 refine AP 6 ?_
 refine AP 7 ?_
 refine AL 8 HS ?_
 refine AP 9 ?_
 refine AnyL_one 10 rfl (by kernel_rfl) (fun K hK=>?_)
 go_simp
 refine Calls.mono (oo HC) ?_
 rintro e w1 ⟨p1,p2,X,Y,rfl,h1,k1,hl,hbX,hbY⟩
 have H1:Hid _:=h1
 have K1:Hid _:=k1
 have HL:Hid _:=hl
 clear h1 k1 hl
 refine hK.out _ _ (.inl (by kernel_rfl)) ?_
 clear hK K
 try clear HS
 refine AP 11 ?_
 refine AP 12 ?_
 refine AP 13 ?_
 refine AP 14 ?_
 try simp only [Ls2,Ls0,Ls1,List.getElem_toArray,List.getElem_cons_succ,List.getElem_cons_zero]
 refine AnyL_done (by kernel_rfl) ?_
 go_wp2_with fail
 go_ret2
 exact⟨p1,p2,X,Y,rfl,oo H1,(oo K1).undrew,oo HL,hbX,hbY⟩
theorem ellParams_any (w:World) (v:Value):Calls Tryz.prog 205 #[v] w fun e w'=>e = .returned v∧w'=w:=by
 go_enter Tryz.func205,Tryz.ntmps205
 go_wp2_with fail
 go_ret
 exact⟨rfl,rfl⟩
theorem bitParams_any (w:World) (pc p1 p2 p4 p5:Nat) (s:ByteArray) (B:Int) (c0:w.cell? ⟨pc,0,none⟩=some (.string s)) (c1:w.cell? ⟨pc,1,none⟩=some (pt p1)) (c2:w.cell? ⟨pc,2,none⟩=some (pt p2)) (c4:w.cell? ⟨pc,4,none⟩=some (pt p4)) (c5:w.cell? ⟨pc,5,none⟩=some (pt p5)) (c6:w.cell? ⟨pc,6,none⟩=some (.int .i64 B)) :
  Calls Tryz.prog 216 #[pt pc] w fun e w'=>∃q,e = .returned (pt q)∧w.heap.size≤q∧Blk w' q #[pt p1,pt p2,.pointer none,pt p4,pt p5,.int .i64 B,.string s] 88∧Keep Nope w w':=by
 have hp:pc<w.heap.size:=World.block_lt_of_cell? w _ c0
 have z0:=Blk.new w #[.pointer none,.pointer none,.pointer none,.pointer none,.pointer none,.int .i64 0,.string { data:=#[] }] 88
 have k0:Keep Nope w (w.alloc (.cells #[.pointer none,.pointer none,.pointer none,.pointer none,.pointer none,.int .i64 0,.string { data:=#[] }] 88 (0,0))):=(Keep.refl Nope w).alloc _
 have d0:=k0.cell c0 id
 have d1:=k0.cell c1 id
 have d2:=k0.cell c2 id
 have d4:=k0.cell c4 id
 have d5:=k0.cell c5 id
 have d6:=k0.cell c6 id
 go_enter Tryz.func216,Tryz.ntmps216
 go_upto_region 2 with fail
 generalize hw:w.alloc (.cells #[.pointer none,.pointer none,.pointer none,.pointer none,.pointer none,.int .i64 0,.string { data:=#[] }] 88 (0,0))=w1 at *
 generalize hq:w.heap.size=q at *
 have HQ:Hid (w.heap.size=q):=hq
 have hpq:pc≠q:=by omega
 clear hw hq hp c0 c1 c2 c4 c5 c6
 have y1:=z0.cell 6
 have x1:=z0.frozen 6
 have z1:=z0.set 6 (.string s)
 have k1:Keep (·=q) w1 _:=((Keep.refl (·=q) w1).setCell (p:=⟨q,6,none⟩) rfl (.string s))
 have e1:=k1.cell d1 hpq
 have y2:=z1.cell 0
 have x2:=z1.frozen 0
 have z2:=z1.set 0 (pt p1)
 have k2:Keep (·=q) w1 _:=(((Keep.refl (·=q) w1).setCell (p:=⟨q,6,none⟩) rfl (.string s)).setCell (p:=⟨q,0,none⟩) rfl (pt p1))
 have e2:=k2.cell d2 hpq
 have y3:=z2.cell 1
 have x3:=z2.frozen 1
 have z3:=z2.set 1 (pt p2)
 have k3:Keep (·=q) w1 _:=((((Keep.refl (·=q) w1).setCell (p:=⟨q,6,none⟩) rfl (.string s)).setCell (p:=⟨q,0,none⟩) rfl (pt p1)).setCell (p:=⟨q,1,none⟩) rfl (pt p2))
 have e3:=k3.cell d4 hpq
 have y4:=z3.cell 3
 have x4:=z3.frozen 3
 have z4:=z3.set 3 (pt p4)
 have k4:Keep (·=q) w1 _:=(((((Keep.refl (·=q) w1).setCell (p:=⟨q,6,none⟩) rfl (.string s)).setCell (p:=⟨q,0,none⟩) rfl (pt p1)).setCell (p:=⟨q,1,none⟩) rfl (pt p2)).setCell (p:=⟨q,3,none⟩) rfl (pt p4))
 have e4:=k4.cell d5 hpq
 have y5:=z4.cell 4
 have x5:=z4.frozen 4
 have z5:=z4.set 4 (pt p5)
 have k5:Keep (·=q) w1 _:=((((((Keep.refl (·=q) w1).setCell (p:=⟨q,6,none⟩) rfl (.string s)).setCell (p:=⟨q,0,none⟩) rfl (pt p1)).setCell (p:=⟨q,1,none⟩) rfl (pt p2)).setCell (p:=⟨q,3,none⟩) rfl (pt p4)).setCell (p:=⟨q,4,none⟩) rfl (pt p5))
 have e5:=k5.cell d6 hpq
 have y6:=z5.cell 5
 have x6:=z5.frozen 5
 have z6:=z5.set 5 (.int .i64 B)
 have k6:Keep (·=q) w1 _:=(((((((Keep.refl (·=q) w1).setCell (p:=⟨q,6,none⟩) rfl (.string s)).setCell (p:=⟨q,0,none⟩) rfl (pt p1)).setCell (p:=⟨q,1,none⟩) rfl (pt p2)).setCell (p:=⟨q,3,none⟩) rfl (pt p4)).setCell (p:=⟨q,4,none⟩) rfl (pt p5)).setCell (p:=⟨q,5,none⟩) rfl (.int .i64 B))
 simp only [Ls5,Ls3,Ls4,Ls2,Ls0,Ls1] at y1 z1 y2 z2 y3 z3 y4 z4 y5 z5 y6 z6
 have HZ:Hid _:=z6
 have HK:Hid (Keep Nope w _):=k0.fresh k6 (Nat.le_of_eq HQ.out)
 go_wp2_with fail
 go_ret
 exact⟨q,rfl,Nat.le_of_eq HQ.out,oo HZ,oo HK⟩
def Sup (F:Nat→Prop) (w:World) (L:List (Nat×E)):Prop:=∃L',St F w L'∧∀t∈L,t∈L'
theorem rParams_any (w:World) (q:Nat) (v:Value) (h:w.cell? ⟨q,1,none⟩=some v):Calls Tryz.prog 225 #[pt q] w fun e w'=>e = .returned v∧w'=w:=by
 go_enter Tryz.func225,Tryz.ntmps225
 go_wp2_with fail
 go_ret
 exact⟨rfl,rfl⟩
theorem rBase_any (F:Nat→Prop) (w:World) (L:List (Nat×E)) (q pc pp pP pU pV:Nat) (v:Value) (u z:Int) (p:Nat) [NeZero p] (G:Int→Int→Prop) (hu:(pU,ofI u)∈L) (hv:(pV,ofI z)∈L) (hP:(pP,ofI (p:Int))∈L)
  (c0:w.cell? ⟨q,0,none⟩=some (.iface 89 (pt pc))) (c1:w.cell? ⟨q,1,none⟩=some (pt pp)) (cP:w.cell? ⟨pp,0,none⟩=some (pt pP)) (c6:w.cell? ⟨q,6,none⟩=some (pt pU)) (c7:w.cell? ⟨q,7,none⟩=some (pt pV)) (hFq:F q) (hFp:F pp) (su:Sz 384 u) (sv:Sz 384 z) (sP:Sz 384 (p:Int))
  (hS:Calls Tryz.prog 206 #[pt pc,v] w fun e w'=>∃(p1 p2:Nat) (X Y:Int),e = .returned (.tuple #[pt p1,pt p2])∧St F w' ((p1,ofI X)::(p2,ofI Y)::L)∧Keep (fun b=>¬F b) w w'∧G X Y∧(0≤X∧X<p)∧(0≤Y∧Y<p)) :
  Calls Tryz.prog 226 #[pt q,v] w fun e w'=>∃(a b:Nat) (X Y x y:Int) (L':List (Nat×E)),e = .returned (.tuple #[pt a,pt b])∧St F w' L'∧(∀t∈L,t∈L')∧(a,ofI x)∈L'∧(b,ofI y)∈L'∧Keep (fun b=>¬F b) w w'∧G X Y∧x=X*u%(p:Int)∧y=Y*z%(p:Int):=by
 have HS:Hid _:=hS
 have C1:Hid _:=c1
 have CP:Hid _:=cP
 have C6:Hid _:=c6
 have C7:Hid _:=c7
 clear hS c1 cP c6 c7
 go_enter Tryz.func226,Tryz.ntmps226
 go_wp2_with fail
 refine Calls.mono (oo HS) ?_
 rintro e w1 ⟨p1,p2,X,Y,rfl,h1,k1,hG,bX,bY⟩
 have HG:Hid _:=hG
 have K1:Hid (Keep (fun b=>¬F b) w w1):=k1
 have sX:=sP.below bX
 have sY:=sP.below bY
 have HC:=fromTwisted_any F w1 _ h1 q pp pP pU pV p1 p2 X Y u z p (.head _) (.tail _ (.head _)) (tl2 hu) (tl2 hv) (tl2 hP) (k1.cell C1.out (fun h=>h hFq)) (k1.cell CP.out (fun h=>h hFp)) (k1.cell C6.out (fun h=>h hFq)) (k1.cell C7.out (fun h=>h hFq)) hFq hFp sX sY su sv sP
 have HF:Hid _:=HC
 clear HC h1 k1 hG bX bY c0
 go_wp2_with fail
 refine Calls.mono (oo HF) ?_
 rintro e w2 ⟨a,b,x,y,rfl,h2,k2,ex,ey⟩
 have HALL:Hid (∃L',St F w2 L'∧(∀t∈L,t∈L')∧(a,ofI x)∈L'∧(b,ofI y)∈L'∧Keep (fun b=>¬F b) w w2∧G X Y∧x=X*u%(p:Int)∧y=Y*z%(p:Int)):=
  ⟨_,h2,fun t ht=>.tail _ (tl3 ht),.head _,.tail _ (.head _),(oo K1).trans k2,oo HG,ex.out,ey.out⟩
 clear h2 k2 ex ey
 go_wp2_with fail
 go_ret2
 obtain⟨L',hh⟩:=oo HALL
 exact⟨a,b,X,Y,x,y,L',rfl,hh⟩
theorem rOn_any (F:Nat→Prop) (w:World) (L:List (Nat×E)) (h:St F w L) (q pc pp pP pB pU pV p1 p2:Nat) (x y u v b:Int) (p:Nat) [NeZero p] (hx:(p1,ofI x)∈L) (hy:(p2,ofI y)∈L) (hu:(pU,ofI u)∈L) (hv:(pV,ofI v)∈L) (hP:(pP,ofI (p:Int))∈L) (hB:(pB,ofI b)∈L)
  (c0:w.cell? ⟨q,0,none⟩=some (.iface 89 (pt pc))) (c1:w.cell? ⟨q,1,none⟩=some (pt pp)) (cP:w.cell? ⟨pp,0,none⟩=some (pt pP)) (c4:w.cell? ⟨q,4,none⟩=some (pt pU)) (c5:w.cell? ⟨q,5,none⟩=some (pt pV)) (d0:w.cell? ⟨pc,0,none⟩=some (pt pP)) (d2:w.cell? ⟨pc,2,none⟩=some (pt pB))
  (hFq:F q) (hFp:F pp) (hFc:F pc) (sx:Sz 384 x) (sy:Sz 384 y) (su:Sz 384 u) (sv:Sz 384 v) (sP:Sz 384 (p:Int)) (sB:Sz 384 b)
  (hcurve:∀X Y:Int,X=x*u%(p:Int)→Y=y*v%(p:Int)→(X*X*X-3*X+b)%(p:Int)=(Y*Y)%(p:Int)) :
  Calls Tryz.prog 224 #[pt q,pt p1,pt p2] w fun e w'=>e = .returned (.bool true)∧St F w' L∧Keep (fun b=>¬F b) w w':=by
 have hP0:(0:Int)<(p:Int):=by have:=NeZero.ne p;omega
 have HC:=toTwisted_any F w.drew L h.drew q pp pP pU pV p1 p2 x y u v p hx hy hu hv hP c1 cP c4 c5 hFq hFp sx sy su sv sP
 have HT:Hid _:=HC
 have HCV:Hid _:=hcurve
 have D0:Hid _:=d0
 have D2:Hid _:=d2
 clear HC c1 cP c4 c5 d0 d2 hcurve h
 go_enter Tryz.func224,Tryz.ntmps224
 go_upto_region 1 with fail
 refine RS (fun w'=>Keep (fun b=>¬F b) w w') [3] ?_
 have HS:(fun w':World=>Keep (fun b=>¬F b) w w') w.drew:=((Keep.refl (fun b=>¬F b) w).drew)
 refine AP 0 ?_
 refine AP 1 ?_
 refine AP 2 ?_
 refine AL 3 HS ?_ (hy:=fun w2 hw2=>by have y0:=Keep.cell hw2 c0 (fun h=>h hFq);go_simp;all_goals (with_reducible rfl))
 refine AP 4 ?_
 refine AP 5 ?_
 refine AP 6 ?_
 refine AP 10 ?_
 refine AP 11 ?_
 refine RO 7 (fun K hK=>?_)
 go_simp
 refine Calls.mono (oo HT) ?_
 rintro e w1 ⟨a,b',X,Y,rfl,h1,k1,ex,ey⟩
 have K1:Hid (Keep (fun b=>¬F b) w w1):=k1.undrew
 have bX:0≤X∧X<(p:Int):=by rw [ex.out];exact⟨Int.emod_nonneg _ (by omega),Int.emod_lt_of_pos _ hP0⟩
 have bY:0≤Y∧Y<(p:Int):=by rw [ey.out];exact⟨Int.emod_nonneg _ (by omega),Int.emod_lt_of_pos _ hP0⟩
 have HON:=ellOn_any F w1 _ h1 pc pP pB a b' X Y b p (.head _) (.tail _ (.head _)) (tl2 hP) (tl2 hB) ((oo K1).cell D0.out (fun h=>h hFc)) ((oo K1).cell D2.out (fun h=>h hFc)) hFc (sP.below bX) (sP.below bY) sB sP bX bY (HCV.out X Y ex.out ey.out)
 have HO:Hid _:=HON
 clear HON h1 k1 ex ey bX bY
 refine hK.out _ _ (.inr (oo K1)) ?_
 clear hK K
 refine AP 8 ?_
 refine AP 9 ?_
 refine RO 12 (fun K hK=>?_)
 go_simp
 refine Calls.mono (oo HO) ?_
 rintro e w2 ⟨rfl,h2,k2⟩
 have HALL:Hid (St F w2 L∧Keep (fun b=>¬F b) w w2):=⟨h2.tail.tail,(oo K1).trans k2⟩
 clear h2 k2
 refine hK.out _ _ (.inr (oo HALL).2) ?_
 clear hK K
 refine AP 13 ?_
 try simp only [Ls0,Ls1,List.getElem_toArray,List.getElem_cons_succ,List.getElem_cons_zero]
 refine AnyL_done (by kernel_rfl) ?_
 go_wp2_with fail
 go_ret
 exact⟨rfl,oo HALL⟩
theorem Zb.rwb {w:World} {b n:Nat} (h:Zb w b n):Rwb w b n (fun _=>0):=⟨⟨5,h⟩,fun _ _=>by omega⟩
theorem poc92_any (F:Nat→Prop) (w:World) (L:List (Nat×E)) (h:St F w L) (pc p1 p2:Nat) (x y:Int) (hx:(p1,ofI x)∈L) (hy:(p2,ofI y)∈L) (hne:x=0→y≠0)
  (hC:Calls Tryz.prog 215 #[pt pc,pt p1,pt p2] w fun e w'=>e = .returned (.bool true)∧St F w' L∧Keep (fun b=>¬F b) w w') :
  Calls Tryz.prog 34 #[.iface 92 (pt pc),pt p1,pt p2] w fun e w'=>e = .returned (.tuple #[])∧St F w' L∧Keep (fun b=>¬F b) w w':=by
 have HC:Hid _:=hC
 have HN:Hid _:=hne
 have SX:=sign_any F w L h p1 x hx
 have SY:=sign_any F w L h p2 y hy
 have H1:Hid _:=SX
 have H2:Hid _:=SY
 clear hC SX SY hne h
 by_cases e0:x=0
 ·have hs:sgn x=0:=by rw [sgn,if_neg (by omega),if_pos e0]
  obtain⟨sy,hsy,hsy0⟩:∃u,sgn y=u∧(u==0)=false:=⟨_,rfl,by
   have:=HN.out e0
   rw [beq_eq_false_iff_ne,sgn,if_neg this]
   split<;>omega⟩
  have HS:Hid _:=hs
  have HY:Hid _:=hsy
  clear hs hsy e0 HN
  go_enter Tryz.func34,Tryz.ntmps34
  go_wp2_with fail
  refine Calls.mono (oo H1) ?_
  rintro e ws ⟨rfl,hws⟩
  rw [hws,HS.out]
  clear hws ws
  go_wp2_with fail
  refine Calls.mono (oo H2) ?_
  rintro e ws ⟨rfl,hws⟩
  rw [hws,HY.out]
  clear hws ws
  go_wp2_with fail
  refine Calls.mono (oo HC) ?_
  rintro e w1 ⟨rfl,h1,k1⟩
  have G1:Hid (St F w1 L):=h1
  have K1:Hid _:=k1
  clear h1 k1
  go_wp2_with fail
  first | go_end0 | (refine bodyPost_ret (results_none rfl _ _ _) rfl ?_)
  exact⟨rfl,oo G1,oo K1⟩
 ·obtain⟨sx,hsx,hsx0⟩:∃u,sgn x=u∧(u==0)=false:=⟨_,rfl,by
   rw [beq_eq_false_iff_ne,sgn,if_neg e0]
   split<;>omega⟩
  have HX:Hid _:=hsx
  clear hsx e0 HN
  go_enter Tryz.func34,Tryz.ntmps34
  go_wp2_with fail
  refine Calls.mono (oo H1) ?_
  rintro e ws ⟨rfl,hws⟩
  rw [hws,HX.out]
  clear hws ws
  go_wp2_with fail
  refine Calls.mono (oo HC) ?_
  rintro e w1 ⟨rfl,h1,k1⟩
  have G1:Hid (St F w1 L):=h1
  have K1:Hid _:=k1
  clear h1 k1
  go_wp2_with fail
  first | go_end0 | (refine bodyPost_ret (results_none rfl _ _ _) rfl ?_)
  exact⟨rfl,oo G1,oo K1⟩
theorem poc100_any (F:Nat→Prop) (w:World) (L:List (Nat×E)) (h:St F w L) (pc p1 p2:Nat) (x y:Int) (hx:(p1,ofI x)∈L) (hy:(p2,ofI y)∈L) (hne:x=0→y≠0)
  (hC:Calls Tryz.prog 224 #[pt pc,pt p1,pt p2] w fun e w'=>e = .returned (.bool true)∧St F w' L∧Keep (fun b=>¬F b) w w') :
  Calls Tryz.prog 34 #[.iface 100 (pt pc),pt p1,pt p2] w fun e w'=>e = .returned (.tuple #[])∧St F w' L∧Keep (fun b=>¬F b) w w':=by
 have HC:Hid _:=hC
 have HN:Hid _:=hne
 have SX:=sign_any F w L h p1 x hx
 have SY:=sign_any F w L h p2 y hy
 have H1:Hid _:=SX
 have H2:Hid _:=SY
 clear hC SX SY hne h
 by_cases e0:x=0
 ·have hs:sgn x=0:=by rw [sgn,if_neg (by omega),if_pos e0]
  obtain⟨sy,hsy,hsy0⟩:∃u,sgn y=u∧(u==0)=false:=⟨_,rfl,by
   have:=HN.out e0
   rw [beq_eq_false_iff_ne,sgn,if_neg this]
   split<;>omega⟩
  have HS:Hid _:=hs
  have HY:Hid _:=hsy
  clear hs hsy e0 HN
  go_enter Tryz.func34,Tryz.ntmps34
  go_wp2_with fail
  refine Calls.mono (oo H1) ?_
  rintro e ws ⟨rfl,hws⟩
  rw [hws,HS.out]
  clear hws ws
  go_wp2_with fail
  refine Calls.mono (oo H2) ?_
  rintro e ws ⟨rfl,hws⟩
  rw [hws,HY.out]
  clear hws ws
  go_wp2_with fail
  refine Calls.mono (oo HC) ?_
  rintro e w1 ⟨rfl,h1,k1⟩
  have G1:Hid (St F w1 L):=h1
  have K1:Hid _:=k1
  clear h1 k1
  go_wp2_with fail
  first | go_end0 | (refine bodyPost_ret (results_none rfl _ _ _) rfl ?_)
  exact⟨rfl,oo G1,oo K1⟩
 ·obtain⟨sx,hsx,hsx0⟩:∃u,sgn x=u∧(u==0)=false:=⟨_,rfl,by
   rw [beq_eq_false_iff_ne,sgn,if_neg e0]
   split<;>omega⟩
  have HX:Hid _:=hsx
  clear hsx e0 HN
  go_enter Tryz.func34,Tryz.ntmps34
  go_wp2_with fail
  refine Calls.mono (oo H1) ?_
  rintro e ws ⟨rfl,hws⟩
  rw [hws,HX.out]
  clear hws ws
  go_wp2_with fail
  refine Calls.mono (oo HC) ?_
  rintro e w1 ⟨rfl,h1,k1⟩
  have G1:Hid (St F w1 L):=h1
  have K1:Hid _:=k1
  clear h1 k1
  go_wp2_with fail
  first | go_end0 | (refine bodyPost_ret (results_none rfl _ _ _) rfl ?_)
  exact⟨rfl,oo G1,oo K1⟩
theorem mar92_32 (F:Nat→Prop) (w:World) (L:List (Nat×E)) (q p1 p2:Nat) (x y:Int) (hx:(p1,ofI x)∈L) (hy:(p2,ofI y)∈L) (hX:x.natAbs<256^32) (hY:y.natAbs<256^32) (sx:Sz 384 x) (sy:Sz 384 y)
  (hOn:Calls Tryz.prog 34 #[.iface 92 (pt q),pt p1,pt p2] w fun e w'=>e = .returned (.tuple #[])∧St F w' L∧Keep (fun b=>¬F b) w w')
  (hPar:∀w1,Keep (fun b=>¬F b) w w1→Calls Tryz.prog 216 #[pt q] w1 fun e w2=>∃pr,e = .returned (pt pr)∧w2.cell? ⟨pr,5,none⟩=some (.int .i64 256)∧Keep Nope w1 w2) :
  Calls Tryz.prog 25 #[.iface 92 (pt q),pt p1,pt p2] w fun e w'=>∃b c,e = .returned (.slice (some ⟨b,0,none⟩) 65 65)∧Rwb w' b 65 c∧c 0=4∧(∀j,j<32→c (1+j)=byt x.natAbs (32-1-j))∧(∀j,j<32→c (1+32+j)=byt y.natAbs (32-1-j))∧Keep (fun b=>¬F b) w w':=by
 have HX:Hid _:=hX
 have HY:Hid _:=hY
 have HO:Hid _:=hOn
 have HP:Hid _:=hPar
 clear hX hY hOn hPar
 go_enter Tryz.func25,Tryz.ntmps25
 go_wp2_with fail
 refine Calls.mono (oo HO) ?_
 rintro e w1 ⟨rfl,h1,k1⟩
 have H1:Hid (St F w1 L):=h1
 have K1:Hid _:=k1
 clear h1 k1
 go_wp2_with fail
 refine Calls.mono ((oo HP) w1 (oo K1)) ?_
 rintro e w2 ⟨pr,rfl,c5,k2⟩
 obtain⟨b,w3,hrun,hb,hz,k3⟩:=run_make_u8 23 Tryz.underlying23 w2 65 65 (by omega) (by omega) .i64 .i64
 replace hrun:(Instr.makeSlice 23 (.int .i64 65) (.int .i64 65)).run Tryz.prog w2 = .ok (.slice (some ⟨b,0,none⟩) 65 65) w3:=hrun
 have hr3:=hz.rwb
 have y0:=hr3.cell (i:=0) (by omega)
 have f0:=hr3.frozen 0
 have hr4:=hr3.set 0 4 (by omega)
 have hF:∀x,F x→x<w1.heap.size:=fun x hx=>(oo H1).base.lt x hx
 have s1:=k2.size
 have s3:=hr3.inHeap
 have h3:St (fun x=>F x∨x=b) w3 L:=(oo H1).wide (k2.trans k3) (fun _ h=>.inl h) (fun x h=>by
  rcases h with h | h
  ·exact .inl h
  ·subst h;exact .inr ⟨by omega,s3⟩)
 have hk4:Keep (·=b) w3 (w3.setCell ⟨b,0,none⟩ (.int .u8 (4:Nat))):=(Keep.refl (·=b) w3).setCell (p:=⟨b,0,none⟩) rfl _
 have h4:=h3.past hr3 (by omega) hk4 (.inr rfl)
 have s0:=(oo K1).size
 have K4:Hid (Keep (fun b=>¬F b) w (w3.setCell ⟨b,0,none⟩ (.int .u8 4))):=((oo K1).trans ((k2.trans k3).mono fun _ _ h=>h.elim)).trans (hk4.mono fun x _ e h=>by have:=hF x h;omega)
 have H4:Hid (St _ _ _):=h4
 have R4:Hid (Rwb (w3.setCell ⟨b,0,none⟩ (.int .u8 4)) b 65 _):=hr4
 have HB:Hid (¬F b):=show ¬F b from fun h=>by have:=hF b h;omega
 clear hz hr3 hr4 hF s1 s3 h3 hk4 h4 s0 k2 k3 hb
 go_wp2_with fail
 refine(fill_any _ _ L (oo H4) p1 x hx b 1 32 64 65 _ (oo R4) (.inr rfl) (by omega) (by omega) (by omega) HX.out 384 sx (by omega)).mono ?_
 rintro e w5 ⟨c5',rfl,h5,r5,k5,o5,i5⟩
 have H5:Hid (St (fun x=>F x∨x=b) w5 L):=h5
 have R5:Hid (Rwb w5 b 65 c5'):=r5
 have K5:Hid (Keep (fun b=>¬F b) w w5):=(oo K4).trans (k5.mono fun x _ e h=>HB.out (e▸h))
 have O5:Hid _:=o5
 have I5:Hid _:=i5
 clear h5 r5 k5 o5 i5 y0 f0 c5 hrun
 go_wp2_with fail
 refine(fill_any _ _ L (oo H5) p2 y hy b 33 32 32 65 _ (oo R5) (.inr rfl) (by omega) (by omega) (by omega) HY.out 384 sy (by omega)).mono ?_
 rintro e w6 ⟨c6,rfl,h6,r6,k6,o6,i6⟩
 have HALL:Hid (Rwb w6 b 65 c6∧c6 0=4∧(∀j,j<32→c6 (1+j)=byt x.natAbs (32-1-j))∧(∀j,j<32→c6 (1+32+j)=byt y.natAbs (32-1-j))∧Keep (fun b=>¬F b) w w6):=by
  refine⟨r6,?_,fun j hj=>?_,fun j hj=>i6 j hj,(oo K5).trans (k6.mono fun x _ e h=>HB.out (e▸h))⟩
  ·rw [o6 0 (by omega),(oo O5) 0 (by omega)]
   rfl
  ·rw [o6 (1+j) (by omega),(oo I5) j hj]
 clear h6 r6 k6 o6 i6
 go_wp2_with fail
 go_ret
 exact⟨_,_,rfl,oo HALL⟩
theorem mar100_32 (F:Nat→Prop) (w:World) (L:List (Nat×E)) (q p1 p2:Nat) (x y:Int) (hx:(p1,ofI x)∈L) (hy:(p2,ofI y)∈L) (hX:x.natAbs<256^32) (hY:y.natAbs<256^32) (sx:Sz 384 x) (sy:Sz 384 y)
  (hOn:Calls Tryz.prog 34 #[.iface 100 (pt q),pt p1,pt p2] w fun e w'=>e = .returned (.tuple #[])∧St F w' L∧Keep (fun b=>¬F b) w w')
  (hPar:∀w1,Keep (fun b=>¬F b) w w1→Calls Tryz.prog 225 #[pt q] w1 fun e w2=>∃pr,e = .returned (pt pr)∧w2.cell? ⟨pr,5,none⟩=some (.int .i64 256)∧Keep Nope w1 w2) :
  Calls Tryz.prog 25 #[.iface 100 (pt q),pt p1,pt p2] w fun e w'=>∃b c,e = .returned (.slice (some ⟨b,0,none⟩) 65 65)∧Rwb w' b 65 c∧c 0=4∧(∀j,j<32→c (1+j)=byt x.natAbs (32-1-j))∧(∀j,j<32→c (1+32+j)=byt y.natAbs (32-1-j))∧Keep (fun b=>¬F b) w w':=by
 have HX:Hid _:=hX
 have HY:Hid _:=hY
 have HO:Hid _:=hOn
 have HP:Hid _:=hPar
 clear hX hY hOn hPar
 go_enter Tryz.func25,Tryz.ntmps25
 go_wp2_with fail
 refine Calls.mono (oo HO) ?_
 rintro e w1 ⟨rfl,h1,k1⟩
 have H1:Hid (St F w1 L):=h1
 have K1:Hid _:=k1
 clear h1 k1
 go_wp2_with fail
 refine Calls.mono ((oo HP) w1 (oo K1)) ?_
 rintro e w2 ⟨pr,rfl,c5,k2⟩
 obtain⟨b,w3,hrun,hb,hz,k3⟩:=run_make_u8 23 Tryz.underlying23 w2 65 65 (by omega) (by omega) .i64 .i64
 replace hrun:(Instr.makeSlice 23 (.int .i64 65) (.int .i64 65)).run Tryz.prog w2 = .ok (.slice (some ⟨b,0,none⟩) 65 65) w3:=hrun
 have hr3:=hz.rwb
 have y0:=hr3.cell (i:=0) (by omega)
 have f0:=hr3.frozen 0
 have hr4:=hr3.set 0 4 (by omega)
 have hF:∀x,F x→x<w1.heap.size:=fun x hx=>(oo H1).base.lt x hx
 have s1:=k2.size
 have s3:=hr3.inHeap
 have h3:St (fun x=>F x∨x=b) w3 L:=(oo H1).wide (k2.trans k3) (fun _ h=>.inl h) (fun x h=>by
  rcases h with h | h
  ·exact .inl h
  ·subst h;exact .inr ⟨by omega,s3⟩)
 have hk4:Keep (·=b) w3 (w3.setCell ⟨b,0,none⟩ (.int .u8 (4:Nat))):=(Keep.refl (·=b) w3).setCell (p:=⟨b,0,none⟩) rfl _
 have h4:=h3.past hr3 (by omega) hk4 (.inr rfl)
 have s0:=(oo K1).size
 have K4:Hid (Keep (fun b=>¬F b) w (w3.setCell ⟨b,0,none⟩ (.int .u8 4))):=((oo K1).trans ((k2.trans k3).mono fun _ _ h=>h.elim)).trans (hk4.mono fun x _ e h=>by have:=hF x h;omega)
 have H4:Hid (St _ _ _):=h4
 have R4:Hid (Rwb (w3.setCell ⟨b,0,none⟩ (.int .u8 4)) b 65 _):=hr4
 have HB:Hid (¬F b):=show ¬F b from fun h=>by have:=hF b h;omega
 clear hz hr3 hr4 hF s1 s3 h3 hk4 h4 s0 k2 k3 hb
 go_wp2_with fail
 refine(fill_any _ _ L (oo H4) p1 x hx b 1 32 64 65 _ (oo R4) (.inr rfl) (by omega) (by omega) (by omega) HX.out 384 sx (by omega)).mono ?_
 rintro e w5 ⟨c5',rfl,h5,r5,k5,o5,i5⟩
 have H5:Hid (St (fun x=>F x∨x=b) w5 L):=h5
 have R5:Hid (Rwb w5 b 65 c5'):=r5
 have K5:Hid (Keep (fun b=>¬F b) w w5):=(oo K4).trans (k5.mono fun x _ e h=>HB.out (e▸h))
 have O5:Hid _:=o5
 have I5:Hid _:=i5
 clear h5 r5 k5 o5 i5 y0 f0 c5 hrun
 go_wp2_with fail
 refine(fill_any _ _ L (oo H5) p2 y hy b 33 32 32 65 _ (oo R5) (.inr rfl) (by omega) (by omega) (by omega) HY.out 384 sy (by omega)).mono ?_
 rintro e w6 ⟨c6,rfl,h6,r6,k6,o6,i6⟩
 have HALL:Hid (Rwb w6 b 65 c6∧c6 0=4∧(∀j,j<32→c6 (1+j)=byt x.natAbs (32-1-j))∧(∀j,j<32→c6 (1+32+j)=byt y.natAbs (32-1-j))∧Keep (fun b=>¬F b) w w6):=by
  refine⟨r6,?_,fun j hj=>?_,fun j hj=>i6 j hj,(oo K5).trans (k6.mono fun x _ e h=>HB.out (e▸h))⟩
  ·rw [o6 0 (by omega),(oo O5) 0 (by omega)]
   rfl
  ·rw [o6 (1+j) (by omega),(oo I5) j hj]
 clear h6 r6 k6 o6 i6
 go_wp2_with fail
 go_ret
 exact⟨_,_,rfl,oo HALL⟩
theorem mar100_48 (F:Nat→Prop) (w:World) (L:List (Nat×E)) (q p1 p2:Nat) (x y:Int) (hx:(p1,ofI x)∈L) (hy:(p2,ofI y)∈L) (hX:x.natAbs<256^48) (hY:y.natAbs<256^48) (sx:Sz 384 x) (sy:Sz 384 y)
  (hOn:Calls Tryz.prog 34 #[.iface 100 (pt q),pt p1,pt p2] w fun e w'=>e = .returned (.tuple #[])∧St F w' L∧Keep (fun b=>¬F b) w w')
  (hPar:∀w1,Keep (fun b=>¬F b) w w1→Calls Tryz.prog 225 #[pt q] w1 fun e w2=>∃pr,e = .returned (pt pr)∧w2.cell? ⟨pr,5,none⟩=some (.int .i64 384)∧Keep Nope w1 w2) :
  Calls Tryz.prog 25 #[.iface 100 (pt q),pt p1,pt p2] w fun e w'=>∃b c,e = .returned (.slice (some ⟨b,0,none⟩) 97 97)∧Rwb w' b 97 c∧c 0=4∧(∀j,j<48→c (1+j)=byt x.natAbs (48-1-j))∧(∀j,j<48→c (1+48+j)=byt y.natAbs (48-1-j))∧Keep (fun b=>¬F b) w w':=by
 have HX:Hid _:=hX
 have HY:Hid _:=hY
 have HO:Hid _:=hOn
 have HP:Hid _:=hPar
 clear hX hY hOn hPar
 go_enter Tryz.func25,Tryz.ntmps25
 go_wp2_with fail
 refine Calls.mono (oo HO) ?_
 rintro e w1 ⟨rfl,h1,k1⟩
 have H1:Hid (St F w1 L):=h1
 have K1:Hid _:=k1
 clear h1 k1
 go_wp2_with fail
 refine Calls.mono ((oo HP) w1 (oo K1)) ?_
 rintro e w2 ⟨pr,rfl,c5,k2⟩
 obtain⟨b,w3,hrun,hb,hz,k3⟩:=run_make_u8 23 Tryz.underlying23 w2 97 97 (by omega) (by omega) .i64 .i64
 replace hrun:(Instr.makeSlice 23 (.int .i64 97) (.int .i64 97)).run Tryz.prog w2 = .ok (.slice (some ⟨b,0,none⟩) 97 97) w3:=hrun
 have hr3:=hz.rwb
 have y0:=hr3.cell (i:=0) (by omega)
 have f0:=hr3.frozen 0
 have hr4:=hr3.set 0 4 (by omega)
 have hF:∀x,F x→x<w1.heap.size:=fun x hx=>(oo H1).base.lt x hx
 have s1:=k2.size
 have s3:=hr3.inHeap
 have h3:St (fun x=>F x∨x=b) w3 L:=(oo H1).wide (k2.trans k3) (fun _ h=>.inl h) (fun x h=>by
  rcases h with h | h
  ·exact .inl h
  ·subst h;exact .inr ⟨by omega,s3⟩)
 have hk4:Keep (·=b) w3 (w3.setCell ⟨b,0,none⟩ (.int .u8 (4:Nat))):=(Keep.refl (·=b) w3).setCell (p:=⟨b,0,none⟩) rfl _
 have h4:=h3.past hr3 (by omega) hk4 (.inr rfl)
 have s0:=(oo K1).size
 have K4:Hid (Keep (fun b=>¬F b) w (w3.setCell ⟨b,0,none⟩ (.int .u8 4))):=((oo K1).trans ((k2.trans k3).mono fun _ _ h=>h.elim)).trans (hk4.mono fun x _ e h=>by have:=hF x h;omega)
 have H4:Hid (St _ _ _):=h4
 have R4:Hid (Rwb (w3.setCell ⟨b,0,none⟩ (.int .u8 4)) b 97 _):=hr4
 have HB:Hid (¬F b):=show ¬F b from fun h=>by have:=hF b h;omega
 clear hz hr3 hr4 hF s1 s3 h3 hk4 h4 s0 k2 k3 hb
 go_wp2_with fail
 refine(fill_any _ _ L (oo H4) p1 x hx b 1 48 96 97 _ (oo R4) (.inr rfl) (by omega) (by omega) (by omega) HX.out 384 sx (by omega)).mono ?_
 rintro e w5 ⟨c5',rfl,h5,r5,k5,o5,i5⟩
 have H5:Hid (St (fun x=>F x∨x=b) w5 L):=h5
 have R5:Hid (Rwb w5 b 97 c5'):=r5
 have K5:Hid (Keep (fun b=>¬F b) w w5):=(oo K4).trans (k5.mono fun x _ e h=>HB.out (e▸h))
 have O5:Hid _:=o5
 have I5:Hid _:=i5
 clear h5 r5 k5 o5 i5 y0 f0 c5 hrun
 go_wp2_with fail
 refine(fill_any _ _ L (oo H5) p2 y hy b 49 48 48 97 _ (oo R5) (.inr rfl) (by omega) (by omega) (by omega) HY.out 384 sy (by omega)).mono ?_
 rintro e w6 ⟨c6,rfl,h6,r6,k6,o6,i6⟩
 have HALL:Hid (Rwb w6 b 97 c6∧c6 0=4∧(∀j,j<48→c6 (1+j)=byt x.natAbs (48-1-j))∧(∀j,j<48→c6 (1+48+j)=byt y.natAbs (48-1-j))∧Keep (fun b=>¬F b) w w6):=by
  refine⟨r6,?_,fun j hj=>?_,fun j hj=>i6 j hj,(oo K5).trans (k6.mono fun x _ e h=>HB.out (e▸h))⟩
  ·rw [o6 0 (by omega),(oo O5) 0 (by omega)]
   rfl
  ·rw [o6 (1+j) (by omega),(oo I5) j hj]
 clear h6 r6 k6 o6 i6
 go_wp2_with fail
 go_ret
 exact⟨_,_,rfl,oo HALL⟩
end Go.Proofs.YtofkehhflkdabaaGreatDoor
