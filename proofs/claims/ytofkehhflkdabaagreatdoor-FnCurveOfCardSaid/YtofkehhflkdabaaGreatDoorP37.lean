/- A part of the proof of FnCurveOf. -/
import Derived.Test.YtofkehhflkdabaaGreatDoorP36
set_option maxRecDepth 100000
set_option maxHeartbeats 8000000
namespace Go.Proofs.YtofkehhflkdabaaGreatDoor
open Go Go.RowKit
theorem ellAddZ_any (F:Nat→Prop) (w:World) (L:List (Nat×E)) (h:St F w L) (pc pP p1 p2 p3 p4 p5 p6:Nat) (x1 y1 z1 x2 y2:Int) (p:Nat) [NeZero p] (hx1:(p1,ofI x1)∈L) (hy1:(p2,ofI y1)∈L) (hz1:(p3,ofI z1)∈L) (_hx2:(p4,ofI x2)∈L) (_hy2:(p5,ofI y2)∈L) (hz2:(p6,ofI 0)∈L) (_hP:(pP,ofI (p:Int))∈L)
  (cP0:w.cell? ⟨pc,0,none⟩=some (pt pP)) (hFc:F pc) (sx1:Sz 384 x1) (sy1:Sz 384 y1) (sz1:Sz 384 z1) (_sx2:Sz 384 x2) (_sy2:Sz 384 y2) (_sz2:Sz 0 (0:Int)) (_sP:Sz 384 (p:Int)) (bz1:0<z1∧z1<p) :
  Calls Tryz.prog 210 #[pt pc,pt p1,pt p2,pt p3,pt p4,pt p5,pt p6] w fun e w'=>∃(a b c:Nat),e = .returned (.tuple #[pt a,pt b,pt c])∧St F w' ((a,ofI x1)::(b,ofI y1)::(c,ofI z1)::L)∧Keep (fun b=>¬F b) w w':=by
 have hP0:(0:Int)<(p:Int):=by have:=NeZero.ne p;omega
 go_enter Tryz.func210,Tryz.ntmps210
 have cP:=cP0
 go_wp2_with fail
 have h1:=(St.alloc (St.alloc (St.alloc h 85) 85) 85)
 have k1:Keep (fun b=>¬F b) w (((w.alloc iz).alloc iz).alloc iz):=((((Keep.refl (fun b=>¬F b) w).alloc iz).alloc iz).alloc iz)
 have cP':(((w.alloc iz).alloc iz).alloc iz).cell? ⟨pc,0,none⟩=some (pt pP):=k1.cell cP0 (fun h=>h hFc)
 have hsz:∀(w:World) (o:Obj),(w.alloc o).heap.size=w.heap.size+1:=fun w o=>Array.size_push _
 simp only [hsz] at h1
 clear hsz
 generalize hwa:(((w.alloc iz).alloc iz).alloc iz)=w1 at *
 clear hwa
 generalize w.heap.size+1+1=q1_2 at *
 generalize w.heap.size+1=q1_1 at *
 generalize w.heap.size=q1_0 at *
 clear cP
 have cP:=cP'
 clear cP'
 have H1:Hid _:=h1
 have K1:Hid _:=k1
 clear h1 k1
 refine(sign_any F w1 _ (oo H1) p3 z1 (tl3 hz1)).mono ?_
 rintro e ws ⟨rfl,hws⟩
 rw [hws]
 clear hws ws
 obtain⟨sa,hsa⟩:∃u,sgn z1=u:=⟨_,rfl⟩
 rw [hsa]
 have Hsa:Hid _:=hsa
 clear hsa
 obtain rfl:sa=1:=by rw [← oo Hsa,sgn,if_neg (by omega),if_neg (by omega)]
 clear Hsa
 go_wp2_with fail
 refine(sign_any F w1 _ (oo H1) p6 0 (tl3 hz2)).mono ?_
 rintro e ws ⟨rfl,hws⟩
 rw [hws]
 clear hws ws
 obtain⟨sb,hsb⟩:∃u,sgn 0=u:=⟨_,rfl⟩
 rw [hsb]
 have Hsb:Hid _:=hsb
 clear hsb
 obtain rfl:sb=0:=by rw [← oo Hsb];rfl
 clear Hsb
 go_wp2_with fail
 refine(intSet_any F w1 _ (oo H1) 2 q1_0 p1 _ x1 rfl (tl3 hx1) 384 (by omega)).mono ?_
 rintro e w2 ⟨rfl,h2,k2⟩
 have K2:=hh ((oo K1).trans k2)
 have cP:=(oo K2).cell cP0 (fun h=>h hFc)
 simp only [Ls0,Ls1] at h2
 have H2:Hid _:=h2
 clear h2 k2 H1 K1
 go_wp2_with fail
 refine(intSet_any F w2 _ (oo H2) 1 q1_1 p2 _ y1 rfl (tl3 hy1) 384 (by omega)).mono ?_
 rintro e w3 ⟨rfl,h3,k3⟩
 have K3:=hh ((oo K2).trans k3)
 have cP:=(oo K3).cell cP0 (fun h=>h hFc)
 simp only [Ls0,Ls1] at h3
 have H3:Hid _:=h3
 clear h3 k3 H2 K2
 go_wp2_with fail
 refine(intSet_any F w3 _ (oo H3) 0 q1_2 p3 _ z1 rfl (tl3 hz1) 384 (by omega)).mono ?_
 rintro e w4 ⟨rfl,h4,k4⟩
 have K4:=hh ((oo K3).trans k4)
 have cP:=(oo K4).cell cP0 (fun h=>h hFc)
 simp only [Ls0] at h4
 have H4:Hid _:=h4
 clear h4 k4 H3 K3
 go_wp2_with fail
 go_ret3
 exact⟨q1_0,q1_1,q1_2,rfl,St.pre (P:=[_,_,_]) (oo H4) [_,_,_] [2,1,0] (by decide) 3 rfl (by decide) rfl,oo K4⟩
theorem ellAffine_any (F:Nat→Prop) (w:World) (L:List (Nat×E)) (h:St F w L) (pc pP p1 p2 p3:Nat) (x y:Int) (z p:Nat) [NeZero p] (hx:(p1,ofI x)∈L) (hy:(p2,ofI y)∈L) (hz:(p3,ofI (z:Int))∈L) (hP:(pP,ofI (p:Int))∈L)
  (cP0:w.cell? ⟨pc,0,none⟩=some (pt pP)) (hFc:F pc) (sx:Sz 384 x) (sy:Sz 384 y) (_sz:Sz 384 (z:Int)) (sP:Sz 384 (p:Int)) (hz0:0<z) (hzp:z<p) (hone:∃m n:Int,m*p+n*z=1) :
  Calls Tryz.prog 211 #[pt pc,pt p1,pt p2,pt p3] w fun e w'=>∃(a b:Nat) (X Y:Int),e = .returned (.tuple #[pt a,pt b])∧St F w' ((a,ofI X)::(b,ofI Y)::L)∧Keep (fun b=>¬F b) w w' ∧
   (∃i:Fin p,Ec.fi p z*i=1∧Ec.fi p X=Ec.fi p x*(i*i)∧Ec.fi p Y=Ec.fi p y*(i*i*i))∧Sz 384 X∧Sz 384 Y∧(0≤X∧X<p)∧(0≤Y∧Y<p):=by
 have hP0:(0:Int)<(p:Int):=by have:=NeZero.ne p;omega
 go_enter Tryz.func211,Tryz.ntmps211
 have cP:=cP0
 go_wp2_with fail
 refine(sign_any F w _ h p3 z hz).mono ?_
 rintro e ws ⟨rfl,hws⟩
 rw [hws]
 clear hws ws
 have ts:sgn (z:Int)=1:=by rw [sgn,if_neg (by omega),if_neg (by omega)]
 rw [ts]
 clear ts
 have cPa:(w.alloc iz).cell? ⟨pc,0,none⟩=some (pt pP):=((Keep.refl (fun b=>¬F b) w).alloc iz).cell cP0 (fun h=>h hFc)
 go_wp2_with fail
 have h1:=h.alloc 85
 have k1:Keep (fun b=>¬F b) w _:=((Keep.refl _ w).alloc iz)
 have cP':=k1.cell cP0 (fun h=>h hFc)
 generalize hwa:w.alloc iz=w1 at *
 clear hwa
 generalize w.heap.size=q1 at *
 clear cP
 have cP:=cP'
 clear cP'
 have H1:Hid _:=h1
 have K1:Hid _:=k1
 clear h1 k1
 refine(modInverse_any F w1 _ (oo H1) 0 q1 p3 pP _ z p rfl (.tail _ hz) (.tail _ hP) hz0 hzp hone (sP.mono (by omega))).mono ?_
 rintro e w2 ⟨v2,e2,b2,rfl,h2,k2⟩
 have zs2:Sz 384 v2:=⟨by have h1:=sP.lt;rw [Int.natAbs_natCast] at h1;omega⟩
 have E2:Hid _:=e2
 clear b2 e2
 have K2:=hh ((oo K1).trans k2)
 have cP:=(oo K2).cell cP0 (fun h=>h hFc)
 simp only [Ls0] at h2
 have H2:Hid _:=h2
 clear h2 k2 H1 K1
 go_wp2_with fail
 have h3:=St.alloc (oo H2) 85
 have k3:Keep (fun b=>¬F b) w _:=((oo K2).alloc iz)
 have cP':=k3.cell cP0 (fun h=>h hFc)
 generalize hwa:w2.alloc iz=w3 at *
 clear hwa
 generalize w2.heap.size=q3 at *
 clear cP
 have cP:=cP'
 clear cP'
 have H3:Hid _:=h3
 have K3:Hid _:=k3
 clear h3 k3 H2 K2
 refine(intMul_any F w3 _ (oo H3) 0 q3 q1 q1 _ v2 v2 rfl (.tail _ (.head _)) (.tail _ (.head _)) 384 384 (by omega) (by omega)).mono ?_
 rintro e w4 ⟨v4,e4,zs4,rfl,h4,k4⟩
 have zs4:Sz 768 v4:=zs4.mono (by omega)
 have K4:=hh ((oo K3).trans k4)
 have cP:=(oo K4).cell cP0 (fun h=>h hFc)
 simp only [Ls0] at h4
 have H4:Hid _:=h4
 clear h4 k4 H3 K3
 go_wp2_with fail
 have h5:=St.alloc (oo H4) 85
 have k5:Keep (fun b=>¬F b) w _:=((oo K4).alloc iz)
 have cP':=k5.cell cP0 (fun h=>h hFc)
 generalize hwa:w4.alloc iz=w5 at *
 clear hwa
 generalize w4.heap.size=q5 at *
 clear cP
 have cP:=cP'
 clear cP'
 have H5:Hid _:=h5
 have K5:Hid _:=k5
 clear h5 k5 H4 K4
 refine(intMul_any F w5 _ (oo H5) 0 q5 p1 q3 _ x v4 rfl (tl3 hx) (.tail _ (.head _)) 384 768 (by omega) (by omega)).mono ?_
 rintro e w6 ⟨v6,e6,zs6,rfl,h6,k6⟩
 have zs6:Sz 1152 v6:=zs6.mono (by omega)
 have K6:=hh ((oo K5).trans k6)
 have cP:=(oo K6).cell cP0 (fun h=>h hFc)
 simp only [Ls0] at h6
 have H6:Hid _:=h6
 clear h6 k6 H5 K5
 go_wp2_with fail
 refine(intMod_any F w6 _ (oo H6) 0 q5 q5 pP _ v6 (p:Int) rfl (.head _) (tl3 hP) (St.neTail (oo H6) (i:=0) (k:=3) rfl (by decide) hP) 1152 384 (by omega) (by omega) hP0).mono ?_
 rintro e w7 ⟨v7,e7,zs7,rfl,h7,k7⟩
 have zs7:Sz 384 v7:=zs7.mono (by omega)
 have K7:=hh ((oo K6).trans k7)
 have cP:=(oo K7).cell cP0 (fun h=>h hFc)
 simp only [Ls0] at h7
 have H7:Hid _:=h7
 clear h7 k7 H6 K6
 go_wp2_with fail
 refine(intMulNe_any F w7 _ (oo H7) 1 q3 q3 q1 _ v4 v2 rfl (.tail _ (.head _)) (tl2 (.head _)) (St.ne01 (oo H7) (i:=1) (j:=2) rfl rfl (by decide)) 768 384 (by omega) (by omega)).mono ?_
 rintro e w8 ⟨v8,e8,zs8,rfl,h8,k8⟩
 have zs8:Sz 1152 v8:=zs8.mono (by omega)
 have K8:=hh ((oo K7).trans k8)
 have cP:=(oo K8).cell cP0 (fun h=>h hFc)
 simp only [Ls0,Ls1] at h8
 have H8:Hid _:=h8
 clear h8 k8 H7 K7
 go_wp2_with fail
 have h9:=St.alloc (oo H8) 85
 have k9:Keep (fun b=>¬F b) w _:=((oo K8).alloc iz)
 have cP':=k9.cell cP0 (fun h=>h hFc)
 generalize hwa:w8.alloc iz=w9 at *
 clear hwa
 generalize w8.heap.size=q9 at *
 clear cP
 have cP:=cP'
 clear cP'
 have H9:Hid _:=h9
 have K9:Hid _:=k9
 clear h9 k9 H8 K8
 refine(intMul_any F w9 _ (oo H9) 0 q9 p2 q3 _ y v8 rfl (tl4 hy) (tl2 (.head _)) 384 1152 (by omega) (by omega)).mono ?_
 rintro e w10 ⟨v10,e10,zs10,rfl,h10,k10⟩
 have zs10:Sz 1536 v10:=zs10.mono (by omega)
 have K10:=hh ((oo K9).trans k10)
 have cP:=(oo K10).cell cP0 (fun h=>h hFc)
 simp only [Ls0] at h10
 have H10:Hid _:=h10
 clear h10 k10 H9 K9
 go_wp2_with fail
 refine(intMod_any F w10 _ (oo H10) 0 q9 q9 pP _ v10 (p:Int) rfl (.head _) (tl4 hP) (St.neTail (oo H10) (i:=0) (k:=4) rfl (by decide) hP) 1536 384 (by omega) (by omega) hP0).mono ?_
 rintro e w11 ⟨v11,e11,zs11,rfl,h11,k11⟩
 have zs11:Sz 384 v11:=zs11.mono (by omega)
 have K11:=hh ((oo K10).trans k11)
 have cP:=(oo K11).cell cP0 (fun h=>h hFc)
 simp only [Ls0] at h11
 have H11:Hid _:=h11
 clear h11 k11 H10 K10
 go_wp2_with fail
 go_ret2
 refine⟨q5,q9,v7,v11,rfl,St.pre (P:=[_,_,_,_]) (oo H11) [_,_] [1,0] (by decide) 4 rfl (by decide) rfl,oo K11,?_,inferInstance,inferInstance,⟨by rw [oo e7];exact Int.emod_nonneg _ (by omega),by rw [oo e7];exact Int.emod_lt_of_pos _ hP0⟩,⟨by rw [oo e11];exact Int.emod_nonneg _ (by omega),by rw [oo e11];exact Int.emod_lt_of_pos _ hP0⟩⟩
 have f4:=congrArg (Ec.fi p) (oo e4)
 rw [Ec.fi_mul] at f4
 have f6:=congrArg (Ec.fi p) (oo e6)
 rw [Ec.fi_mul] at f6
 have f7:=congrArg (Ec.fi p) (oo e7)
 rw [Ec.fi_mod] at f7
 have f8:=congrArg (Ec.fi p) (oo e8)
 rw [Ec.fi_mul] at f8
 have f10:=congrArg (Ec.fi p) (oo e10)
 rw [Ec.fi_mul] at f10
 have f11:=congrArg (Ec.fi p) (oo e11)
 rw [Ec.fi_mod] at f11
 refine⟨Ec.fi p v2,?_,?_,?_⟩
 ·obtain⟨t,ht⟩:=oo E2
  have h1:=congrArg (Ec.fi p) ht
  rw [Ec.fi_mul,Ec.fi_add,Ec.fi_mul,Ec.fi_p,Ec.fi_one] at h1
  clear f4 f6 f7 f8 f10 f11 ht
  grind
 ·simp only [f4,f6,f7]
 ·simp only [f4,f8,f10,f11]
theorem bitAffine_any (F:Nat→Prop) (w:World) (L:List (Nat×E)) (h:St F w L) (pc pP p1 p2 p3:Nat) (x y:Int) (z p:Nat) [NeZero p] (hx:(p1,ofI x)∈L) (hy:(p2,ofI y)∈L) (hz:(p3,ofI (z:Int))∈L) (hP:(pP,ofI (p:Int))∈L)
  (cP0:w.cell? ⟨pc,1,none⟩=some (pt pP)) (hFc:F pc) (sx:Sz 256 x) (sy:Sz 256 y) (sz:Sz 256 (z:Int)) (sP:Sz 256 (p:Int)) (hz0:0<z) (hzp:z<p) (hone:∃m n:Int,m*p+n*z=1) :
  Calls Tryz.prog 221 #[pt pc,pt p1,pt p2,pt p3] w fun e w'=>∃(a b:Nat) (X Y:Int),e = .returned (.tuple #[pt a,pt b])∧St F w' ((a,ofI X)::(b,ofI Y)::L)∧Keep (fun b=>¬F b) w w' ∧
   (∃i:Fin p,Ec.fi p z*i=1∧Ec.fi p X=Ec.fi p x*(i*i)∧Ec.fi p Y=Ec.fi p y*(i*i*i))∧Sz 256 X∧Sz 256 Y∧(0≤X∧X<p)∧(0≤Y∧Y<p):=by
 have hP0:(0:Int)<(p:Int):=by have:=NeZero.ne p;omega
 go_enter Tryz.func221,Tryz.ntmps221
 have cP:=cP0
 go_wp2_with fail
 refine(newZero_any F w _ h).mono ?_
 rintro e w1 ⟨q1,rfl,h1,k1⟩
 have K1:Hid (Keep (fun b=>¬F b) w w1):=k1.mono fun _ _ h=>h.elim
 have cP:=(oo K1).cell cP0 (fun h=>h hFc)
 have H1:Hid _:=h1
 clear h1 k1
 have s0:Sz 0 (0:Int):=⟨by decide⟩
 go_wp2_with fail
 refine(intCmp_any F w1 _ (oo H1) p3 q1 z 0 (.tail _ hz) (.head _) 256 0 (by omega) (by omega)).mono ?_
 rintro e w2 ⟨rfl,k2⟩
 have tc:cmpI (z:Int) 0=1:=by rw [cmpI,if_neg (by omega),if_pos (by omega)]
 rw [tc]
 have H2:Hid _:=St.keep (oo H1) k2
 have K2:Hid (Keep (fun b=>¬F b) w w2):=(oo K1).trans (k2.mono fun _ _ h=>h.elim)
 have cP:=(oo K2).cell cP0 (fun h=>h hFc)
 clear k2 H1 K1 tc s0
 have cPa:(w2.alloc iz).cell? ⟨pc,1,none⟩=some (pt pP):=((oo K2).alloc iz).cell cP0 (fun h=>h hFc)
 go_wp2_with fail
 have h3:=St.alloc (oo H2) 85
 have k3:Keep (fun b=>¬F b) w _:=((oo K2).alloc iz)
 have cP':=k3.cell cP0 (fun h=>h hFc)
 generalize hwa:w2.alloc iz=w3 at *
 clear hwa
 generalize w2.heap.size=q3 at *
 clear cP
 have cP:=cP'
 clear cP'
 have H3:Hid _:=h3
 have K3:Hid _:=k3
 clear h3 k3 H2 K2
 refine(modInverse_any F w3 _ (oo H3) 0 q3 p3 pP _ z p rfl (tl2 hz) (tl2 hP) hz0 hzp hone (sP.mono (by omega))).mono ?_
 rintro e w4 ⟨v4,e4,b4,rfl,h4,k4⟩
 have zs4:Sz 256 v4:=⟨by have h1:=sP.lt;rw [Int.natAbs_natCast] at h1;omega⟩
 have E4:Hid _:=e4
 clear b4 e4
 have K4:=hh ((oo K3).trans k4)
 have cP:=(oo K4).cell cP0 (fun h=>h hFc)
 simp only [Ls0] at h4
 have H4:Hid _:=h4
 clear h4 k4 H3 K3
 go_wp2_with fail
 have h5:=St.alloc (oo H4) 85
 have k5:Keep (fun b=>¬F b) w _:=((oo K4).alloc iz)
 have cP':=k5.cell cP0 (fun h=>h hFc)
 generalize hwa:w4.alloc iz=w5 at *
 clear hwa
 generalize w4.heap.size=q5 at *
 clear cP
 have cP:=cP'
 clear cP'
 have H5:Hid _:=h5
 have K5:Hid _:=k5
 clear h5 k5 H4 K4
 refine(intMul_any F w5 _ (oo H5) 0 q5 q3 q3 _ v4 v4 rfl (.tail _ (.head _)) (.tail _ (.head _)) 256 256 (by omega) (by omega)).mono ?_
 rintro e w6 ⟨v6,e6,zs6,rfl,h6,k6⟩
 have zs6:Sz 512 v6:=zs6.mono (by omega)
 have K6:=hh ((oo K5).trans k6)
 have cP:=(oo K6).cell cP0 (fun h=>h hFc)
 simp only [Ls0] at h6
 have H6:Hid _:=h6
 clear h6 k6 H5 K5
 go_wp2_with fail
 have h7:=St.alloc (oo H6) 85
 have k7:Keep (fun b=>¬F b) w _:=((oo K6).alloc iz)
 have cP':=k7.cell cP0 (fun h=>h hFc)
 generalize hwa:w6.alloc iz=w7 at *
 clear hwa
 generalize w6.heap.size=q7 at *
 clear cP
 have cP:=cP'
 clear cP'
 have H7:Hid _:=h7
 have K7:Hid _:=k7
 clear h7 k7 H6 K6
 refine(intMul_any F w7 _ (oo H7) 0 q7 p1 q5 _ x v6 rfl (tl4 hx) (.tail _ (.head _)) 256 512 (by omega) (by omega)).mono ?_
 rintro e w8 ⟨v8,e8,zs8,rfl,h8,k8⟩
 have zs8:Sz 768 v8:=zs8.mono (by omega)
 have K8:=hh ((oo K7).trans k8)
 have cP:=(oo K8).cell cP0 (fun h=>h hFc)
 simp only [Ls0] at h8
 have H8:Hid _:=h8
 clear h8 k8 H7 K7
 go_wp2_with fail
 refine(intMod_any F w8 _ (oo H8) 0 q7 q7 pP _ v8 (p:Int) rfl (.head _) (tl4 hP) (St.neTail (oo H8) (i:=0) (k:=4) rfl (by decide) hP) 768 256 (by omega) (by omega) hP0).mono ?_
 rintro e w9 ⟨v9,e9,zs9,rfl,h9,k9⟩
 have zs9:Sz 256 v9:=zs9.mono (by omega)
 have K9:=hh ((oo K8).trans k9)
 have cP:=(oo K9).cell cP0 (fun h=>h hFc)
 simp only [Ls0] at h9
 have H9:Hid _:=h9
 clear h9 k9 H8 K8
 go_wp2_with fail
 refine(intMul_any F w9 _ (oo H9) 1 q5 q5 q3 _ v6 v4 rfl (.tail _ (.head _)) (tl2 (.head _)) 512 256 (by omega) (by omega)).mono ?_
 rintro e w10 ⟨v10,e10,zs10,rfl,h10,k10⟩
 have zs10:Sz 768 v10:=zs10.mono (by omega)
 have K10:=hh ((oo K9).trans k10)
 have cP:=(oo K10).cell cP0 (fun h=>h hFc)
 simp only [Ls0,Ls1] at h10
 have H10:Hid _:=h10
 clear h10 k10 H9 K9
 go_wp2_with fail
 have h11:=St.alloc (oo H10) 85
 have k11:Keep (fun b=>¬F b) w _:=((oo K10).alloc iz)
 have cP':=k11.cell cP0 (fun h=>h hFc)
 generalize hwa:w10.alloc iz=w11 at *
 clear hwa
 generalize w10.heap.size=q11 at *
 clear cP
 have cP:=cP'
 clear cP'
 have H11:Hid _:=h11
 have K11:Hid _:=k11
 clear h11 k11 H10 K10
 refine(intMul_any F w11 _ (oo H11) 0 q11 p2 q5 _ y v10 rfl (tl5 hy) (tl2 (.head _)) 256 768 (by omega) (by omega)).mono ?_
 rintro e w12 ⟨v12,e12,zs12,rfl,h12,k12⟩
 have zs12:Sz 1024 v12:=zs12.mono (by omega)
 have K12:=hh ((oo K11).trans k12)
 have cP:=(oo K12).cell cP0 (fun h=>h hFc)
 simp only [Ls0] at h12
 have H12:Hid _:=h12
 clear h12 k12 H11 K11
 go_wp2_with fail
 refine(intMod_any F w12 _ (oo H12) 0 q11 q11 pP _ v12 (p:Int) rfl (.head _) (tl5 hP) (St.neTail (oo H12) (i:=0) (k:=5) rfl (by decide) hP) 1024 256 (by omega) (by omega) hP0).mono ?_
 rintro e w13 ⟨v13,e13,zs13,rfl,h13,k13⟩
 have zs13:Sz 256 v13:=zs13.mono (by omega)
 have K13:=hh ((oo K12).trans k13)
 have cP:=(oo K13).cell cP0 (fun h=>h hFc)
 simp only [Ls0] at h13
 have H13:Hid _:=h13
 clear h13 k13 H12 K12
 go_wp2_with fail
 go_ret2
 refine⟨q7,q11,v9,v13,rfl,St.pre (P:=[_,_,_,_,_]) (oo H13) [_,_] [1,0] (by decide) 5 rfl (by decide) rfl,oo K13,?_,inferInstance,inferInstance,⟨by rw [oo e9];exact Int.emod_nonneg _ (by omega),by rw [oo e9];exact Int.emod_lt_of_pos _ hP0⟩,⟨by rw [oo e13];exact Int.emod_nonneg _ (by omega),by rw [oo e13];exact Int.emod_lt_of_pos _ hP0⟩⟩
 have f6:=congrArg (Ec.fi p) (oo e6)
 rw [Ec.fi_mul] at f6
 have f8:=congrArg (Ec.fi p) (oo e8)
 rw [Ec.fi_mul] at f8
 have f9:=congrArg (Ec.fi p) (oo e9)
 rw [Ec.fi_mod] at f9
 have f10:=congrArg (Ec.fi p) (oo e10)
 rw [Ec.fi_mul] at f10
 have f12:=congrArg (Ec.fi p) (oo e12)
 rw [Ec.fi_mul] at f12
 have f13:=congrArg (Ec.fi p) (oo e13)
 rw [Ec.fi_mod] at f13
 refine⟨Ec.fi p v4,?_,?_,?_⟩
 ·obtain⟨t,ht⟩:=oo E4
  have h1:=congrArg (Ec.fi p) ht
  rw [Ec.fi_mul,Ec.fi_add,Ec.fi_mul,Ec.fi_p,Ec.fi_one] at h1
  clear f6 f8 f9 f10 f12 f13 ht
  grind
 ·simp only [f6,f8,f9]
 ·simp only [f6,f10,f12,f13]
theorem ellPoly_any (F:Nat→Prop) (w:World) (L:List (Nat×E)) (h:St F w L) (pc pP pB p1:Nat) (x b:Int) (p:Nat) [NeZero p] (hx:(p1,ofI x)∈L) (hP:(pP,ofI (p:Int))∈L) (hB:(pB,ofI b)∈L)
  (cP0:w.cell? ⟨pc,0,none⟩=some (pt pP)) (cB0:w.cell? ⟨pc,2,none⟩=some (pt pB)) (hFc:F pc) (sx:Sz 384 x) (sB:Sz 384 b) (sP:Sz 384 (p:Int)) :
  Calls Tryz.prog 208 #[pt pc,pt p1] w fun e w'=>∃(a:Nat) (X:Int),e = .returned (pt a)∧St F w' ((a,ofI X)::L)∧Keep (fun b=>¬F b) w w'∧Hid (X=(x*x*x-3*x+b)%(p:Int)):=by
 have hP0:(0:Int)<(p:Int):=by have:=NeZero.ne p;omega
 go_enter Tryz.func208,Tryz.ntmps208
 have cP:=cP0
 have cB:=cB0
 go_wp2_with fail
 have h1:=h.alloc 85
 have k1:Keep (fun b=>¬F b) w _:=((Keep.refl _ w).alloc iz)
 have cP':=k1.cell cP0 (fun h=>h hFc)
 have cB':=k1.cell cB0 (fun h=>h hFc)
 generalize hwa:w.alloc iz=w1 at *
 clear hwa
 generalize w.heap.size=q1 at *
 clear cP
 have cP:=cP'
 clear cP'
 clear cB
 have cB:=cB'
 clear cB'
 have H1:Hid _:=h1
 have K1:Hid _:=k1
 clear h1 k1
 refine(intMul_any F w1 _ (oo H1) 0 q1 p1 p1 _ x x rfl (.tail _ hx) (.tail _ hx) 384 384 (by omega) (by omega)).mono ?_
 rintro e w2 ⟨v2,e2,zs2,rfl,h2,k2⟩
 have zs2:Sz 768 v2:=zs2.mono (by omega)
 have K2:=hh ((oo K1).trans k2)
 have cP:=(oo K2).cell cP0 (fun h=>h hFc)
 have cB:w2.cell? ⟨pc,2,none⟩=some (pt pB):=(oo K2).cell cB0 (fun h=>h hFc)
 simp only [Ls0] at h2
 have H2:Hid _:=h2
 clear h2 k2 H1 K1
 go_wp2_with fail
 refine(intMulNe_any F w2 _ (oo H2) 0 q1 q1 p1 _ v2 x rfl (.head _) (.tail _ hx) (St.neTail (oo H2) (i:=0) (k:=1) rfl (by decide) hx) 768 384 (by omega) (by omega)).mono ?_
 rintro e w3 ⟨v3,e3,zs3,rfl,h3,k3⟩
 have zs3:Sz 1152 v3:=zs3.mono (by omega)
 have K3:=hh ((oo K2).trans k3)
 have cP:=(oo K3).cell cP0 (fun h=>h hFc)
 have cB:w3.cell? ⟨pc,2,none⟩=some (pt pB):=(oo K3).cell cB0 (fun h=>h hFc)
 simp only [Ls0] at h3
 have H3:Hid _:=h3
 clear h3 k3 H2 K2
 go_wp2_with fail
 have h4:=St.alloc (oo H3) 85
 have k4:Keep (fun b=>¬F b) w _:=((oo K3).alloc iz)
 have cP':=k4.cell cP0 (fun h=>h hFc)
 have cB':=k4.cell cB0 (fun h=>h hFc)
 generalize hwa:w3.alloc iz=w4 at *
 clear hwa
 generalize w3.heap.size=q4 at *
 clear cP
 have cP:=cP'
 clear cP'
 clear cB
 have cB:=cB'
 clear cB'
 have H4:Hid _:=h4
 have K4:Hid _:=k4
 clear h4 k4 H3 K3
 refine(intLsh_any F w4 _ (oo H4) 0 q4 p1 _ x rfl (tl2 hx) 1 384 (by omega) (by omega) (by omega)).mono ?_
 rintro e w5 ⟨v5,e5,zs5,rfl,h5,k5⟩
 have zs5:Sz 385 v5:=zs5.mono (by omega)
 have K5:=hh ((oo K4).trans k5)
 have cP:=(oo K5).cell cP0 (fun h=>h hFc)
 have cB:w5.cell? ⟨pc,2,none⟩=some (pt pB):=(oo K5).cell cB0 (fun h=>h hFc)
 simp only [Ls0] at h5
 have H5:Hid _:=h5
 clear h5 k5 H4 K4
 go_wp2_with fail
 refine(intAdd_any F w5 _ (oo H5) 0 q4 q4 p1 _ v5 x rfl (.head _) (tl2 hx) 385 384 (by omega) (by omega)).mono ?_
 rintro e w6 ⟨v6,e6,zs6,rfl,h6,k6⟩
 have zs6:Sz 386 v6:=zs6.mono (by omega)
 have K6:=hh ((oo K5).trans k6)
 have cP:=(oo K6).cell cP0 (fun h=>h hFc)
 have cB:w6.cell? ⟨pc,2,none⟩=some (pt pB):=(oo K6).cell cB0 (fun h=>h hFc)
 simp only [Ls0] at h6
 have H6:Hid _:=h6
 clear h6 k6 H5 K5
 go_wp2_with fail
 refine(intSub_any F w6 _ (oo H6) 1 q1 q1 q4 _ v3 v6 rfl (.tail _ (.head _)) (.head _) 1152 386 (by omega) (by omega)).mono ?_
 rintro e w7 ⟨v7,e7,zs7,rfl,h7,k7⟩
 have zs7:Sz 1153 v7:=zs7.mono (by omega)
 have K7:=hh ((oo K6).trans k7)
 have cP:=(oo K7).cell cP0 (fun h=>h hFc)
 have cB:w7.cell? ⟨pc,2,none⟩=some (pt pB):=(oo K7).cell cB0 (fun h=>h hFc)
 simp only [Ls0,Ls1] at h7
 have H7:Hid _:=h7
 clear h7 k7 H6 K6
 go_wp2_with fail
 refine(intAdd_any F w7 _ (oo H7) 1 q1 q1 pB _ v7 b rfl (.tail _ (.head _)) (tl2 hB) 1153 384 (by omega) (by omega)).mono ?_
 rintro e w8 ⟨v8,e8,zs8,rfl,h8,k8⟩
 have zs8:Sz 1154 v8:=zs8.mono (by omega)
 have K8:=hh ((oo K7).trans k8)
 have cP:=(oo K8).cell cP0 (fun h=>h hFc)
 have cB:w8.cell? ⟨pc,2,none⟩=some (pt pB):=(oo K8).cell cB0 (fun h=>h hFc)
 simp only [Ls0,Ls1] at h8
 have H8:Hid _:=h8
 clear h8 k8 H7 K7
 go_wp2_with fail
 refine(intMod_any F w8 _ (oo H8) 1 q1 q1 pP _ v8 (p:Int) rfl (.tail _ (.head _)) (tl2 hP) (St.neTail (oo H8) (i:=1) (k:=2) rfl (by decide) hP) 1154 384 (by omega) (by omega) hP0).mono ?_
 rintro e w9 ⟨v9,e9,zs9,rfl,h9,k9⟩
 have zs9:Sz 384 v9:=zs9.mono (by omega)
 have K9:=hh ((oo K8).trans k9)
 have cP:=(oo K9).cell cP0 (fun h=>h hFc)
 have cB:w9.cell? ⟨pc,2,none⟩=some (pt pB):=(oo K9).cell cB0 (fun h=>h hFc)
 simp only [Ls0,Ls1] at h9
 have H9:Hid _:=h9
 clear h9 k9 H8 K8
 go_wp2_with fail
 go_ret
 refine⟨q1,v9,rfl,St.pre (P:=[_,_]) (oo H9) [_] [1] (by decide) 2 rfl (by decide) rfl,oo K9,?_⟩
 show _=_
 rw [oo e9]
 rw [oo e8]
 rw [oo e7]
 rw [oo e6]
 rw [oo e5]
 rw [oo e3]
 rw [oo e2]
 congr 1;grind
def Bts (w:World) (b o n:Nat) (c:Nat→Nat):Prop:=∀i,i<n→w.cell? ⟨b,o+i,none⟩=some (.int .u8 (c i:Nat))∧c i<256
def preB (c:Nat→Nat) (i j:Nat):Nat:=preN c i*2^j+c i / 2^(8-j)
def shB (b j:Nat):Nat:=b*2^j%256
theorem preB_zero {c:Nat→Nat} {i:Nat} (h:c i<256):preB c i 0=preN c i:=by
 simp [preB];omega
theorem preB_eight (c:Nat→Nat) (i:Nat):preB c i 8=preN c (i+1):=by
 simp [preB,preN]
theorem bit_step:∀(b:Fin 256) (j:Fin 8),b.val / 2^(8-(j.val+1))=2*(b.val / 2^(8-j.val))+(if 128≤shB b.val j.val then 1 else 0)∧shB b.val (j.val+1)=(shB b.val j.val*2)%256:=by
 decide +kernel
theorem preB_next {c:Nat→Nat} {i j:Nat} (h:c i<256) (hj:j<8):preB c i (j+1)=2*preB c i j+(if 128≤shB (c i) j then 1 else 0):=by
 have:=(bit_step ⟨c i,h⟩ ⟨j,hj⟩).1
 simp only at this
 simp only [preB,Nat.pow_succ]
 rw [this]
 generalize (if 128≤shB (c i) j then 1 else 0)=b
 grind
theorem shB_next {b j:Nat} (h:b<256) (hj:j<8):shB b (j+1)=(shB b j*2)%256:=(bit_step ⟨b,h⟩ ⟨j,hj⟩).2
theorem and128:∀b:Fin 256,bits .and .u8 (b.val:Int) 128=if 128≤b.val then 128 else 0:=by decide +kernel
theorem preN_mono (c:Nat→Nat):∀m i,i≤m→preN c i≤preN c m
 | 0,i,h=>by rw [Nat.le_zero.1 h];exact Nat.le_refl _
 | m+1,i,h=>by
  rcases Nat.eq_or_lt_of_le h with e | e
  ·rw [e];exact Nat.le_refl _
  ·have:=preN_mono c m i (by omega)
   simp only [preN];omega
theorem preB_le (c:Nat→Nat) (i j m:Nat) (hj:j≤8) (hi:i<m) (_hc:∀k,k<m→c k<256):preB c i j≤preN c m:=by
 have h1:=preN_mono c m (i+1) (by omega)
 refine Nat.le_trans ?_ h1
 have h2:(2:Nat)^8=2^j*2^(8-j):=by rw [← Nat.pow_add];congr 1;omega
 have h3:preN c i*2^j≤preN c i*256:=Nat.mul_le_mul_left _ (by
  have:2^j≤2^8:=Nat.pow_le_pow_right (by decide) hj
  omega)
 have h4:c i / 2^(8-j)≤c i:=Nat.div_le_self _ _
 simp only [preB,preN]
 omega
def Rp {p:Nat} [NeZero p] (T:Ec.Tri p) (P:Ec.Pt p):Prop:=Ec.rep T P
theorem Rp.rep {p:Nat} [NeZero p] {T:Ec.Tri p} {P:Ec.Pt p} (h:Rp T P):Ec.rep T P:=h
def Acc (F:Nat→Prop) (L:List (Nat×E)) (p:Nat) [NeZero p] (a g h:Fin p) (w0:World) (pBz:Nat) (n:Nat) (px py pz:Nat) (seen:Bool) (w:World):Prop:=
 ∃(M:List (Nat×E)) (X Y Z:Int),St F w (M++(pBz,ofI 1)::L)∧(px,ofI X)∈M++(pBz,ofI 1)::L∧(py,ofI Y)∈M++(pBz,ofI 1)::L∧(pz,ofI Z)∈M++(pBz,ofI 1)::L∧Sz 256 X∧Sz 256 Y∧Sz 256 Z∧(0≤Z∧Z<p) ∧
  Ec.rep (⟨Ec.fi p X,Ec.fi p Y,Ec.fi p Z⟩:Ec.Tri p) (Ec.lin a (some (g,h)) (if seen then n else 1))∧(if seen then 0<n else n=0)∧Keep (fun b=>¬F b) w0 w
theorem bitScalar_any (F:Nat→Prop) (w:World) (L:List (Nat×E)) (hst:St F w L) (pc pP pX pY:Nat) (x y:Int) (p:Nat) [NeZero p] (a b g h:Fin p) (N:Nat) (G:Ec.Good p a b g h N) (ha:a=0) (hx:(pX,ofI x)∈L) (hy:(pY,ofI y)∈L) (hP:(pP,ofI (p:Int))∈L)
  (cP0:w.cell? ⟨pc,1,none⟩=some (pt pP)) (hFc:F pc) (sx:Sz 256 x) (sy:Sz 256 y) (sP:Sz 256 (p:Int)) (ex:Ec.fi p x=g) (ey:Ec.fi p y=h)
  (bk ok m kk:Nat) (c:Nat→Nat) (hb:Bts w bk ok m c) (hFb:F bk) (hm:m<1000) (hn0:0<preN c m) (hnN:preN c m<N) :
  Calls Tryz.prog 218 #[pt pc,pt pX,pt pY,.slice (some ⟨bk,ok,none⟩) m kk] w fun e w'=>∃(p1 p2:Nat) (X Y:Int),e = .returned (.tuple #[pt p1,pt p2])∧St F w' ((p1,ofI X)::(p2,ofI Y)::L)∧Keep (fun b=>¬F b) w w' ∧
   Ec.lin a (some (g,h)) (preN c m)=some (Ec.fi p X,Ec.fi p Y)∧(0≤X∧X<p)∧(0≤Y∧Y<p):=by
 have h1:=hst.alloc 85
 go_enter Tryz.func218,Tryz.ntmps218
 go_wp2_with fail
 refine(setInt64_any F _ _ h1 0 w.heap.size (ofI 0) rfl 1 (by omega)).mono ?_
 rintro e w1 ⟨rfl,h2,k2⟩
 simp only [Ls0] at h2
 have K2:Hid (Keep (fun b=>¬F b) w w1):=((Keep.refl _ w).alloc _).trans k2
 have H2:Hid (St F w1 ((w.heap.size,ofI 1)::L)):=h2
 clear k2 h1 h2
 generalize w.heap.size=pBz at *
 have hm1:(m:Int)<1000:=by omega
 go_wp2_with fail
 go_loopw [11,12,13,14,25] (fun s11 s12 s13 s14 s25 wr=>∃(i px py pz:Nat) (seen:Bool),s11=pt px∧s12=pt py∧s13=pt pz∧s14 = .bool seen∧s25 = .int .i64 (i:Int)∧i≤m∧Acc F L p a g h w pBz (preN c i) px py pz seen wr) (fun _ _ _ _ s25 _=>(m-(intOf s25).toNat:Nat))
 case atStart=>
  have hp2:=G.hp.1
  refine⟨0,pX,pY,pBz,false,rfl,rfl,rfl,rfl,rfl,by omega,[],x,y,1,oo H2,.tail _ hx,.tail _ hy,.head _,sx,sy,⟨by decide⟩,⟨by omega,by omega⟩,?_,rfl,oo K2⟩
  rw [ex,ey,Ec.fi_one]
  exact G.base
 case round=>
  obtain⟨i,px,py,pz,seen,rfl,rfl,rfl,rfl,rfl,him,hacc⟩:=hrel
  have HACC:Hid _:=hacc
  clear hacc
  by_cases hi:i=m
  ·subst hi
   have hs:seen=true:=by
    obtain⟨M,X,Y,Z,_,_,_,_,_,_,_,_,_,h0,_⟩:=oo HACC
    cases seen
    ·simp only [Bool.false_eq_true,if_false] at h0;omega
    ·rfl
   subst hs
   obtain⟨M,X,Y,Z,h1,h2,h3,h4,h5,h6,h7,h8,h9,h10,h11⟩:=oo HACC
   simp only [if_true] at h9 h10
   obtain⟨zn,rfl⟩:∃z:Nat,Z=z:=⟨Z.toNat,by omega⟩
   have cP:wr.cell? ⟨pc,1,none⟩=some (pt pP):=h11.cell cP0 (fun h=>h hFc)
   have hne:=G.ord _ hn0 hnN
   have hz:=Ec.rep_z h9 hne
   have hz0:0<zn:=by
    refine Nat.pos_of_ne_zero fun e=>?_
    subst e
    exact hz Ec.fi_zero
   have hzp:zn<p:=by omega
   have H1:Hid _:=h1
   have H11:Hid _:=h11
   have H9:Hid _:=h9
   have HNE:Hid _:=hne
   clear h1 h9 h10 h11 hz hne HACC
   go_wp2_with fail
   refine(bitAffine_any F wr _ (oo H1) pc pP px py pz X Y zn p h2 h3 h4 (List.mem_append_right _ (.tail _ hP)) cP hFc h5 h6 h7 sP hz0 hzp (Ec.bezout G.hp hz0 hzp)).mono ?_
   rintro e w5 ⟨p1,p2,X',Y',rfl,h12,k12,⟨ii,hi1,hi2,hi3⟩,-,-,hbX,hbY⟩
   have H12:Hid _:=h12
   have K12:Hid _:=k12
   clear h12 k12
   go_wp2_with fail
   go_ret2
   refine⟨p1,p2,X',Y',rfl,?_,(oo H11).trans (oo K12),?_,hbX,hbY⟩
   ·have h13:St F w5 (((p1,ofI X')::(p2,ofI Y')::(M++[(pBz,ofI 1)]))++L):=by
     have e:((p1,ofI X')::(p2,ofI Y')::(M++[(pBz,ofI 1)]))++L=(p1,ofI X')::(p2,ofI Y')::(M++(pBz,ofI 1)::L):=by simp
     rw [e];exact oo H12
    exact St.pre h13 [_,_] [0,1] (by decide) _ rfl (by intro i hi;simp at hi;simp;omega) rfl
   ·rcases e:Ec.lin a (some (g,h)) (preN c i) with _ | ⟨x0,y0⟩
    ·exact absurd e (oo HNE)
    ·have hr:Ec.rep (⟨Ec.fi p X,Ec.fi p Y,Ec.fi p zn⟩:Ec.Tri p) (some (x0,y0)):=by rw [← e];exact oo H9
     have:=Ec.rep_affine G.hp hr hi1
     rw [this.1,this.2,hi2,hi3]
  ·have hi':i<m:=by omega
   have hbi:=hb i hi'
   have fb:wr.cell? ⟨bk,ok+i,none⟩=some (.int .u8 (c i:Nat)):=(oo HACC).choose_spec.choose_spec.choose_spec.choose_spec.2.2.2.2.2.2.2.2.2.2.cell hbi.1 (fun h=>h hFb)
   have hci:=hbi.2
   have t1:(i:Int)<(m:Int):=by omega
   obtain⟨by0,hby⟩:∃x,c i=x:=⟨_,rfl⟩
   rw [hby] at fb hci
   have hbW:by0<W64:=by rw [W64];omega
   have HA0:Hid (Acc F L p a g h w pBz (preB c i 0) px py pz seen wr):=by
    rw [preB_zero (by rw [hby];exact hci)]
    exact oo HACC
   have HBY:Hid _:=hby
   clear hi hbi HACC hby
   go_wp2_with fail
   go_loopw [11,12,13,14,16,17] (fun s11 s12 s13 s14 s16 s17 wx=>∃(j px py pz:Nat) (seen:Bool),s11=pt px∧s12=pt py∧s13=pt pz∧s14 = .bool seen∧s16 = .int .u8 (shB by0 j:Nat)∧s17 = .int .i64 (j:Int)∧j≤8∧Acc F L p a g h w pBz (preB c i j) px py pz seen wx) (fun _ _ _ _ _ s17 _=>(8-(intOf s17).toNat:Nat))
   case atStart=>
    refine⟨0,px,py,pz,seen,rfl,rfl,rfl,rfl,?_,rfl,by omega,oo HA0⟩
    rw [show shB by0 0=by0 by simp [shB];omega]
   case round=>
    obtain⟨j,px,py,pz,seen,rfl,rfl,rfl,rfl,rfl,rfl,hj,hacc⟩:=hrel
    have HACC:Hid _:=hacc
    clear hacc HA0 fb
    by_cases hj8:j=8
    ·subst hj8
     have w1:IntKind.i64.wrap ((i:Int)+1)=(i:Int)+1:=IntWalk.i64_in _ (by omega)
     go_wp2_with fail
     go_roundw
     case rel=>
      refine⟨i+1,px,py,pz,seen,by go_num,by go_num,by go_num,by go_num,by go_num,by omega,?_⟩
      have:=oo HACC
      rwa [preB_eight] at this
     case measure=>simp [intOf];omega
    ·have hj':j<8:=by omega
     have w1:IntKind.i64.wrap ((j:Int)+1)=(j:Int)+1:=IntWalk.i64_in _ (by omega)
     have hnx:=preB_next (c:=c) (i:=i) (by rw [HBY.out];exact hci) hj'
     rw [HBY.out] at hnx
     have hsn:=shB_next hci hj'
     obtain⟨sb,hsb⟩:∃x,shB by0 j=x:=⟨_,rfl⟩
     rw [hsb] at hnx hsn
     have hsl:sb<256:=by rw [← hsb];exact Nat.mod_lt _ (by decide)
     rw [hsb]
     have ba:=and128 ⟨sb,hsl⟩
     simp only at ba
     have HNX:Hid _:=hnx
     have HSN:Hid _:=hsn
     clear hnx hsn hsb hj8
     by_cases hbit:128≤sb
     ·rw [if_pos hbit] at ba
      cases seen with
      | true=>
       obtain⟨M,X,Y,Z,h1,h2,h3,h4,h5,h6,h7,h8,h9,h10,h11⟩:=oo HACC
       simp only [if_true] at h10
       have cP:wr.cell? ⟨pc,1,none⟩=some (pt pP):=h11.cell cP0 (fun h=>h hFc)
       have H1:Hid _:=h1
       have H9:Hid (Rp _ _):=h9
       have H10:Hid _:=h10
       have H11:Hid _:=h11
       clear h1 h9 h10 h11 HACC
       go_wp2_with fail
       refine(bitDouble_any F wr _ (oo H1) pc pP px py pz X Y Z p h2 h3 h4 (List.mem_append_right _ (.tail _ hP)) cP hFc h5 h6 h7 sP).mono ?_
       rintro e w5 ⟨a1,b1,c1,X',Y',Z',rfl,h12,k12,heq,s1,s2,s3,z1,z2⟩
       have hr:=G.bdbl ha (Rp.rep (oo H9))
       rw [← heq.out] at hr
       have HR:Hid (Rp _ _):=hr
       have H12:Hid _:=h12
       have K12:Hid (Keep (fun b=>¬F b) w w5):=(oo H11).trans k12
       clear hr h12 k12 heq cP H9 H11 H1
       have cP5:w5.cell? ⟨pc,1,none⟩=some (pt pP):=(oo K12).cell cP0 (fun h=>h hFc)
       have s0:Sz 256 (1:Int):=⟨by decide⟩
       go_wp2_with fail
       refine(bitAdd_any F w5 _ (oo H12) pc pP pX pY pBz a1 b1 c1 x y 1 X' Y' Z' p (tl3 (List.mem_append_right _ (.tail _ hx))) (tl3 (List.mem_append_right _ (.tail _ hy))) (tl3 (List.mem_append_right _ (.head _)))
        (.head _) (.tail _ (.head _)) (tl2 (.head _)) (tl3 (List.mem_append_right _ (.tail _ hP))) cP5 hFc sx sy s0 s1 s2 s3 sP).mono ?_
       rintro e w6 ⟨a2,b2,c2,X2,Y2,Z2,rfl,h13,k13,heq,s4,s5,s6,z3,z4⟩
       have hlt:2*preB c i j+1<N:=by
        have e1:=HNX.out
        rw [if_pos hbit] at e1
        have:=preB_le c i (j+1) m (by omega) (by omega) (fun k hk=>(hb k hk).2)
        omega
       have hr:=G.badd (n:=preB c i j) H10.out hlt (Rp.rep (oo HR))
       rw [ex,ey,Ec.fi_one] at heq
       rw [← heq.out] at hr
       have HR2:Hid (Rp _ _):=hr
       have H13:Hid _:=h13
       have K13:=hh ((oo K12).trans k13)
       clear hr h13 k13 heq cP5 H12 K12 HR
       go_wp2_with fail
       go_roundw
       case rel=>
        refine⟨j+1,a2,b2,c2,true,by go_num,by go_num,by go_num,by go_num,by rw [HSN.out];go_num,by go_num,by omega,?_⟩
        have e1:=HNX.out
        rw [if_pos hbit] at e1
        refine⟨(a2,ofI X2)::(b2,ofI Y2)::(c2,ofI Z2)::(a1,ofI X')::(b1,ofI Y')::(c1,ofI Z')::M,X2,Y2,Z2,oo H13,.head _,.tail _ (.head _),.tail _ (.tail _ (.head _)),s4,s5,s6,⟨z3,z4⟩,?_,?_,oo K13⟩
        ·simp only [if_true];rw [e1];exact oo HR2
        ·simp only [if_true];omega
       case measure=>simp [intOf];omega
      | false=>
       go_wp2_with fail
       go_roundw
       case rel=>
        refine⟨j+1,px,py,pz,true,by go_num,by go_num,by go_num,by go_num,by rw [HSN.out];go_num,by go_num,by omega,?_⟩
        obtain⟨M,X,Y,Z,h1,h2,h3,h4,h5,h6,h7,h8,h9,h10,h11⟩:=oo HACC
        have e1:=HNX.out
        rw [if_pos hbit] at e1
        simp only [Bool.false_eq_true,if_false] at h9 h10
        rw [h10] at e1
        refine⟨M,X,Y,Z,h1,h2,h3,h4,h5,h6,h7,h8,?_,?_,h11⟩
        ·simp only [if_true];rw [e1];exact h9
        ·simp only [if_true];omega
       case measure=>simp [intOf];omega
     ·rw [if_neg hbit] at ba
      cases seen with
      | true=>
       obtain⟨M,X,Y,Z,h1,h2,h3,h4,h5,h6,h7,h8,h9,h10,h11⟩:=oo HACC
       simp only [if_true] at h10
       have cP:wr.cell? ⟨pc,1,none⟩=some (pt pP):=h11.cell cP0 (fun h=>h hFc)
       have H1:Hid _:=h1
       have H9:Hid (Rp _ _):=h9
       have H10:Hid _:=h10
       have H11:Hid _:=h11
       clear h1 h9 h10 h11 HACC
       go_wp2_with fail
       refine(bitDouble_any F wr _ (oo H1) pc pP px py pz X Y Z p h2 h3 h4 (List.mem_append_right _ (.tail _ hP)) cP hFc h5 h6 h7 sP).mono ?_
       rintro e w5 ⟨a1,b1,c1,X',Y',Z',rfl,h12,k12,heq,s1,s2,s3,z1,z2⟩
       have hr:=G.bdbl ha (Rp.rep (oo H9))
       rw [← heq.out] at hr
       have HR:Hid (Rp _ _):=hr
       have H12:Hid _:=h12
       have K12:Hid (Keep (fun b=>¬F b) w w5):=(oo H11).trans k12
       clear hr h12 k12 heq cP H9 H11 H1
       go_wp2_with fail
       go_roundw
       case rel=>
        refine⟨j+1,a1,b1,c1,true,by go_num,by go_num,by go_num,by go_num,by rw [HSN.out];go_num,by go_num,by omega,?_⟩
        have e1:=HNX.out
        rw [if_neg hbit] at e1
        refine⟨(a1,ofI X')::(b1,ofI Y')::(c1,ofI Z')::M,X',Y',Z',oo H12,.head _,.tail _ (.head _),.tail _ (.tail _ (.head _)),s1,s2,s3,⟨z1,z2⟩,?_,?_,oo K12⟩
        ·simp only [if_true];rw [e1];exact oo HR
        ·simp only [if_true];have:=H10.out;omega
       case measure=>simp [intOf];omega
      | false=>
       go_wp2_with fail
       go_roundw
       case rel=>
        refine⟨j+1,px,py,pz,false,by go_num,by go_num,by go_num,by go_num,by rw [HSN.out];go_num,by go_num,by omega,?_⟩
        obtain⟨M,X,Y,Z,h1,h2,h3,h4,h5,h6,h7,h8,h9,h10,h11⟩:=oo HACC
        have e1:=HNX.out
        rw [if_neg hbit] at e1
        simp only [Bool.false_eq_true,if_false] at h9 h10
        rw [h10] at e1
        refine⟨M,X,Y,Z,h1,h2,h3,h4,h5,h6,h7,h8,?_,?_,h11⟩
        ·simp only [Bool.false_eq_true,if_false];exact h9
        ·simp only [Bool.false_eq_true,if_false];omega
       case measure=>simp [intOf];omega
theorem ellOn_any (F:Nat→Prop) (w:World) (L:List (Nat×E)) (h:St F w L) (pc pP pB p1 p2:Nat) (x y b:Int) (p:Nat) [NeZero p] (hx:(p1,ofI x)∈L) (hy:(p2,ofI y)∈L) (hP:(pP,ofI (p:Int))∈L) (hB:(pB,ofI b)∈L)
  (cP0:w.cell? ⟨pc,0,none⟩=some (pt pP)) (cB0:w.cell? ⟨pc,2,none⟩=some (pt pB)) (hFc:F pc) (sx:Sz 384 x) (sy:Sz 384 y) (sB:Sz 384 b) (sP:Sz 384 (p:Int)) (bx:0≤x∧x<p) (by':0≤y∧y<p) (hcurve:(x*x*x-3*x+b)%(p:Int)=(y*y)%(p:Int)) :
  Calls Tryz.prog 204 #[pt pc,pt p1,pt p2] w fun e w'=>e = .returned (.bool true)∧St F w' L∧Keep (fun b=>¬F b) w w':=by
 have hP0:(0:Int)<(p:Int):=by have:=NeZero.ne p;omega
 go_enter Tryz.func204,Tryz.ntmps204
 have cP:=cP0
 have cB:=cB0
 go_wp2_with fail
 refine(sign_any F w _ h p1 x hx).mono ?_
 rintro e ws ⟨rfl,hws⟩
 rw [hws]
 clear hws ws
 obtain⟨sa,hsa⟩:∃u,sgn x=u:=⟨_,rfl⟩
 rw [hsa]
 have Hsa:Hid _:=hsa
 clear hsa
 have ta:(0:Int)≤sa:=by rw [← oo Hsa,sgn,if_neg (by omega)];split<;>omega
 go_wp2_with fail
 refine(intCmp_any F w _ h p1 pP x (p:Int) hx hP 384 384 (by omega) (by omega)).mono ?_
 rintro e w1 ⟨rfl,k1⟩
 have tc:cmpI x (p:Int) = -1:=by rw [cmpI,if_pos (by omega)]
 rw [tc]
 have H1:Hid _:=St.keep h k1
 have K1:Hid (Keep (fun b=>¬F b) w w1):=(k1.mono fun _ _ h=>h.elim)
 have cP:=(oo K1).cell cP0 (fun h=>h hFc)
 have cB:w1.cell? ⟨pc,2,none⟩=some (pt pB):=(oo K1).cell cB0 (fun h=>h hFc)
 clear k1 tc
 go_wp2_with fail
 refine(sign_any F w1 _ (oo H1) p2 y hy).mono ?_
 rintro e ws ⟨rfl,hws⟩
 rw [hws]
 clear hws ws
 obtain⟨sb,hsb⟩:∃u,sgn y=u:=⟨_,rfl⟩
 rw [hsb]
 have Hsb:Hid _:=hsb
 clear hsb
 have tb:(0:Int)≤sb:=by rw [← oo Hsb,sgn,if_neg (by omega)];split<;>omega
 go_wp2_with fail
 refine(intCmp_any F w1 _ (oo H1) p2 pP y (p:Int) hy hP 384 384 (by omega) (by omega)).mono ?_
 rintro e w2 ⟨rfl,k2⟩
 have tc:cmpI y (p:Int) = -1:=by rw [cmpI,if_pos (by omega)]
 rw [tc]
 have H2:Hid _:=St.keep (oo H1) k2
 have K2:Hid (Keep (fun b=>¬F b) w w2):=(oo K1).trans (k2.mono fun _ _ h=>h.elim)
 have cP:=(oo K2).cell cP0 (fun h=>h hFc)
 have cB:w2.cell? ⟨pc,2,none⟩=some (pt pB):=(oo K2).cell cB0 (fun h=>h hFc)
 clear k2 tc H1 K1
 go_wp2_with fail
 have h3:=St.alloc (oo H2) 85
 have k3:Keep (fun b=>¬F b) w _:=((oo K2).alloc iz)
 have cP':=k3.cell cP0 (fun h=>h hFc)
 have cB':=k3.cell cB0 (fun h=>h hFc)
 generalize hwa:w2.alloc iz=w3 at *
 clear hwa
 generalize w2.heap.size=q3 at *
 clear cP
 have cP:=cP'
 clear cP'
 clear cB
 have cB:=cB'
 clear cB'
 have H3:Hid _:=h3
 have K3:Hid _:=k3
 clear h3 k3 H2 K2
 refine(intMul_any F w3 _ (oo H3) 0 q3 p2 p2 _ y y rfl (.tail _ hy) (.tail _ hy) 384 384 (by omega) (by omega)).mono ?_
 rintro e w4 ⟨v4,e4,zs4,rfl,h4,k4⟩
 have zs4:Sz 768 v4:=zs4.mono (by omega)
 have K4:=hh ((oo K3).trans k4)
 have cP:=(oo K4).cell cP0 (fun h=>h hFc)
 have cB:w4.cell? ⟨pc,2,none⟩=some (pt pB):=(oo K4).cell cB0 (fun h=>h hFc)
 simp only [Ls0] at h4
 have H4:Hid _:=h4
 clear h4 k4 H3 K3
 go_wp2_with fail
 refine(intMod_any F w4 _ (oo H4) 0 q3 q3 pP _ v4 (p:Int) rfl (.head _) (.tail _ hP) (St.neTail (oo H4) (i:=0) (k:=1) rfl (by decide) hP) 768 384 (by omega) (by omega) hP0).mono ?_
 rintro e w5 ⟨v5,e5,zs5,rfl,h5,k5⟩
 have zs5:Sz 384 v5:=zs5.mono (by omega)
 have K5:=hh ((oo K4).trans k5)
 have cP:=(oo K5).cell cP0 (fun h=>h hFc)
 have cB:w5.cell? ⟨pc,2,none⟩=some (pt pB):=(oo K5).cell cB0 (fun h=>h hFc)
 simp only [Ls0] at h5
 have H5:Hid _:=h5
 clear h5 k5 H4 K4
 go_wp2_with fail
 refine(ellPoly_any F w5 _ (oo H5) pc pP pB p1 x b p (.tail _ hx) (.tail _ hP) (.tail _ hB) cP cB hFc sx sB sP).mono ?_
 rintro e w6 ⟨q6,v6,rfl,h6,k6,e6⟩
 have zs6:Sz 384 v6:=(sP.mod (u:=x*x*x-3*x+b) hP0).eq (oo e6).symm
 have K6:=hh ((oo K5).trans k6)
 have cP:=(oo K6).cell cP0 (fun h=>h hFc)
 have cB:w6.cell? ⟨pc,2,none⟩=some (pt pB):=(oo K6).cell cB0 (fun h=>h hFc)
 have H6:Hid _:=h6
 clear h6 k6 H5 K5
 go_wp2_with fail
 refine(intCmp_any F w6 _ (oo H6) q6 q3 v6 v5 (.head _) (.tail _ (.head _)) 384 384 (by omega) (by omega)).mono ?_
 rintro e wz ⟨rfl,kz⟩
 have he:v6=v5:=by rw [oo e6,oo e5,oo e4];exact hcurve
 have tc:cmpI v6 v5=0:=by rw [he,cmpI,if_neg (by omega),if_neg (by omega)]
 rw [tc]
 have HZ:Hid _:=St.keep (oo H6) kz
 have KZ:Hid (Keep (fun b=>¬F b) w wz):=(oo K6).trans (kz.mono fun _ _ h=>h.elim)
 clear kz tc he
 go_wp2_with fail
 go_ret
 exact⟨rfl,St.pre (P:=[_,_]) (oo HZ) [] [] (by decide) 2 rfl (by decide) rfl,oo KZ⟩
theorem panicOn_any (F:Nat→Prop) (w:World) (L:List (Nat×E)) (h:St F w L) (pc p1 p2:Nat) (x:Int) (hx:(p1,ofI x)∈L) (hx0:0<x)
  (hC:Calls Tryz.prog 204 #[pt pc,pt p1,pt p2] w fun e w'=>e = .returned (.bool true)∧St F w' L∧Keep (fun b=>¬F b) w w') :
  Calls Tryz.prog 34 #[.iface 89 (pt pc),pt p1,pt p2] w fun e w'=>e = .returned (.tuple #[])∧St F w' L∧Keep (fun b=>¬F b) w w':=by
 have HC:Hid _:=hC
 have hs:sgn x=1:=by rw [sgn,if_neg (by omega),if_neg (by omega)]
 clear hC
 go_enter Tryz.func34,Tryz.ntmps34
 go_wp2_with fail
 refine(sign_any F w L h p1 x hx).mono ?_
 rintro e ws ⟨rfl,hws⟩
 rw [hws,hs]
 clear hws ws
 go_wp2_with fail
 refine Calls.mono (oo HC) ?_
 rintro e w1 ⟨rfl,h1,k1⟩
 have H1:Hid _:=h1
 have K1:Hid _:=k1
 clear h1 k1
 go_wp2_with fail
 first | go_end0 | (refine bodyPost_ret (results_none rfl _ _ _) rfl ?_)
 exact⟨rfl,oo H1,oo K1⟩
theorem bitBase_any (F:Nat→Prop) (w:World) (L:List (Nat×E)) (hst:St F w L) (pc pP pX pY:Nat) (x y:Int) (p:Nat) [NeZero p] (a b g h:Fin p) (N:Nat) (G:Ec.Good p a b g h N) (ha:a=0) (hx:(pX,ofI x)∈L) (hy:(pY,ofI y)∈L) (hP:(pP,ofI (p:Int))∈L)
  (cP0:w.cell? ⟨pc,1,none⟩=some (pt pP)) (cX0:w.cell? ⟨pc,4,none⟩=some (pt pX)) (cY0:w.cell? ⟨pc,5,none⟩=some (pt pY)) (hFc:F pc) (sx:Sz 256 x) (sy:Sz 256 y) (sP:Sz 256 (p:Int)) (ex:Ec.fi p x=g) (ey:Ec.fi p y=h)
  (bk ok m kk:Nat) (c:Nat→Nat) (hb:Bts w bk ok m c) (hFb:F bk) (hm:m<1000) (hn0:0<preN c m) (hnN:preN c m<N) :
  Calls Tryz.prog 217 #[pt pc,.slice (some ⟨bk,ok,none⟩) m kk] w fun e w'=>∃(p1 p2:Nat) (X Y:Int),e = .returned (.tuple #[pt p1,pt p2])∧St F w' ((p1,ofI X)::(p2,ofI Y)::L)∧Keep (fun b=>¬F b) w w' ∧
   Ec.lin a (some (g,h)) (preN c m)=some (Ec.fi p X,Ec.fi p Y)∧(0≤X∧X<p)∧(0≤Y∧Y<p):=by
 have hC:=bitScalar_any F w.drew L hst.drew pc pP pX pY x y p a b g h N G ha hx hy hP cP0 hFc sx sy sP ex ey bk ok m kk c hb hFb hm hn0 hnN
 have HC:Hid _:=hC
 clear hC hb hn0 hnN G
 go_enter Tryz.func217,Tryz.ntmps217
 go_wp2_with fail
 refine AnyL_start (fun w'=>w'.cell? ⟨pc,4,none⟩=some (pt pX)∧w'.cell? ⟨pc,5,none⟩=some (pt pY)) [4,8] (by kernel_rfl) ?_
 have HS:(fun w':World=>w'.cell? ⟨pc,4,none⟩=some (pt pX)∧w'.cell? ⟨pc,5,none⟩=some (pt pY)) w.drew:=⟨cX0,cY0⟩
 refine AP 0 ?_
 refine AP 1 ?_
 refine AP 2 ?_
 refine AP 3 ?_
 refine AL 4 HS ?_
 refine AP 5 ?_
 refine AP 6 ?_
 refine AP 7 ?_
 refine AL 8 HS ?_
 refine AP 9 ?_
 refine AnyL_one 10 rfl (by kernel_rfl) (fun K hK=>?_)
 go_simp
 refine Calls.mono (oo HC) ?_
 rintro e w1 ⟨p1,p2,X,Y,rfl,h1,k1,hl,hbX,hbY⟩
 have H1:Hid _:=h1
 have K1:Hid _:=k1
 have HL:Hid _:=hl
 clear h1 k1 hl
 refine hK.out _ _ (.inl (by kernel_rfl)) ?_
 clear hK K
 try clear HS
 refine AP 11 ?_
 refine AP 12 ?_
 refine AP 13 ?_
 refine AP 14 ?_
 try simp only [Ls2,Ls0,Ls1,List.getElem_toArray,List.getElem_cons_succ,List.getElem_cons_zero]
 refine AnyL_done (by kernel_rfl) ?_
 go_wp2_with fail
 go_ret2
 exact⟨p1,p2,X,Y,rfl,oo H1,(oo K1).undrew,oo HL,hbX,hbY⟩
theorem bitOn_any (F:Nat→Prop) (w:World) (L:List (Nat×E)) (h:St F w L) (pc pP pB p1 p2:Nat) (x y b:Int) (p:Nat) [NeZero p] (hx:(p1,ofI x)∈L) (hy:(p2,ofI y)∈L) (hP:(pP,ofI (p:Int))∈L) (hB:(pB,ofI b)∈L)
  (cP0:w.cell? ⟨pc,1,none⟩=some (pt pP)) (cB0:w.cell? ⟨pc,3,none⟩=some (pt pB)) (hFc:F pc) (sx:Sz 256 x) (sy:Sz 256 y) (sB:Sz 256 b) (sP:Sz 256 (p:Int)) (hcurve:(x*x*x+b)%(p:Int)=(y*y)%(p:Int)) :
  Calls Tryz.prog 215 #[pt pc,pt p1,pt p2] w fun e w'=>e = .returned (.bool true)∧St F w' L∧Keep (fun b=>¬F b) w w':=by
 have hP0:(0:Int)<(p:Int):=by have:=NeZero.ne p;omega
 go_enter Tryz.func215,Tryz.ntmps215
 have cP:=cP0
 have cB:=cB0
 go_wp2_with fail
 have h1:=h.alloc 85
 have k1:Keep (fun b=>¬F b) w _:=((Keep.refl _ w).alloc iz)
 have cP':=k1.cell cP0 (fun h=>h hFc)
 have cB':=k1.cell cB0 (fun h=>h hFc)
 generalize hwa:w.alloc iz=w1 at *
 clear hwa
 generalize w.heap.size=q1 at *
 clear cP
 have cP:=cP'
 clear cP'
 clear cB
 have cB:=cB'
 clear cB'
 have H1:Hid _:=h1
 have K1:Hid _:=k1
 clear h1 k1
 refine(intMul_any F w1 _ (oo H1) 0 q1 p2 p2 _ y y rfl (.tail _ hy) (.tail _ hy) 256 256 (by omega) (by omega)).mono ?_
 rintro e w2 ⟨v2,e2,zs2,rfl,h2,k2⟩
 have zs2:Sz 512 v2:=zs2.mono (by omega)
 have K2:=hh ((oo K1).trans k2)
 have cP:=(oo K2).cell cP0 (fun h=>h hFc)
 have cB:w2.cell? ⟨pc,3,none⟩=some (pt pB):=(oo K2).cell cB0 (fun h=>h hFc)
 simp only [Ls0] at h2
 have H2:Hid _:=h2
 clear h2 k2 H1 K1
 go_wp2_with fail
 refine(intMod_any F w2 _ (oo H2) 0 q1 q1 pP _ v2 (p:Int) rfl (.head _) (.tail _ hP) (St.neTail (oo H2) (i:=0) (k:=1) rfl (by decide) hP) 512 256 (by omega) (by omega) hP0).mono ?_
 rintro e w3 ⟨v3,e3,zs3,rfl,h3,k3⟩
 have zs3:Sz 256 v3:=zs3.mono (by omega)
 have K3:=hh ((oo K2).trans k3)
 have cP:=(oo K3).cell cP0 (fun h=>h hFc)
 have cB:w3.cell? ⟨pc,3,none⟩=some (pt pB):=(oo K3).cell cB0 (fun h=>h hFc)
 simp only [Ls0] at h3
 have H3:Hid _:=h3
 clear h3 k3 H2 K2
 go_wp2_with fail
 have h4:=St.alloc (oo H3) 85
 have k4:Keep (fun b=>¬F b) w _:=((oo K3).alloc iz)
 have cP':=k4.cell cP0 (fun h=>h hFc)
 have cB':=k4.cell cB0 (fun h=>h hFc)
 generalize hwa:w3.alloc iz=w4 at *
 clear hwa
 generalize w3.heap.size=q4 at *
 clear cP
 have cP:=cP'
 clear cP'
 clear cB
 have cB:=cB'
 clear cB'
 have H4:Hid _:=h4
 have K4:Hid _:=k4
 clear h4 k4 H3 K3
 refine(intMul_any F w4 _ (oo H4) 0 q4 p1 p1 _ x x rfl (tl2 hx) (tl2 hx) 256 256 (by omega) (by omega)).mono ?_
 rintro e w5 ⟨v5,e5,zs5,rfl,h5,k5⟩
 have zs5:Sz 512 v5:=zs5.mono (by omega)
 have K5:=hh ((oo K4).trans k5)
 have cP:=(oo K5).cell cP0 (fun h=>h hFc)
 have cB:w5.cell? ⟨pc,3,none⟩=some (pt pB):=(oo K5).cell cB0 (fun h=>h hFc)
 simp only [Ls0] at h5
 have H5:Hid _:=h5
 clear h5 k5 H4 K4
 go_wp2_with fail
 refine(intMul_any F w5 _ (oo H5) 0 q4 q4 p1 _ v5 x rfl (.head _) (tl2 hx) 512 256 (by omega) (by omega)).mono ?_
 rintro e w6 ⟨v6,e6,zs6,rfl,h6,k6⟩
 have zs6:Sz 768 v6:=zs6.mono (by omega)
 have K6:=hh ((oo K5).trans k6)
 have cP:=(oo K6).cell cP0 (fun h=>h hFc)
 have cB:w6.cell? ⟨pc,3,none⟩=some (pt pB):=(oo K6).cell cB0 (fun h=>h hFc)
 simp only [Ls0] at h6
 have H6:Hid _:=h6
 clear h6 k6 H5 K5
 go_wp2_with fail
 refine(intAdd_any F w6 _ (oo H6) 0 q4 q4 pB _ v6 b rfl (.head _) (tl2 hB) 768 256 (by omega) (by omega)).mono ?_
 rintro e w7 ⟨v7,e7,zs7,rfl,h7,k7⟩
 have zs7:Sz 769 v7:=zs7.mono (by omega)
 have K7:=hh ((oo K6).trans k7)
 have cP:=(oo K7).cell cP0 (fun h=>h hFc)
 have cB:w7.cell? ⟨pc,3,none⟩=some (pt pB):=(oo K7).cell cB0 (fun h=>h hFc)
 simp only [Ls0] at h7
 have H7:Hid _:=h7
 clear h7 k7 H6 K6
 go_wp2_with fail
 refine(intMod_any F w7 _ (oo H7) 0 q4 q4 pP _ v7 (p:Int) rfl (.head _) (tl2 hP) (St.neTail (oo H7) (i:=0) (k:=2) rfl (by decide) hP) 769 256 (by omega) (by omega) hP0).mono ?_
 rintro e w8 ⟨v8,e8,zs8,rfl,h8,k8⟩
 have zs8:Sz 256 v8:=zs8.mono (by omega)
 have K8:=hh ((oo K7).trans k8)
 have cP:=(oo K8).cell cP0 (fun h=>h hFc)
 have cB:w8.cell? ⟨pc,3,none⟩=some (pt pB):=(oo K8).cell cB0 (fun h=>h hFc)
 simp only [Ls0] at h8
 have H8:Hid _:=h8
 clear h8 k8 H7 K7
 go_wp2_with fail
 refine(intCmp_any F w8 _ (oo H8) q4 q1 v8 v3 (.head _) (.tail _ (.head _)) 256 256 (by omega) (by omega)).mono ?_
 rintro e wz ⟨rfl,kz⟩
 have he:v8=v3:=by
  rw [oo e8,oo e3]
  rw [oo e7]
  rw [oo e6]
  rw [oo e5]
  rw [oo e2]
  exact hcurve
 have tc:cmpI v8 v3=0:=by rw [he,cmpI,if_neg (by omega),if_neg (by omega)]
 rw [tc]
 have hz:=St.keep (oo H8) kz
 have HZ:Hid _:=hz
 have KZ:Hid (Keep (fun b=>¬F b) w wz):=(oo K8).trans (kz.mono fun _ _ h=>h.elim)
 clear hz kz tc he
 go_wp2_with fail
 go_ret
 exact⟨rfl,St.pre (P:=[_,_]) (oo HZ) [] [] (by decide) 2 rfl (by decide) rfl,oo KZ⟩
end Go.Proofs.YtofkehhflkdabaaGreatDoor
