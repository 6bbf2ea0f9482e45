/- A part of the proof of FnCurveOf. -/
import Derived.Test.YtofkehhflkdabaaGreatDoorP36
set_option maxRecDepth 100000
set_option maxHeartbeats 8000000
namespace Go.Proofs.YtofkehhflkdabaaGreatDoor
open Go Go.RowKit
theorem ellAdd_any (F:Nat→Prop) (w:World) (L:List (Nat×E)) (h:St F w L) (pc pP p1 p2 p3 p4 p5 p6:Nat) (x1 y1 z1 x2 y2 z2:Int) (p:Nat) [NeZero p] (hx1:(p1,ofI x1)∈L) (hy1:(p2,ofI y1)∈L) (hz1:(p3,ofI z1)∈L) (hx2:(p4,ofI x2)∈L) (hy2:(p5,ofI y2)∈L) (hz2:(p6,ofI z2)∈L) (hP:(pP,ofI (p:Int))∈L)
  (cP0:w.cell? ⟨pc,0,none⟩=some (pt pP)) (hFc:F pc) (sx1:Sz 384 x1) (sy1:Sz 384 y1) (sz1:Sz 384 z1) (sx2:Sz 384 x2) (sy2:Sz 384 y2) (sz2:Sz 384 z2) (sP:Sz 384 (p:Int)) (bz1:0<z1∧z1<p) (bz2:0<z2∧z2<p) :
  Calls Tryz.prog 210 #[pt pc,pt p1,pt p2,pt p3,pt p4,pt p5,pt p6] w fun e w'=>∃(a b c:Nat) (X Y Z:Int),e = .returned (.tuple #[pt a,pt b,pt c])∧St F w' ((a,ofI X)::(b,ofI Y)::(c,ofI Z)::L)∧Keep (fun b=>¬F b) w w' ∧
   Hid ((⟨Ec.fi p X,Ec.fi p Y,Ec.fi p Z⟩:Ec.Tri p)=Ec.gadd ⟨Ec.fi p x1,Ec.fi p y1,Ec.fi p z1⟩ ⟨Ec.fi p x2,Ec.fi p y2,Ec.fi p z2⟩)∧(0≤X∧X<p)∧(0≤Y∧Y<p)∧(0≤Z∧Z<p):=by
 have hP0:(0:Int)<(p:Int):=by have:=NeZero.ne p;omega
 go_enter Tryz.func210,Tryz.ntmps210
 have cP:=cP0
 go_wp2_with fail
 have h1:=(St.alloc (St.alloc (St.alloc h 85) 85) 85)
 have k1:Keep (fun b=>¬F b) w (((w.alloc iz).alloc iz).alloc iz):=((((Keep.refl (fun b=>¬F b) w).alloc iz).alloc iz).alloc iz)
 have cP':(((w.alloc iz).alloc iz).alloc iz).cell? ⟨pc,0,none⟩=some (pt pP):=k1.cell cP0 (fun h=>h hFc)
 have hsz:∀(w:World) (o:Obj),(w.alloc o).heap.size=w.heap.size+1:=fun w o=>Array.size_push _
 simp only [hsz] at h1
 clear hsz
 generalize hwa:(((w.alloc iz).alloc iz).alloc iz)=w1 at *
 clear hwa
 generalize w.heap.size+1+1=q1_2 at *
 generalize w.heap.size+1=q1_1 at *
 generalize w.heap.size=q1_0 at *
 clear cP
 have cP:=cP'
 clear cP'
 have H1:Hid _:=h1
 have K1:Hid _:=k1
 clear h1 k1
 refine(sign_any F w1 _ (oo H1) p3 z1 (tl3 hz1)).mono ?_
 rintro e ws ⟨rfl,hws⟩
 rw [hws]
 clear hws ws
 obtain⟨sa,hsa⟩:∃u,sgn z1=u:=⟨_,rfl⟩
 rw [hsa]
 have Hsa:Hid _:=hsa
 clear hsa
 obtain rfl:sa=1:=by rw [← oo Hsa,sgn,if_neg (by omega),if_neg (by omega)]
 clear Hsa
 go_wp2_with fail
 refine(sign_any F w1 _ (oo H1) p6 z2 (tl3 hz2)).mono ?_
 rintro e ws ⟨rfl,hws⟩
 rw [hws]
 clear hws ws
 obtain⟨sb,hsb⟩:∃u,sgn z2=u:=⟨_,rfl⟩
 rw [hsb]
 have Hsb:Hid _:=hsb
 clear hsb
 obtain rfl:sb=1:=by rw [← oo Hsb,sgn,if_neg (by omega),if_neg (by omega)]
 clear Hsb
 go_wp2_with fail
 have h2:=St.alloc (oo H1) 85
 have k2:Keep (fun b=>¬F b) w _:=((oo K1).alloc iz)
 have cP':=k2.cell cP0 (fun h=>h hFc)
 generalize hwa:w1.alloc iz=w2 at *
 clear hwa
 generalize w1.heap.size=q2 at *
 clear cP
 have cP:=cP'
 clear cP'
 have H2:Hid _:=h2
 have K2:Hid _:=k2
 clear h2 k2 H1 K1
 refine(intMul_any F w2 _ (oo H2) 0 q2 p3 p3 _ z1 z1 rfl (tl4 hz1) (tl4 hz1) 384 384 (by omega) (by omega)).mono ?_
 rintro e w3 ⟨v3,e3,zs3,rfl,h3,k3⟩
 have zs3:Sz 768 v3:=zs3.mono (by omega)
 have K3:=hh ((oo K2).trans k3)
 have cP:=(oo K3).cell cP0 (fun h=>h hFc)
 simp only [Ls0] at h3
 have H3:Hid _:=h3
 clear h3 k3 H2 K2
 go_wp2_with fail
 refine(intMod_any F w3 _ (oo H3) 0 q2 q2 pP _ v3 (p:Int) rfl (.head _) (tl4 hP) (St.neTail (oo H3) (i:=0) (k:=4) rfl (by decide) hP) 768 384 (by omega) (by omega) hP0).mono ?_
 rintro e w4 ⟨v4,e4,zs4,rfl,h4,k4⟩
 have zs4:Sz 384 v4:=zs4.mono (by omega)
 have K4:=hh ((oo K3).trans k4)
 have cP:=(oo K4).cell cP0 (fun h=>h hFc)
 simp only [Ls0] at h4
 have H4:Hid _:=h4
 clear h4 k4 H3 K3
 go_wp2_with fail
 have h5:=St.alloc (oo H4) 85
 have k5:Keep (fun b=>¬F b) w _:=((oo K4).alloc iz)
 have cP':=k5.cell cP0 (fun h=>h hFc)
 generalize hwa:w4.alloc iz=w5 at *
 clear hwa
 generalize w4.heap.size=q5 at *
 clear cP
 have cP:=cP'
 clear cP'
 have H5:Hid _:=h5
 have K5:Hid _:=k5
 clear h5 k5 H4 K4
 refine(intMul_any F w5 _ (oo H5) 0 q5 p6 p6 _ z2 z2 rfl (tl5 hz2) (tl5 hz2) 384 384 (by omega) (by omega)).mono ?_
 rintro e w6 ⟨v6,e6,zs6,rfl,h6,k6⟩
 have zs6:Sz 768 v6:=zs6.mono (by omega)
 have K6:=hh ((oo K5).trans k6)
 have cP:=(oo K6).cell cP0 (fun h=>h hFc)
 simp only [Ls0] at h6
 have H6:Hid _:=h6
 clear h6 k6 H5 K5
 go_wp2_with fail
 refine(intMod_any F w6 _ (oo H6) 0 q5 q5 pP _ v6 (p:Int) rfl (.head _) (tl5 hP) (St.neTail (oo H6) (i:=0) (k:=5) rfl (by decide) hP) 768 384 (by omega) (by omega) hP0).mono ?_
 rintro e w7 ⟨v7,e7,zs7,rfl,h7,k7⟩
 have zs7:Sz 384 v7:=zs7.mono (by omega)
 have K7:=hh ((oo K6).trans k7)
 have cP:=(oo K7).cell cP0 (fun h=>h hFc)
 simp only [Ls0] at h7
 have H7:Hid _:=h7
 clear h7 k7 H6 K6
 go_wp2_with fail
 have h8:=St.alloc (oo H7) 85
 have k8:Keep (fun b=>¬F b) w _:=((oo K7).alloc iz)
 have cP':=k8.cell cP0 (fun h=>h hFc)
 generalize hwa:w7.alloc iz=w8 at *
 clear hwa
 generalize w7.heap.size=q8 at *
 clear cP
 have cP:=cP'
 clear cP'
 have H8:Hid _:=h8
 have K8:Hid _:=k8
 clear h8 k8 H7 K7
 refine(intMul_any F w8 _ (oo H8) 0 q8 p1 q5 _ x1 v7 rfl (tl6 hx1) (.tail _ (.head _)) 384 384 (by omega) (by omega)).mono ?_
 rintro e w9 ⟨v9,e9,zs9,rfl,h9,k9⟩
 have zs9:Sz 768 v9:=zs9.mono (by omega)
 have K9:=hh ((oo K8).trans k9)
 have cP:=(oo K9).cell cP0 (fun h=>h hFc)
 simp only [Ls0] at h9
 have H9:Hid _:=h9
 clear h9 k9 H8 K8
 go_wp2_with fail
 refine(intMod_any F w9 _ (oo H9) 0 q8 q8 pP _ v9 (p:Int) rfl (.head _) (tl6 hP) (St.neTail (oo H9) (i:=0) (k:=6) rfl (by decide) hP) 768 384 (by omega) (by omega) hP0).mono ?_
 rintro e w10 ⟨v10,e10,zs10,rfl,h10,k10⟩
 have zs10:Sz 384 v10:=zs10.mono (by omega)
 have K10:=hh ((oo K9).trans k10)
 have cP:=(oo K10).cell cP0 (fun h=>h hFc)
 simp only [Ls0] at h10
 have H10:Hid _:=h10
 clear h10 k10 H9 K9
 go_wp2_with fail
 have h11:=St.alloc (oo H10) 85
 have k11:Keep (fun b=>¬F b) w _:=((oo K10).alloc iz)
 have cP':=k11.cell cP0 (fun h=>h hFc)
 generalize hwa:w10.alloc iz=w11 at *
 clear hwa
 generalize w10.heap.size=q11 at *
 clear cP
 have cP:=cP'
 clear cP'
 have H11:Hid _:=h11
 have K11:Hid _:=k11
 clear h11 k11 H10 K10
 refine(intMul_any F w11 _ (oo H11) 0 q11 p4 q2 _ x2 v4 rfl (tl7 hx2) (tl3 (.head _)) 384 384 (by omega) (by omega)).mono ?_
 rintro e w12 ⟨v12,e12,zs12,rfl,h12,k12⟩
 have zs12:Sz 768 v12:=zs12.mono (by omega)
 have K12:=hh ((oo K11).trans k12)
 have cP:=(oo K12).cell cP0 (fun h=>h hFc)
 simp only [Ls0] at h12
 have H12:Hid _:=h12
 clear h12 k12 H11 K11
 go_wp2_with fail
 refine(intMod_any F w12 _ (oo H12) 0 q11 q11 pP _ v12 (p:Int) rfl (.head _) (tl7 hP) (St.neTail (oo H12) (i:=0) (k:=7) rfl (by decide) hP) 768 384 (by omega) (by omega) hP0).mono ?_
 rintro e w13 ⟨v13,e13,zs13,rfl,h13,k13⟩
 have zs13:Sz 384 v13:=zs13.mono (by omega)
 have K13:=hh ((oo K12).trans k13)
 have cP:=(oo K13).cell cP0 (fun h=>h hFc)
 simp only [Ls0] at h13
 have H13:Hid _:=h13
 clear h13 k13 H12 K12
 go_wp2_with fail
 have h14:=St.alloc (oo H13) 85
 have k14:Keep (fun b=>¬F b) w _:=((oo K13).alloc iz)
 have cP':=k14.cell cP0 (fun h=>h hFc)
 generalize hwa:w13.alloc iz=w14 at *
 clear hwa
 generalize w13.heap.size=q14 at *
 clear cP
 have cP:=cP'
 clear cP'
 have H14:Hid _:=h14
 have K14:Hid _:=k14
 clear h14 k14 H13 K13
 refine(intSub_any F w14 _ (oo H14) 0 q14 q11 q8 _ v13 v10 rfl (.tail _ (.head _)) (tl2 (.head _)) 384 384 (by omega) (by omega)).mono ?_
 rintro e w15 ⟨v15,e15,zs15,rfl,h15,k15⟩
 have zs15:Sz 385 v15:=zs15.mono (by omega)
 have K15:=hh ((oo K14).trans k15)
 have cP:=(oo K15).cell cP0 (fun h=>h hFc)
 simp only [Ls0] at h15
 have H15:Hid _:=h15
 clear h15 k15 H14 K14
 go_wp2_with fail
 refine(sign_any F w15 _ (oo H15) q14 v15 (.head _)).mono ?_
 rintro e ws ⟨rfl,hws⟩
 rw [hws]
 clear hws ws
 obtain⟨sh,hsh⟩:∃u,sgn v15=u:=⟨_,rfl⟩
 rw [hsh]
 have Hsh:Hid _:=hsh
 clear hsh
 go_wp2_with fail
 refine(sign_any F w15 _ (oo H15) q14 v15 (.head _)).mono ?_
 rintro e ws16 ⟨rfl,hws⟩
 rw [hws]
 clear hws ws16
 obtain⟨sv,hsv⟩:∃u,sgn v15=u:=⟨_,rfl⟩
 rw [hsv]
 have HSV:Hid _:=hsv
 clear hsv
 go_upto_if 119 with fail
 go_cut [] from 119 to 126 (fun wx=>∃v16,Hid ((0≤v15∧v16=v15)∨(v15<0∧v16=v15+(p:Int)))∧Sz 386 v16∧St F wx ((q14,ofI v16)::(q11,ofI v13)::(q8,ofI v10)::(q5,ofI v7)::(q2,ofI v4)::(q1_2,ofI 0)::(q1_1,ofI 0)::(q1_0,ofI 0)::L)∧Keep (fun b=>¬F b) w wx)
 case first=>
  by_cases hneg:v15<0
  ·obtain rfl:sv = -1:=by rw [← oo HSV,sgn,if_pos hneg]
   have HNEG:Hid (v15<0):=hneg
   clear hneg HSV
   go_wp2_with fail
   refine(intAdd_any F w15 _ (oo H15) 0 q14 q14 pP _ v15 (p:Int) rfl (.head _) (tl8 hP) 385 384 (by omega) (by omega)).mono ?_
   rintro e wz ⟨v,ev,zv,rfl,hv,kv⟩
   simp only [Ls0] at hv
   have HV:Hid _:=hv
   have KV:Hid _:=kv
   clear hv kv
   go_wp2_with fail
   go_meet
   exact⟨v,.inr ⟨HNEG.out,ev.out⟩,zv.mono (by omega),oo HV,(oo K15).trans (oo KV)⟩
  ·have hs1:sv≠-1:=by rw [← oo HSV,sgn,if_neg hneg];split<;>decide
   have t1:(sv == -1)=false:=beq_eq_false_iff_ne.2 hs1
   have HNN:Hid (0≤v15):=Int.not_lt.1 hneg
   clear hneg hs1 HSV
   go_wp2_with fail
   go_meet
   exact⟨v15,.inl ⟨HNN.out,rfl⟩,Sz.mono (n:=386) (inferInstance:Sz 385 v15) (by omega),(oo H15),oo K15⟩
 case rest=>
  clear HSV
  obtain⟨v16,e16,zs16,h16,k16⟩:=hcut
  have H16:Hid _:=h16
  have K16:Hid _:=k16
  have cP:wc.cell? ⟨pc,0,none⟩=some (pt pP):=k16.cell cP0 (fun h=>h hFc)
  clear h16 k16 H15 K15
  go_wp2_with fail
  have h17:=St.alloc (oo H16) 85
  have k17:Keep (fun b=>¬F b) w _:=((oo K16).alloc iz)
  have cP':=k17.cell cP0 (fun h=>h hFc)
  generalize hwa:wc.alloc iz=w17 at *
  clear hwa
  generalize wc.heap.size=q17 at *
  clear cP
  have cP:=cP'
  clear cP'
  have H17:Hid _:=h17
  have K17:Hid _:=k17
  clear h17 k17 H16 K16
  refine(intLsh_any F w17 _ (oo H17) 0 q17 q14 _ v16 rfl (.tail _ (.head _)) 1 386 (by omega) (by omega) (by omega)).mono ?_
  rintro e w18 ⟨v18,e18,zs18,rfl,h18,k18⟩
  have zs18:Sz 387 v18:=zs18.mono (by omega)
  have K18:=hh ((oo K17).trans k18)
  have cP:=(oo K18).cell cP0 (fun h=>h hFc)
  simp only [Ls0] at h18
  have H18:Hid _:=h18
  clear h18 k18 H17 K17
  go_wp2_with fail
  refine(intMul_any F w18 _ (oo H18) 0 q17 q17 q17 _ v18 v18 rfl (.head _) (.head _) 387 387 (by omega) (by omega)).mono ?_
  rintro e w19 ⟨v19,e19,zs19,rfl,h19,k19⟩
  have zs19:Sz 774 v19:=zs19.mono (by omega)
  have K19:=hh ((oo K18).trans k19)
  have cP:=(oo K19).cell cP0 (fun h=>h hFc)
  simp only [Ls0] at h19
  have H19:Hid _:=h19
  clear h19 k19 H18 K18
  go_wp2_with fail
  have h20:=St.alloc (oo H19) 85
  have k20:Keep (fun b=>¬F b) w _:=((oo K19).alloc iz)
  have cP':=k20.cell cP0 (fun h=>h hFc)
  generalize hwa:w19.alloc iz=w20 at *
  clear hwa
  generalize w19.heap.size=q20 at *
  clear cP
  have cP:=cP'
  clear cP'
  have H20:Hid _:=h20
  have K20:Hid _:=k20
  clear h20 k20 H19 K19
  refine(intMul_any F w20 _ (oo H20) 0 q20 q14 q17 _ v16 v19 rfl (tl2 (.head _)) (.tail _ (.head _)) 386 774 (by omega) (by omega)).mono ?_
  rintro e w21 ⟨v21,e21,zs21,rfl,h21,k21⟩
  have zs21:Sz 1160 v21:=zs21.mono (by omega)
  have K21:=hh ((oo K20).trans k21)
  have cP:=(oo K21).cell cP0 (fun h=>h hFc)
  simp only [Ls0] at h21
  have H21:Hid _:=h21
  clear h21 k21 H20 K20
  go_wp2_with fail
  have h22:=St.alloc (oo H21) 85
  have k22:Keep (fun b=>¬F b) w _:=((oo K21).alloc iz)
  have cP':=k22.cell cP0 (fun h=>h hFc)
  generalize hwa:w21.alloc iz=w22 at *
  clear hwa
  generalize w21.heap.size=q22 at *
  clear cP
  have cP:=cP'
  clear cP'
  have H22:Hid _:=h22
  have K22:Hid _:=k22
  clear h22 k22 H21 K21
  refine(intMul_any F w22 _ (oo H22) 0 q22 p2 p6 _ y1 z2 rfl (tl11 hy1) (tl11 hz2) 384 384 (by omega) (by omega)).mono ?_
  rintro e w23 ⟨v23,e23,zs23,rfl,h23,k23⟩
  have zs23:Sz 768 v23:=zs23.mono (by omega)
  have K23:=hh ((oo K22).trans k23)
  have cP:=(oo K23).cell cP0 (fun h=>h hFc)
  simp only [Ls0] at h23
  have H23:Hid _:=h23
  clear h23 k23 H22 K22
  go_wp2_with fail
  refine(intMul_any F w23 _ (oo H23) 0 q22 q22 q5 _ v23 v7 rfl (.head _) (tl6 (.head _)) 768 384 (by omega) (by omega)).mono ?_
  rintro e w24 ⟨v24,e24,zs24,rfl,h24,k24⟩
  have zs24:Sz 1152 v24:=zs24.mono (by omega)
  have K24:=hh ((oo K23).trans k24)
  have cP:=(oo K24).cell cP0 (fun h=>h hFc)
  simp only [Ls0] at h24
  have H24:Hid _:=h24
  clear h24 k24 H23 K23
  go_wp2_with fail
  refine(intMod_any F w24 _ (oo H24) 0 q22 q22 pP _ v24 (p:Int) rfl (.head _) (tl11 hP) (St.neTail (oo H24) (i:=0) (k:=11) rfl (by decide) hP) 1152 384 (by omega) (by omega) hP0).mono ?_
  rintro e w25 ⟨v25,e25,zs25,rfl,h25,k25⟩
  have zs25:Sz 384 v25:=zs25.mono (by omega)
  have K25:=hh ((oo K24).trans k25)
  have cP:=(oo K25).cell cP0 (fun h=>h hFc)
  simp only [Ls0] at h25
  have H25:Hid _:=h25
  clear h25 k25 H24 K24
  go_wp2_with fail
  have h26:=St.alloc (oo H25) 85
  have k26:Keep (fun b=>¬F b) w _:=((oo K25).alloc iz)
  have cP':=k26.cell cP0 (fun h=>h hFc)
  generalize hwa:w25.alloc iz=w26 at *
  clear hwa
  generalize w25.heap.size=q26 at *
  clear cP
  have cP:=cP'
  clear cP'
  have H26:Hid _:=h26
  have K26:Hid _:=k26
  clear h26 k26 H25 K25
  refine(intMul_any F w26 _ (oo H26) 0 q26 p5 p3 _ y2 z1 rfl (tl12 hy2) (tl12 hz1) 384 384 (by omega) (by omega)).mono ?_
  rintro e w27 ⟨v27,e27,zs27,rfl,h27,k27⟩
  have zs27:Sz 768 v27:=zs27.mono (by omega)
  have K27:=hh ((oo K26).trans k27)
  have cP:=(oo K27).cell cP0 (fun h=>h hFc)
  simp only [Ls0] at h27
  have H27:Hid _:=h27
  clear h27 k27 H26 K26
  go_wp2_with fail
  refine(intMul_any F w27 _ (oo H27) 0 q26 q26 q2 _ v27 v4 rfl (.head _) (tl8 (.head _)) 768 384 (by omega) (by omega)).mono ?_
  rintro e w28 ⟨v28,e28,zs28,rfl,h28,k28⟩
  have zs28:Sz 1152 v28:=zs28.mono (by omega)
  have K28:=hh ((oo K27).trans k28)
  have cP:=(oo K28).cell cP0 (fun h=>h hFc)
  simp only [Ls0] at h28
  have H28:Hid _:=h28
  clear h28 k28 H27 K27
  go_wp2_with fail
  refine(intMod_any F w28 _ (oo H28) 0 q26 q26 pP _ v28 (p:Int) rfl (.head _) (tl12 hP) (St.neTail (oo H28) (i:=0) (k:=12) rfl (by decide) hP) 1152 384 (by omega) (by omega) hP0).mono ?_
  rintro e w29 ⟨v29,e29,zs29,rfl,h29,k29⟩
  have zs29:Sz 384 v29:=zs29.mono (by omega)
  have K29:=hh ((oo K28).trans k29)
  have cP:=(oo K29).cell cP0 (fun h=>h hFc)
  simp only [Ls0] at h29
  have H29:Hid _:=h29
  clear h29 k29 H28 K28
  go_wp2_with fail
  have h30:=St.alloc (oo H29) 85
  have k30:Keep (fun b=>¬F b) w _:=((oo K29).alloc iz)
  have cP':=k30.cell cP0 (fun h=>h hFc)
  generalize hwa:w29.alloc iz=w30 at *
  clear hwa
  generalize w29.heap.size=q30 at *
  clear cP
  have cP:=cP'
  clear cP'
  have H30:Hid _:=h30
  have K30:Hid _:=k30
  clear h30 k30 H29 K29
  refine(intSub_any F w30 _ (oo H30) 0 q30 q26 q22 _ v29 v25 rfl (.tail _ (.head _)) (tl2 (.head _)) 384 384 (by omega) (by omega)).mono ?_
  rintro e w31 ⟨v31,e31,zs31,rfl,h31,k31⟩
  have zs31:Sz 385 v31:=zs31.mono (by omega)
  have K31:=hh ((oo K30).trans k31)
  have cP:=(oo K31).cell cP0 (fun h=>h hFc)
  simp only [Ls0] at h31
  have H31:Hid _:=h31
  clear h31 k31 H30 K30
  go_wp2_with fail
  refine(sign_any F w31 _ (oo H31) q30 v31 (.head _)).mono ?_
  rintro e ws32 ⟨rfl,hws⟩
  rw [hws]
  clear hws ws32
  obtain⟨sv,hsv⟩:∃u,sgn v31=u:=⟨_,rfl⟩
  rw [hsv]
  have HSV:Hid _:=hsv
  clear hsv
  go_upto_if 174 with fail
  go_cut [] from 174 to 181 (fun wx=>∃v32,Hid ((0≤v31∧v32=v31)∨(v31<0∧v32=v31+(p:Int)))∧Sz 386 v32∧St F wx ((q30,ofI v32)::(q26,ofI v29)::(q22,ofI v25)::(q20,ofI v21)::(q17,ofI v19)::(q14,ofI v16)::(q11,ofI v13)::(q8,ofI v10)::(q5,ofI v7)::(q2,ofI v4)::(q1_2,ofI 0)::(q1_1,ofI 0)::(q1_0,ofI 0)::L)∧Keep (fun b=>¬F b) w wx)
  case first=>
   by_cases hneg:v31<0
   ·obtain rfl:sv = -1:=by rw [← oo HSV,sgn,if_pos hneg]
    have HNEG:Hid (v31<0):=hneg
    clear hneg HSV
    go_wp2_with fail
    refine(intAdd_any F w31 _ (oo H31) 0 q30 q30 pP _ v31 (p:Int) rfl (.head _) (tl13 hP) 385 384 (by omega) (by omega)).mono ?_
    rintro e wz ⟨v,ev,zv,rfl,hv,kv⟩
    simp only [Ls0] at hv
    have HV:Hid _:=hv
    have KV:Hid _:=kv
    clear hv kv
    go_wp2_with fail
    go_meet
    exact⟨v,.inr ⟨HNEG.out,ev.out⟩,zv.mono (by omega),oo HV,(oo K31).trans (oo KV)⟩
   ·have hs1:sv≠-1:=by rw [← oo HSV,sgn,if_neg hneg];split<;>decide
    have t1:(sv == -1)=false:=beq_eq_false_iff_ne.2 hs1
    have HNN:Hid (0≤v31):=Int.not_lt.1 hneg
    clear hneg hs1 HSV
    go_wp2_with fail
    go_meet
    exact⟨v31,.inl ⟨HNN.out,rfl⟩,Sz.mono (n:=386) (inferInstance:Sz 385 v31) (by omega),(oo H31),oo K31⟩
  case rest=>
   clear HSV
   obtain⟨v32,e32,zs32,h32,k32⟩:=hcut
   have H32:Hid _:=h32
   have K32:Hid _:=k32
   have cP:wc.cell? ⟨pc,0,none⟩=some (pt pP):=k32.cell cP0 (fun h=>h hFc)
   clear h32 k32 H31 K31
   go_wp2_with fail
   refine(sign_any F wc _ (oo H32) q30 v32 (.head _)).mono ?_
   rintro e ws ⟨rfl,hws⟩
   rw [hws]
   clear hws ws
   obtain⟨sr,hsr⟩:∃u,sgn v32=u:=⟨_,rfl⟩
   rw [hsr]
   have Hsr:Hid _:=hsr
   clear hsr
   have HX:Hid (sh=0↔Ec.fi p x2*(Ec.fi p z1*Ec.fi p z1)-Ec.fi p x1*(Ec.fi p z2*Ec.fi p z2)=0):=by
    have f3:=congrArg (Ec.fi p) (oo e3)
    rw [Ec.fi_mul] at f3
    have f4:=congrArg (Ec.fi p) (oo e4)
    rw [Ec.fi_mod] at f4
    have f6:=congrArg (Ec.fi p) (oo e6)
    rw [Ec.fi_mul] at f6
    have f7:=congrArg (Ec.fi p) (oo e7)
    rw [Ec.fi_mod] at f7
    have f9:=congrArg (Ec.fi p) (oo e9)
    rw [Ec.fi_mul] at f9
    have f10:=congrArg (Ec.fi p) (oo e10)
    rw [Ec.fi_mod] at f10
    have f12:=congrArg (Ec.fi p) (oo e12)
    rw [Ec.fi_mul] at f12
    have f13:=congrArg (Ec.fi p) (oo e13)
    rw [Ec.fi_mod] at f13
    have f15:=congrArg (Ec.fi p) (oo e15)
    rw [Ec.fi_sub] at f15
    have f16:Ec.fi p v16=Ec.fi p v15:=by
     rcases oo e16 with⟨_,e⟩ | ⟨_,e⟩
     ·rw [e]
     ·rw [e,Ec.fi_add,Ec.fi_p];grind
    have f18:=congrArg (Ec.fi p) (oo e18)
    rw [Ec.fi_mul] at f18
    have f19:=congrArg (Ec.fi p) (oo e19)
    rw [Ec.fi_mul] at f19
    have f21:=congrArg (Ec.fi p) (oo e21)
    rw [Ec.fi_mul] at f21
    have f23:=congrArg (Ec.fi p) (oo e23)
    rw [Ec.fi_mul] at f23
    have f24:=congrArg (Ec.fi p) (oo e24)
    rw [Ec.fi_mul] at f24
    have f25:=congrArg (Ec.fi p) (oo e25)
    rw [Ec.fi_mod] at f25
    have f27:=congrArg (Ec.fi p) (oo e27)
    rw [Ec.fi_mul] at f27
    have f28:=congrArg (Ec.fi p) (oo e28)
    rw [Ec.fi_mul] at f28
    have f29:=congrArg (Ec.fi p) (oo e29)
    rw [Ec.fi_mod] at f29
    have f31:=congrArg (Ec.fi p) (oo e31)
    rw [Ec.fi_sub] at f31
    have f32:Ec.fi p v32=Ec.fi p v31:=by
     rcases oo e32 with⟨_,e⟩ | ⟨_,e⟩
     ·rw [e]
     ·rw [e,Ec.fi_add,Ec.fi_p];grind
    have bv10:0≤v10∧v10<p:=⟨by rw [oo e10];exact Int.emod_nonneg _ (by omega),by rw [oo e10];exact Int.emod_lt_of_pos _ hP0⟩
    have bv13:0≤v13∧v13<p:=⟨by rw [oo e13];exact Int.emod_nonneg _ (by omega),by rw [oo e13];exact Int.emod_lt_of_pos _ hP0⟩
    have d1:=oo e15
    have e1:sh=0↔v15=0:=by rw [← oo Hsh];unfold sgn;split<;>(try split)<;>omega
    have e2:Ec.fi p v15=Ec.fi p x2*(Ec.fi p z1*Ec.fi p z1)-Ec.fi p x1*(Ec.fi p z2*Ec.fi p z2):=by simp only [f3,f4,f6,f7,f9,f10,f12,f13,f15]
    have e3:v15=0↔Ec.fi p v15=0:=by
     rw [Ec.fi_zero_iff]
     have hd:=Int.emod_add_mul_ediv v15 p
     constructor
     ·intro h;rw [show v15=0 by omega];simp
     ·intro h
      have:=Int.emod_eq_of_lt (a:=v15) (b:=p)
      have h5:v15=0:=by
       rcases(show 0≤v15∨v15<0 by omega) with h6 | h6
       ·rw [Int.emod_eq_of_lt h6 (by omega)] at h;exact h
       ·have h7:(v15+p)%p=0:=by rw [Int.add_emod_right];exact h
        rw [Int.emod_eq_of_lt (by omega) (by omega)] at h7;omega
      omega
    show _↔_
    rw [e1,e3,e2]
   have HY:Hid (sr=0↔Ec.fi p y2*Ec.fi p z1*(Ec.fi p z1*Ec.fi p z1)-Ec.fi p y1*Ec.fi p z2*(Ec.fi p z2*Ec.fi p z2)=0):=by
    have f3:=congrArg (Ec.fi p) (oo e3)
    rw [Ec.fi_mul] at f3
    have f4:=congrArg (Ec.fi p) (oo e4)
    rw [Ec.fi_mod] at f4
    have f6:=congrArg (Ec.fi p) (oo e6)
    rw [Ec.fi_mul] at f6
    have f7:=congrArg (Ec.fi p) (oo e7)
    rw [Ec.fi_mod] at f7
    have f9:=congrArg (Ec.fi p) (oo e9)
    rw [Ec.fi_mul] at f9
    have f10:=congrArg (Ec.fi p) (oo e10)
    rw [Ec.fi_mod] at f10
    have f12:=congrArg (Ec.fi p) (oo e12)
    rw [Ec.fi_mul] at f12
    have f13:=congrArg (Ec.fi p) (oo e13)
    rw [Ec.fi_mod] at f13
    have f15:=congrArg (Ec.fi p) (oo e15)
    rw [Ec.fi_sub] at f15
    have f16:Ec.fi p v16=Ec.fi p v15:=by
     rcases oo e16 with⟨_,e⟩ | ⟨_,e⟩
     ·rw [e]
     ·rw [e,Ec.fi_add,Ec.fi_p];grind
    have f18:=congrArg (Ec.fi p) (oo e18)
    rw [Ec.fi_mul] at f18
    have f19:=congrArg (Ec.fi p) (oo e19)
    rw [Ec.fi_mul] at f19
    have f21:=congrArg (Ec.fi p) (oo e21)
    rw [Ec.fi_mul] at f21
    have f23:=congrArg (Ec.fi p) (oo e23)
    rw [Ec.fi_mul] at f23
    have f24:=congrArg (Ec.fi p) (oo e24)
    rw [Ec.fi_mul] at f24
    have f25:=congrArg (Ec.fi p) (oo e25)
    rw [Ec.fi_mod] at f25
    have f27:=congrArg (Ec.fi p) (oo e27)
    rw [Ec.fi_mul] at f27
    have f28:=congrArg (Ec.fi p) (oo e28)
    rw [Ec.fi_mul] at f28
    have f29:=congrArg (Ec.fi p) (oo e29)
    rw [Ec.fi_mod] at f29
    have f31:=congrArg (Ec.fi p) (oo e31)
    rw [Ec.fi_sub] at f31
    have f32:Ec.fi p v32=Ec.fi p v31:=by
     rcases oo e32 with⟨_,e⟩ | ⟨_,e⟩
     ·rw [e]
     ·rw [e,Ec.fi_add,Ec.fi_p];grind
    have bv25:0≤v25∧v25<p:=⟨by rw [oo e25];exact Int.emod_nonneg _ (by omega),by rw [oo e25];exact Int.emod_lt_of_pos _ hP0⟩
    have bv29:0≤v29∧v29<p:=⟨by rw [oo e29];exact Int.emod_nonneg _ (by omega),by rw [oo e29];exact Int.emod_lt_of_pos _ hP0⟩
    have d1:=oo e31
    have d2:=oo e32
    have e1:sr=0↔v32=0:=by rw [← oo Hsr];unfold sgn;split<;>(try split)<;>omega
    have e2:Ec.fi p v31=Ec.fi p y2*Ec.fi p z1*(Ec.fi p z1*Ec.fi p z1)-Ec.fi p y1*Ec.fi p z2*(Ec.fi p z2*Ec.fi p z2):=by simp only [f3,f4,f6,f7,f23,f24,f25,f27,f28,f29,f31]
    have e3:v32=0↔Ec.fi p v31=0:=by
     rw [Ec.fi_zero_iff]
     have hd:=Int.emod_add_mul_ediv v31 p
     constructor
     ·intro h;rw [show v31=0 by omega];simp
     ·intro h
      have:=Int.emod_eq_of_lt (a:=v31) (b:=p)
      have h5:v31=0:=by
       rcases(show 0≤v31∨v31<0 by omega) with h6 | h6
       ·rw [Int.emod_eq_of_lt h6 (by omega)] at h;exact h
       ·have h7:(v31+p)%p=0:=by rw [Int.add_emod_right];exact h
        rw [Int.emod_eq_of_lt (by omega) (by omega)] at h7;omega
      omega
    show _↔_
    rw [e1,e3,e2]
   clear Hsh Hsr
   have n1:Ec.fi p z1≠0:=by rw [Ne,Ec.fi_zero_iff,Int.emod_eq_of_lt (by omega) (by omega)];omega
   have n2:Ec.fi p z2≠0:=by rw [Ne,Ec.fi_zero_iff,Int.emod_eq_of_lt (by omega) (by omega)];omega
   have N1:Hid _:=n1
   have N2:Hid _:=n2
   clear n1 n2
   by_cases hE:sh=0∧sr=0
   ·obtain⟨rfl,rfl⟩:=hE
    go_wp2_with fail
    refine(ellDouble_any F wc _ (oo H32) pc pP p1 p2 p3 x1 y1 z1 p (tl13 hx1) (tl13 hy1) (tl13 hz1) (tl13 hP) cP hFc sx1 sy1 sz1 sP).mono ?_
    rintro e wz ⟨a1,b1,c1,X,Y,Z,rfl,hz,kz,heq,bx,by',bz⟩
    have HZ:Hid _:=hz
    have KZ:Hid _:=kz
    clear hz kz
    go_wp2_with fail
    go_ret3
    refine⟨a1,b1,c1,X,Y,Z,rfl,St.pre (P:=[_,_,_,_,_,_,_,_,_,_,_,_,_,_,_,_]) (oo HZ) [_,_,_] [0,1,2] (by decide) 16 rfl (by decide) rfl,(oo K32).trans (oo KZ),?_,bx,by',bz⟩
    show _=_
    rw [heq.out]
    simp only [Ec.gadd]
    rw [if_neg (oo N1),if_neg (oo N2),if_pos ⟨(oo HX).1 (by simp),(oo HY).1 (by simp)⟩]
   ·have HNE:Hid (¬(Ec.fi p x2*(Ec.fi p z1*Ec.fi p z1)-Ec.fi p x1*(Ec.fi p z2*Ec.fi p z2)=0∧Ec.fi p y2*Ec.fi p z1*(Ec.fi p z1*Ec.fi p z1)-Ec.fi p y1*Ec.fi p z2*(Ec.fi p z2*Ec.fi p z2)=0)):=fun h=>hE ⟨(oo HX).2 h.1,(oo HY).2 h.2⟩
    rcases(show sh≠0∨(sh=0∧sr≠0) by omega) with h0 | ⟨h0,h9⟩
    ·have t1:(sh==0)=false:=beq_eq_false_iff_ne.2 h0
     clear h0 hE
     go_wp2_with fail
     refine(intLsh_any F wc _ (oo H32) 0 q30 q30 _ v32 rfl (.head _) 1 386 (by omega) (by omega) (by omega)).mono ?_
     rintro e w33 ⟨v33,e33,zs33,rfl,h33,k33⟩
     have zs33:Sz 387 v33:=zs33.mono (by omega)
     have K33:=hh ((oo K32).trans k33)
     have cP:=(oo K33).cell cP0 (fun h=>h hFc)
     simp only [Ls0] at h33
     have H33:Hid _:=h33
     clear h33 k33 H32 K32
     go_wp2_with fail
     have h34:=St.alloc (oo H33) 85
     have k34:Keep (fun b=>¬F b) w _:=((oo K33).alloc iz)
     have cP':=k34.cell cP0 (fun h=>h hFc)
     generalize hwa:w33.alloc iz=w34 at *
     clear hwa
     generalize w33.heap.size=q34 at *
     clear cP
     have cP:=cP'
     clear cP'
     have H34:Hid _:=h34
     have K34:Hid _:=k34
     clear h34 k34 H33 K33
     refine(intMul_any F w34 _ (oo H34) 0 q34 q8 q17 _ v10 v19 rfl (tl8 (.head _)) (tl5 (.head _)) 384 774 (by omega) (by omega)).mono ?_
     rintro e w35 ⟨v35,e35,zs35,rfl,h35,k35⟩
     have zs35:Sz 1158 v35:=zs35.mono (by omega)
     have K35:=hh ((oo K34).trans k35)
     have cP:=(oo K35).cell cP0 (fun h=>h hFc)
     simp only [Ls0] at h35
     have H35:Hid _:=h35
     clear h35 k35 H34 K34
     go_wp2_with fail
     refine(intSet_any F w35 _ (oo H35) 13 q1_0 q30 _ v33 rfl (.tail _ (.head _)) 387 (by omega)).mono ?_
     rintro e w36 ⟨rfl,h36,k36⟩
     have K36:=hh ((oo K35).trans k36)
     have cP:=(oo K36).cell cP0 (fun h=>h hFc)
     simp only [Ls0,Ls1] at h36
     have H36:Hid _:=h36
     clear h36 k36 H35 K35
     go_wp2_with fail
     refine(intMul_any F w36 _ (oo H36) 13 q1_0 q1_0 q1_0 _ v33 v33 rfl (tl13 (.head _)) (tl13 (.head _)) 387 387 (by omega) (by omega)).mono ?_
     rintro e w37 ⟨v37,e37,zs37,rfl,h37,k37⟩
     have zs37:Sz 774 v37:=zs37.mono (by omega)
     have K37:=hh ((oo K36).trans k37)
     have cP:=(oo K37).cell cP0 (fun h=>h hFc)
     simp only [Ls0,Ls1] at h37
     have H37:Hid _:=h37
     clear h37 k37 H36 K36
     go_wp2_with fail
     refine(intSub_any F w37 _ (oo H37) 13 q1_0 q1_0 q20 _ v37 v21 rfl (tl13 (.head _)) (tl4 (.head _)) 774 1160 (by omega) (by omega)).mono ?_
     rintro e w38 ⟨v38,e38,zs38,rfl,h38,k38⟩
     have zs38:Sz 1161 v38:=zs38.mono (by omega)
     have K38:=hh ((oo K37).trans k38)
     have cP:=(oo K38).cell cP0 (fun h=>h hFc)
     simp only [Ls0,Ls1] at h38
     have H38:Hid _:=h38
     clear h38 k38 H37 K37
     go_wp2_with fail
     refine(intSub_any F w38 _ (oo H38) 13 q1_0 q1_0 q34 _ v38 v35 rfl (tl13 (.head _)) (.head _) 1161 1158 (by omega) (by omega)).mono ?_
     rintro e w39 ⟨v39,e39,zs39,rfl,h39,k39⟩
     have zs39:Sz 1162 v39:=zs39.mono (by omega)
     have K39:=hh ((oo K38).trans k39)
     have cP:=(oo K39).cell cP0 (fun h=>h hFc)
     simp only [Ls0,Ls1] at h39
     have H39:Hid _:=h39
     clear h39 k39 H38 K38
     go_wp2_with fail
     refine(intSub_any F w39 _ (oo H39) 13 q1_0 q1_0 q34 _ v39 v35 rfl (tl13 (.head _)) (.head _) 1162 1158 (by omega) (by omega)).mono ?_
     rintro e w40 ⟨v40,e40,zs40,rfl,h40,k40⟩
     have zs40:Sz 1163 v40:=zs40.mono (by omega)
     have K40:=hh ((oo K39).trans k40)
     have cP:=(oo K40).cell cP0 (fun h=>h hFc)
     simp only [Ls0,Ls1] at h40
     have H40:Hid _:=h40
     clear h40 k40 H39 K39
     go_wp2_with fail
     refine(intMod_any F w40 _ (oo H40) 13 q1_0 q1_0 pP _ v40 (p:Int) rfl (tl13 (.head _)) (tl14 hP) (St.neTail (oo H40) (i:=13) (k:=14) rfl (by decide) hP) 1163 384 (by omega) (by omega) hP0).mono ?_
     rintro e w41 ⟨v41,e41,zs41,rfl,h41,k41⟩
     have zs41:Sz 384 v41:=zs41.mono (by omega)
     have K41:=hh ((oo K40).trans k41)
     have cP:=(oo K41).cell cP0 (fun h=>h hFc)
     simp only [Ls0,Ls1] at h41
     have H41:Hid _:=h41
     clear h41 k41 H40 K40
     go_wp2_with fail
     refine(intSet_any F w41 _ (oo H41) 12 q1_1 q30 _ v33 rfl (.tail _ (.head _)) 387 (by omega)).mono ?_
     rintro e w42 ⟨rfl,h42,k42⟩
     have K42:=hh ((oo K41).trans k42)
     have cP:=(oo K42).cell cP0 (fun h=>h hFc)
     simp only [Ls0,Ls1] at h42
     have H42:Hid _:=h42
     clear h42 k42 H41 K41
     go_wp2_with fail
     refine(intSub_any F w42 _ (oo H42) 0 q34 q34 q1_0 _ v35 v41 rfl (.head _) (tl13 (.head _)) 1158 384 (by omega) (by omega)).mono ?_
     rintro e w43 ⟨v43,e43,zs43,rfl,h43,k43⟩
     have zs43:Sz 1159 v43:=zs43.mono (by omega)
     have K43:=hh ((oo K42).trans k43)
     have cP:=(oo K43).cell cP0 (fun h=>h hFc)
     simp only [Ls0] at h43
     have H43:Hid _:=h43
     clear h43 k43 H42 K42
     go_wp2_with fail
     refine(intMul_any F w43 _ (oo H43) 12 q1_1 q1_1 q34 _ v33 v43 rfl (tl12 (.head _)) (.head _) 387 1159 (by omega) (by omega)).mono ?_
     rintro e w44 ⟨v44,e44,zs44,rfl,h44,k44⟩
     have zs44:Sz 1546 v44:=zs44.mono (by omega)
     have K44:=hh ((oo K43).trans k44)
     have cP:=(oo K44).cell cP0 (fun h=>h hFc)
     simp only [Ls0,Ls1] at h44
     have H44:Hid _:=h44
     clear h44 k44 H43 K43
     go_wp2_with fail
     refine(intMul_any F w44 _ (oo H44) 3 q22 q22 q20 _ v25 v21 rfl (tl3 (.head _)) (tl4 (.head _)) 384 1160 (by omega) (by omega)).mono ?_
     rintro e w45 ⟨v45,e45,zs45,rfl,h45,k45⟩
     have zs45:Sz 1544 v45:=zs45.mono (by omega)
     have K45:=hh ((oo K44).trans k45)
     have cP:=(oo K45).cell cP0 (fun h=>h hFc)
     simp only [Ls0,Ls1] at h45
     have H45:Hid _:=h45
     clear h45 k45 H44 K44
     go_wp2_with fail
     refine(intLsh_any F w45 _ (oo H45) 3 q22 q22 _ v45 rfl (tl3 (.head _)) 1 1544 (by omega) (by omega) (by omega)).mono ?_
     rintro e w46 ⟨v46,e46,zs46,rfl,h46,k46⟩
     have zs46:Sz 1545 v46:=zs46.mono (by omega)
     have K46:=hh ((oo K45).trans k46)
     have cP:=(oo K46).cell cP0 (fun h=>h hFc)
     simp only [Ls0,Ls1] at h46
     have H46:Hid _:=h46
     clear h46 k46 H45 K45
     go_wp2_with fail
     refine(intSub_any F w46 _ (oo H46) 12 q1_1 q1_1 q22 _ v44 v46 rfl (tl12 (.head _)) (tl3 (.head _)) 1546 1545 (by omega) (by omega)).mono ?_
     rintro e w47 ⟨v47,e47,zs47,rfl,h47,k47⟩
     have zs47:Sz 1547 v47:=zs47.mono (by omega)
     have K47:=hh ((oo K46).trans k47)
     have cP:=(oo K47).cell cP0 (fun h=>h hFc)
     simp only [Ls0,Ls1] at h47
     have H47:Hid _:=h47
     clear h47 k47 H46 K46
     go_wp2_with fail
     refine(intMod_any F w47 _ (oo H47) 12 q1_1 q1_1 pP _ v47 (p:Int) rfl (tl12 (.head _)) (tl14 hP) (St.neTail (oo H47) (i:=12) (k:=14) rfl (by decide) hP) 1547 384 (by omega) (by omega) hP0).mono ?_
     rintro e w48 ⟨v48,e48,zs48,rfl,h48,k48⟩
     have zs48:Sz 384 v48:=zs48.mono (by omega)
     have K48:=hh ((oo K47).trans k48)
     have cP:=(oo K48).cell cP0 (fun h=>h hFc)
     simp only [Ls0,Ls1] at h48
     have H48:Hid _:=h48
     clear h48 k48 H47 K47
     go_wp2_with fail
     refine(intAdd_any F w48 _ (oo H48) 11 q1_2 p3 p6 _ z1 z2 rfl (tl14 hz1) (tl14 hz2) 384 384 (by omega) (by omega)).mono ?_
     rintro e w49 ⟨v49,e49,zs49,rfl,h49,k49⟩
     have zs49:Sz 385 v49:=zs49.mono (by omega)
     have K49:=hh ((oo K48).trans k49)
     have cP:=(oo K49).cell cP0 (fun h=>h hFc)
     simp only [Ls0,Ls1] at h49
     have H49:Hid _:=h49
     clear h49 k49 H48 K48
     go_wp2_with fail
     refine(intMul_any F w49 _ (oo H49) 11 q1_2 q1_2 q1_2 _ v49 v49 rfl (tl11 (.head _)) (tl11 (.head _)) 385 385 (by omega) (by omega)).mono ?_
     rintro e w50 ⟨v50,e50,zs50,rfl,h50,k50⟩
     have zs50:Sz 770 v50:=zs50.mono (by omega)
     have K50:=hh ((oo K49).trans k50)
     have cP:=(oo K50).cell cP0 (fun h=>h hFc)
     simp only [Ls0,Ls1] at h50
     have H50:Hid _:=h50
     clear h50 k50 H49 K49
     go_wp2_with fail
     refine(intSub_any F w50 _ (oo H50) 11 q1_2 q1_2 q2 _ v50 v4 rfl (tl11 (.head _)) (tl10 (.head _)) 770 384 (by omega) (by omega)).mono ?_
     rintro e w51 ⟨v51,e51,zs51,rfl,h51,k51⟩
     have zs51:Sz 771 v51:=zs51.mono (by omega)
     have K51:=hh ((oo K50).trans k51)
     have cP:=(oo K51).cell cP0 (fun h=>h hFc)
     simp only [Ls0,Ls1] at h51
     have H51:Hid _:=h51
     clear h51 k51 H50 K50
     go_wp2_with fail
     refine(intSub_any F w51 _ (oo H51) 11 q1_2 q1_2 q5 _ v51 v7 rfl (tl11 (.head _)) (tl9 (.head _)) 771 384 (by omega) (by omega)).mono ?_
     rintro e w52 ⟨v52,e52,zs52,rfl,h52,k52⟩
     have zs52:Sz 772 v52:=zs52.mono (by omega)
     have K52:=hh ((oo K51).trans k52)
     have cP:=(oo K52).cell cP0 (fun h=>h hFc)
     simp only [Ls0,Ls1] at h52
     have H52:Hid _:=h52
     clear h52 k52 H51 K51
     go_wp2_with fail
     refine(intMul_any F w52 _ (oo H52) 11 q1_2 q1_2 q14 _ v52 v16 rfl (tl11 (.head _)) (tl6 (.head _)) 772 386 (by omega) (by omega)).mono ?_
     rintro e w53 ⟨v53,e53,zs53,rfl,h53,k53⟩
     have zs53:Sz 1158 v53:=zs53.mono (by omega)
     have K53:=hh ((oo K52).trans k53)
     have cP:=(oo K53).cell cP0 (fun h=>h hFc)
     simp only [Ls0,Ls1] at h53
     have H53:Hid _:=h53
     clear h53 k53 H52 K52
     go_wp2_with fail
     refine(intMod_any F w53 _ (oo H53) 11 q1_2 q1_2 pP _ v53 (p:Int) rfl (tl11 (.head _)) (tl14 hP) (St.neTail (oo H53) (i:=11) (k:=14) rfl (by decide) hP) 1158 384 (by omega) (by omega) hP0).mono ?_
     rintro e w54 ⟨v54,e54,zs54,rfl,h54,k54⟩
     have zs54:Sz 384 v54:=zs54.mono (by omega)
     have K54:=hh ((oo K53).trans k54)
     have cP:=(oo K54).cell cP0 (fun h=>h hFc)
     simp only [Ls0,Ls1] at h54
     have H54:Hid _:=h54
     clear h54 k54 H53 K53
     go_wp2_with fail
     go_ret3
     refine⟨q1_0,q1_1,q1_2,v41,v48,v54,rfl,St.pre (P:=[_,_,_,_,_,_,_,_,_,_,_,_,_,_]) (oo H54) [_,_,_] [13,12,11] (by decide) 14 rfl (by decide) rfl,oo K54,?_,⟨by rw [oo e41];exact Int.emod_nonneg _ (by omega),by rw [oo e41];exact Int.emod_lt_of_pos _ hP0⟩,⟨by rw [oo e48];exact Int.emod_nonneg _ (by omega),by rw [oo e48];exact Int.emod_lt_of_pos _ hP0⟩,⟨by rw [oo e54];exact Int.emod_nonneg _ (by omega),by rw [oo e54];exact Int.emod_lt_of_pos _ hP0⟩⟩
     have f3:=congrArg (Ec.fi p) (oo e3)
     rw [Ec.fi_mul] at f3
     have f4:=congrArg (Ec.fi p) (oo e4)
     rw [Ec.fi_mod] at f4
     have f6:=congrArg (Ec.fi p) (oo e6)
     rw [Ec.fi_mul] at f6
     have f7:=congrArg (Ec.fi p) (oo e7)
     rw [Ec.fi_mod] at f7
     have f9:=congrArg (Ec.fi p) (oo e9)
     rw [Ec.fi_mul] at f9
     have f10:=congrArg (Ec.fi p) (oo e10)
     rw [Ec.fi_mod] at f10
     have f12:=congrArg (Ec.fi p) (oo e12)
     rw [Ec.fi_mul] at f12
     have f13:=congrArg (Ec.fi p) (oo e13)
     rw [Ec.fi_mod] at f13
     have f15:=congrArg (Ec.fi p) (oo e15)
     rw [Ec.fi_sub] at f15
     have f16:Ec.fi p v16=Ec.fi p v15:=by
      rcases oo e16 with⟨_,e⟩ | ⟨_,e⟩
      ·rw [e]
      ·rw [e,Ec.fi_add,Ec.fi_p];grind
     have f18:=congrArg (Ec.fi p) (oo e18)
     rw [Ec.fi_mul] at f18
     have f19:=congrArg (Ec.fi p) (oo e19)
     rw [Ec.fi_mul] at f19
     have f21:=congrArg (Ec.fi p) (oo e21)
     rw [Ec.fi_mul] at f21
     have f23:=congrArg (Ec.fi p) (oo e23)
     rw [Ec.fi_mul] at f23
     have f24:=congrArg (Ec.fi p) (oo e24)
     rw [Ec.fi_mul] at f24
     have f25:=congrArg (Ec.fi p) (oo e25)
     rw [Ec.fi_mod] at f25
     have f27:=congrArg (Ec.fi p) (oo e27)
     rw [Ec.fi_mul] at f27
     have f28:=congrArg (Ec.fi p) (oo e28)
     rw [Ec.fi_mul] at f28
     have f29:=congrArg (Ec.fi p) (oo e29)
     rw [Ec.fi_mod] at f29
     have f31:=congrArg (Ec.fi p) (oo e31)
     rw [Ec.fi_sub] at f31
     have f32:Ec.fi p v32=Ec.fi p v31:=by
      rcases oo e32 with⟨_,e⟩ | ⟨_,e⟩
      ·rw [e]
      ·rw [e,Ec.fi_add,Ec.fi_p];grind
     have f33:=congrArg (Ec.fi p) (oo e33)
     rw [Ec.fi_mul] at f33
     have f35:=congrArg (Ec.fi p) (oo e35)
     rw [Ec.fi_mul] at f35
     have f37:=congrArg (Ec.fi p) (oo e37)
     rw [Ec.fi_mul] at f37
     have f38:=congrArg (Ec.fi p) (oo e38)
     rw [Ec.fi_sub] at f38
     have f39:=congrArg (Ec.fi p) (oo e39)
     rw [Ec.fi_sub] at f39
     have f40:=congrArg (Ec.fi p) (oo e40)
     rw [Ec.fi_sub] at f40
     have f41:=congrArg (Ec.fi p) (oo e41)
     rw [Ec.fi_mod] at f41
     have f43:=congrArg (Ec.fi p) (oo e43)
     rw [Ec.fi_sub] at f43
     have f44:=congrArg (Ec.fi p) (oo e44)
     rw [Ec.fi_mul] at f44
     have f45:=congrArg (Ec.fi p) (oo e45)
     rw [Ec.fi_mul] at f45
     have f46:=congrArg (Ec.fi p) (oo e46)
     rw [Ec.fi_mul] at f46
     have f47:=congrArg (Ec.fi p) (oo e47)
     rw [Ec.fi_sub] at f47
     have f48:=congrArg (Ec.fi p) (oo e48)
     rw [Ec.fi_mod] at f48
     have f49:=congrArg (Ec.fi p) (oo e49)
     rw [Ec.fi_add] at f49
     have f50:=congrArg (Ec.fi p) (oo e50)
     rw [Ec.fi_mul] at f50
     have f51:=congrArg (Ec.fi p) (oo e51)
     rw [Ec.fi_sub] at f51
     have f52:=congrArg (Ec.fi p) (oo e52)
     rw [Ec.fi_sub] at f52
     have f53:=congrArg (Ec.fi p) (oo e53)
     rw [Ec.fi_mul] at f53
     have f54:=congrArg (Ec.fi p) (oo e54)
     rw [Ec.fi_mod] at f54
     have g2:Ec.fi p (2^1)=2:=Ec.fi_nat (p:=p) 2
     show _=_
     simp only [Ec.gadd]
     rw [if_neg (oo N1),if_neg (oo N2),if_neg (oo HNE)]
     simp only [Ec.gsum,Ec.Tri.mk.injEq]
     clear N1 N2 HNE HX HY
     generalize Ec.fi p x1=a1 at *
     generalize Ec.fi p y1=b1 at *
     generalize Ec.fi p z1=c1 at *
     generalize Ec.fi p x2=a2 at *
     generalize Ec.fi p y2=b2 at *
     generalize Ec.fi p z2=c2 at *
     refine⟨?_,?_,?_⟩<;>(simp only [f3,f4,f6,f7,f9,f10,f12,f13,f15,f16,f18,f19,f21,f23,f24,f25,f27,f28,f29,f31,f32,f33,f35,f37,f38,f39,f40,f41,f43,f44,f45,f46,f47,f48,f49,f50,f51,f52,f53,f54,g2];try (clear f3 f4 f6 f7 f9 f10 f12 f13 f15 f16 f18 f19 f21 f23 f24 f25 f27 f28 f29 f31 f32 f33 f35 f37 f38 f39 f40 f41 f43 f44 f45 f46 f47 f48 f49 f50 f51 f52 f53 f54 g2;grind))
    ·subst h0
     have t1:(sr==0)=false:=beq_eq_false_iff_ne.2 h9
     clear h9 hE
     go_wp2_with fail
     refine(intLsh_any F wc _ (oo H32) 0 q30 q30 _ v32 rfl (.head _) 1 386 (by omega) (by omega) (by omega)).mono ?_
     rintro e w33 ⟨v33,e33,zs33,rfl,h33,k33⟩
     have zs33:Sz 387 v33:=zs33.mono (by omega)
     have K33:=hh ((oo K32).trans k33)
     have cP:=(oo K33).cell cP0 (fun h=>h hFc)
     simp only [Ls0] at h33
     have H33:Hid _:=h33
     clear h33 k33 H32 K32
     go_wp2_with fail
     have h34:=St.alloc (oo H33) 85
     have k34:Keep (fun b=>¬F b) w _:=((oo K33).alloc iz)
     have cP':=k34.cell cP0 (fun h=>h hFc)
     generalize hwa:w33.alloc iz=w34 at *
     clear hwa
     generalize w33.heap.size=q34 at *
     clear cP
     have cP:=cP'
     clear cP'
     have H34:Hid _:=h34
     have K34:Hid _:=k34
     clear h34 k34 H33 K33
     refine(intMul_any F w34 _ (oo H34) 0 q34 q8 q17 _ v10 v19 rfl (tl8 (.head _)) (tl5 (.head _)) 384 774 (by omega) (by omega)).mono ?_
     rintro e w35 ⟨v35,e35,zs35,rfl,h35,k35⟩
     have zs35:Sz 1158 v35:=zs35.mono (by omega)
     have K35:=hh ((oo K34).trans k35)
     have cP:=(oo K35).cell cP0 (fun h=>h hFc)
     simp only [Ls0] at h35
     have H35:Hid _:=h35
     clear h35 k35 H34 K34
     go_wp2_with fail
     refine(intSet_any F w35 _ (oo H35) 13 q1_0 q30 _ v33 rfl (.tail _ (.head _)) 387 (by omega)).mono ?_
     rintro e w36 ⟨rfl,h36,k36⟩
     have K36:=hh ((oo K35).trans k36)
     have cP:=(oo K36).cell cP0 (fun h=>h hFc)
     simp only [Ls0,Ls1] at h36
     have H36:Hid _:=h36
     clear h36 k36 H35 K35
     go_wp2_with fail
     refine(intMul_any F w36 _ (oo H36) 13 q1_0 q1_0 q1_0 _ v33 v33 rfl (tl13 (.head _)) (tl13 (.head _)) 387 387 (by omega) (by omega)).mono ?_
     rintro e w37 ⟨v37,e37,zs37,rfl,h37,k37⟩
     have zs37:Sz 774 v37:=zs37.mono (by omega)
     have K37:=hh ((oo K36).trans k37)
     have cP:=(oo K37).cell cP0 (fun h=>h hFc)
     simp only [Ls0,Ls1] at h37
     have H37:Hid _:=h37
     clear h37 k37 H36 K36
     go_wp2_with fail
     refine(intSub_any F w37 _ (oo H37) 13 q1_0 q1_0 q20 _ v37 v21 rfl (tl13 (.head _)) (tl4 (.head _)) 774 1160 (by omega) (by omega)).mono ?_
     rintro e w38 ⟨v38,e38,zs38,rfl,h38,k38⟩
     have zs38:Sz 1161 v38:=zs38.mono (by omega)
     have K38:=hh ((oo K37).trans k38)
     have cP:=(oo K38).cell cP0 (fun h=>h hFc)
     simp only [Ls0,Ls1] at h38
     have H38:Hid _:=h38
     clear h38 k38 H37 K37
     go_wp2_with fail
     refine(intSub_any F w38 _ (oo H38) 13 q1_0 q1_0 q34 _ v38 v35 rfl (tl13 (.head _)) (.head _) 1161 1158 (by omega) (by omega)).mono ?_
     rintro e w39 ⟨v39,e39,zs39,rfl,h39,k39⟩
     have zs39:Sz 1162 v39:=zs39.mono (by omega)
     have K39:=hh ((oo K38).trans k39)
     have cP:=(oo K39).cell cP0 (fun h=>h hFc)
     simp only [Ls0,Ls1] at h39
     have H39:Hid _:=h39
     clear h39 k39 H38 K38
     go_wp2_with fail
     refine(intSub_any F w39 _ (oo H39) 13 q1_0 q1_0 q34 _ v39 v35 rfl (tl13 (.head _)) (.head _) 1162 1158 (by omega) (by omega)).mono ?_
     rintro e w40 ⟨v40,e40,zs40,rfl,h40,k40⟩
     have zs40:Sz 1163 v40:=zs40.mono (by omega)
     have K40:=hh ((oo K39).trans k40)
     have cP:=(oo K40).cell cP0 (fun h=>h hFc)
     simp only [Ls0,Ls1] at h40
     have H40:Hid _:=h40
     clear h40 k40 H39 K39
     go_wp2_with fail
     refine(intMod_any F w40 _ (oo H40) 13 q1_0 q1_0 pP _ v40 (p:Int) rfl (tl13 (.head _)) (tl14 hP) (St.neTail (oo H40) (i:=13) (k:=14) rfl (by decide) hP) 1163 384 (by omega) (by omega) hP0).mono ?_
     rintro e w41 ⟨v41,e41,zs41,rfl,h41,k41⟩
     have zs41:Sz 384 v41:=zs41.mono (by omega)
     have K41:=hh ((oo K40).trans k41)
     have cP:=(oo K41).cell cP0 (fun h=>h hFc)
     simp only [Ls0,Ls1] at h41
     have H41:Hid _:=h41
     clear h41 k41 H40 K40
     go_wp2_with fail
     refine(intSet_any F w41 _ (oo H41) 12 q1_1 q30 _ v33 rfl (.tail _ (.head _)) 387 (by omega)).mono ?_
     rintro e w42 ⟨rfl,h42,k42⟩
     have K42:=hh ((oo K41).trans k42)
     have cP:=(oo K42).cell cP0 (fun h=>h hFc)
     simp only [Ls0,Ls1] at h42
     have H42:Hid _:=h42
     clear h42 k42 H41 K41
     go_wp2_with fail
     refine(intSub_any F w42 _ (oo H42) 0 q34 q34 q1_0 _ v35 v41 rfl (.head _) (tl13 (.head _)) 1158 384 (by omega) (by omega)).mono ?_
     rintro e w43 ⟨v43,e43,zs43,rfl,h43,k43⟩
     have zs43:Sz 1159 v43:=zs43.mono (by omega)
     have K43:=hh ((oo K42).trans k43)
     have cP:=(oo K43).cell cP0 (fun h=>h hFc)
     simp only [Ls0] at h43
     have H43:Hid _:=h43
     clear h43 k43 H42 K42
     go_wp2_with fail
     refine(intMul_any F w43 _ (oo H43) 12 q1_1 q1_1 q34 _ v33 v43 rfl (tl12 (.head _)) (.head _) 387 1159 (by omega) (by omega)).mono ?_
     rintro e w44 ⟨v44,e44,zs44,rfl,h44,k44⟩
     have zs44:Sz 1546 v44:=zs44.mono (by omega)
     have K44:=hh ((oo K43).trans k44)
     have cP:=(oo K44).cell cP0 (fun h=>h hFc)
     simp only [Ls0,Ls1] at h44
     have H44:Hid _:=h44
     clear h44 k44 H43 K43
     go_wp2_with fail
     refine(intMul_any F w44 _ (oo H44) 3 q22 q22 q20 _ v25 v21 rfl (tl3 (.head _)) (tl4 (.head _)) 384 1160 (by omega) (by omega)).mono ?_
     rintro e w45 ⟨v45,e45,zs45,rfl,h45,k45⟩
     have zs45:Sz 1544 v45:=zs45.mono (by omega)
     have K45:=hh ((oo K44).trans k45)
     have cP:=(oo K45).cell cP0 (fun h=>h hFc)
     simp only [Ls0,Ls1] at h45
     have H45:Hid _:=h45
     clear h45 k45 H44 K44
     go_wp2_with fail
     refine(intLsh_any F w45 _ (oo H45) 3 q22 q22 _ v45 rfl (tl3 (.head _)) 1 1544 (by omega) (by omega) (by omega)).mono ?_
     rintro e w46 ⟨v46,e46,zs46,rfl,h46,k46⟩
     have zs46:Sz 1545 v46:=zs46.mono (by omega)
     have K46:=hh ((oo K45).trans k46)
     have cP:=(oo K46).cell cP0 (fun h=>h hFc)
     simp only [Ls0,Ls1] at h46
     have H46:Hid _:=h46
     clear h46 k46 H45 K45
     go_wp2_with fail
     refine(intSub_any F w46 _ (oo H46) 12 q1_1 q1_1 q22 _ v44 v46 rfl (tl12 (.head _)) (tl3 (.head _)) 1546 1545 (by omega) (by omega)).mono ?_
     rintro e w47 ⟨v47,e47,zs47,rfl,h47,k47⟩
     have zs47:Sz 1547 v47:=zs47.mono (by omega)
     have K47:=hh ((oo K46).trans k47)
     have cP:=(oo K47).cell cP0 (fun h=>h hFc)
     simp only [Ls0,Ls1] at h47
     have H47:Hid _:=h47
     clear h47 k47 H46 K46
     go_wp2_with fail
     refine(intMod_any F w47 _ (oo H47) 12 q1_1 q1_1 pP _ v47 (p:Int) rfl (tl12 (.head _)) (tl14 hP) (St.neTail (oo H47) (i:=12) (k:=14) rfl (by decide) hP) 1547 384 (by omega) (by omega) hP0).mono ?_
     rintro e w48 ⟨v48,e48,zs48,rfl,h48,k48⟩
     have zs48:Sz 384 v48:=zs48.mono (by omega)
     have K48:=hh ((oo K47).trans k48)
     have cP:=(oo K48).cell cP0 (fun h=>h hFc)
     simp only [Ls0,Ls1] at h48
     have H48:Hid _:=h48
     clear h48 k48 H47 K47
     go_wp2_with fail
     refine(intAdd_any F w48 _ (oo H48) 11 q1_2 p3 p6 _ z1 z2 rfl (tl14 hz1) (tl14 hz2) 384 384 (by omega) (by omega)).mono ?_
     rintro e w49 ⟨v49,e49,zs49,rfl,h49,k49⟩
     have zs49:Sz 385 v49:=zs49.mono (by omega)
     have K49:=hh ((oo K48).trans k49)
     have cP:=(oo K49).cell cP0 (fun h=>h hFc)
     simp only [Ls0,Ls1] at h49
     have H49:Hid _:=h49
     clear h49 k49 H48 K48
     go_wp2_with fail
     refine(intMul_any F w49 _ (oo H49) 11 q1_2 q1_2 q1_2 _ v49 v49 rfl (tl11 (.head _)) (tl11 (.head _)) 385 385 (by omega) (by omega)).mono ?_
     rintro e w50 ⟨v50,e50,zs50,rfl,h50,k50⟩
     have zs50:Sz 770 v50:=zs50.mono (by omega)
     have K50:=hh ((oo K49).trans k50)
     have cP:=(oo K50).cell cP0 (fun h=>h hFc)
     simp only [Ls0,Ls1] at h50
     have H50:Hid _:=h50
     clear h50 k50 H49 K49
     go_wp2_with fail
     refine(intSub_any F w50 _ (oo H50) 11 q1_2 q1_2 q2 _ v50 v4 rfl (tl11 (.head _)) (tl10 (.head _)) 770 384 (by omega) (by omega)).mono ?_
     rintro e w51 ⟨v51,e51,zs51,rfl,h51,k51⟩
     have zs51:Sz 771 v51:=zs51.mono (by omega)
     have K51:=hh ((oo K50).trans k51)
     have cP:=(oo K51).cell cP0 (fun h=>h hFc)
     simp only [Ls0,Ls1] at h51
     have H51:Hid _:=h51
     clear h51 k51 H50 K50
     go_wp2_with fail
     refine(intSub_any F w51 _ (oo H51) 11 q1_2 q1_2 q5 _ v51 v7 rfl (tl11 (.head _)) (tl9 (.head _)) 771 384 (by omega) (by omega)).mono ?_
     rintro e w52 ⟨v52,e52,zs52,rfl,h52,k52⟩
     have zs52:Sz 772 v52:=zs52.mono (by omega)
     have K52:=hh ((oo K51).trans k52)
     have cP:=(oo K52).cell cP0 (fun h=>h hFc)
     simp only [Ls0,Ls1] at h52
     have H52:Hid _:=h52
     clear h52 k52 H51 K51
     go_wp2_with fail
     refine(intMul_any F w52 _ (oo H52) 11 q1_2 q1_2 q14 _ v52 v16 rfl (tl11 (.head _)) (tl6 (.head _)) 772 386 (by omega) (by omega)).mono ?_
     rintro e w53 ⟨v53,e53,zs53,rfl,h53,k53⟩
     have zs53:Sz 1158 v53:=zs53.mono (by omega)
     have K53:=hh ((oo K52).trans k53)
     have cP:=(oo K53).cell cP0 (fun h=>h hFc)
     simp only [Ls0,Ls1] at h53
     have H53:Hid _:=h53
     clear h53 k53 H52 K52
     go_wp2_with fail
     refine(intMod_any F w53 _ (oo H53) 11 q1_2 q1_2 pP _ v53 (p:Int) rfl (tl11 (.head _)) (tl14 hP) (St.neTail (oo H53) (i:=11) (k:=14) rfl (by decide) hP) 1158 384 (by omega) (by omega) hP0).mono ?_
     rintro e w54 ⟨v54,e54,zs54,rfl,h54,k54⟩
     have zs54:Sz 384 v54:=zs54.mono (by omega)
     have K54:=hh ((oo K53).trans k54)
     have cP:=(oo K54).cell cP0 (fun h=>h hFc)
     simp only [Ls0,Ls1] at h54
     have H54:Hid _:=h54
     clear h54 k54 H53 K53
     go_wp2_with fail
     go_ret3
     refine⟨q1_0,q1_1,q1_2,v41,v48,v54,rfl,St.pre (P:=[_,_,_,_,_,_,_,_,_,_,_,_,_,_]) (oo H54) [_,_,_] [13,12,11] (by decide) 14 rfl (by decide) rfl,oo K54,?_,⟨by rw [oo e41];exact Int.emod_nonneg _ (by omega),by rw [oo e41];exact Int.emod_lt_of_pos _ hP0⟩,⟨by rw [oo e48];exact Int.emod_nonneg _ (by omega),by rw [oo e48];exact Int.emod_lt_of_pos _ hP0⟩,⟨by rw [oo e54];exact Int.emod_nonneg _ (by omega),by rw [oo e54];exact Int.emod_lt_of_pos _ hP0⟩⟩
     have f3:=congrArg (Ec.fi p) (oo e3)
     rw [Ec.fi_mul] at f3
     have f4:=congrArg (Ec.fi p) (oo e4)
     rw [Ec.fi_mod] at f4
     have f6:=congrArg (Ec.fi p) (oo e6)
     rw [Ec.fi_mul] at f6
     have f7:=congrArg (Ec.fi p) (oo e7)
     rw [Ec.fi_mod] at f7
     have f9:=congrArg (Ec.fi p) (oo e9)
     rw [Ec.fi_mul] at f9
     have f10:=congrArg (Ec.fi p) (oo e10)
     rw [Ec.fi_mod] at f10
     have f12:=congrArg (Ec.fi p) (oo e12)
     rw [Ec.fi_mul] at f12
     have f13:=congrArg (Ec.fi p) (oo e13)
     rw [Ec.fi_mod] at f13
     have f15:=congrArg (Ec.fi p) (oo e15)
     rw [Ec.fi_sub] at f15
     have f16:Ec.fi p v16=Ec.fi p v15:=by
      rcases oo e16 with⟨_,e⟩ | ⟨_,e⟩
      ·rw [e]
      ·rw [e,Ec.fi_add,Ec.fi_p];grind
     have f18:=congrArg (Ec.fi p) (oo e18)
     rw [Ec.fi_mul] at f18
     have f19:=congrArg (Ec.fi p) (oo e19)
     rw [Ec.fi_mul] at f19
     have f21:=congrArg (Ec.fi p) (oo e21)
     rw [Ec.fi_mul] at f21
     have f23:=congrArg (Ec.fi p) (oo e23)
     rw [Ec.fi_mul] at f23
     have f24:=congrArg (Ec.fi p) (oo e24)
     rw [Ec.fi_mul] at f24
     have f25:=congrArg (Ec.fi p) (oo e25)
     rw [Ec.fi_mod] at f25
     have f27:=congrArg (Ec.fi p) (oo e27)
     rw [Ec.fi_mul] at f27
     have f28:=congrArg (Ec.fi p) (oo e28)
     rw [Ec.fi_mul] at f28
     have f29:=congrArg (Ec.fi p) (oo e29)
     rw [Ec.fi_mod] at f29
     have f31:=congrArg (Ec.fi p) (oo e31)
     rw [Ec.fi_sub] at f31
     have f32:Ec.fi p v32=Ec.fi p v31:=by
      rcases oo e32 with⟨_,e⟩ | ⟨_,e⟩
      ·rw [e]
      ·rw [e,Ec.fi_add,Ec.fi_p];grind
     have f33:=congrArg (Ec.fi p) (oo e33)
     rw [Ec.fi_mul] at f33
     have f35:=congrArg (Ec.fi p) (oo e35)
     rw [Ec.fi_mul] at f35
     have f37:=congrArg (Ec.fi p) (oo e37)
     rw [Ec.fi_mul] at f37
     have f38:=congrArg (Ec.fi p) (oo e38)
     rw [Ec.fi_sub] at f38
     have f39:=congrArg (Ec.fi p) (oo e39)
     rw [Ec.fi_sub] at f39
     have f40:=congrArg (Ec.fi p) (oo e40)
     rw [Ec.fi_sub] at f40
     have f41:=congrArg (Ec.fi p) (oo e41)
     rw [Ec.fi_mod] at f41
     have f43:=congrArg (Ec.fi p) (oo e43)
     rw [Ec.fi_sub] at f43
     have f44:=congrArg (Ec.fi p) (oo e44)
     rw [Ec.fi_mul] at f44
     have f45:=congrArg (Ec.fi p) (oo e45)
     rw [Ec.fi_mul] at f45
     have f46:=congrArg (Ec.fi p) (oo e46)
     rw [Ec.fi_mul] at f46
     have f47:=congrArg (Ec.fi p) (oo e47)
     rw [Ec.fi_sub] at f47
     have f48:=congrArg (Ec.fi p) (oo e48)
     rw [Ec.fi_mod] at f48
     have f49:=congrArg (Ec.fi p) (oo e49)
     rw [Ec.fi_add] at f49
     have f50:=congrArg (Ec.fi p) (oo e50)
     rw [Ec.fi_mul] at f50
     have f51:=congrArg (Ec.fi p) (oo e51)
     rw [Ec.fi_sub] at f51
     have f52:=congrArg (Ec.fi p) (oo e52)
     rw [Ec.fi_sub] at f52
     have f53:=congrArg (Ec.fi p) (oo e53)
     rw [Ec.fi_mul] at f53
     have f54:=congrArg (Ec.fi p) (oo e54)
     rw [Ec.fi_mod] at f54
     have g2:Ec.fi p (2^1)=2:=Ec.fi_nat (p:=p) 2
     show _=_
     simp only [Ec.gadd]
     rw [if_neg (oo N1),if_neg (oo N2),if_neg (oo HNE)]
     simp only [Ec.gsum,Ec.Tri.mk.injEq]
     clear N1 N2 HNE HX HY
     generalize Ec.fi p x1=a1 at *
     generalize Ec.fi p y1=b1 at *
     generalize Ec.fi p z1=c1 at *
     generalize Ec.fi p x2=a2 at *
     generalize Ec.fi p y2=b2 at *
     generalize Ec.fi p z2=c2 at *
     refine⟨?_,?_,?_⟩<;>(simp only [f3,f4,f6,f7,f9,f10,f12,f13,f15,f16,f18,f19,f21,f23,f24,f25,f27,f28,f29,f31,f32,f33,f35,f37,f38,f39,f40,f41,f43,f44,f45,f46,f47,f48,f49,f50,f51,f52,f53,f54,g2];try (clear f3 f4 f6 f7 f9 f10 f12 f13 f15 f16 f18 f19 f21 f23 f24 f25 f27 f28 f29 f31 f32 f33 f35 f37 f38 f39 f40 f41 f43 f44 f45 f46 f47 f48 f49 f50 f51 f52 f53 f54 g2;grind))
end Go.Proofs.YtofkehhflkdabaaGreatDoor
