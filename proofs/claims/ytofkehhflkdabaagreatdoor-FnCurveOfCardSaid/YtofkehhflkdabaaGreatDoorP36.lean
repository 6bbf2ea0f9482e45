/- A part of the proof of FnCurveOf. -/
import Derived.Test.YtofkehhflkdabaaGreatDoorP35
set_option maxRecDepth 100000
set_option maxHeartbeats 8000000
namespace Go.Proofs.YtofkehhflkdabaaGreatDoor
open Go Go.RowKit
theorem ellDouble_any (F:Nat→Prop) (w:World) (L:List (Nat×E)) (h:St F w L) (pc pP p1 p2 p3:Nat) (x y z:Int) (p:Nat) [NeZero p] (hx:(p1,ofI x)∈L) (hy:(p2,ofI y)∈L) (hz:(p3,ofI z)∈L) (hP:(pP,ofI (p:Int))∈L)
  (cP0:w.cell? ⟨pc,0,none⟩=some (pt pP)) (hFc:F pc) (sx:Sz 384 x) (sy:Sz 384 y) (sz:Sz 384 z) (sP:Sz 384 (p:Int)) :
  Calls Tryz.prog 209 #[pt pc,pt p1,pt p2,pt p3] w fun e w'=>∃(a b c:Nat) (X Y Z:Int),e = .returned (.tuple #[pt a,pt b,pt c])∧St F w' ((a,ofI X)::(b,ofI Y)::(c,ofI Z)::L)∧Keep (fun b=>¬F b) w w' ∧
   Hid ((⟨Ec.fi p X,Ec.fi p Y,Ec.fi p Z⟩:Ec.Tri p)=Ec.gdbl ⟨Ec.fi p x,Ec.fi p y,Ec.fi p z⟩)∧(0≤X∧X<p)∧(0≤Y∧Y<p)∧(0≤Z∧Z<p):=by
 have hP0:(0:Int)<(p:Int):=by have:=NeZero.ne p;omega
 go_enter Tryz.func209,Tryz.ntmps209
 have cP:=cP0
 go_wp2_with fail
 have h1:=h.alloc 85
 have k1:Keep (fun b=>¬F b) w _:=((Keep.refl _ w).alloc iz)
 have cP':=k1.cell cP0 (fun h=>h hFc)
 generalize hwa:w.alloc iz=w1 at *
 clear hwa
 generalize w.heap.size=q1 at *
 clear cP
 have cP:=cP'
 clear cP'
 have H1:Hid _:=h1
 have K1:Hid _:=k1
 clear h1 k1
 refine(intMul_any F w1 _ (oo H1) 0 q1 p3 p3 _ z z rfl (.tail _ hz) (.tail _ hz) 384 384 (by omega) (by omega)).mono ?_
 rintro e w2 ⟨v2,e2,zs2,rfl,h2,k2⟩
 have zs2:Sz 768 v2:=zs2.mono (by omega)
 have K2:=hh ((oo K1).trans k2)
 have cP:=(oo K2).cell cP0 (fun h=>h hFc)
 simp only [Ls0] at h2
 have H2:Hid _:=h2
 clear h2 k2 H1 K1
 go_wp2_with fail
 refine(intMod_any F w2 _ (oo H2) 0 q1 q1 pP _ v2 (p:Int) rfl (.head _) (.tail _ hP) (St.neTail (oo H2) (i:=0) (k:=1) rfl (by decide) hP) 768 384 (by omega) (by omega) hP0).mono ?_
 rintro e w3 ⟨v3,e3,zs3,rfl,h3,k3⟩
 have zs3:Sz 384 v3:=zs3.mono (by omega)
 have K3:=hh ((oo K2).trans k3)
 have cP:=(oo K3).cell cP0 (fun h=>h hFc)
 simp only [Ls0] at h3
 have H3:Hid _:=h3
 clear h3 k3 H2 K2
 go_wp2_with fail
 have h4:=St.alloc (oo H3) 85
 have k4:Keep (fun b=>¬F b) w _:=((oo K3).alloc iz)
 have cP':=k4.cell cP0 (fun h=>h hFc)
 generalize hwa:w3.alloc iz=w4 at *
 clear hwa
 generalize w3.heap.size=q4 at *
 clear cP
 have cP:=cP'
 clear cP'
 have H4:Hid _:=h4
 have K4:Hid _:=k4
 clear h4 k4 H3 K3
 refine(intMul_any F w4 _ (oo H4) 0 q4 p2 p2 _ y y rfl (tl2 hy) (tl2 hy) 384 384 (by omega) (by omega)).mono ?_
 rintro e w5 ⟨v5,e5,zs5,rfl,h5,k5⟩
 have zs5:Sz 768 v5:=zs5.mono (by omega)
 have K5:=hh ((oo K4).trans k5)
 have cP:=(oo K5).cell cP0 (fun h=>h hFc)
 simp only [Ls0] at h5
 have H5:Hid _:=h5
 clear h5 k5 H4 K4
 go_wp2_with fail
 refine(intMod_any F w5 _ (oo H5) 0 q4 q4 pP _ v5 (p:Int) rfl (.head _) (tl2 hP) (St.neTail (oo H5) (i:=0) (k:=2) rfl (by decide) hP) 768 384 (by omega) (by omega) hP0).mono ?_
 rintro e w6 ⟨v6,e6,zs6,rfl,h6,k6⟩
 have zs6:Sz 384 v6:=zs6.mono (by omega)
 have K6:=hh ((oo K5).trans k6)
 have cP:=(oo K6).cell cP0 (fun h=>h hFc)
 simp only [Ls0] at h6
 have H6:Hid _:=h6
 clear h6 k6 H5 K5
 go_wp2_with fail
 have h7:=St.alloc (oo H6) 85
 have k7:Keep (fun b=>¬F b) w _:=((oo K6).alloc iz)
 have cP':=k7.cell cP0 (fun h=>h hFc)
 generalize hwa:w6.alloc iz=w7 at *
 clear hwa
 generalize w6.heap.size=q7 at *
 clear cP
 have cP:=cP'
 clear cP'
 have H7:Hid _:=h7
 have K7:Hid _:=k7
 clear h7 k7 H6 K6
 refine(intSub_any F w7 _ (oo H7) 0 q7 p1 q1 _ x v3 rfl (tl3 hx) (tl2 (.head _)) 384 384 (by omega) (by omega)).mono ?_
 rintro e w8 ⟨v8,e8,zs8,rfl,h8,k8⟩
 have zs8:Sz 385 v8:=zs8.mono (by omega)
 have K8:=hh ((oo K7).trans k8)
 have cP:=(oo K8).cell cP0 (fun h=>h hFc)
 simp only [Ls0] at h8
 have H8:Hid _:=h8
 clear h8 k8 H7 K7
 go_wp2_with fail
 refine(sign_any F w8 _ (oo H8) q7 v8 (.head _)).mono ?_
 rintro e ws9 ⟨rfl,hws⟩
 rw [hws]
 clear hws ws9
 obtain⟨sv,hsv⟩:∃u,sgn v8=u:=⟨_,rfl⟩
 rw [hsv]
 have HSV:Hid _:=hsv
 clear hsv
 go_upto_if 48 with fail
 go_cut [] from 48 to 55 (fun wx=>∃v9,Hid ((0≤v8∧v9=v8)∨(v8<0∧v9=v8+(p:Int)))∧Sz 386 v9∧St F wx ((q7,ofI v9)::(q4,ofI v6)::(q1,ofI v3)::L)∧Keep (fun b=>¬F b) w wx)
 case first=>
  by_cases hneg:v8<0
  ·obtain rfl:sv = -1:=by rw [← oo HSV,sgn,if_pos hneg]
   have HNEG:Hid (v8<0):=hneg
   clear hneg HSV
   go_wp2_with fail
   refine(intAdd_any F w8 _ (oo H8) 0 q7 q7 pP _ v8 (p:Int) rfl (.head _) (tl3 hP) 385 384 (by omega) (by omega)).mono ?_
   rintro e wz ⟨v,ev,zv,rfl,hv,kv⟩
   simp only [Ls0] at hv
   have HV:Hid _:=hv
   have KV:Hid _:=kv
   clear hv kv
   go_wp2_with fail
   go_meet
   exact⟨v,.inr ⟨HNEG.out,ev.out⟩,zv.mono (by omega),oo HV,(oo K8).trans (oo KV)⟩
  ·have hs1:sv≠-1:=by rw [← oo HSV,sgn,if_neg hneg];split<;>decide
   have t1:(sv == -1)=false:=beq_eq_false_iff_ne.2 hs1
   have HNN:Hid (0≤v8):=Int.not_lt.1 hneg
   clear hneg hs1 HSV
   go_wp2_with fail
   go_meet
   exact⟨v8,.inl ⟨HNN.out,rfl⟩,Sz.mono (n:=386) (inferInstance:Sz 385 v8) (by omega),(oo H8),oo K8⟩
 case rest=>
  clear HSV
  obtain⟨v9,e9,zs9,h9,k9⟩:=hcut
  have H9:Hid _:=h9
  have K9:Hid _:=k9
  have cP:wc.cell? ⟨pc,0,none⟩=some (pt pP):=k9.cell cP0 (fun h=>h hFc)
  clear h9 k9 H8 K8
  go_wp2_with fail
  have h10:=St.alloc (oo H9) 85
  have k10:Keep (fun b=>¬F b) w _:=((oo K9).alloc iz)
  have cP':=k10.cell cP0 (fun h=>h hFc)
  generalize hwa:wc.alloc iz=w10 at *
  clear hwa
  generalize wc.heap.size=q10 at *
  clear cP
  have cP:=cP'
  clear cP'
  have H10:Hid _:=h10
  have K10:Hid _:=k10
  clear h10 k10 H9 K9
  refine(intAdd_any F w10 _ (oo H10) 0 q10 p1 q1 _ x v3 rfl (tl4 hx) (tl3 (.head _)) 384 384 (by omega) (by omega)).mono ?_
  rintro e w11 ⟨v11,e11,zs11,rfl,h11,k11⟩
  have zs11:Sz 385 v11:=zs11.mono (by omega)
  have K11:=hh ((oo K10).trans k11)
  have cP:=(oo K11).cell cP0 (fun h=>h hFc)
  simp only [Ls0] at h11
  have H11:Hid _:=h11
  clear h11 k11 H10 K10
  go_wp2_with fail
  refine(intMul_any F w11 _ (oo H11) 1 q7 q7 q10 _ v9 v11 rfl (.tail _ (.head _)) (.head _) 386 385 (by omega) (by omega)).mono ?_
  rintro e w12 ⟨v12,e12,zs12,rfl,h12,k12⟩
  have zs12:Sz 771 v12:=zs12.mono (by omega)
  have K12:=hh ((oo K11).trans k12)
  have cP:=(oo K12).cell cP0 (fun h=>h hFc)
  simp only [Ls0,Ls1] at h12
  have H12:Hid _:=h12
  clear h12 k12 H11 K11
  go_wp2_with fail
  refine(intSet_any F w12 _ (oo H12) 0 q10 q7 _ v12 rfl (.tail _ (.head _)) 771 (by omega)).mono ?_
  rintro e w13 ⟨rfl,h13,k13⟩
  have K13:=hh ((oo K12).trans k13)
  have cP:=(oo K13).cell cP0 (fun h=>h hFc)
  simp only [Ls0] at h13
  have H13:Hid _:=h13
  clear h13 k13 H12 K12
  go_wp2_with fail
  refine(intLsh_any F w13 _ (oo H13) 1 q7 q7 _ v12 rfl (.tail _ (.head _)) 1 771 (by omega) (by omega) (by omega)).mono ?_
  rintro e w14 ⟨v14,e14,zs14,rfl,h14,k14⟩
  have zs14:Sz 772 v14:=zs14.mono (by omega)
  have K14:=hh ((oo K13).trans k14)
  have cP:=(oo K14).cell cP0 (fun h=>h hFc)
  simp only [Ls0,Ls1] at h14
  have H14:Hid _:=h14
  clear h14 k14 H13 K13
  go_wp2_with fail
  refine(intAdd_any F w14 _ (oo H14) 1 q7 q7 q10 _ v14 v12 rfl (.tail _ (.head _)) (.head _) 772 771 (by omega) (by omega)).mono ?_
  rintro e w15 ⟨v15,e15,zs15,rfl,h15,k15⟩
  have zs15:Sz 773 v15:=zs15.mono (by omega)
  have K15:=hh ((oo K14).trans k15)
  have cP:=(oo K15).cell cP0 (fun h=>h hFc)
  simp only [Ls0,Ls1] at h15
  have H15:Hid _:=h15
  clear h15 k15 H14 K14
  go_wp2_with fail
  refine(intMul_any F w15 _ (oo H15) 0 q10 p1 q4 _ x v6 rfl (tl4 hx) (tl2 (.head _)) 384 384 (by omega) (by omega)).mono ?_
  rintro e w16 ⟨v16,e16,zs16,rfl,h16,k16⟩
  have zs16:Sz 768 v16:=zs16.mono (by omega)
  have K16:=hh ((oo K15).trans k16)
  have cP:=(oo K16).cell cP0 (fun h=>h hFc)
  simp only [Ls0] at h16
  have H16:Hid _:=h16
  clear h16 k16 H15 K15
  go_wp2_with fail
  have h17:=St.alloc (oo H16) 85
  have k17:Keep (fun b=>¬F b) w _:=((oo K16).alloc iz)
  have cP':=k17.cell cP0 (fun h=>h hFc)
  generalize hwa:w16.alloc iz=w17 at *
  clear hwa
  generalize w16.heap.size=q17 at *
  clear cP
  have cP:=cP'
  clear cP'
  have H17:Hid _:=h17
  have K17:Hid _:=k17
  clear h17 k17 H16 K16
  refine(intMul_any F w17 _ (oo H17) 0 q17 q7 q7 _ v15 v15 rfl (tl2 (.head _)) (tl2 (.head _)) 773 773 (by omega) (by omega)).mono ?_
  rintro e w18 ⟨v18,e18,zs18,rfl,h18,k18⟩
  have zs18:Sz 1546 v18:=zs18.mono (by omega)
  have K18:=hh ((oo K17).trans k18)
  have cP:=(oo K18).cell cP0 (fun h=>h hFc)
  simp only [Ls0] at h18
  have H18:Hid _:=h18
  clear h18 k18 H17 K17
  go_wp2_with fail
  have h19:=St.alloc (oo H18) 85
  have k19:Keep (fun b=>¬F b) w _:=((oo K18).alloc iz)
  have cP':=k19.cell cP0 (fun h=>h hFc)
  generalize hwa:w18.alloc iz=w19 at *
  clear hwa
  generalize w18.heap.size=q19 at *
  clear cP
  have cP:=cP'
  clear cP'
  have H19:Hid _:=h19
  have K19:Hid _:=k19
  clear h19 k19 H18 K18
  refine(intLsh_any F w19 _ (oo H19) 0 q19 q10 _ v16 rfl (tl2 (.head _)) 3 768 (by omega) (by omega) (by omega)).mono ?_
  rintro e w20 ⟨v20,e20,zs20,rfl,h20,k20⟩
  have zs20:Sz 771 v20:=zs20.mono (by omega)
  have K20:=hh ((oo K19).trans k20)
  have cP:=(oo K20).cell cP0 (fun h=>h hFc)
  simp only [Ls0] at h20
  have H20:Hid _:=h20
  clear h20 k20 H19 K19
  go_wp2_with fail
  refine(intMod_any F w20 _ (oo H20) 0 q19 q19 pP _ v20 (p:Int) rfl (.head _) (tl6 hP) (St.neTail (oo H20) (i:=0) (k:=6) rfl (by decide) hP) 771 384 (by omega) (by omega) hP0).mono ?_
  rintro e w21 ⟨v21,e21,zs21,rfl,h21,k21⟩
  have zs21:Sz 384 v21:=zs21.mono (by omega)
  have K21:=hh ((oo K20).trans k21)
  have cP:=(oo K21).cell cP0 (fun h=>h hFc)
  simp only [Ls0] at h21
  have H21:Hid _:=h21
  clear h21 k21 H20 K20
  go_wp2_with fail
  refine(intSub_any F w21 _ (oo H21) 1 q17 q17 q19 _ v18 v21 rfl (.tail _ (.head _)) (.head _) 1546 384 (by omega) (by omega)).mono ?_
  rintro e w22 ⟨v22,e22,zs22,rfl,h22,k22⟩
  have zs22:Sz 1547 v22:=zs22.mono (by omega)
  have K22:=hh ((oo K21).trans k22)
  have cP:=(oo K22).cell cP0 (fun h=>h hFc)
  simp only [Ls0,Ls1] at h22
  have H22:Hid _:=h22
  clear h22 k22 H21 K21
  go_wp2_with fail
  refine(sign_any F w22 _ (oo H22) q17 v22 (.tail _ (.head _))).mono ?_
  rintro e ws23 ⟨rfl,hws⟩
  rw [hws]
  clear hws ws23
  obtain⟨sv,hsv⟩:∃u,sgn v22=u:=⟨_,rfl⟩
  rw [hsv]
  have HSV:Hid _:=hsv
  clear hsv
  go_upto_if 98 with fail
  go_cut [] from 98 to 105 (fun wx=>∃v23,Hid ((0≤v22∧v23=v22)∨(v22<0∧v23=v22+(p:Int)))∧Sz 1548 v23∧St F wx ((q19,ofI v21)::(q17,ofI v23)::(q10,ofI v16)::(q7,ofI v15)::(q4,ofI v6)::(q1,ofI v3)::L)∧Keep (fun b=>¬F b) w wx)
  case first=>
   by_cases hneg:v22<0
   ·obtain rfl:sv = -1:=by rw [← oo HSV,sgn,if_pos hneg]
    have HNEG:Hid (v22<0):=hneg
    clear hneg HSV
    go_wp2_with fail
    refine(intAdd_any F w22 _ (oo H22) 1 q17 q17 pP _ v22 (p:Int) rfl (.tail _ (.head _)) (tl6 hP) 1547 384 (by omega) (by omega)).mono ?_
    rintro e wz ⟨v,ev,zv,rfl,hv,kv⟩
    simp only [Ls0,Ls1] at hv
    have HV:Hid _:=hv
    have KV:Hid _:=kv
    clear hv kv
    go_wp2_with fail
    go_meet
    exact⟨v,.inr ⟨HNEG.out,ev.out⟩,zv.mono (by omega),oo HV,(oo K22).trans (oo KV)⟩
   ·have hs1:sv≠-1:=by rw [← oo HSV,sgn,if_neg hneg];split<;>decide
    have t1:(sv == -1)=false:=beq_eq_false_iff_ne.2 hs1
    have HNN:Hid (0≤v22):=Int.not_lt.1 hneg
    clear hneg hs1 HSV
    go_wp2_with fail
    go_meet
    exact⟨v22,.inl ⟨HNN.out,rfl⟩,Sz.mono (n:=1548) (inferInstance:Sz 1547 v22) (by omega),(oo H22),oo K22⟩
  case rest=>
   clear HSV
   obtain⟨v23,e23,zs23,h23,k23⟩:=hcut
   have H23:Hid _:=h23
   have K23:Hid _:=k23
   have cP:wc.cell? ⟨pc,0,none⟩=some (pt pP):=k23.cell cP0 (fun h=>h hFc)
   clear h23 k23 H22 K22
   go_wp2_with fail
   refine(intMod_any F wc _ (oo H23) 1 q17 q17 pP _ v23 (p:Int) rfl (.tail _ (.head _)) (tl6 hP) (St.neTail (oo H23) (i:=1) (k:=6) rfl (by decide) hP) 1548 384 (by omega) (by omega) hP0).mono ?_
   rintro e w24 ⟨v24,e24,zs24,rfl,h24,k24⟩
   have zs24:Sz 384 v24:=zs24.mono (by omega)
   have K24:=hh ((oo K23).trans k24)
   have cP:=(oo K24).cell cP0 (fun h=>h hFc)
   simp only [Ls0,Ls1] at h24
   have H24:Hid _:=h24
   clear h24 k24 H23 K23
   go_wp2_with fail
   have h25:=St.alloc (oo H24) 85
   have k25:Keep (fun b=>¬F b) w _:=((oo K24).alloc iz)
   have cP':=k25.cell cP0 (fun h=>h hFc)
   generalize hwa:w24.alloc iz=w25 at *
   clear hwa
   generalize w24.heap.size=q25 at *
   clear cP
   have cP:=cP'
   clear cP'
   have H25:Hid _:=h25
   have K25:Hid _:=k25
   clear h25 k25 H24 K24
   refine(intAdd_any F w25 _ (oo H25) 0 q25 p2 p3 _ y z rfl (tl7 hy) (tl7 hz) 384 384 (by omega) (by omega)).mono ?_
   rintro e w26 ⟨v26,e26,zs26,rfl,h26,k26⟩
   have zs26:Sz 385 v26:=zs26.mono (by omega)
   have K26:=hh ((oo K25).trans k26)
   have cP:=(oo K26).cell cP0 (fun h=>h hFc)
   simp only [Ls0] at h26
   have H26:Hid _:=h26
   clear h26 k26 H25 K25
   go_wp2_with fail
   refine(intMul_any F w26 _ (oo H26) 0 q25 q25 q25 _ v26 v26 rfl (.head _) (.head _) 385 385 (by omega) (by omega)).mono ?_
   rintro e w27 ⟨v27,e27,zs27,rfl,h27,k27⟩
   have zs27:Sz 770 v27:=zs27.mono (by omega)
   have K27:=hh ((oo K26).trans k27)
   have cP:=(oo K27).cell cP0 (fun h=>h hFc)
   simp only [Ls0] at h27
   have H27:Hid _:=h27
   clear h27 k27 H26 K26
   go_wp2_with fail
   refine(intSub_any F w27 _ (oo H27) 0 q25 q25 q4 _ v27 v6 rfl (.head _) (tl5 (.head _)) 770 384 (by omega) (by omega)).mono ?_
   rintro e w28 ⟨v28,e28,zs28,rfl,h28,k28⟩
   have zs28:Sz 771 v28:=zs28.mono (by omega)
   have K28:=hh ((oo K27).trans k28)
   have cP:=(oo K28).cell cP0 (fun h=>h hFc)
   simp only [Ls0] at h28
   have H28:Hid _:=h28
   clear h28 k28 H27 K27
   go_wp2_with fail
   refine(sign_any F w28 _ (oo H28) q25 v28 (.head _)).mono ?_
   rintro e ws29 ⟨rfl,hws⟩
   rw [hws]
   clear hws ws29
   obtain⟨sv,hsv⟩:∃u,sgn v28=u:=⟨_,rfl⟩
   rw [hsv]
   have HSV:Hid _:=hsv
   clear hsv
   go_upto_if 127 with fail
   go_cut [] from 127 to 134 (fun wx=>∃v29,Hid ((0≤v28∧v29=v28)∨(v28<0∧v29=v28+(p:Int)))∧Sz 772 v29∧St F wx ((q25,ofI v29)::(q19,ofI v21)::(q17,ofI v24)::(q10,ofI v16)::(q7,ofI v15)::(q4,ofI v6)::(q1,ofI v3)::L)∧Keep (fun b=>¬F b) w wx)
   case first=>
    by_cases hneg:v28<0
    ·obtain rfl:sv = -1:=by rw [← oo HSV,sgn,if_pos hneg]
     have HNEG:Hid (v28<0):=hneg
     clear hneg HSV
     go_wp2_with fail
     refine(intAdd_any F w28 _ (oo H28) 0 q25 q25 pP _ v28 (p:Int) rfl (.head _) (tl7 hP) 771 384 (by omega) (by omega)).mono ?_
     rintro e wz ⟨v,ev,zv,rfl,hv,kv⟩
     simp only [Ls0] at hv
     have HV:Hid _:=hv
     have KV:Hid _:=kv
     clear hv kv
     go_wp2_with fail
     go_meet
     exact⟨v,.inr ⟨HNEG.out,ev.out⟩,zv.mono (by omega),oo HV,(oo K28).trans (oo KV)⟩
    ·have hs1:sv≠-1:=by rw [← oo HSV,sgn,if_neg hneg];split<;>decide
     have t1:(sv == -1)=false:=beq_eq_false_iff_ne.2 hs1
     have HNN:Hid (0≤v28):=Int.not_lt.1 hneg
     clear hneg hs1 HSV
     go_wp2_with fail
     go_meet
     exact⟨v28,.inl ⟨HNN.out,rfl⟩,Sz.mono (n:=772) (inferInstance:Sz 771 v28) (by omega),(oo H28),oo K28⟩
   case rest=>
    clear HSV
    obtain⟨v29,e29,zs29,h29,k29⟩:=hcut
    have H29:Hid _:=h29
    have K29:Hid _:=k29
    have cP:wc.cell? ⟨pc,0,none⟩=some (pt pP):=k29.cell cP0 (fun h=>h hFc)
    clear h29 k29 H28 K28
    go_wp2_with fail
    refine(intSub_any F wc _ (oo H29) 0 q25 q25 q1 _ v29 v3 rfl (.head _) (tl6 (.head _)) 772 384 (by omega) (by omega)).mono ?_
    rintro e w30 ⟨v30,e30,zs30,rfl,h30,k30⟩
    have zs30:Sz 773 v30:=zs30.mono (by omega)
    have K30:=hh ((oo K29).trans k30)
    have cP:=(oo K30).cell cP0 (fun h=>h hFc)
    simp only [Ls0] at h30
    have H30:Hid _:=h30
    clear h30 k30 H29 K29
    go_wp2_with fail
    refine(sign_any F w30 _ (oo H30) q25 v30 (.head _)).mono ?_
    rintro e ws31 ⟨rfl,hws⟩
    rw [hws]
    clear hws ws31
    obtain⟨sv,hsv⟩:∃u,sgn v30=u:=⟨_,rfl⟩
    rw [hsv]
    have HSV:Hid _:=hsv
    clear hsv
    go_upto_if 141 with fail
    go_cut [] from 141 to 148 (fun wx=>∃v31,Hid ((0≤v30∧v31=v30)∨(v30<0∧v31=v30+(p:Int)))∧Sz 774 v31∧St F wx ((q25,ofI v31)::(q19,ofI v21)::(q17,ofI v24)::(q10,ofI v16)::(q7,ofI v15)::(q4,ofI v6)::(q1,ofI v3)::L)∧Keep (fun b=>¬F b) w wx)
    case first=>
     by_cases hneg:v30<0
     ·obtain rfl:sv = -1:=by rw [← oo HSV,sgn,if_pos hneg]
      have HNEG:Hid (v30<0):=hneg
      clear hneg HSV
      go_wp2_with fail
      refine(intAdd_any F w30 _ (oo H30) 0 q25 q25 pP _ v30 (p:Int) rfl (.head _) (tl7 hP) 773 384 (by omega) (by omega)).mono ?_
      rintro e wz ⟨v,ev,zv,rfl,hv,kv⟩
      simp only [Ls0] at hv
      have HV:Hid _:=hv
      have KV:Hid _:=kv
      clear hv kv
      go_wp2_with fail
      go_meet
      exact⟨v,.inr ⟨HNEG.out,ev.out⟩,zv.mono (by omega),oo HV,(oo K30).trans (oo KV)⟩
     ·have hs1:sv≠-1:=by rw [← oo HSV,sgn,if_neg hneg];split<;>decide
      have t1:(sv == -1)=false:=beq_eq_false_iff_ne.2 hs1
      have HNN:Hid (0≤v30):=Int.not_lt.1 hneg
      clear hneg hs1 HSV
      go_wp2_with fail
      go_meet
      exact⟨v30,.inl ⟨HNN.out,rfl⟩,Sz.mono (n:=774) (inferInstance:Sz 773 v30) (by omega),(oo H30),oo K30⟩
    case rest=>
     clear HSV
     obtain⟨v31,e31,zs31,h31,k31⟩:=hcut
     have H31:Hid _:=h31
     have K31:Hid _:=k31
     have cP:wc.cell? ⟨pc,0,none⟩=some (pt pP):=k31.cell cP0 (fun h=>h hFc)
     clear h31 k31 H30 K30
     go_wp2_with fail
     refine(intMod_any F wc _ (oo H31) 0 q25 q25 pP _ v31 (p:Int) rfl (.head _) (tl7 hP) (St.neTail (oo H31) (i:=0) (k:=7) rfl (by decide) hP) 774 384 (by omega) (by omega) hP0).mono ?_
     rintro e w32 ⟨v32,e32,zs32,rfl,h32,k32⟩
     have zs32:Sz 384 v32:=zs32.mono (by omega)
     have K32:=hh ((oo K31).trans k32)
     have cP:=(oo K32).cell cP0 (fun h=>h hFc)
     simp only [Ls0] at h32
     have H32:Hid _:=h32
     clear h32 k32 H31 K31
     go_wp2_with fail
     refine(intLsh_any F w32 _ (oo H32) 3 q10 q10 _ v16 rfl (tl3 (.head _)) 2 768 (by omega) (by omega) (by omega)).mono ?_
     rintro e w33 ⟨v33,e33,zs33,rfl,h33,k33⟩
     have zs33:Sz 770 v33:=zs33.mono (by omega)
     have K33:=hh ((oo K32).trans k33)
     have cP:=(oo K33).cell cP0 (fun h=>h hFc)
     simp only [Ls0,Ls1] at h33
     have H33:Hid _:=h33
     clear h33 k33 H32 K32
     go_wp2_with fail
     refine(intSub_any F w33 _ (oo H33) 3 q10 q10 q17 _ v33 v24 rfl (tl3 (.head _)) (tl2 (.head _)) 770 384 (by omega) (by omega)).mono ?_
     rintro e w34 ⟨v34,e34,zs34,rfl,h34,k34⟩
     have zs34:Sz 771 v34:=zs34.mono (by omega)
     have K34:=hh ((oo K33).trans k34)
     have cP:=(oo K34).cell cP0 (fun h=>h hFc)
     simp only [Ls0,Ls1] at h34
     have H34:Hid _:=h34
     clear h34 k34 H33 K33
     go_wp2_with fail
     refine(sign_any F w34 _ (oo H34) q10 v34 (tl3 (.head _))).mono ?_
     rintro e ws35 ⟨rfl,hws⟩
     rw [hws]
     clear hws ws35
     obtain⟨sv,hsv⟩:∃u,sgn v34=u:=⟨_,rfl⟩
     rw [hsv]
     have HSV:Hid _:=hsv
     clear hsv
     go_upto_if 165 with fail
     go_cut [] from 165 to 172 (fun wx=>∃v35,Hid ((0≤v34∧v35=v34)∨(v34<0∧v35=v34+(p:Int)))∧Sz 772 v35∧St F wx ((q25,ofI v32)::(q19,ofI v21)::(q17,ofI v24)::(q10,ofI v35)::(q7,ofI v15)::(q4,ofI v6)::(q1,ofI v3)::L)∧Keep (fun b=>¬F b) w wx)
     case first=>
      by_cases hneg:v34<0
      ·obtain rfl:sv = -1:=by rw [← oo HSV,sgn,if_pos hneg]
       have HNEG:Hid (v34<0):=hneg
       clear hneg HSV
       go_wp2_with fail
       refine(intAdd_any F w34 _ (oo H34) 3 q10 q10 pP _ v34 (p:Int) rfl (tl3 (.head _)) (tl7 hP) 771 384 (by omega) (by omega)).mono ?_
       rintro e wz ⟨v,ev,zv,rfl,hv,kv⟩
       simp only [Ls0,Ls1] at hv
       have HV:Hid _:=hv
       have KV:Hid _:=kv
       clear hv kv
       go_wp2_with fail
       go_meet
       exact⟨v,.inr ⟨HNEG.out,ev.out⟩,zv.mono (by omega),oo HV,(oo K34).trans (oo KV)⟩
      ·have hs1:sv≠-1:=by rw [← oo HSV,sgn,if_neg hneg];split<;>decide
       have t1:(sv == -1)=false:=beq_eq_false_iff_ne.2 hs1
       have HNN:Hid (0≤v34):=Int.not_lt.1 hneg
       clear hneg hs1 HSV
       go_wp2_with fail
       go_meet
       exact⟨v34,.inl ⟨HNN.out,rfl⟩,Sz.mono (n:=772) (inferInstance:Sz 771 v34) (by omega),(oo H34),oo K34⟩
     case rest=>
      clear HSV
      obtain⟨v35,e35,zs35,h35,k35⟩:=hcut
      have H35:Hid _:=h35
      have K35:Hid _:=k35
      have cP:wc.cell? ⟨pc,0,none⟩=some (pt pP):=k35.cell cP0 (fun h=>h hFc)
      clear h35 k35 H34 K34
      go_wp2_with fail
      refine(intMul_any F wc _ (oo H35) 4 q7 q7 q10 _ v15 v35 rfl (tl4 (.head _)) (tl3 (.head _)) 773 772 (by omega) (by omega)).mono ?_
      rintro e w36 ⟨v36,e36,zs36,rfl,h36,k36⟩
      have zs36:Sz 1545 v36:=zs36.mono (by omega)
      have K36:=hh ((oo K35).trans k36)
      have cP:=(oo K36).cell cP0 (fun h=>h hFc)
      simp only [Ls0,Ls1] at h36
      have H36:Hid _:=h36
      clear h36 k36 H35 K35
      go_wp2_with fail
      refine(intMul_any F w36 _ (oo H36) 5 q4 q4 q4 _ v6 v6 rfl (tl5 (.head _)) (tl5 (.head _)) 384 384 (by omega) (by omega)).mono ?_
      rintro e w37 ⟨v37,e37,zs37,rfl,h37,k37⟩
      have zs37:Sz 768 v37:=zs37.mono (by omega)
      have K37:=hh ((oo K36).trans k37)
      have cP:=(oo K37).cell cP0 (fun h=>h hFc)
      simp only [Ls0,Ls1] at h37
      have H37:Hid _:=h37
      clear h37 k37 H36 K36
      go_wp2_with fail
      refine(intLsh_any F w37 _ (oo H37) 5 q4 q4 _ v37 rfl (tl5 (.head _)) 3 768 (by omega) (by omega) (by omega)).mono ?_
      rintro e w38 ⟨v38,e38,zs38,rfl,h38,k38⟩
      have zs38:Sz 771 v38:=zs38.mono (by omega)
      have K38:=hh ((oo K37).trans k38)
      have cP:=(oo K38).cell cP0 (fun h=>h hFc)
      simp only [Ls0,Ls1] at h38
      have H38:Hid _:=h38
      clear h38 k38 H37 K37
      go_wp2_with fail
      refine(intMod_any F w38 _ (oo H38) 5 q4 q4 pP _ v38 (p:Int) rfl (tl5 (.head _)) (tl7 hP) (St.neTail (oo H38) (i:=5) (k:=7) rfl (by decide) hP) 771 384 (by omega) (by omega) hP0).mono ?_
      rintro e w39 ⟨v39,e39,zs39,rfl,h39,k39⟩
      have zs39:Sz 384 v39:=zs39.mono (by omega)
      have K39:=hh ((oo K38).trans k39)
      have cP:=(oo K39).cell cP0 (fun h=>h hFc)
      simp only [Ls0,Ls1] at h39
      have H39:Hid _:=h39
      clear h39 k39 H38 K38
      go_wp2_with fail
      refine(intSub_any F w39 _ (oo H39) 4 q7 q7 q4 _ v36 v39 rfl (tl4 (.head _)) (tl5 (.head _)) 1545 384 (by omega) (by omega)).mono ?_
      rintro e w40 ⟨v40,e40,zs40,rfl,h40,k40⟩
      have zs40:Sz 1546 v40:=zs40.mono (by omega)
      have K40:=hh ((oo K39).trans k40)
      have cP:=(oo K40).cell cP0 (fun h=>h hFc)
      simp only [Ls0,Ls1] at h40
      have H40:Hid _:=h40
      clear h40 k40 H39 K39
      go_wp2_with fail
      refine(sign_any F w40 _ (oo H40) q7 v40 (tl4 (.head _))).mono ?_
      rintro e ws41 ⟨rfl,hws⟩
      rw [hws]
      clear hws ws41
      obtain⟨sv,hsv⟩:∃u,sgn v40=u:=⟨_,rfl⟩
      rw [hsv]
      have HSV:Hid _:=hsv
      clear hsv
      go_upto_if 197 with fail
      go_cut [] from 197 to 204 (fun wx=>∃v41,Hid ((0≤v40∧v41=v40)∨(v40<0∧v41=v40+(p:Int)))∧Sz 1547 v41∧St F wx ((q25,ofI v32)::(q19,ofI v21)::(q17,ofI v24)::(q10,ofI v35)::(q7,ofI v41)::(q4,ofI v39)::(q1,ofI v3)::L)∧Keep (fun b=>¬F b) w wx)
      case first=>
       by_cases hneg:v40<0
       ·obtain rfl:sv = -1:=by rw [← oo HSV,sgn,if_pos hneg]
        have HNEG:Hid (v40<0):=hneg
        clear hneg HSV
        go_wp2_with fail
        refine(intAdd_any F w40 _ (oo H40) 4 q7 q7 pP _ v40 (p:Int) rfl (tl4 (.head _)) (tl7 hP) 1546 384 (by omega) (by omega)).mono ?_
        rintro e wz ⟨v,ev,zv,rfl,hv,kv⟩
        simp only [Ls0,Ls1] at hv
        have HV:Hid _:=hv
        have KV:Hid _:=kv
        clear hv kv
        go_wp2_with fail
        go_meet
        exact⟨v,.inr ⟨HNEG.out,ev.out⟩,zv.mono (by omega),oo HV,(oo K40).trans (oo KV)⟩
       ·have hs1:sv≠-1:=by rw [← oo HSV,sgn,if_neg hneg];split<;>decide
        have t1:(sv == -1)=false:=beq_eq_false_iff_ne.2 hs1
        have HNN:Hid (0≤v40):=Int.not_lt.1 hneg
        clear hneg hs1 HSV
        go_wp2_with fail
        go_meet
        exact⟨v40,.inl ⟨HNN.out,rfl⟩,Sz.mono (n:=1547) (inferInstance:Sz 1546 v40) (by omega),(oo H40),oo K40⟩
      case rest=>
       clear HSV
       obtain⟨v41,e41,zs41,h41,k41⟩:=hcut
       have H41:Hid _:=h41
       have K41:Hid _:=k41
       have cP:wc.cell? ⟨pc,0,none⟩=some (pt pP):=k41.cell cP0 (fun h=>h hFc)
       clear h41 k41 H40 K40
       go_wp2_with fail
       refine(intMod_any F wc _ (oo H41) 4 q7 q7 pP _ v41 (p:Int) rfl (tl4 (.head _)) (tl7 hP) (St.neTail (oo H41) (i:=4) (k:=7) rfl (by decide) hP) 1547 384 (by omega) (by omega) hP0).mono ?_
       rintro e w42 ⟨v42,e42,zs42,rfl,h42,k42⟩
       have zs42:Sz 384 v42:=zs42.mono (by omega)
       have K42:=hh ((oo K41).trans k42)
       have cP:=(oo K42).cell cP0 (fun h=>h hFc)
       simp only [Ls0,Ls1] at h42
       have H42:Hid _:=h42
       clear h42 k42 H41 K41
       go_wp2_with fail
       go_ret3
       refine⟨q17,q7,q25,v24,v42,v32,rfl,St.pre (P:=[_,_,_,_,_,_,_]) (oo H42) [_,_,_] [2,4,0] (by decide) 7 rfl (by decide) rfl,oo K42,?_,⟨by rw [oo e24];exact Int.emod_nonneg _ (by omega),by rw [oo e24];exact Int.emod_lt_of_pos _ hP0⟩,⟨by rw [oo e42];exact Int.emod_nonneg _ (by omega),by rw [oo e42];exact Int.emod_lt_of_pos _ hP0⟩,⟨by rw [oo e32];exact Int.emod_nonneg _ (by omega),by rw [oo e32];exact Int.emod_lt_of_pos _ hP0⟩⟩
       have f2:=congrArg (Ec.fi p) (oo e2)
       rw [Ec.fi_mul] at f2
       have f3:=congrArg (Ec.fi p) (oo e3)
       rw [Ec.fi_mod] at f3
       have f5:=congrArg (Ec.fi p) (oo e5)
       rw [Ec.fi_mul] at f5
       have f6:=congrArg (Ec.fi p) (oo e6)
       rw [Ec.fi_mod] at f6
       have f8:=congrArg (Ec.fi p) (oo e8)
       rw [Ec.fi_sub] at f8
       have f9:Ec.fi p v9=Ec.fi p v8:=by
        rcases oo e9 with⟨_,e⟩ | ⟨_,e⟩
        ·rw [e]
        ·rw [e,Ec.fi_add,Ec.fi_p];grind
       have f11:=congrArg (Ec.fi p) (oo e11)
       rw [Ec.fi_add] at f11
       have f12:=congrArg (Ec.fi p) (oo e12)
       rw [Ec.fi_mul] at f12
       have f14:=congrArg (Ec.fi p) (oo e14)
       rw [Ec.fi_mul] at f14
       have f15:=congrArg (Ec.fi p) (oo e15)
       rw [Ec.fi_add] at f15
       have f16:=congrArg (Ec.fi p) (oo e16)
       rw [Ec.fi_mul] at f16
       have f18:=congrArg (Ec.fi p) (oo e18)
       rw [Ec.fi_mul] at f18
       have f20:=congrArg (Ec.fi p) (oo e20)
       rw [Ec.fi_mul] at f20
       have f21:=congrArg (Ec.fi p) (oo e21)
       rw [Ec.fi_mod] at f21
       have f22:=congrArg (Ec.fi p) (oo e22)
       rw [Ec.fi_sub] at f22
       have f23:Ec.fi p v23=Ec.fi p v22:=by
        rcases oo e23 with⟨_,e⟩ | ⟨_,e⟩
        ·rw [e]
        ·rw [e,Ec.fi_add,Ec.fi_p];grind
       have f24:=congrArg (Ec.fi p) (oo e24)
       rw [Ec.fi_mod] at f24
       have f26:=congrArg (Ec.fi p) (oo e26)
       rw [Ec.fi_add] at f26
       have f27:=congrArg (Ec.fi p) (oo e27)
       rw [Ec.fi_mul] at f27
       have f28:=congrArg (Ec.fi p) (oo e28)
       rw [Ec.fi_sub] at f28
       have f29:Ec.fi p v29=Ec.fi p v28:=by
        rcases oo e29 with⟨_,e⟩ | ⟨_,e⟩
        ·rw [e]
        ·rw [e,Ec.fi_add,Ec.fi_p];grind
       have f30:=congrArg (Ec.fi p) (oo e30)
       rw [Ec.fi_sub] at f30
       have f31:Ec.fi p v31=Ec.fi p v30:=by
        rcases oo e31 with⟨_,e⟩ | ⟨_,e⟩
        ·rw [e]
        ·rw [e,Ec.fi_add,Ec.fi_p];grind
       have f32:=congrArg (Ec.fi p) (oo e32)
       rw [Ec.fi_mod] at f32
       have f33:=congrArg (Ec.fi p) (oo e33)
       rw [Ec.fi_mul] at f33
       have f34:=congrArg (Ec.fi p) (oo e34)
       rw [Ec.fi_sub] at f34
       have f35:Ec.fi p v35=Ec.fi p v34:=by
        rcases oo e35 with⟨_,e⟩ | ⟨_,e⟩
        ·rw [e]
        ·rw [e,Ec.fi_add,Ec.fi_p];grind
       have f36:=congrArg (Ec.fi p) (oo e36)
       rw [Ec.fi_mul] at f36
       have f37:=congrArg (Ec.fi p) (oo e37)
       rw [Ec.fi_mul] at f37
       have f38:=congrArg (Ec.fi p) (oo e38)
       rw [Ec.fi_mul] at f38
       have f39:=congrArg (Ec.fi p) (oo e39)
       rw [Ec.fi_mod] at f39
       have f40:=congrArg (Ec.fi p) (oo e40)
       rw [Ec.fi_sub] at f40
       have f41:Ec.fi p v41=Ec.fi p v40:=by
        rcases oo e41 with⟨_,e⟩ | ⟨_,e⟩
        ·rw [e]
        ·rw [e,Ec.fi_add,Ec.fi_p];grind
       have f42:=congrArg (Ec.fi p) (oo e42)
       rw [Ec.fi_mod] at f42
       have g2:Ec.fi p (2^1)=2:=Ec.fi_nat (p:=p) 2
       have g4:Ec.fi p (2^2)=4:=Ec.fi_nat (p:=p) 4
       have g8:Ec.fi p (2^3)=8:=Ec.fi_nat (p:=p) 8
       show _=_
       simp only [Ec.gdbl,Ec.Tri.mk.injEq]
       generalize Ec.fi p x=a1 at *
       generalize Ec.fi p y=b1 at *
       generalize Ec.fi p z=c1 at *
       refine⟨?_,?_,?_⟩<;>(simp only [f2,f3,f5,f6,f8,f9,f11,f12,f14,f15,f16,f18,f20,f21,f22,f23,f24,f26,f27,f28,f29,f30,f31,f32,f33,f34,f35,f36,f37,f38,f39,f40,f41,f42,g2,g4,g8];try (clear f2 f3 f5 f6 f8 f9 f11 f12 f14 f15 f16 f18 f20 f21 f22 f23 f24 f26 f27 f28 f29 f30 f31 f32 f33 f34 f35 f36 f37 f38 f39 f40 f41 f42 g2 g4 g8;grind))
theorem fromTwisted_any (F:Nat→Prop) (w:World) (L:List (Nat×E)) (h:St F w L) (pr pp pP pU pV p1 p2:Nat) (x y u v:Int) (p:Nat) [NeZero p] (hx:(p1,ofI x)∈L) (hy:(p2,ofI y)∈L) (hu:(pU,ofI u)∈L) (hv:(pV,ofI v)∈L) (hP:(pP,ofI (p:Int))∈L)
  (cR0:w.cell? ⟨pr,1,none⟩=some (pt pp)) (cP0:w.cell? ⟨pp,0,none⟩=some (pt pP)) (cU0:w.cell? ⟨pr,6,none⟩=some (pt pU)) (cV0:w.cell? ⟨pr,7,none⟩=some (pt pV)) (hFr:F pr) (hFp:F pp) (sx:Sz 384 x) (sy:Sz 384 y) (su:Sz 384 u) (sv:Sz 384 v) (sP:Sz 384 (p:Int)) :
  Calls Tryz.prog 229 #[pt pr,pt p1,pt p2] w fun e w'=>∃(a b:Nat) (X Y:Int),e = .returned (.tuple #[pt a,pt b])∧St F w' ((a,ofI X)::(b,ofI Y)::L)∧Keep (fun b=>¬F b) w w'∧Hid (X=x*u%(p:Int))∧Hid (Y=y*v%(p:Int)):=by
 have hP0:(0:Int)<(p:Int):=by have:=NeZero.ne p;omega
 go_enter Tryz.func229,Tryz.ntmps229
 have cR:=cR0
 have cRa:((w.alloc iz).alloc iz).cell? ⟨pr,1,none⟩=some (pt pp):=(((Keep.refl (fun b=>¬F b) w).alloc iz).alloc iz).cell cR0 (fun h=>h hFr)
 have cP:=cP0
 have cPa:((w.alloc iz).alloc iz).cell? ⟨pp,0,none⟩=some (pt pP):=(((Keep.refl (fun b=>¬F b) w).alloc iz).alloc iz).cell cP0 (fun h=>h hFp)
 have cU:=cU0
 have cUa:((w.alloc iz).alloc iz).cell? ⟨pr,6,none⟩=some (pt pU):=(((Keep.refl (fun b=>¬F b) w).alloc iz).alloc iz).cell cU0 (fun h=>h hFr)
 have cV:=cV0
 have cVa:((w.alloc iz).alloc iz).cell? ⟨pr,7,none⟩=some (pt pV):=(((Keep.refl (fun b=>¬F b) w).alloc iz).alloc iz).cell cV0 (fun h=>h hFr)
 go_wp2_with fail
 have h1:=(St.alloc (St.alloc h 85) 85)
 have k1:Keep (fun b=>¬F b) w ((w.alloc iz).alloc iz):=(((Keep.refl (fun b=>¬F b) w).alloc iz).alloc iz)
 have cR':((w.alloc iz).alloc iz).cell? ⟨pr,1,none⟩=some (pt pp):=k1.cell cR0 (fun h=>h hFr)
 have cP':((w.alloc iz).alloc iz).cell? ⟨pp,0,none⟩=some (pt pP):=k1.cell cP0 (fun h=>h hFp)
 have cU':((w.alloc iz).alloc iz).cell? ⟨pr,6,none⟩=some (pt pU):=k1.cell cU0 (fun h=>h hFr)
 have cV':((w.alloc iz).alloc iz).cell? ⟨pr,7,none⟩=some (pt pV):=k1.cell cV0 (fun h=>h hFr)
 have hsz:∀(w:World) (o:Obj),(w.alloc o).heap.size=w.heap.size+1:=fun w o=>Array.size_push _
 simp only [hsz] at h1
 clear hsz
 generalize hwa:((w.alloc iz).alloc iz)=w1 at *
 clear hwa
 generalize w.heap.size+1=q1_1 at *
 generalize w.heap.size=q1_0 at *
 clear cR
 have cR:=cR'
 clear cR'
 clear cP
 have cP:=cP'
 clear cP'
 clear cU
 have cU:=cU'
 clear cU'
 clear cV
 have cV:=cV'
 clear cV'
 have H1:Hid _:=h1
 have K1:Hid _:=k1
 clear h1 k1
 refine(intMul_any F w1 _ (oo H1) 1 q1_0 p1 pU _ x u rfl (tl2 hx) (tl2 hu) 384 384 (by omega) (by omega)).mono ?_
 rintro e w2 ⟨v2,e2,zs2,rfl,h2,k2⟩
 have zs2:Sz 768 v2:=zs2.mono (by omega)
 have K2:=hh ((oo K1).trans k2)
 have cR:w2.cell? ⟨pr,1,none⟩=some (pt pp):=(oo K2).cell cR0 (fun h=>h hFr)
 have cP:w2.cell? ⟨pp,0,none⟩=some (pt pP):=(oo K2).cell cP0 (fun h=>h hFp)
 have cU:w2.cell? ⟨pr,6,none⟩=some (pt pU):=(oo K2).cell cU0 (fun h=>h hFr)
 have cV:w2.cell? ⟨pr,7,none⟩=some (pt pV):=(oo K2).cell cV0 (fun h=>h hFr)
 simp only [Ls0,Ls1] at h2
 have H2:Hid _:=h2
 clear h2 k2 H1 K1
 go_wp2_with fail
 refine(intMod_any F w2 _ (oo H2) 1 q1_0 q1_0 pP _ v2 (p:Int) rfl (.tail _ (.head _)) (tl2 hP) (St.neTail (oo H2) (i:=1) (k:=2) rfl (by decide) hP) 768 384 (by omega) (by omega) hP0).mono ?_
 rintro e w3 ⟨v3,e3,zs3,rfl,h3,k3⟩
 have zs3:Sz 384 v3:=zs3.mono (by omega)
 have K3:=hh ((oo K2).trans k3)
 have cR:w3.cell? ⟨pr,1,none⟩=some (pt pp):=(oo K3).cell cR0 (fun h=>h hFr)
 have cP:w3.cell? ⟨pp,0,none⟩=some (pt pP):=(oo K3).cell cP0 (fun h=>h hFp)
 have cU:w3.cell? ⟨pr,6,none⟩=some (pt pU):=(oo K3).cell cU0 (fun h=>h hFr)
 have cV:w3.cell? ⟨pr,7,none⟩=some (pt pV):=(oo K3).cell cV0 (fun h=>h hFr)
 simp only [Ls0,Ls1] at h3
 have H3:Hid _:=h3
 clear h3 k3 H2 K2
 go_wp2_with fail
 refine(intMul_any F w3 _ (oo H3) 0 q1_1 p2 pV _ y v rfl (tl2 hy) (tl2 hv) 384 384 (by omega) (by omega)).mono ?_
 rintro e w4 ⟨v4,e4,zs4,rfl,h4,k4⟩
 have zs4:Sz 768 v4:=zs4.mono (by omega)
 have K4:=hh ((oo K3).trans k4)
 have cR:w4.cell? ⟨pr,1,none⟩=some (pt pp):=(oo K4).cell cR0 (fun h=>h hFr)
 have cP:w4.cell? ⟨pp,0,none⟩=some (pt pP):=(oo K4).cell cP0 (fun h=>h hFp)
 have cU:w4.cell? ⟨pr,6,none⟩=some (pt pU):=(oo K4).cell cU0 (fun h=>h hFr)
 have cV:w4.cell? ⟨pr,7,none⟩=some (pt pV):=(oo K4).cell cV0 (fun h=>h hFr)
 simp only [Ls0] at h4
 have H4:Hid _:=h4
 clear h4 k4 H3 K3
 go_wp2_with fail
 refine(intMod_any F w4 _ (oo H4) 0 q1_1 q1_1 pP _ v4 (p:Int) rfl (.head _) (tl2 hP) (St.neTail (oo H4) (i:=0) (k:=2) rfl (by decide) hP) 768 384 (by omega) (by omega) hP0).mono ?_
 rintro e w5 ⟨v5,e5,zs5,rfl,h5,k5⟩
 have zs5:Sz 384 v5:=zs5.mono (by omega)
 have K5:=hh ((oo K4).trans k5)
 have cR:w5.cell? ⟨pr,1,none⟩=some (pt pp):=(oo K5).cell cR0 (fun h=>h hFr)
 have cP:w5.cell? ⟨pp,0,none⟩=some (pt pP):=(oo K5).cell cP0 (fun h=>h hFp)
 have cU:w5.cell? ⟨pr,6,none⟩=some (pt pU):=(oo K5).cell cU0 (fun h=>h hFr)
 have cV:w5.cell? ⟨pr,7,none⟩=some (pt pV):=(oo K5).cell cV0 (fun h=>h hFr)
 simp only [Ls0] at h5
 have H5:Hid _:=h5
 clear h5 k5 H4 K4
 go_wp2_with fail
 go_ret2
 refine⟨q1_0,q1_1,v3,v5,rfl,St.pre (P:=[_,_]) (oo H5) [_,_] [1,0] (by decide) 2 rfl (by decide) rfl,oo K5,?_,?_⟩
 ·show _=_;rw [oo e3,oo e2]
 ·show _=_;rw [oo e5,oo e4]
theorem toTwisted_any (F:Nat→Prop) (w:World) (L:List (Nat×E)) (h:St F w L) (pr pp pP pU pV p1 p2:Nat) (x y u v:Int) (p:Nat) [NeZero p] (hx:(p1,ofI x)∈L) (hy:(p2,ofI y)∈L) (hu:(pU,ofI u)∈L) (hv:(pV,ofI v)∈L) (hP:(pP,ofI (p:Int))∈L)
  (cR0:w.cell? ⟨pr,1,none⟩=some (pt pp)) (cP0:w.cell? ⟨pp,0,none⟩=some (pt pP)) (cU0:w.cell? ⟨pr,4,none⟩=some (pt pU)) (cV0:w.cell? ⟨pr,5,none⟩=some (pt pV)) (hFr:F pr) (hFp:F pp) (sx:Sz 384 x) (sy:Sz 384 y) (su:Sz 384 u) (sv:Sz 384 v) (sP:Sz 384 (p:Int)) :
  Calls Tryz.prog 228 #[pt pr,pt p1,pt p2] w fun e w'=>∃(a b:Nat) (X Y:Int),e = .returned (.tuple #[pt a,pt b])∧St F w' ((a,ofI X)::(b,ofI Y)::L)∧Keep (fun b=>¬F b) w w'∧Hid (X=x*u%(p:Int))∧Hid (Y=y*v%(p:Int)):=by
 have hP0:(0:Int)<(p:Int):=by have:=NeZero.ne p;omega
 go_enter Tryz.func228,Tryz.ntmps228
 have cR:=cR0
 have cRa:((w.alloc iz).alloc iz).cell? ⟨pr,1,none⟩=some (pt pp):=(((Keep.refl (fun b=>¬F b) w).alloc iz).alloc iz).cell cR0 (fun h=>h hFr)
 have cP:=cP0
 have cPa:((w.alloc iz).alloc iz).cell? ⟨pp,0,none⟩=some (pt pP):=(((Keep.refl (fun b=>¬F b) w).alloc iz).alloc iz).cell cP0 (fun h=>h hFp)
 have cU:=cU0
 have cUa:((w.alloc iz).alloc iz).cell? ⟨pr,4,none⟩=some (pt pU):=(((Keep.refl (fun b=>¬F b) w).alloc iz).alloc iz).cell cU0 (fun h=>h hFr)
 have cV:=cV0
 have cVa:((w.alloc iz).alloc iz).cell? ⟨pr,5,none⟩=some (pt pV):=(((Keep.refl (fun b=>¬F b) w).alloc iz).alloc iz).cell cV0 (fun h=>h hFr)
 go_wp2_with fail
 have h1:=(St.alloc (St.alloc h 85) 85)
 have k1:Keep (fun b=>¬F b) w ((w.alloc iz).alloc iz):=(((Keep.refl (fun b=>¬F b) w).alloc iz).alloc iz)
 have cR':((w.alloc iz).alloc iz).cell? ⟨pr,1,none⟩=some (pt pp):=k1.cell cR0 (fun h=>h hFr)
 have cP':((w.alloc iz).alloc iz).cell? ⟨pp,0,none⟩=some (pt pP):=k1.cell cP0 (fun h=>h hFp)
 have cU':((w.alloc iz).alloc iz).cell? ⟨pr,4,none⟩=some (pt pU):=k1.cell cU0 (fun h=>h hFr)
 have cV':((w.alloc iz).alloc iz).cell? ⟨pr,5,none⟩=some (pt pV):=k1.cell cV0 (fun h=>h hFr)
 have hsz:∀(w:World) (o:Obj),(w.alloc o).heap.size=w.heap.size+1:=fun w o=>Array.size_push _
 simp only [hsz] at h1
 clear hsz
 generalize hwa:((w.alloc iz).alloc iz)=w1 at *
 clear hwa
 generalize w.heap.size+1=q1_1 at *
 generalize w.heap.size=q1_0 at *
 clear cR
 have cR:=cR'
 clear cR'
 clear cP
 have cP:=cP'
 clear cP'
 clear cU
 have cU:=cU'
 clear cU'
 clear cV
 have cV:=cV'
 clear cV'
 have H1:Hid _:=h1
 have K1:Hid _:=k1
 clear h1 k1
 refine(intMul_any F w1 _ (oo H1) 1 q1_0 p1 pU _ x u rfl (tl2 hx) (tl2 hu) 384 384 (by omega) (by omega)).mono ?_
 rintro e w2 ⟨v2,e2,zs2,rfl,h2,k2⟩
 have zs2:Sz 768 v2:=zs2.mono (by omega)
 have K2:=hh ((oo K1).trans k2)
 have cR:w2.cell? ⟨pr,1,none⟩=some (pt pp):=(oo K2).cell cR0 (fun h=>h hFr)
 have cP:w2.cell? ⟨pp,0,none⟩=some (pt pP):=(oo K2).cell cP0 (fun h=>h hFp)
 have cU:w2.cell? ⟨pr,4,none⟩=some (pt pU):=(oo K2).cell cU0 (fun h=>h hFr)
 have cV:w2.cell? ⟨pr,5,none⟩=some (pt pV):=(oo K2).cell cV0 (fun h=>h hFr)
 simp only [Ls0,Ls1] at h2
 have H2:Hid _:=h2
 clear h2 k2 H1 K1
 go_wp2_with fail
 refine(intMod_any F w2 _ (oo H2) 1 q1_0 q1_0 pP _ v2 (p:Int) rfl (.tail _ (.head _)) (tl2 hP) (St.neTail (oo H2) (i:=1) (k:=2) rfl (by decide) hP) 768 384 (by omega) (by omega) hP0).mono ?_
 rintro e w3 ⟨v3,e3,zs3,rfl,h3,k3⟩
 have zs3:Sz 384 v3:=zs3.mono (by omega)
 have K3:=hh ((oo K2).trans k3)
 have cR:w3.cell? ⟨pr,1,none⟩=some (pt pp):=(oo K3).cell cR0 (fun h=>h hFr)
 have cP:w3.cell? ⟨pp,0,none⟩=some (pt pP):=(oo K3).cell cP0 (fun h=>h hFp)
 have cU:w3.cell? ⟨pr,4,none⟩=some (pt pU):=(oo K3).cell cU0 (fun h=>h hFr)
 have cV:w3.cell? ⟨pr,5,none⟩=some (pt pV):=(oo K3).cell cV0 (fun h=>h hFr)
 simp only [Ls0,Ls1] at h3
 have H3:Hid _:=h3
 clear h3 k3 H2 K2
 go_wp2_with fail
 refine(intMul_any F w3 _ (oo H3) 0 q1_1 p2 pV _ y v rfl (tl2 hy) (tl2 hv) 384 384 (by omega) (by omega)).mono ?_
 rintro e w4 ⟨v4,e4,zs4,rfl,h4,k4⟩
 have zs4:Sz 768 v4:=zs4.mono (by omega)
 have K4:=hh ((oo K3).trans k4)
 have cR:w4.cell? ⟨pr,1,none⟩=some (pt pp):=(oo K4).cell cR0 (fun h=>h hFr)
 have cP:w4.cell? ⟨pp,0,none⟩=some (pt pP):=(oo K4).cell cP0 (fun h=>h hFp)
 have cU:w4.cell? ⟨pr,4,none⟩=some (pt pU):=(oo K4).cell cU0 (fun h=>h hFr)
 have cV:w4.cell? ⟨pr,5,none⟩=some (pt pV):=(oo K4).cell cV0 (fun h=>h hFr)
 simp only [Ls0] at h4
 have H4:Hid _:=h4
 clear h4 k4 H3 K3
 go_wp2_with fail
 refine(intMod_any F w4 _ (oo H4) 0 q1_1 q1_1 pP _ v4 (p:Int) rfl (.head _) (tl2 hP) (St.neTail (oo H4) (i:=0) (k:=2) rfl (by decide) hP) 768 384 (by omega) (by omega) hP0).mono ?_
 rintro e w5 ⟨v5,e5,zs5,rfl,h5,k5⟩
 have zs5:Sz 384 v5:=zs5.mono (by omega)
 have K5:=hh ((oo K4).trans k5)
 have cR:w5.cell? ⟨pr,1,none⟩=some (pt pp):=(oo K5).cell cR0 (fun h=>h hFr)
 have cP:w5.cell? ⟨pp,0,none⟩=some (pt pP):=(oo K5).cell cP0 (fun h=>h hFp)
 have cU:w5.cell? ⟨pr,4,none⟩=some (pt pU):=(oo K5).cell cU0 (fun h=>h hFr)
 have cV:w5.cell? ⟨pr,5,none⟩=some (pt pV):=(oo K5).cell cV0 (fun h=>h hFr)
 simp only [Ls0] at h5
 have H5:Hid _:=h5
 clear h5 k5 H4 K4
 go_wp2_with fail
 go_ret2
 refine⟨q1_0,q1_1,v3,v5,rfl,St.pre (P:=[_,_]) (oo H5) [_,_] [1,0] (by decide) 2 rfl (by decide) rfl,oo K5,?_,?_⟩
 ·show _=_;rw [oo e3,oo e2]
 ·show _=_;rw [oo e5,oo e4]
end Go.Proofs.YtofkehhflkdabaaGreatDoor
