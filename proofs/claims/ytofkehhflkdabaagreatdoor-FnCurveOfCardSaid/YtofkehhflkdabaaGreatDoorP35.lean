/- A part of the proof of FnCurveOf. -/
import Derived.Test.YtofkehhflkdabaaGreatDoorP34
set_option maxRecDepth 100000
set_option maxHeartbeats 8000000
namespace Go.Proofs.YtofkehhflkdabaaGreatDoor
open Go Go.RowKit
theorem St.neTail {F:Nat→Prop} {w:World} {L:List (Nat×E)} (h:St F w L) {i k p q:Nat} {u v:E} (hi:L[i]?=some (p,u)) (hik:i<k) (hm:(q,v)∈L.drop k):p≠q:=by
 obtain⟨j,hj⟩:=List.mem_iff_getElem?.1 hm
 rw [List.getElem?_drop] at hj
 exact h.ne01 hi hj (by omega)
theorem bitDouble_any (F:Nat→Prop) (w:World) (L:List (Nat×E)) (h:St F w L) (pc pP p1 p2 p3:Nat) (x y z:Int) (p:Nat) [NeZero p] (hx:(p1,ofI x)∈L) (hy:(p2,ofI y)∈L) (hz:(p3,ofI z)∈L) (hP:(pP,ofI (p:Int))∈L)
  (cP0:w.cell? ⟨pc,1,none⟩=some (pt pP)) (hFc:F pc) (sx:Sz 256 x) (sy:Sz 256 y) (sz:Sz 256 z) (sP:Sz 256 (p:Int)) :
  Calls Tryz.prog 219 #[pt pc,pt p1,pt p2,pt p3] w fun e w'=>∃(a b c:Nat) (X Y Z:Int),e = .returned (.tuple #[pt a,pt b,pt c])∧St F w' ((a,ofI X)::(b,ofI Y)::(c,ofI Z)::L)∧Keep (fun b=>¬F b) w w' ∧
   Hid ((⟨Ec.fi p X,Ec.fi p Y,Ec.fi p Z⟩:Ec.Tri p)=Ec.bdbl ⟨Ec.fi p x,Ec.fi p y,Ec.fi p z⟩)∧Sz 256 X∧Sz 256 Y∧Sz 256 Z∧0≤Z∧Z<p:=by
 have hP0:(0:Int)<(p:Int):=by have:=NeZero.ne p;omega
 go_enter Tryz.func219,Tryz.ntmps219
 have cP:=cP0
 go_wp2_with fail
 have h1:=h.alloc 85
 have k1:Keep (fun b=>¬F b) w _:=((Keep.refl _ w).alloc iz)
 have cP':=k1.cell cP0 (fun h=>h hFc)
 generalize hwa:w.alloc iz=w1 at *
 clear hwa
 generalize w.heap.size=q1 at *
 clear cP
 have cP:=cP'
 clear cP'
 have H1:Hid _:=h1
 have K1:Hid _:=k1
 clear h1 k1
 refine(intMul_any F w1 _ (oo H1) 0 q1 p1 p1 _ x x rfl (.tail _ hx) (.tail _ hx) 256 256 (by omega) (by omega)).mono ?_
 rintro e w2 ⟨v2,e2,zs2,rfl,h2,k2⟩
 have zs2:Sz 512 v2:=zs2.mono (by omega)
 have K2:=hh ((oo K1).trans k2)
 have cP:=(oo K2).cell cP0 (fun h=>h hFc)
 simp only [Ls0] at h2
 have H2:Hid _:=h2
 clear h2 k2 H1 K1
 go_wp2_with fail
 have h3:=St.alloc (oo H2) 85
 have k3:Keep (fun b=>¬F b) w _:=((oo K2).alloc iz)
 have cP':=k3.cell cP0 (fun h=>h hFc)
 generalize hwa:w2.alloc iz=w3 at *
 clear hwa
 generalize w2.heap.size=q3 at *
 clear cP
 have cP:=cP'
 clear cP'
 have H3:Hid _:=h3
 have K3:Hid _:=k3
 clear h3 k3 H2 K2
 refine(intMul_any F w3 _ (oo H3) 0 q3 p2 p2 _ y y rfl (tl2 hy) (tl2 hy) 256 256 (by omega) (by omega)).mono ?_
 rintro e w4 ⟨v4,e4,zs4,rfl,h4,k4⟩
 have zs4:Sz 512 v4:=zs4.mono (by omega)
 have K4:=hh ((oo K3).trans k4)
 have cP:=(oo K4).cell cP0 (fun h=>h hFc)
 simp only [Ls0] at h4
 have H4:Hid _:=h4
 clear h4 k4 H3 K3
 go_wp2_with fail
 have h5:=St.alloc (oo H4) 85
 have k5:Keep (fun b=>¬F b) w _:=((oo K4).alloc iz)
 have cP':=k5.cell cP0 (fun h=>h hFc)
 generalize hwa:w4.alloc iz=w5 at *
 clear hwa
 generalize w4.heap.size=q5 at *
 clear cP
 have cP:=cP'
 clear cP'
 have H5:Hid _:=h5
 have K5:Hid _:=k5
 clear h5 k5 H4 K4
 refine(intMul_any F w5 _ (oo H5) 0 q5 q3 q3 _ v4 v4 rfl (.tail _ (.head _)) (.tail _ (.head _)) 512 512 (by omega) (by omega)).mono ?_
 rintro e w6 ⟨v6,e6,zs6,rfl,h6,k6⟩
 have zs6:Sz 1024 v6:=zs6.mono (by omega)
 have K6:=hh ((oo K5).trans k6)
 have cP:=(oo K6).cell cP0 (fun h=>h hFc)
 simp only [Ls0] at h6
 have H6:Hid _:=h6
 clear h6 k6 H5 K5
 go_wp2_with fail
 have h7:=St.alloc (oo H6) 85
 have k7:Keep (fun b=>¬F b) w _:=((oo K6).alloc iz)
 have cP':=k7.cell cP0 (fun h=>h hFc)
 generalize hwa:w6.alloc iz=w7 at *
 clear hwa
 generalize w6.heap.size=q7 at *
 clear cP
 have cP:=cP'
 clear cP'
 have H7:Hid _:=h7
 have K7:Hid _:=k7
 clear h7 k7 H6 K6
 refine(intAdd_any F w7 _ (oo H7) 0 q7 p1 q3 _ x v4 rfl (tl4 hx) (tl2 (.head _)) 256 512 (by omega) (by omega)).mono ?_
 rintro e w8 ⟨v8,e8,zs8,rfl,h8,k8⟩
 have zs8:Sz 513 v8:=zs8.mono (by omega)
 have K8:=hh ((oo K7).trans k8)
 have cP:=(oo K8).cell cP0 (fun h=>h hFc)
 simp only [Ls0] at h8
 have H8:Hid _:=h8
 clear h8 k8 H7 K7
 go_wp2_with fail
 refine(intMul_any F w8 _ (oo H8) 0 q7 q7 q7 _ v8 v8 rfl (.head _) (.head _) 513 513 (by omega) (by omega)).mono ?_
 rintro e w9 ⟨v9,e9,zs9,rfl,h9,k9⟩
 have zs9:Sz 1026 v9:=zs9.mono (by omega)
 have K9:=hh ((oo K8).trans k9)
 have cP:=(oo K9).cell cP0 (fun h=>h hFc)
 simp only [Ls0] at h9
 have H9:Hid _:=h9
 clear h9 k9 H8 K8
 go_wp2_with fail
 refine(intSub_any F w9 _ (oo H9) 0 q7 q7 q1 _ v9 v2 rfl (.head _) (tl3 (.head _)) 1026 512 (by omega) (by omega)).mono ?_
 rintro e w10 ⟨v10,e10,zs10,rfl,h10,k10⟩
 have zs10:Sz 1027 v10:=zs10.mono (by omega)
 have K10:=hh ((oo K9).trans k10)
 have cP:=(oo K10).cell cP0 (fun h=>h hFc)
 simp only [Ls0] at h10
 have H10:Hid _:=h10
 clear h10 k10 H9 K9
 go_wp2_with fail
 refine(intSub_any F w10 _ (oo H10) 0 q7 q7 q5 _ v10 v6 rfl (.head _) (.tail _ (.head _)) 1027 1024 (by omega) (by omega)).mono ?_
 rintro e w11 ⟨v11,e11,zs11,rfl,h11,k11⟩
 have zs11:Sz 1028 v11:=zs11.mono (by omega)
 have K11:=hh ((oo K10).trans k11)
 have cP:=(oo K11).cell cP0 (fun h=>h hFc)
 simp only [Ls0] at h11
 have H11:Hid _:=h11
 clear h11 k11 H10 K10
 go_wp2_with fail
 refine(newInt_any F w11 _ (oo H11) 2 (by omega) (by omega)).mono ?_
 rintro e w12 ⟨q12,rfl,h12,k12⟩
 have zs12:Sz 2 ((2:Nat):Int):=⟨by decide⟩
 have K12:Hid (Keep (fun b=>¬F b) w w12):=(oo K11).trans (k12.mono fun _ _ h=>h.elim)
 have cP:=(oo K12).cell cP0 (fun h=>h hFc)
 have H12:Hid _:=h12
 clear h12 k12 H11 K11
 go_wp2_with fail
 refine(intMulNe_any F w12 _ (oo H12) 1 q7 q7 q12 _ v11 ((2:Nat):Int) rfl (.tail _ (.head _)) (.head _) (St.ne01 (oo H12) (i:=1) (j:=0) rfl rfl (by decide)) 1028 2 (by omega) (by omega)).mono ?_
 rintro e w13 ⟨v13,e13,zs13,rfl,h13,k13⟩
 have zs13:Sz 1030 v13:=zs13.mono (by omega)
 have K13:=hh ((oo K12).trans k13)
 have cP:=(oo K13).cell cP0 (fun h=>h hFc)
 simp only [Ls0,Ls1] at h13
 have H13:Hid _:=h13
 clear h13 k13 H12 K12
 go_wp2_with fail
 have h14:=St.alloc (oo H13) 85
 have k14:Keep (fun b=>¬F b) w _:=((oo K13).alloc iz)
 have cP':=k14.cell cP0 (fun h=>h hFc)
 generalize hwa:w13.alloc iz=w14 at *
 clear hwa
 generalize w13.heap.size=q14 at *
 clear cP
 have cP:=cP'
 clear cP'
 have H14:Hid _:=h14
 have K14:Hid _:=k14
 clear h14 k14 H13 K13
 refine(newInt_any F w14 _ (oo H14) 3 (by omega) (by omega)).mono ?_
 rintro e w15 ⟨q15,rfl,h15,k15⟩
 have zs15:Sz 2 ((3:Nat):Int):=⟨by decide⟩
 have K15:Hid (Keep (fun b=>¬F b) w w15):=(oo K14).trans (k15.mono fun _ _ h=>h.elim)
 have cP:=(oo K15).cell cP0 (fun h=>h hFc)
 have H15:Hid _:=h15
 clear h15 k15 H14 K14
 go_wp2_with fail
 refine(intMul_any F w15 _ (oo H15) 1 q14 q15 q1 _ ((3:Nat):Int) v2 rfl (.head _) (tl6 (.head _)) 2 512 (by omega) (by omega)).mono ?_
 rintro e w16 ⟨v16,e16,zs16,rfl,h16,k16⟩
 have zs16:Sz 514 v16:=zs16.mono (by omega)
 have K16:=hh ((oo K15).trans k16)
 have cP:=(oo K16).cell cP0 (fun h=>h hFc)
 simp only [Ls0,Ls1] at h16
 have H16:Hid _:=h16
 clear h16 k16 H15 K15
 go_wp2_with fail
 have h17:=St.alloc (oo H16) 85
 have k17:Keep (fun b=>¬F b) w _:=((oo K16).alloc iz)
 have cP':=k17.cell cP0 (fun h=>h hFc)
 generalize hwa:w16.alloc iz=w17 at *
 clear hwa
 generalize w16.heap.size=q17 at *
 clear cP
 have cP:=cP'
 clear cP'
 have H17:Hid _:=h17
 have K17:Hid _:=k17
 clear h17 k17 H16 K16
 refine(intMul_any F w17 _ (oo H17) 0 q17 q14 q14 _ v16 v16 rfl (tl2 (.head _)) (tl2 (.head _)) 514 514 (by omega) (by omega)).mono ?_
 rintro e w18 ⟨v18,e18,zs18,rfl,h18,k18⟩
 have zs18:Sz 1028 v18:=zs18.mono (by omega)
 have K18:=hh ((oo K17).trans k18)
 have cP:=(oo K18).cell cP0 (fun h=>h hFc)
 simp only [Ls0] at h18
 have H18:Hid _:=h18
 clear h18 k18 H17 K17
 go_wp2_with fail
 have h19:=St.alloc (oo H18) 85
 have k19:Keep (fun b=>¬F b) w _:=((oo K18).alloc iz)
 have cP':=k19.cell cP0 (fun h=>h hFc)
 generalize hwa:w18.alloc iz=w19 at *
 clear hwa
 generalize w18.heap.size=q19 at *
 clear cP
 have cP:=cP'
 clear cP'
 have H19:Hid _:=h19
 have K19:Hid _:=k19
 clear h19 k19 H18 K18
 refine(newInt_any F w19 _ (oo H19) 2 (by omega) (by omega)).mono ?_
 rintro e w20 ⟨q20,rfl,h20,k20⟩
 have zs20:Sz 2 ((2:Nat):Int):=⟨by decide⟩
 have K20:Hid (Keep (fun b=>¬F b) w w20):=(oo K19).trans (k20.mono fun _ _ h=>h.elim)
 have cP:=(oo K20).cell cP0 (fun h=>h hFc)
 have H20:Hid _:=h20
 clear h20 k20 H19 K19
 go_wp2_with fail
 refine(intMul_any F w20 _ (oo H20) 1 q19 q20 q7 _ ((2:Nat):Int) v13 rfl (.head _) (tl6 (.head _)) 2 1030 (by omega) (by omega)).mono ?_
 rintro e w21 ⟨v21,e21,zs21,rfl,h21,k21⟩
 have zs21:Sz 1032 v21:=zs21.mono (by omega)
 have K21:=hh ((oo K20).trans k21)
 have cP:=(oo K21).cell cP0 (fun h=>h hFc)
 simp only [Ls0,Ls1] at h21
 have H21:Hid _:=h21
 clear h21 k21 H20 K20
 go_wp2_with fail
 refine(intSub_any F w21 _ (oo H21) 1 q19 q17 q19 _ v18 v21 rfl (tl2 (.head _)) (.tail _ (.head _)) 1028 1032 (by omega) (by omega)).mono ?_
 rintro e w22 ⟨v22,e22,zs22,rfl,h22,k22⟩
 have zs22:Sz 1033 v22:=zs22.mono (by omega)
 have K22:=hh ((oo K21).trans k22)
 have cP:=(oo K22).cell cP0 (fun h=>h hFc)
 simp only [Ls0,Ls1] at h22
 have H22:Hid _:=h22
 clear h22 k22 H21 K21
 go_wp2_with fail
 refine(intMod_any F w22 _ (oo H22) 1 q19 q19 pP _ v22 (p:Int) rfl (.tail _ (.head _)) (tl10 hP) (St.neTail (oo H22) (i:=1) (k:=10) rfl (by decide) hP) 1033 256 (by omega) (by omega) hP0).mono ?_
 rintro e w23 ⟨v23,e23,zs23,rfl,h23,k23⟩
 have zs23:Sz 256 v23:=zs23.mono (by omega)
 have K23:=hh ((oo K22).trans k23)
 have cP:=(oo K23).cell cP0 (fun h=>h hFc)
 simp only [Ls0,Ls1] at h23
 have H23:Hid _:=h23
 clear h23 k23 H22 K22
 go_wp2_with fail
 have h24:=St.alloc (oo H23) 85
 have k24:Keep (fun b=>¬F b) w _:=((oo K23).alloc iz)
 have cP':=k24.cell cP0 (fun h=>h hFc)
 generalize hwa:w23.alloc iz=w24 at *
 clear hwa
 generalize w23.heap.size=q24 at *
 clear cP
 have cP:=cP'
 clear cP'
 have H24:Hid _:=h24
 have K24:Hid _:=k24
 clear h24 k24 H23 K23
 refine(intSub_any F w24 _ (oo H24) 0 q24 q7 q19 _ v13 v23 rfl (tl7 (.head _)) (tl2 (.head _)) 1030 256 (by omega) (by omega)).mono ?_
 rintro e w25 ⟨v25,e25,zs25,rfl,h25,k25⟩
 have zs25:Sz 1031 v25:=zs25.mono (by omega)
 have K25:=hh ((oo K24).trans k25)
 have cP:=(oo K25).cell cP0 (fun h=>h hFc)
 simp only [Ls0] at h25
 have H25:Hid _:=h25
 clear h25 k25 H24 K24
 go_wp2_with fail
 refine(intMul_any F w25 _ (oo H25) 0 q24 q14 q24 _ v16 v25 rfl (tl5 (.head _)) (.head _) 514 1031 (by omega) (by omega)).mono ?_
 rintro e w26 ⟨v26,e26,zs26,rfl,h26,k26⟩
 have zs26:Sz 1545 v26:=zs26.mono (by omega)
 have K26:=hh ((oo K25).trans k26)
 have cP:=(oo K26).cell cP0 (fun h=>h hFc)
 simp only [Ls0] at h26
 have H26:Hid _:=h26
 clear h26 k26 H25 K25
 go_wp2_with fail
 have h27:=St.alloc (oo H26) 85
 have k27:Keep (fun b=>¬F b) w _:=((oo K26).alloc iz)
 have cP':=k27.cell cP0 (fun h=>h hFc)
 generalize hwa:w26.alloc iz=w27 at *
 clear hwa
 generalize w26.heap.size=q27 at *
 clear cP
 have cP:=cP'
 clear cP'
 have H27:Hid _:=h27
 have K27:Hid _:=k27
 clear h27 k27 H26 K26
 refine(newInt_any F w27 _ (oo H27) 8 (by omega) (by omega)).mono ?_
 rintro e w28 ⟨q28,rfl,h28,k28⟩
 have zs28:Sz 4 ((8:Nat):Int):=⟨by decide⟩
 have K28:Hid (Keep (fun b=>¬F b) w w28):=(oo K27).trans (k28.mono fun _ _ h=>h.elim)
 have cP:=(oo K28).cell cP0 (fun h=>h hFc)
 have H28:Hid _:=h28
 clear h28 k28 H27 K27
 go_wp2_with fail
 refine(intMul_any F w28 _ (oo H28) 1 q27 q28 q5 _ ((8:Nat):Int) v6 rfl (.head _) (tl10 (.head _)) 4 1024 (by omega) (by omega)).mono ?_
 rintro e w29 ⟨v29,e29,zs29,rfl,h29,k29⟩
 have zs29:Sz 1028 v29:=zs29.mono (by omega)
 have K29:=hh ((oo K28).trans k29)
 have cP:=(oo K29).cell cP0 (fun h=>h hFc)
 simp only [Ls0,Ls1] at h29
 have H29:Hid _:=h29
 clear h29 k29 H28 K28
 go_wp2_with fail
 refine(intSub_any F w29 _ (oo H29) 2 q24 q24 q27 _ v26 v29 rfl (tl2 (.head _)) (.tail _ (.head _)) 1545 1028 (by omega) (by omega)).mono ?_
 rintro e w30 ⟨v30,e30,zs30,rfl,h30,k30⟩
 have zs30:Sz 1546 v30:=zs30.mono (by omega)
 have K30:=hh ((oo K29).trans k30)
 have cP:=(oo K30).cell cP0 (fun h=>h hFc)
 simp only [Ls0,Ls1] at h30
 have H30:Hid _:=h30
 clear h30 k30 H29 K29
 go_wp2_with fail
 refine(intMod_any F w30 _ (oo H30) 2 q24 q24 pP _ v30 (p:Int) rfl (tl2 (.head _)) (tl13 hP) (St.neTail (oo H30) (i:=2) (k:=13) rfl (by decide) hP) 1546 256 (by omega) (by omega) hP0).mono ?_
 rintro e w31 ⟨v31,e31,zs31,rfl,h31,k31⟩
 have zs31:Sz 256 v31:=zs31.mono (by omega)
 have K31:=hh ((oo K30).trans k31)
 have cP:=(oo K31).cell cP0 (fun h=>h hFc)
 simp only [Ls0,Ls1] at h31
 have H31:Hid _:=h31
 clear h31 k31 H30 K30
 go_wp2_with fail
 have h32:=St.alloc (oo H31) 85
 have k32:Keep (fun b=>¬F b) w _:=((oo K31).alloc iz)
 have cP':=k32.cell cP0 (fun h=>h hFc)
 generalize hwa:w31.alloc iz=w32 at *
 clear hwa
 generalize w31.heap.size=q32 at *
 clear cP
 have cP:=cP'
 clear cP'
 have H32:Hid _:=h32
 have K32:Hid _:=k32
 clear h32 k32 H31 K31
 refine(intMul_any F w32 _ (oo H32) 0 q32 p2 p3 _ y z rfl (tl14 hy) (tl14 hz) 256 256 (by omega) (by omega)).mono ?_
 rintro e w33 ⟨v33,e33,zs33,rfl,h33,k33⟩
 have zs33:Sz 512 v33:=zs33.mono (by omega)
 have K33:=hh ((oo K32).trans k33)
 have cP:=(oo K33).cell cP0 (fun h=>h hFc)
 simp only [Ls0] at h33
 have H33:Hid _:=h33
 clear h33 k33 H32 K32
 go_wp2_with fail
 refine(newInt_any F w33 _ (oo H33) 2 (by omega) (by omega)).mono ?_
 rintro e w34 ⟨q34,rfl,h34,k34⟩
 have zs34:Sz 2 ((2:Nat):Int):=⟨by decide⟩
 have K34:Hid (Keep (fun b=>¬F b) w w34):=(oo K33).trans (k34.mono fun _ _ h=>h.elim)
 have cP:=(oo K34).cell cP0 (fun h=>h hFc)
 have H34:Hid _:=h34
 clear h34 k34 H33 K33
 go_wp2_with fail
 refine(intMul_any F w34 _ (oo H34) 1 q32 q34 q32 _ ((2:Nat):Int) v33 rfl (.head _) (.tail _ (.head _)) 2 512 (by omega) (by omega)).mono ?_
 rintro e w35 ⟨v35,e35,zs35,rfl,h35,k35⟩
 have zs35:Sz 514 v35:=zs35.mono (by omega)
 have K35:=hh ((oo K34).trans k35)
 have cP:=(oo K35).cell cP0 (fun h=>h hFc)
 simp only [Ls0,Ls1] at h35
 have H35:Hid _:=h35
 clear h35 k35 H34 K34
 go_wp2_with fail
 refine(intMod_any F w35 _ (oo H35) 1 q32 q32 pP _ v35 (p:Int) rfl (.tail _ (.head _)) (tl15 hP) (St.neTail (oo H35) (i:=1) (k:=15) rfl (by decide) hP) 514 256 (by omega) (by omega) hP0).mono ?_
 rintro e w36 ⟨v36,e36,zs36,rfl,h36,k36⟩
 have zs36:Sz 256 v36:=zs36.mono (by omega)
 have K36:=hh ((oo K35).trans k36)
 have cP:=(oo K36).cell cP0 (fun h=>h hFc)
 simp only [Ls0,Ls1] at h36
 have H36:Hid _:=h36
 clear h36 k36 H35 K35
 go_wp2_with fail
 go_ret3
 refine⟨q19,q24,q32,v23,v31,v36,rfl,St.pre (P:=[_,_,_,_,_,_,_,_,_,_,_,_,_,_,_]) (oo H36) [_,_,_] [6,4,1] (by decide) 15 rfl (by decide) rfl,oo K36,?_,inferInstance,inferInstance,inferInstance,by rw [oo e36];exact Int.emod_nonneg _ (by omega),by rw [oo e36];exact Int.emod_lt_of_pos _ hP0⟩
 have f2:=congrArg (Ec.fi p) (oo e2)
 rw [Ec.fi_mul] at f2
 have f4:=congrArg (Ec.fi p) (oo e4)
 rw [Ec.fi_mul] at f4
 have f6:=congrArg (Ec.fi p) (oo e6)
 rw [Ec.fi_mul] at f6
 have f8:=congrArg (Ec.fi p) (oo e8)
 rw [Ec.fi_add] at f8
 have f9:=congrArg (Ec.fi p) (oo e9)
 rw [Ec.fi_mul] at f9
 have f10:=congrArg (Ec.fi p) (oo e10)
 rw [Ec.fi_sub] at f10
 have f11:=congrArg (Ec.fi p) (oo e11)
 rw [Ec.fi_sub] at f11
 have f13:=congrArg (Ec.fi p) (oo e13)
 rw [Ec.fi_mul] at f13
 have f16:=congrArg (Ec.fi p) (oo e16)
 rw [Ec.fi_mul] at f16
 have f18:=congrArg (Ec.fi p) (oo e18)
 rw [Ec.fi_mul] at f18
 have f21:=congrArg (Ec.fi p) (oo e21)
 rw [Ec.fi_mul] at f21
 have f22:=congrArg (Ec.fi p) (oo e22)
 rw [Ec.fi_sub] at f22
 have f23:=congrArg (Ec.fi p) (oo e23)
 rw [Ec.fi_mod] at f23
 have f25:=congrArg (Ec.fi p) (oo e25)
 rw [Ec.fi_sub] at f25
 have f26:=congrArg (Ec.fi p) (oo e26)
 rw [Ec.fi_mul] at f26
 have f29:=congrArg (Ec.fi p) (oo e29)
 rw [Ec.fi_mul] at f29
 have f30:=congrArg (Ec.fi p) (oo e30)
 rw [Ec.fi_sub] at f30
 have f31:=congrArg (Ec.fi p) (oo e31)
 rw [Ec.fi_mod] at f31
 have f33:=congrArg (Ec.fi p) (oo e33)
 rw [Ec.fi_mul] at f33
 have f35:=congrArg (Ec.fi p) (oo e35)
 rw [Ec.fi_mul] at f35
 have f36:=congrArg (Ec.fi p) (oo e36)
 rw [Ec.fi_mod] at f36
 have g2:=Ec.fi_nat (p:=p) 2
 have g3:=Ec.fi_nat (p:=p) 3
 have g8:=Ec.fi_nat (p:=p) 8
 show _=_
 simp only [Ec.bdbl,Ec.Tri.mk.injEq]
 generalize Ec.fi p x=x1 at *
 generalize Ec.fi p y=y1 at *
 generalize Ec.fi p z=z1 at *
 refine⟨?_,?_,?_⟩<;>(simp only [f2,f4,f6,f8,f9,f10,f11,f13,f16,f18,f21,f22,f23,f25,f26,f29,f30,f31,f33,f35,f36,g2,g3,g8])
theorem bitAdd_any (F:Nat→Prop) (w:World) (L:List (Nat×E)) (h:St F w L) (pc pP p1 p2 p3 p4 p5 p6:Nat) (x1 y1 z1 x2 y2 z2:Int) (p:Nat) [NeZero p] (hx1:(p1,ofI x1)∈L) (hy1:(p2,ofI y1)∈L) (hz1:(p3,ofI z1)∈L) (hx2:(p4,ofI x2)∈L) (hy2:(p5,ofI y2)∈L) (hz2:(p6,ofI z2)∈L) (hP:(pP,ofI (p:Int))∈L)
  (cP0:w.cell? ⟨pc,1,none⟩=some (pt pP)) (hFc:F pc) (sx1:Sz 256 x1) (sy1:Sz 256 y1) (sz1:Sz 256 z1) (sx2:Sz 256 x2) (sy2:Sz 256 y2) (sz2:Sz 256 z2) (sP:Sz 256 (p:Int)) :
  Calls Tryz.prog 220 #[pt pc,pt p1,pt p2,pt p3,pt p4,pt p5,pt p6] w fun e w'=>∃(a b c:Nat) (X Y Z:Int),e = .returned (.tuple #[pt a,pt b,pt c])∧St F w' ((a,ofI X)::(b,ofI Y)::(c,ofI Z)::L)∧Keep (fun b=>¬F b) w w' ∧
   Hid ((⟨Ec.fi p X,Ec.fi p Y,Ec.fi p Z⟩:Ec.Tri p)=Ec.gsum ⟨Ec.fi p x1,Ec.fi p y1,Ec.fi p z1⟩ ⟨Ec.fi p x2,Ec.fi p y2,Ec.fi p z2⟩)∧Sz 256 X∧Sz 256 Y∧Sz 256 Z∧0≤Z∧Z<p:=by
 have hP0:(0:Int)<(p:Int):=by have:=NeZero.ne p;omega
 go_enter Tryz.func220,Tryz.ntmps220
 have cP:=cP0
 go_wp2_with fail
 have h1:=h.alloc 85
 have k1:Keep (fun b=>¬F b) w _:=((Keep.refl _ w).alloc iz)
 have cP':=k1.cell cP0 (fun h=>h hFc)
 generalize hwa:w.alloc iz=w1 at *
 clear hwa
 generalize w.heap.size=q1 at *
 clear cP
 have cP:=cP'
 clear cP'
 have H1:Hid _:=h1
 have K1:Hid _:=k1
 clear h1 k1
 refine(intMul_any F w1 _ (oo H1) 0 q1 p3 p3 _ z1 z1 rfl (.tail _ hz1) (.tail _ hz1) 256 256 (by omega) (by omega)).mono ?_
 rintro e w2 ⟨v2,e2,zs2,rfl,h2,k2⟩
 have zs2:Sz 512 v2:=zs2.mono (by omega)
 have K2:=hh ((oo K1).trans k2)
 have cP:=(oo K2).cell cP0 (fun h=>h hFc)
 simp only [Ls0] at h2
 have H2:Hid _:=h2
 clear h2 k2 H1 K1
 go_wp2_with fail
 refine(intMod_any F w2 _ (oo H2) 0 q1 q1 pP _ v2 (p:Int) rfl (.head _) (.tail _ hP) (St.neTail (oo H2) (i:=0) (k:=1) rfl (by decide) hP) 512 256 (by omega) (by omega) hP0).mono ?_
 rintro e w3 ⟨v3,e3,zs3,rfl,h3,k3⟩
 have zs3:Sz 256 v3:=zs3.mono (by omega)
 have K3:=hh ((oo K2).trans k3)
 have cP:=(oo K3).cell cP0 (fun h=>h hFc)
 simp only [Ls0] at h3
 have H3:Hid _:=h3
 clear h3 k3 H2 K2
 go_wp2_with fail
 have h4:=St.alloc (oo H3) 85
 have k4:Keep (fun b=>¬F b) w _:=((oo K3).alloc iz)
 have cP':=k4.cell cP0 (fun h=>h hFc)
 generalize hwa:w3.alloc iz=w4 at *
 clear hwa
 generalize w3.heap.size=q4 at *
 clear cP
 have cP:=cP'
 clear cP'
 have H4:Hid _:=h4
 have K4:Hid _:=k4
 clear h4 k4 H3 K3
 refine(intMul_any F w4 _ (oo H4) 0 q4 p6 p6 _ z2 z2 rfl (tl2 hz2) (tl2 hz2) 256 256 (by omega) (by omega)).mono ?_
 rintro e w5 ⟨v5,e5,zs5,rfl,h5,k5⟩
 have zs5:Sz 512 v5:=zs5.mono (by omega)
 have K5:=hh ((oo K4).trans k5)
 have cP:=(oo K5).cell cP0 (fun h=>h hFc)
 simp only [Ls0] at h5
 have H5:Hid _:=h5
 clear h5 k5 H4 K4
 go_wp2_with fail
 refine(intMod_any F w5 _ (oo H5) 0 q4 q4 pP _ v5 (p:Int) rfl (.head _) (tl2 hP) (St.neTail (oo H5) (i:=0) (k:=2) rfl (by decide) hP) 512 256 (by omega) (by omega) hP0).mono ?_
 rintro e w6 ⟨v6,e6,zs6,rfl,h6,k6⟩
 have zs6:Sz 256 v6:=zs6.mono (by omega)
 have K6:=hh ((oo K5).trans k6)
 have cP:=(oo K6).cell cP0 (fun h=>h hFc)
 simp only [Ls0] at h6
 have H6:Hid _:=h6
 clear h6 k6 H5 K5
 go_wp2_with fail
 have h7:=St.alloc (oo H6) 85
 have k7:Keep (fun b=>¬F b) w _:=((oo K6).alloc iz)
 have cP':=k7.cell cP0 (fun h=>h hFc)
 generalize hwa:w6.alloc iz=w7 at *
 clear hwa
 generalize w6.heap.size=q7 at *
 clear cP
 have cP:=cP'
 clear cP'
 have H7:Hid _:=h7
 have K7:Hid _:=k7
 clear h7 k7 H6 K6
 refine(intMul_any F w7 _ (oo H7) 0 q7 p1 q4 _ x1 v6 rfl (tl3 hx1) (.tail _ (.head _)) 256 256 (by omega) (by omega)).mono ?_
 rintro e w8 ⟨v8,e8,zs8,rfl,h8,k8⟩
 have zs8:Sz 512 v8:=zs8.mono (by omega)
 have K8:=hh ((oo K7).trans k8)
 have cP:=(oo K8).cell cP0 (fun h=>h hFc)
 simp only [Ls0] at h8
 have H8:Hid _:=h8
 clear h8 k8 H7 K7
 go_wp2_with fail
 refine(intMod_any F w8 _ (oo H8) 0 q7 q7 pP _ v8 (p:Int) rfl (.head _) (tl3 hP) (St.neTail (oo H8) (i:=0) (k:=3) rfl (by decide) hP) 512 256 (by omega) (by omega) hP0).mono ?_
 rintro e w9 ⟨v9,e9,zs9,rfl,h9,k9⟩
 have zs9:Sz 256 v9:=zs9.mono (by omega)
 have K9:=hh ((oo K8).trans k9)
 have cP:=(oo K9).cell cP0 (fun h=>h hFc)
 simp only [Ls0] at h9
 have H9:Hid _:=h9
 clear h9 k9 H8 K8
 go_wp2_with fail
 have h10:=St.alloc (oo H9) 85
 have k10:Keep (fun b=>¬F b) w _:=((oo K9).alloc iz)
 have cP':=k10.cell cP0 (fun h=>h hFc)
 generalize hwa:w9.alloc iz=w10 at *
 clear hwa
 generalize w9.heap.size=q10 at *
 clear cP
 have cP:=cP'
 clear cP'
 have H10:Hid _:=h10
 have K10:Hid _:=k10
 clear h10 k10 H9 K9
 refine(intMul_any F w10 _ (oo H10) 0 q10 p4 q1 _ x2 v3 rfl (tl4 hx2) (tl3 (.head _)) 256 256 (by omega) (by omega)).mono ?_
 rintro e w11 ⟨v11,e11,zs11,rfl,h11,k11⟩
 have zs11:Sz 512 v11:=zs11.mono (by omega)
 have K11:=hh ((oo K10).trans k11)
 have cP:=(oo K11).cell cP0 (fun h=>h hFc)
 simp only [Ls0] at h11
 have H11:Hid _:=h11
 clear h11 k11 H10 K10
 go_wp2_with fail
 refine(intMod_any F w11 _ (oo H11) 0 q10 q10 pP _ v11 (p:Int) rfl (.head _) (tl4 hP) (St.neTail (oo H11) (i:=0) (k:=4) rfl (by decide) hP) 512 256 (by omega) (by omega) hP0).mono ?_
 rintro e w12 ⟨v12,e12,zs12,rfl,h12,k12⟩
 have zs12:Sz 256 v12:=zs12.mono (by omega)
 have K12:=hh ((oo K11).trans k12)
 have cP:=(oo K12).cell cP0 (fun h=>h hFc)
 simp only [Ls0] at h12
 have H12:Hid _:=h12
 clear h12 k12 H11 K11
 go_wp2_with fail
 have h13:=St.alloc (oo H12) 85
 have k13:Keep (fun b=>¬F b) w _:=((oo K12).alloc iz)
 have cP':=k13.cell cP0 (fun h=>h hFc)
 generalize hwa:w12.alloc iz=w13 at *
 clear hwa
 generalize w12.heap.size=q13 at *
 clear cP
 have cP:=cP'
 clear cP'
 have H13:Hid _:=h13
 have K13:Hid _:=k13
 clear h13 k13 H12 K12
 refine(intSub_any F w13 _ (oo H13) 0 q13 q10 q7 _ v12 v9 rfl (.tail _ (.head _)) (tl2 (.head _)) 256 256 (by omega) (by omega)).mono ?_
 rintro e w14 ⟨v14,e14,zs14,rfl,h14,k14⟩
 have zs14:Sz 257 v14:=zs14.mono (by omega)
 have K14:=hh ((oo K13).trans k14)
 have cP:=(oo K14).cell cP0 (fun h=>h hFc)
 simp only [Ls0] at h14
 have H14:Hid _:=h14
 clear h14 k14 H13 K13
 go_wp2_with fail
 refine(sign_any F w14 _ (oo H14) q13 v14 (.head _)).mono ?_
 rintro e ws15 ⟨rfl,hws⟩
 rw [hws]
 clear hws ws15
 obtain⟨sv,hsv⟩:∃u,sgn v14=u:=⟨_,rfl⟩
 rw [hsv]
 have HSV:Hid _:=hsv
 clear hsv
 go_upto_if 81 with fail
 go_cut [] from 81 to 88 (fun wx=>∃v15,Hid ((0≤v14∧v15=v14)∨(v14<0∧v15=v14+(p:Int)))∧Sz 258 v15∧St F wx ((q13,ofI v15)::(q10,ofI v12)::(q7,ofI v9)::(q4,ofI v6)::(q1,ofI v3)::L)∧Keep (fun b=>¬F b) w wx)
 case first=>
  by_cases hneg:v14<0
  ·obtain rfl:sv = -1:=by rw [← oo HSV,sgn,if_pos hneg]
   have HNEG:Hid (v14<0):=hneg
   clear hneg HSV
   go_wp2_with fail
   refine(intAdd_any F w14 _ (oo H14) 0 q13 q13 pP _ v14 (p:Int) rfl (.head _) (tl5 hP) 257 256 (by omega) (by omega)).mono ?_
   rintro e wz ⟨v,ev,zv,rfl,hv,kv⟩
   simp only [Ls0] at hv
   have HV:Hid _:=hv
   have KV:Hid _:=kv
   clear hv kv
   go_wp2_with fail
   go_meet
   exact⟨v,.inr ⟨HNEG.out,ev.out⟩,zv.mono (by omega),oo HV,(oo K14).trans (oo KV)⟩
  ·have hs1:sv≠-1:=by rw [← oo HSV,sgn,if_neg hneg];split<;>decide
   have t1:(sv == -1)=false:=beq_eq_false_iff_ne.2 hs1
   have HNN:Hid (0≤v14):=Int.not_lt.1 hneg
   clear hneg hs1 HSV
   go_wp2_with fail
   go_meet
   exact⟨v14,.inl ⟨HNN.out,rfl⟩,Sz.mono (n:=258) (inferInstance:Sz 257 v14) (by omega),(oo H14),oo K14⟩
 case rest=>
  clear HSV
  obtain⟨v15,e15,zs15,h15,k15⟩:=hcut
  have H15:Hid _:=h15
  have K15:Hid _:=k15
  have cP:wc.cell? ⟨pc,1,none⟩=some (pt pP):=k15.cell cP0 (fun h=>h hFc)
  clear h15 k15 H14 K14
  go_wp2_with fail
  have h16:=St.alloc (oo H15) 85
  have k16:Keep (fun b=>¬F b) w _:=((oo K15).alloc iz)
  have cP':=k16.cell cP0 (fun h=>h hFc)
  generalize hwa:wc.alloc iz=w16 at *
  clear hwa
  generalize wc.heap.size=q16 at *
  clear cP
  have cP:=cP'
  clear cP'
  have H16:Hid _:=h16
  have K16:Hid _:=k16
  clear h16 k16 H15 K15
  refine(intLsh_any F w16 _ (oo H16) 0 q16 q13 _ v15 rfl (.tail _ (.head _)) 1 258 (by omega) (by omega) (by omega)).mono ?_
  rintro e w17 ⟨v17,e17,zs17,rfl,h17,k17⟩
  have zs17:Sz 259 v17:=zs17.mono (by omega)
  have K17:=hh ((oo K16).trans k17)
  have cP:=(oo K17).cell cP0 (fun h=>h hFc)
  simp only [Ls0] at h17
  have H17:Hid _:=h17
  clear h17 k17 H16 K16
  go_wp2_with fail
  refine(intMul_any F w17 _ (oo H17) 0 q16 q16 q16 _ v17 v17 rfl (.head _) (.head _) 259 259 (by omega) (by omega)).mono ?_
  rintro e w18 ⟨v18,e18,zs18,rfl,h18,k18⟩
  have zs18:Sz 518 v18:=zs18.mono (by omega)
  have K18:=hh ((oo K17).trans k18)
  have cP:=(oo K18).cell cP0 (fun h=>h hFc)
  simp only [Ls0] at h18
  have H18:Hid _:=h18
  clear h18 k18 H17 K17
  go_wp2_with fail
  have h19:=St.alloc (oo H18) 85
  have k19:Keep (fun b=>¬F b) w _:=((oo K18).alloc iz)
  have cP':=k19.cell cP0 (fun h=>h hFc)
  generalize hwa:w18.alloc iz=w19 at *
  clear hwa
  generalize w18.heap.size=q19 at *
  clear cP
  have cP:=cP'
  clear cP'
  have H19:Hid _:=h19
  have K19:Hid _:=k19
  clear h19 k19 H18 K18
  refine(intMul_any F w19 _ (oo H19) 0 q19 q13 q16 _ v15 v18 rfl (tl2 (.head _)) (.tail _ (.head _)) 258 518 (by omega) (by omega)).mono ?_
  rintro e w20 ⟨v20,e20,zs20,rfl,h20,k20⟩
  have zs20:Sz 776 v20:=zs20.mono (by omega)
  have K20:=hh ((oo K19).trans k20)
  have cP:=(oo K20).cell cP0 (fun h=>h hFc)
  simp only [Ls0] at h20
  have H20:Hid _:=h20
  clear h20 k20 H19 K19
  go_wp2_with fail
  have h21:=St.alloc (oo H20) 85
  have k21:Keep (fun b=>¬F b) w _:=((oo K20).alloc iz)
  have cP':=k21.cell cP0 (fun h=>h hFc)
  generalize hwa:w20.alloc iz=w21 at *
  clear hwa
  generalize w20.heap.size=q21 at *
  clear cP
  have cP:=cP'
  clear cP'
  have H21:Hid _:=h21
  have K21:Hid _:=k21
  clear h21 k21 H20 K20
  refine(intMul_any F w21 _ (oo H21) 0 q21 p2 p6 _ y1 z2 rfl (tl8 hy1) (tl8 hz2) 256 256 (by omega) (by omega)).mono ?_
  rintro e w22 ⟨v22,e22,zs22,rfl,h22,k22⟩
  have zs22:Sz 512 v22:=zs22.mono (by omega)
  have K22:=hh ((oo K21).trans k22)
  have cP:=(oo K22).cell cP0 (fun h=>h hFc)
  simp only [Ls0] at h22
  have H22:Hid _:=h22
  clear h22 k22 H21 K21
  go_wp2_with fail
  refine(intMul_any F w22 _ (oo H22) 0 q21 q21 q4 _ v22 v6 rfl (.head _) (tl6 (.head _)) 512 256 (by omega) (by omega)).mono ?_
  rintro e w23 ⟨v23,e23,zs23,rfl,h23,k23⟩
  have zs23:Sz 768 v23:=zs23.mono (by omega)
  have K23:=hh ((oo K22).trans k23)
  have cP:=(oo K23).cell cP0 (fun h=>h hFc)
  simp only [Ls0] at h23
  have H23:Hid _:=h23
  clear h23 k23 H22 K22
  go_wp2_with fail
  refine(intMod_any F w23 _ (oo H23) 0 q21 q21 pP _ v23 (p:Int) rfl (.head _) (tl8 hP) (St.neTail (oo H23) (i:=0) (k:=8) rfl (by decide) hP) 768 256 (by omega) (by omega) hP0).mono ?_
  rintro e w24 ⟨v24,e24,zs24,rfl,h24,k24⟩
  have zs24:Sz 256 v24:=zs24.mono (by omega)
  have K24:=hh ((oo K23).trans k24)
  have cP:=(oo K24).cell cP0 (fun h=>h hFc)
  simp only [Ls0] at h24
  have H24:Hid _:=h24
  clear h24 k24 H23 K23
  go_wp2_with fail
  have h25:=St.alloc (oo H24) 85
  have k25:Keep (fun b=>¬F b) w _:=((oo K24).alloc iz)
  have cP':=k25.cell cP0 (fun h=>h hFc)
  generalize hwa:w24.alloc iz=w25 at *
  clear hwa
  generalize w24.heap.size=q25 at *
  clear cP
  have cP:=cP'
  clear cP'
  have H25:Hid _:=h25
  have K25:Hid _:=k25
  clear h25 k25 H24 K24
  refine(intMul_any F w25 _ (oo H25) 0 q25 p5 p3 _ y2 z1 rfl (tl9 hy2) (tl9 hz1) 256 256 (by omega) (by omega)).mono ?_
  rintro e w26 ⟨v26,e26,zs26,rfl,h26,k26⟩
  have zs26:Sz 512 v26:=zs26.mono (by omega)
  have K26:=hh ((oo K25).trans k26)
  have cP:=(oo K26).cell cP0 (fun h=>h hFc)
  simp only [Ls0] at h26
  have H26:Hid _:=h26
  clear h26 k26 H25 K25
  go_wp2_with fail
  refine(intMul_any F w26 _ (oo H26) 0 q25 q25 q1 _ v26 v3 rfl (.head _) (tl8 (.head _)) 512 256 (by omega) (by omega)).mono ?_
  rintro e w27 ⟨v27,e27,zs27,rfl,h27,k27⟩
  have zs27:Sz 768 v27:=zs27.mono (by omega)
  have K27:=hh ((oo K26).trans k27)
  have cP:=(oo K27).cell cP0 (fun h=>h hFc)
  simp only [Ls0] at h27
  have H27:Hid _:=h27
  clear h27 k27 H26 K26
  go_wp2_with fail
  refine(intMod_any F w27 _ (oo H27) 0 q25 q25 pP _ v27 (p:Int) rfl (.head _) (tl9 hP) (St.neTail (oo H27) (i:=0) (k:=9) rfl (by decide) hP) 768 256 (by omega) (by omega) hP0).mono ?_
  rintro e w28 ⟨v28,e28,zs28,rfl,h28,k28⟩
  have zs28:Sz 256 v28:=zs28.mono (by omega)
  have K28:=hh ((oo K27).trans k28)
  have cP:=(oo K28).cell cP0 (fun h=>h hFc)
  simp only [Ls0] at h28
  have H28:Hid _:=h28
  clear h28 k28 H27 K27
  go_wp2_with fail
  have h29:=St.alloc (oo H28) 85
  have k29:Keep (fun b=>¬F b) w _:=((oo K28).alloc iz)
  have cP':=k29.cell cP0 (fun h=>h hFc)
  generalize hwa:w28.alloc iz=w29 at *
  clear hwa
  generalize w28.heap.size=q29 at *
  clear cP
  have cP:=cP'
  clear cP'
  have H29:Hid _:=h29
  have K29:Hid _:=k29
  clear h29 k29 H28 K28
  refine(intSub_any F w29 _ (oo H29) 0 q29 q25 q21 _ v28 v24 rfl (.tail _ (.head _)) (tl2 (.head _)) 256 256 (by omega) (by omega)).mono ?_
  rintro e w30 ⟨v30,e30,zs30,rfl,h30,k30⟩
  have zs30:Sz 257 v30:=zs30.mono (by omega)
  have K30:=hh ((oo K29).trans k30)
  have cP:=(oo K30).cell cP0 (fun h=>h hFc)
  simp only [Ls0] at h30
  have H30:Hid _:=h30
  clear h30 k30 H29 K29
  go_wp2_with fail
  refine(sign_any F w30 _ (oo H30) q29 v30 (.head _)).mono ?_
  rintro e ws31 ⟨rfl,hws⟩
  rw [hws]
  clear hws ws31
  obtain⟨sv,hsv⟩:∃u,sgn v30=u:=⟨_,rfl⟩
  rw [hsv]
  have HSV:Hid _:=hsv
  clear hsv
  go_upto_if 136 with fail
  go_cut [] from 136 to 143 (fun wx=>∃v31,Hid ((0≤v30∧v31=v30)∨(v30<0∧v31=v30+(p:Int)))∧Sz 258 v31∧St F wx ((q29,ofI v31)::(q25,ofI v28)::(q21,ofI v24)::(q19,ofI v20)::(q16,ofI v18)::(q13,ofI v15)::(q10,ofI v12)::(q7,ofI v9)::(q4,ofI v6)::(q1,ofI v3)::L)∧Keep (fun b=>¬F b) w wx)
  case first=>
   by_cases hneg:v30<0
   ·obtain rfl:sv = -1:=by rw [← oo HSV,sgn,if_pos hneg]
    have HNEG:Hid (v30<0):=hneg
    clear hneg HSV
    go_wp2_with fail
    refine(intAdd_any F w30 _ (oo H30) 0 q29 q29 pP _ v30 (p:Int) rfl (.head _) (tl10 hP) 257 256 (by omega) (by omega)).mono ?_
    rintro e wz ⟨v,ev,zv,rfl,hv,kv⟩
    simp only [Ls0] at hv
    have HV:Hid _:=hv
    have KV:Hid _:=kv
    clear hv kv
    go_wp2_with fail
    go_meet
    exact⟨v,.inr ⟨HNEG.out,ev.out⟩,zv.mono (by omega),oo HV,(oo K30).trans (oo KV)⟩
   ·have hs1:sv≠-1:=by rw [← oo HSV,sgn,if_neg hneg];split<;>decide
    have t1:(sv == -1)=false:=beq_eq_false_iff_ne.2 hs1
    have HNN:Hid (0≤v30):=Int.not_lt.1 hneg
    clear hneg hs1 HSV
    go_wp2_with fail
    go_meet
    exact⟨v30,.inl ⟨HNN.out,rfl⟩,Sz.mono (n:=258) (inferInstance:Sz 257 v30) (by omega),(oo H30),oo K30⟩
  case rest=>
   clear HSV
   obtain⟨v31,e31,zs31,h31,k31⟩:=hcut
   have H31:Hid _:=h31
   have K31:Hid _:=k31
   have cP:wc.cell? ⟨pc,1,none⟩=some (pt pP):=k31.cell cP0 (fun h=>h hFc)
   clear h31 k31 H30 K30
   go_wp2_with fail
   refine(intLsh_any F wc _ (oo H31) 0 q29 q29 _ v31 rfl (.head _) 1 258 (by omega) (by omega) (by omega)).mono ?_
   rintro e w32 ⟨v32,e32,zs32,rfl,h32,k32⟩
   have zs32:Sz 259 v32:=zs32.mono (by omega)
   have K32:=hh ((oo K31).trans k32)
   have cP:=(oo K32).cell cP0 (fun h=>h hFc)
   simp only [Ls0] at h32
   have H32:Hid _:=h32
   clear h32 k32 H31 K31
   go_wp2_with fail
   have h33:=St.alloc (oo H32) 85
   have k33:Keep (fun b=>¬F b) w _:=((oo K32).alloc iz)
   have cP':=k33.cell cP0 (fun h=>h hFc)
   generalize hwa:w32.alloc iz=w33 at *
   clear hwa
   generalize w32.heap.size=q33 at *
   clear cP
   have cP:=cP'
   clear cP'
   have H33:Hid _:=h33
   have K33:Hid _:=k33
   clear h33 k33 H32 K32
   refine(intMul_any F w33 _ (oo H33) 0 q33 q7 q16 _ v9 v18 rfl (tl8 (.head _)) (tl5 (.head _)) 256 518 (by omega) (by omega)).mono ?_
   rintro e w34 ⟨v34,e34,zs34,rfl,h34,k34⟩
   have zs34:Sz 774 v34:=zs34.mono (by omega)
   have K34:=hh ((oo K33).trans k34)
   have cP:=(oo K34).cell cP0 (fun h=>h hFc)
   simp only [Ls0] at h34
   have H34:Hid _:=h34
   clear h34 k34 H33 K33
   go_wp2_with fail
   have h35:=St.alloc (oo H34) 85
   have k35:Keep (fun b=>¬F b) w _:=((oo K34).alloc iz)
   have cP':=k35.cell cP0 (fun h=>h hFc)
   generalize hwa:w34.alloc iz=w35 at *
   clear hwa
   generalize w34.heap.size=q35 at *
   clear cP
   have cP:=cP'
   clear cP'
   have H35:Hid _:=h35
   have K35:Hid _:=k35
   clear h35 k35 H34 K34
   refine(intSet_any F w35 _ (oo H35) 0 q35 q29 _ v32 rfl (tl2 (.head _)) 259 (by omega)).mono ?_
   rintro e w36 ⟨rfl,h36,k36⟩
   have K36:=hh ((oo K35).trans k36)
   have cP:=(oo K36).cell cP0 (fun h=>h hFc)
   simp only [Ls0] at h36
   have H36:Hid _:=h36
   clear h36 k36 H35 K35
   go_wp2_with fail
   refine(intMul_any F w36 _ (oo H36) 0 q35 q35 q35 _ v32 v32 rfl (.head _) (.head _) 259 259 (by omega) (by omega)).mono ?_
   rintro e w37 ⟨v37,e37,zs37,rfl,h37,k37⟩
   have zs37:Sz 518 v37:=zs37.mono (by omega)
   have K37:=hh ((oo K36).trans k37)
   have cP:=(oo K37).cell cP0 (fun h=>h hFc)
   simp only [Ls0] at h37
   have H37:Hid _:=h37
   clear h37 k37 H36 K36
   go_wp2_with fail
   refine(intSub_any F w37 _ (oo H37) 0 q35 q35 q19 _ v37 v20 rfl (.head _) (tl5 (.head _)) 518 776 (by omega) (by omega)).mono ?_
   rintro e w38 ⟨v38,e38,zs38,rfl,h38,k38⟩
   have zs38:Sz 777 v38:=zs38.mono (by omega)
   have K38:=hh ((oo K37).trans k38)
   have cP:=(oo K38).cell cP0 (fun h=>h hFc)
   simp only [Ls0] at h38
   have H38:Hid _:=h38
   clear h38 k38 H37 K37
   go_wp2_with fail
   refine(intSub_any F w38 _ (oo H38) 0 q35 q35 q33 _ v38 v34 rfl (.head _) (.tail _ (.head _)) 777 774 (by omega) (by omega)).mono ?_
   rintro e w39 ⟨v39,e39,zs39,rfl,h39,k39⟩
   have zs39:Sz 778 v39:=zs39.mono (by omega)
   have K39:=hh ((oo K38).trans k39)
   have cP:=(oo K39).cell cP0 (fun h=>h hFc)
   simp only [Ls0] at h39
   have H39:Hid _:=h39
   clear h39 k39 H38 K38
   go_wp2_with fail
   refine(intSub_any F w39 _ (oo H39) 0 q35 q35 q33 _ v39 v34 rfl (.head _) (.tail _ (.head _)) 778 774 (by omega) (by omega)).mono ?_
   rintro e w40 ⟨v40,e40,zs40,rfl,h40,k40⟩
   have zs40:Sz 779 v40:=zs40.mono (by omega)
   have K40:=hh ((oo K39).trans k40)
   have cP:=(oo K40).cell cP0 (fun h=>h hFc)
   simp only [Ls0] at h40
   have H40:Hid _:=h40
   clear h40 k40 H39 K39
   go_wp2_with fail
   refine(intMod_any F w40 _ (oo H40) 0 q35 q35 pP _ v40 (p:Int) rfl (.head _) (tl12 hP) (St.neTail (oo H40) (i:=0) (k:=12) rfl (by decide) hP) 779 256 (by omega) (by omega) hP0).mono ?_
   rintro e w41 ⟨v41,e41,zs41,rfl,h41,k41⟩
   have zs41:Sz 256 v41:=zs41.mono (by omega)
   have K41:=hh ((oo K40).trans k41)
   have cP:=(oo K41).cell cP0 (fun h=>h hFc)
   simp only [Ls0] at h41
   have H41:Hid _:=h41
   clear h41 k41 H40 K40
   go_wp2_with fail
   have h42:=St.alloc (oo H41) 85
   have k42:Keep (fun b=>¬F b) w _:=((oo K41).alloc iz)
   have cP':=k42.cell cP0 (fun h=>h hFc)
   generalize hwa:w41.alloc iz=w42 at *
   clear hwa
   generalize w41.heap.size=q42 at *
   clear cP
   have cP:=cP'
   clear cP'
   have H42:Hid _:=h42
   have K42:Hid _:=k42
   clear h42 k42 H41 K41
   refine(intSet_any F w42 _ (oo H42) 0 q42 q29 _ v32 rfl (tl3 (.head _)) 259 (by omega)).mono ?_
   rintro e w43 ⟨rfl,h43,k43⟩
   have K43:=hh ((oo K42).trans k43)
   have cP:=(oo K43).cell cP0 (fun h=>h hFc)
   simp only [Ls0] at h43
   have H43:Hid _:=h43
   clear h43 k43 H42 K42
   go_wp2_with fail
   refine(intSub_any F w43 _ (oo H43) 2 q33 q33 q35 _ v34 v41 rfl (tl2 (.head _)) (.tail _ (.head _)) 774 256 (by omega) (by omega)).mono ?_
   rintro e w44 ⟨v44,e44,zs44,rfl,h44,k44⟩
   have zs44:Sz 775 v44:=zs44.mono (by omega)
   have K44:=hh ((oo K43).trans k44)
   have cP:=(oo K44).cell cP0 (fun h=>h hFc)
   simp only [Ls0,Ls1] at h44
   have H44:Hid _:=h44
   clear h44 k44 H43 K43
   go_wp2_with fail
   refine(intMul_any F w44 _ (oo H44) 0 q42 q42 q33 _ v32 v44 rfl (.head _) (tl2 (.head _)) 259 775 (by omega) (by omega)).mono ?_
   rintro e w45 ⟨v45,e45,zs45,rfl,h45,k45⟩
   have zs45:Sz 1034 v45:=zs45.mono (by omega)
   have K45:=hh ((oo K44).trans k45)
   have cP:=(oo K45).cell cP0 (fun h=>h hFc)
   simp only [Ls0] at h45
   have H45:Hid _:=h45
   clear h45 k45 H44 K44
   go_wp2_with fail
   refine(intMul_any F w45 _ (oo H45) 5 q21 q21 q19 _ v24 v20 rfl (tl5 (.head _)) (tl6 (.head _)) 256 776 (by omega) (by omega)).mono ?_
   rintro e w46 ⟨v46,e46,zs46,rfl,h46,k46⟩
   have zs46:Sz 1032 v46:=zs46.mono (by omega)
   have K46:=hh ((oo K45).trans k46)
   have cP:=(oo K46).cell cP0 (fun h=>h hFc)
   simp only [Ls0,Ls1] at h46
   have H46:Hid _:=h46
   clear h46 k46 H45 K45
   go_wp2_with fail
   refine(intLsh_any F w46 _ (oo H46) 5 q21 q21 _ v46 rfl (tl5 (.head _)) 1 1032 (by omega) (by omega) (by omega)).mono ?_
   rintro e w47 ⟨v47,e47,zs47,rfl,h47,k47⟩
   have zs47:Sz 1033 v47:=zs47.mono (by omega)
   have K47:=hh ((oo K46).trans k47)
   have cP:=(oo K47).cell cP0 (fun h=>h hFc)
   simp only [Ls0,Ls1] at h47
   have H47:Hid _:=h47
   clear h47 k47 H46 K46
   go_wp2_with fail
   refine(intSub_any F w47 _ (oo H47) 0 q42 q42 q21 _ v45 v47 rfl (.head _) (tl5 (.head _)) 1034 1033 (by omega) (by omega)).mono ?_
   rintro e w48 ⟨v48,e48,zs48,rfl,h48,k48⟩
   have zs48:Sz 1035 v48:=zs48.mono (by omega)
   have K48:=hh ((oo K47).trans k48)
   have cP:=(oo K48).cell cP0 (fun h=>h hFc)
   simp only [Ls0] at h48
   have H48:Hid _:=h48
   clear h48 k48 H47 K47
   go_wp2_with fail
   refine(intMod_any F w48 _ (oo H48) 0 q42 q42 pP _ v48 (p:Int) rfl (.head _) (tl13 hP) (St.neTail (oo H48) (i:=0) (k:=13) rfl (by decide) hP) 1035 256 (by omega) (by omega) hP0).mono ?_
   rintro e w49 ⟨v49,e49,zs49,rfl,h49,k49⟩
   have zs49:Sz 256 v49:=zs49.mono (by omega)
   have K49:=hh ((oo K48).trans k49)
   have cP:=(oo K49).cell cP0 (fun h=>h hFc)
   simp only [Ls0] at h49
   have H49:Hid _:=h49
   clear h49 k49 H48 K48
   go_wp2_with fail
   have h50:=St.alloc (oo H49) 85
   have k50:Keep (fun b=>¬F b) w _:=((oo K49).alloc iz)
   have cP':=k50.cell cP0 (fun h=>h hFc)
   generalize hwa:w49.alloc iz=w50 at *
   clear hwa
   generalize w49.heap.size=q50 at *
   clear cP
   have cP:=cP'
   clear cP'
   have H50:Hid _:=h50
   have K50:Hid _:=k50
   clear h50 k50 H49 K49
   refine(intAdd_any F w50 _ (oo H50) 0 q50 p3 p6 _ z1 z2 rfl (tl14 hz1) (tl14 hz2) 256 256 (by omega) (by omega)).mono ?_
   rintro e w51 ⟨v51,e51,zs51,rfl,h51,k51⟩
   have zs51:Sz 257 v51:=zs51.mono (by omega)
   have K51:=hh ((oo K50).trans k51)
   have cP:=(oo K51).cell cP0 (fun h=>h hFc)
   simp only [Ls0] at h51
   have H51:Hid _:=h51
   clear h51 k51 H50 K50
   go_wp2_with fail
   refine(intMul_any F w51 _ (oo H51) 0 q50 q50 q50 _ v51 v51 rfl (.head _) (.head _) 257 257 (by omega) (by omega)).mono ?_
   rintro e w52 ⟨v52,e52,zs52,rfl,h52,k52⟩
   have zs52:Sz 514 v52:=zs52.mono (by omega)
   have K52:=hh ((oo K51).trans k52)
   have cP:=(oo K52).cell cP0 (fun h=>h hFc)
   simp only [Ls0] at h52
   have H52:Hid _:=h52
   clear h52 k52 H51 K51
   go_wp2_with fail
   refine(intSub_any F w52 _ (oo H52) 0 q50 q50 q1 _ v52 v3 rfl (.head _) (tl13 (.head _)) 514 256 (by omega) (by omega)).mono ?_
   rintro e w53 ⟨v53,e53,zs53,rfl,h53,k53⟩
   have zs53:Sz 515 v53:=zs53.mono (by omega)
   have K53:=hh ((oo K52).trans k53)
   have cP:=(oo K53).cell cP0 (fun h=>h hFc)
   simp only [Ls0] at h53
   have H53:Hid _:=h53
   clear h53 k53 H52 K52
   go_wp2_with fail
   refine(sign_any F w53 _ (oo H53) q50 v53 (.head _)).mono ?_
   rintro e ws54 ⟨rfl,hws⟩
   rw [hws]
   clear hws ws54
   obtain⟨sv,hsv⟩:∃u,sgn v53=u:=⟨_,rfl⟩
   rw [hsv]
   have HSV:Hid _:=hsv
   clear hsv
   go_upto_if 220 with fail
   go_cut [] from 220 to 227 (fun wx=>∃v54,Hid ((0≤v53∧v54=v53)∨(v53<0∧v54=v53+(p:Int)))∧Sz 516 v54∧St F wx ((q50,ofI v54)::(q42,ofI v49)::(q35,ofI v41)::(q33,ofI v44)::(q29,ofI v32)::(q25,ofI v28)::(q21,ofI v47)::(q19,ofI v20)::(q16,ofI v18)::(q13,ofI v15)::(q10,ofI v12)::(q7,ofI v9)::(q4,ofI v6)::(q1,ofI v3)::L)∧Keep (fun b=>¬F b) w wx)
   case first=>
    by_cases hneg:v53<0
    ·obtain rfl:sv = -1:=by rw [← oo HSV,sgn,if_pos hneg]
     have HNEG:Hid (v53<0):=hneg
     clear hneg HSV
     go_wp2_with fail
     refine(intAdd_any F w53 _ (oo H53) 0 q50 q50 pP _ v53 (p:Int) rfl (.head _) (tl14 hP) 515 256 (by omega) (by omega)).mono ?_
     rintro e wz ⟨v,ev,zv,rfl,hv,kv⟩
     simp only [Ls0] at hv
     have HV:Hid _:=hv
     have KV:Hid _:=kv
     clear hv kv
     go_wp2_with fail
     go_meet
     exact⟨v,.inr ⟨HNEG.out,ev.out⟩,zv.mono (by omega),oo HV,(oo K53).trans (oo KV)⟩
    ·have hs1:sv≠-1:=by rw [← oo HSV,sgn,if_neg hneg];split<;>decide
     have t1:(sv == -1)=false:=beq_eq_false_iff_ne.2 hs1
     have HNN:Hid (0≤v53):=Int.not_lt.1 hneg
     clear hneg hs1 HSV
     go_wp2_with fail
     go_meet
     exact⟨v53,.inl ⟨HNN.out,rfl⟩,Sz.mono (n:=516) (inferInstance:Sz 515 v53) (by omega),(oo H53),oo K53⟩
   case rest=>
    clear HSV
    obtain⟨v54,e54,zs54,h54,k54⟩:=hcut
    have H54:Hid _:=h54
    have K54:Hid _:=k54
    have cP:wc.cell? ⟨pc,1,none⟩=some (pt pP):=k54.cell cP0 (fun h=>h hFc)
    clear h54 k54 H53 K53
    go_wp2_with fail
    refine(intSub_any F wc _ (oo H54) 0 q50 q50 q4 _ v54 v6 rfl (.head _) (tl12 (.head _)) 516 256 (by omega) (by omega)).mono ?_
    rintro e w55 ⟨v55,e55,zs55,rfl,h55,k55⟩
    have zs55:Sz 517 v55:=zs55.mono (by omega)
    have K55:=hh ((oo K54).trans k55)
    have cP:=(oo K55).cell cP0 (fun h=>h hFc)
    simp only [Ls0] at h55
    have H55:Hid _:=h55
    clear h55 k55 H54 K54
    go_wp2_with fail
    refine(sign_any F w55 _ (oo H55) q50 v55 (.head _)).mono ?_
    rintro e ws56 ⟨rfl,hws⟩
    rw [hws]
    clear hws ws56
    obtain⟨sv,hsv⟩:∃u,sgn v55=u:=⟨_,rfl⟩
    rw [hsv]
    have HSV:Hid _:=hsv
    clear hsv
    go_upto_if 234 with fail
    go_cut [] from 234 to 241 (fun wx=>∃v56,Hid ((0≤v55∧v56=v55)∨(v55<0∧v56=v55+(p:Int)))∧Sz 518 v56∧St F wx ((q50,ofI v56)::(q42,ofI v49)::(q35,ofI v41)::(q33,ofI v44)::(q29,ofI v32)::(q25,ofI v28)::(q21,ofI v47)::(q19,ofI v20)::(q16,ofI v18)::(q13,ofI v15)::(q10,ofI v12)::(q7,ofI v9)::(q4,ofI v6)::(q1,ofI v3)::L)∧Keep (fun b=>¬F b) w wx)
    case first=>
     by_cases hneg:v55<0
     ·obtain rfl:sv = -1:=by rw [← oo HSV,sgn,if_pos hneg]
      have HNEG:Hid (v55<0):=hneg
      clear hneg HSV
      go_wp2_with fail
      refine(intAdd_any F w55 _ (oo H55) 0 q50 q50 pP _ v55 (p:Int) rfl (.head _) (tl14 hP) 517 256 (by omega) (by omega)).mono ?_
      rintro e wz ⟨v,ev,zv,rfl,hv,kv⟩
      simp only [Ls0] at hv
      have HV:Hid _:=hv
      have KV:Hid _:=kv
      clear hv kv
      go_wp2_with fail
      go_meet
      exact⟨v,.inr ⟨HNEG.out,ev.out⟩,zv.mono (by omega),oo HV,(oo K55).trans (oo KV)⟩
     ·have hs1:sv≠-1:=by rw [← oo HSV,sgn,if_neg hneg];split<;>decide
      have t1:(sv == -1)=false:=beq_eq_false_iff_ne.2 hs1
      have HNN:Hid (0≤v55):=Int.not_lt.1 hneg
      clear hneg hs1 HSV
      go_wp2_with fail
      go_meet
      exact⟨v55,.inl ⟨HNN.out,rfl⟩,Sz.mono (n:=518) (inferInstance:Sz 517 v55) (by omega),(oo H55),oo K55⟩
    case rest=>
     clear HSV
     obtain⟨v56,e56,zs56,h56,k56⟩:=hcut
     have H56:Hid _:=h56
     have K56:Hid _:=k56
     have cP:wc.cell? ⟨pc,1,none⟩=some (pt pP):=k56.cell cP0 (fun h=>h hFc)
     clear h56 k56 H55 K55
     go_wp2_with fail
     refine(intMul_any F wc _ (oo H56) 0 q50 q50 q13 _ v56 v15 rfl (.head _) (tl9 (.head _)) 518 258 (by omega) (by omega)).mono ?_
     rintro e w57 ⟨v57,e57,zs57,rfl,h57,k57⟩
     have zs57:Sz 776 v57:=zs57.mono (by omega)
     have K57:=hh ((oo K56).trans k57)
     have cP:=(oo K57).cell cP0 (fun h=>h hFc)
     simp only [Ls0] at h57
     have H57:Hid _:=h57
     clear h57 k57 H56 K56
     go_wp2_with fail
     refine(intMod_any F w57 _ (oo H57) 0 q50 q50 pP _ v57 (p:Int) rfl (.head _) (tl14 hP) (St.neTail (oo H57) (i:=0) (k:=14) rfl (by decide) hP) 776 256 (by omega) (by omega) hP0).mono ?_
     rintro e w58 ⟨v58,e58,zs58,rfl,h58,k58⟩
     have zs58:Sz 256 v58:=zs58.mono (by omega)
     have K58:=hh ((oo K57).trans k58)
     have cP:=(oo K58).cell cP0 (fun h=>h hFc)
     simp only [Ls0] at h58
     have H58:Hid _:=h58
     clear h58 k58 H57 K57
     go_wp2_with fail
     go_ret3
     refine⟨q35,q42,q50,v41,v49,v58,rfl,St.pre (P:=[_,_,_,_,_,_,_,_,_,_,_,_,_,_]) (oo H58) [_,_,_] [2,1,0] (by decide) 14 rfl (by decide) rfl,oo K58,?_,inferInstance,inferInstance,inferInstance,by rw [oo e58];exact Int.emod_nonneg _ (by omega),by rw [oo e58];exact Int.emod_lt_of_pos _ hP0⟩
     have f2:=congrArg (Ec.fi p) (oo e2)
     rw [Ec.fi_mul] at f2
     have f3:=congrArg (Ec.fi p) (oo e3)
     rw [Ec.fi_mod] at f3
     have f5:=congrArg (Ec.fi p) (oo e5)
     rw [Ec.fi_mul] at f5
     have f6:=congrArg (Ec.fi p) (oo e6)
     rw [Ec.fi_mod] at f6
     have f8:=congrArg (Ec.fi p) (oo e8)
     rw [Ec.fi_mul] at f8
     have f9:=congrArg (Ec.fi p) (oo e9)
     rw [Ec.fi_mod] at f9
     have f11:=congrArg (Ec.fi p) (oo e11)
     rw [Ec.fi_mul] at f11
     have f12:=congrArg (Ec.fi p) (oo e12)
     rw [Ec.fi_mod] at f12
     have f14:=congrArg (Ec.fi p) (oo e14)
     rw [Ec.fi_sub] at f14
     have f15:Ec.fi p v15=Ec.fi p v14:=by
      rcases oo e15 with⟨_,e⟩ | ⟨_,e⟩
      ·rw [e]
      ·rw [e,Ec.fi_add,Ec.fi_p];grind
     have f17:=congrArg (Ec.fi p) (oo e17)
     rw [Ec.fi_mul] at f17
     have f18:=congrArg (Ec.fi p) (oo e18)
     rw [Ec.fi_mul] at f18
     have f20:=congrArg (Ec.fi p) (oo e20)
     rw [Ec.fi_mul] at f20
     have f22:=congrArg (Ec.fi p) (oo e22)
     rw [Ec.fi_mul] at f22
     have f23:=congrArg (Ec.fi p) (oo e23)
     rw [Ec.fi_mul] at f23
     have f24:=congrArg (Ec.fi p) (oo e24)
     rw [Ec.fi_mod] at f24
     have f26:=congrArg (Ec.fi p) (oo e26)
     rw [Ec.fi_mul] at f26
     have f27:=congrArg (Ec.fi p) (oo e27)
     rw [Ec.fi_mul] at f27
     have f28:=congrArg (Ec.fi p) (oo e28)
     rw [Ec.fi_mod] at f28
     have f30:=congrArg (Ec.fi p) (oo e30)
     rw [Ec.fi_sub] at f30
     have f31:Ec.fi p v31=Ec.fi p v30:=by
      rcases oo e31 with⟨_,e⟩ | ⟨_,e⟩
      ·rw [e]
      ·rw [e,Ec.fi_add,Ec.fi_p];grind
     have f32:=congrArg (Ec.fi p) (oo e32)
     rw [Ec.fi_mul] at f32
     have f34:=congrArg (Ec.fi p) (oo e34)
     rw [Ec.fi_mul] at f34
     have f37:=congrArg (Ec.fi p) (oo e37)
     rw [Ec.fi_mul] at f37
     have f38:=congrArg (Ec.fi p) (oo e38)
     rw [Ec.fi_sub] at f38
     have f39:=congrArg (Ec.fi p) (oo e39)
     rw [Ec.fi_sub] at f39
     have f40:=congrArg (Ec.fi p) (oo e40)
     rw [Ec.fi_sub] at f40
     have f41:=congrArg (Ec.fi p) (oo e41)
     rw [Ec.fi_mod] at f41
     have f44:=congrArg (Ec.fi p) (oo e44)
     rw [Ec.fi_sub] at f44
     have f45:=congrArg (Ec.fi p) (oo e45)
     rw [Ec.fi_mul] at f45
     have f46:=congrArg (Ec.fi p) (oo e46)
     rw [Ec.fi_mul] at f46
     have f47:=congrArg (Ec.fi p) (oo e47)
     rw [Ec.fi_mul] at f47
     have f48:=congrArg (Ec.fi p) (oo e48)
     rw [Ec.fi_sub] at f48
     have f49:=congrArg (Ec.fi p) (oo e49)
     rw [Ec.fi_mod] at f49
     have f51:=congrArg (Ec.fi p) (oo e51)
     rw [Ec.fi_add] at f51
     have f52:=congrArg (Ec.fi p) (oo e52)
     rw [Ec.fi_mul] at f52
     have f53:=congrArg (Ec.fi p) (oo e53)
     rw [Ec.fi_sub] at f53
     have f54:Ec.fi p v54=Ec.fi p v53:=by
      rcases oo e54 with⟨_,e⟩ | ⟨_,e⟩
      ·rw [e]
      ·rw [e,Ec.fi_add,Ec.fi_p];grind
     have f55:=congrArg (Ec.fi p) (oo e55)
     rw [Ec.fi_sub] at f55
     have f56:Ec.fi p v56=Ec.fi p v55:=by
      rcases oo e56 with⟨_,e⟩ | ⟨_,e⟩
      ·rw [e]
      ·rw [e,Ec.fi_add,Ec.fi_p];grind
     have f57:=congrArg (Ec.fi p) (oo e57)
     rw [Ec.fi_mul] at f57
     have f58:=congrArg (Ec.fi p) (oo e58)
     rw [Ec.fi_mod] at f58
     have g2:Ec.fi p (2^1)=2:=Ec.fi_nat (p:=p) 2
     show _=_
     simp only [Ec.gsum,Ec.Tri.mk.injEq]
     generalize Ec.fi p x1=a1 at *
     generalize Ec.fi p y1=b1 at *
     generalize Ec.fi p z1=c1 at *
     generalize Ec.fi p x2=a2 at *
     generalize Ec.fi p y2=b2 at *
     generalize Ec.fi p z2=c2 at *
     refine⟨?_,?_,?_⟩<;>(simp only [f2,f3,f5,f6,f8,f9,f11,f12,f14,f15,f17,f18,f20,f22,f23,f24,f26,f27,f28,f30,f31,f32,f34,f37,f38,f39,f40,f41,f44,f45,f46,f47,f48,f49,f51,f52,f53,f54,f55,f56,f57,f58,g2];try (clear f2 f3 f5 f6 f8 f9 f11 f12 f14 f15 f17 f18 f20 f22 f23 f24 f26 f27 f28 f30 f31 f32 f34 f37 f38 f39 f40 f41 f44 f45 f46 f47 f48 f49 f51 f52 f53 f54 f55 f56 f57 f58 g2;grind))
end Go.Proofs.YtofkehhflkdabaaGreatDoor
