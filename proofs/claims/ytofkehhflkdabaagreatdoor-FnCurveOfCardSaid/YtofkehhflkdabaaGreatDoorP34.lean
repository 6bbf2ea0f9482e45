/- A part of the proof of FnCurveOf. -/
import Derived.Test.YtofkehhflkdabaaGreatDoorP33
set_option maxRecDepth 100000
set_option maxHeartbeats 8000000
namespace Go.Proofs.YtofkehhflkdabaaGreatDoor
open Go Go.RowKit
theorem row_lit (w:World) (x:Nat) (hx:x<W64) (T:TypeId):Row (w.alloc (.cells #[.int .u64 (x:Int)] T (0,0))) w.heap.size 1 (fun _=>x):=by
 refine⟨⟨T,?_⟩,fun _ _=>hx⟩
 show (w.heap.push _)[w.heap.size]?=_
 simp
 rfl
theorem St.lit {F:Nat→Prop} {w:World} {L:List (Nat×E)} (h:St F w L) (x:Nat) (hx:x<W64) (hx0:0<x) (T U:TypeId) :
  St F ((w.alloc (.cells #[.int .u64 (x:Int)] T (0,0))).alloc (.cells #[.bool false,.slice (some ⟨w.heap.size,0,none⟩) 1 1] U (0,0))) ((w.heap.size+1,ofI (x:Int))::L) ∧
   Keep Nope w ((w.alloc (.cells #[.int .u64 (x:Int)] T (0,0))).alloc (.cells #[.bool false,.slice (some ⟨w.heap.size,0,none⟩) 1 1] U (0,0))):=by
 have hk:Keep Nope w ((w.alloc (.cells #[.int .u64 (x:Int)] T (0,0))).alloc (.cells #[.bool false,.slice (some ⟨w.heap.size,0,none⟩) 1 1] U (0,0))):=((Keep.refl _ w).alloc _).alloc _
 have e:(w.alloc (.cells #[.int .u64 (x:Int)] T (0,0))).heap.size=w.heap.size+1:=Array.size_push _
 have ht:=Two.new (w.alloc (.cells #[.int .u64 (x:Int)] T (0,0))) (.bool false) (.slice (some ⟨w.heap.size,0,none⟩) 1 1) U
 rw [e] at ht
 have hr:=(row_lit w x hx T).keep ((Keep.refl Nope _).alloc (.cells #[.bool false,.slice (some ⟨w.heap.size,0,none⟩) 1 1] U (0,0))) id
 refine⟨h.new (v:=ofI (x:Int)) (a:=some ⟨w.heap.size,0,none⟩) (l:=1) (k:=1) hk (by omega) (fun b hb=>?_) ?_ ?_,hk⟩
 ·simp only [At,Option.some.injEq,Addr.mk.injEq,and_true] at hb
  omega
 ·have hd:(ofI (x:Int)).1=false:=by show decide ((x:Int)<0)=false;exact decide_eq_false (by omega)
  rw [hd];exact ht
 ·refine .inr ⟨_,_,rfl,Nat.le_refl _,by omega,hr,?_,.inr (by simp;omega)⟩
  simp [val,ofI]
theorem newInt_any (F:Nat→Prop) (w:World) (L:List (Nat×E)) (h:St F w L) (x:Nat) (hx:x<9223372036854775808) (hx0:0<x) :
  Calls Tryz.prog 63 #[.int .i64 (x:Int)] w fun e w'=>∃p,e = .returned (pt p)∧St F w' ((p,ofI (x:Int))::L)∧Keep Nope w w':=by
 have t1:¬((x:Int)<0):=by omega
 have t2:decide ((x:Int)<0)=false:=decide_eq_false t1
 have t3:IntKind.u64.wrap (x:Int)=(x:Int):=IntWalk.u64_in _ (by omega)
 have t4:((x:Int)==0)=false:=beq_eq_false_iff_ne.2 (by omega)
 have hxW:x<W64:=by rw [W64];omega
 have hlit:=h.lit x hxW hx0 102 85
 have HLIT:Hid _:=hlit
 clear t1 hlit
 go_enter Tryz.func63,Tryz.ntmps63
 go_wp2_with fail
 go_ret
 exact⟨_,rfl,(oo HLIT).1,(oo HLIT).2⟩
theorem newZero_any (F:Nat→Prop) (w:World) (L:List (Nat×E)) (h:St F w L) :
  Calls Tryz.prog 63 #[.int .i64 0] w fun e w'=>∃p,e = .returned (pt p)∧St F w' ((p,ofI 0)::L)∧Keep Nope w w':=by
 go_enter Tryz.func63,Tryz.ntmps63
 go_wp2_with fail
 go_ret
 exact⟨_,rfl,h.alloc 85,(Keep.refl _ w).alloc _⟩
theorem intOne_any (F:Nat→Prop) (w:World) (L:List (Nat×E)) (h:St F w L) :
  Calls Tryz.prog 69 #[] w fun e w'=>∃p,e = .returned (pt p)∧St F w' ((p,ofI 1)::L)∧Keep Nope w w':=by
 have H1:Calls Tryz.prog 81 #[] w fun e w'=>e = .returned (.slice (some ⟨w.heap.size,0,none⟩) 1 1)∧w'=w.alloc (.cells #[.int .u64 1] 102 (0,0)):=by
  go_enter Tryz.func81,Tryz.ntmps81
  go_wp2_with fail
  go_ret
  exact⟨rfl,rfl⟩
 have hlit:=h.lit 1 (by rw [W64];omega) (by omega) 102 85
 have HLIT:Hid _:=hlit
 clear hlit
 go_enter Tryz.func69,Tryz.ntmps69
 go_wp2_with fail
 refine H1.mono ?_
 rintro e w1 ⟨rfl,rfl⟩
 go_wp2_with fail
 go_ret
 exact⟨_,rfl,(oo HLIT).1,(oo HLIT).2⟩
theorem gcd_any (F:Nat→Prop) (w:World) (L1:List (Nat×E)) (pz px pa pb:Nat) (ez ex:E) (z P:Nat) (h:St F w ((pz,ez)::(px,ex)::L1)) (ha:(pa,ofI (z:Int))∈L1) (hb:(pb,ofI (P:Int))∈L1)
  (hz:0<z) (hzP:z<P) (hone:∃m n:Int,m*P+n*z=1) (hs:Sz 640 (P:Int)) :
  Calls Tryz.prog 67 #[pt pz,pt px,.pointer none,pt pa,pt pb] w fun e w'=>
   ∃U:Int,(∃t:Int,U*z=1+t*P)∧U.natAbs≤P∧e = .returned (pt pz)∧St F w' ((pz,ofI 1)::(px,ofI U)::L1)∧Keep (fun b=>¬F b) w w':=by
 have hC:=lehmerGCD_any F w L1 pz px pa pb ez ex z P h ha hb hz hzP hone hs
 have HC:Hid _:=hC
 obtain⟨aa,la,ka,gA,nA,-⟩:=h.getI (tl2 ha)
 obtain⟨ab,lb,kb,gB,nB,-⟩:=h.getI (tl2 hb)
 rw [Int.natAbs_natCast] at nA nB
 have cA:=gA.cell1
 have cB:=gB.cell1
 have h1:la≠0:=fun e=>by have:=(isNat_zero nA).1 e;omega
 have h2:lb≠0:=fun e=>by have:=(isNat_zero nB).1 e;omega
 have t1:((la:Int)==0)=false:=beq_eq_false_iff_ne.2 (by omega)
 have t2:((lb:Int)==0)=false:=beq_eq_false_iff_ne.2 (by omega)
 clear hC nA nB gA gB hone hs ha hb
 go_enter Tryz.func67,Tryz.ntmps67
 go_wp2_with fail
 refine Calls.mono (oo HC) ?_
 rintro e w1 ⟨U,hU,hsz,rfl,h3,hk3⟩
 have HU:Hid _:=hU
 have HSU:Hid _:=hsz
 have H3:Hid _:=h3
 have HK:Hid _:=hk3
 clear hU hsz h3 hk3
 go_wp2_with fail
 go_ret
 exact⟨U,oo HU,HSU.out,rfl,oo H3,oo HK⟩
theorem modInverse_any (F:Nat→Prop) (w:World) (L:List (Nat×E)) (h:St F w L) (i pz pg pn:Nat) (ez:E) (z P:Nat) (hi:L[i]?=some (pz,ez)) (hg:(pg,ofI (z:Int))∈L) (hn:(pn,ofI (P:Int))∈L)
  (hz:0<z) (hzP:z<P) (hone:∃m n:Int,m*P+n*z=1) (hs:Sz 640 (P:Int)) :
  Calls Tryz.prog 61 #[pt pz,pt pg,pt pn] w fun e w'=>
   ∃U:Int,(∃t:Int,U*z=1+t*P)∧(0≤U∧U≤P)∧e = .returned (pt pz)∧St F w' (L.set i (pz,ofI U))∧Keep (fun b=>¬F b) w w':=by
 obtain⟨aa,la,ka,gA,-,-⟩:=h.getI hg
 obtain⟨ab,lb,kb,gB,-,-⟩:=h.getI hn
 have cA:=gA.cell0
 have cB:=gB.cell0
 have d1:decide ((z:Int)<0)=false:=decide_eq_false (by omega)
 have d2:decide ((P:Int)<0)=false:=decide_eq_false (by omega)
 rw [d1] at cA
 rw [d2] at cB
 have HS:Hid _:=hs
 clear d1 d2 gA gB
 have h2:=(h.alloc 85).alloc 85
 have k2:Keep (fun b=>¬F b) w _:=((Keep.refl (fun b=>¬F b) w).alloc iz).alloc iz
 have hsz:∀(w:World) (o:Obj),(w.alloc o).heap.size=w.heap.size+1:=fun w o=>Array.size_push _
 simp only [hsz] at h2
 clear hsz
 go_enter Tryz.func61,Tryz.ntmps61
 go_wp2_with fail
 generalize hW:(w.alloc iz).alloc iz=W2 at *
 clear hW
 generalize w.heap.size+1=px at *
 generalize w.heap.size=pd at *
 refine(gcd_any F W2 L pd px pg pn (ofI 0) (ofI 0) z P (St.pre (P:=[_,_]) h2 [_,_] [1,0] (by decide) 2 rfl (by decide) rfl) hg hn hz hzP hone hs).mono ?_
 rintro e w3 ⟨U,hU,hszU,rfl,h3,k3⟩
 have HU:Hid _:=hU
 have HSU:Hid _:=hszU
 have hszU6:Sz 640 U:=⟨by have h1:=(oo HS).lt;rw [Int.natAbs_natCast] at h1;omega⟩
 have HS6:Hid _:=hszU6
 have HK3:Hid (Keep (fun b=>¬F b) w w3):=k2.trans k3
 have H3:Hid _:=h3
 clear hU hszU hszU6 k2 k3 h3 h2 hone
 go_wp2_with fail
 refine(intOne_any F w3 _ (oo H3)).mono ?_
 rintro e w4 ⟨p1,rfl,h4,k4⟩
 have H4:Hid _:=h4
 have HK4:Hid (Keep (fun b=>¬F b) w w4):=(oo HK3).trans (k4.mono fun _ _ h=>h.elim)
 clear h4 k4 H3 HK3
 have s1:Sz 1 (1:Int):=⟨by decide⟩
 go_wp2_with fail
 refine(intCmp_any F w4 _ (oo H4) pd p1 1 1 (.tail _ (.head _)) (.head _) 1 1 (by omega) (by omega)).mono ?_
 rintro e w5 ⟨rfl,k5⟩
 have h5:=St.keep (oo H4) k5
 have HK5:Hid (Keep (fun b=>¬F b) w w5):=(oo HK4).trans (k5.mono fun _ _ h=>h.elim)
 have H5:Hid (St F w5 ((pd,ofI 1)::(px,ofI U)::L)):=h5.tail
 have tc:cmpI 1 1=0:=by decide
 rw [tc]
 obtain⟨ax,lx,kx,gX,-,-⟩:=h5.getI (p:=px) (v:=U) (tl2 (.head _))
 have cX:=gX.cell0
 clear h5 k5 H4 HK4 tc gX s1
 have hi5:((pd,ofI 1)::(px,ofI U)::L)[i+2]?=some (pz,ez):=by simpa using hi
 by_cases hU0:U<0
 ·have hd:decide (U<0)=true:=decide_eq_true hU0
  have HU0:Hid _:=hU0
  rw [hd] at cX
  clear hd hU0
  go_wp2_with fail
  refine(intAdd_any F w5 _ (oo H5) (i+2) pz px pn ez U P hi5 (.tail _ (.head _)) (tl2 hn) 640 640 (hs:=HS6.out) (ht:=HS.out) (by omega) (by omega)).mono ?_
  rintro e w6 ⟨v,hv,hsv,rfl,h6,k6⟩
  simp only [Ls1] at h6
  have H6:Hid _:=h6
  have K6:Hid _:=k6
  clear h6 k6
  go_wp2_with fail
  go_ret
  refine⟨v,?_,(by have h1:=HU0.out;have h2:=HSU.out;have h3:=hv.out;omega),rfl,St.tail (St.tail (oo H6)),(oo HK5).trans (oo K6)⟩
  obtain⟨t,ht⟩:=oo HU
  refine⟨t+z,?_⟩
  rw [hv.out]
  grind
 ·have hd:decide (U<0)=false:=decide_eq_false hU0
  have HU0:Hid (0≤U):=Int.not_lt.1 hU0
  rw [hd] at cX
  clear hd hU0
  go_wp2_with fail
  refine(intSet_any F w5 _ (oo H5) (i+2) pz px ez U hi5 (.tail _ (.head _)) 640 (hs:=HS6.out) (by omega)).mono ?_
  rintro e w6 ⟨rfl,h6,k6⟩
  simp only [Ls1] at h6
  have H6:Hid _:=h6
  have K6:Hid _:=k6
  clear h6 k6
  go_wp2_with fail
  go_ret
  exact⟨U,oo HU,(by have h1:=HU0.out;have h2:=HSU.out;omega),rfl,St.tail (St.tail (oo H6)),(oo HK5).trans (oo K6)⟩
theorem intMulNe_any (F:Nat→Prop) (w:World) (L:List (Nat×E)) (h:St F w L) (i p q r:Nat) (v0:E) (x y:Int) (hi:L[i]?=some (p,v0)) (hq:(q,ofI x)∈L) (hr:(r,ofI y)∈L) (hqr:q≠r) (s t:Nat) [hs:Sz s x] [ht:Sz t y] (hs':s≤2496) (ht':t≤2496) :
  Calls Tryz.prog 100 #[pt p,pt q,pt r] w fun e w'=>∃v,Hid (v=x*y)∧Sz (s+t) v∧e = .returned (pt p)∧St F w' (L.set i (p,ofI v))∧Keep (fun b=>¬F b) w w':=by
 have hsz:Sz (s+t) (x*y):=hs.mul ht
 have H:=mul_mul F w L h i p q r v0 x y hi hq hr hqr s t hs ht hs' ht'
 have HH:Hid _:=H
 clear H
 go_enter Tryz.func100,Tryz.ntmps100
 go_wp2_with fail
 refine Calls.mono (oo HH) ?_
 rintro e w1 ⟨rfl,h1,h2⟩
 go_wp2_with fail
 go_ret
 exact⟨x*y,rfl,hsz,rfl,h1,h2⟩
end Go.Proofs.YtofkehhflkdabaaGreatDoor
