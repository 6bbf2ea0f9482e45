/- A part of the proof of FnCurveOf. -/
import Derived.Test.YtofkehhflkdabaaGreatDoorP21
set_option maxRecDepth 100000
set_option maxHeartbeats 8000000
namespace Go.Proofs.YtofkehhflkdabaaGreatDoor
open Go Go.RowKit
theorem mem_set_other {L:List (Nat×E)} {i p r:Nat} {v v' y:E} (hi:L[i]?=some (p,v)) (hr:(r,y)∈L) (hne:r≠p):(r,y)∈L.set i (p,v'):=by
 obtain⟨j,hj⟩:=List.mem_iff_getElem?.1 hr
 refine List.mem_iff_getElem?.2 ⟨j,?_⟩
 have:i≠j:=fun e=>by
  subst e
  rw [hi] at hj
  simp only [Option.some.injEq,Prod.mk.injEq] at hj
  exact hne hj.1.symm
 rw [List.getElem?_set_ne this,hj]
theorem get_set_self {L:List (Nat×E)} {i p:Nat} {v v':E} (hi:L[i]?=some (p,v)):(L.set i (p,v'))[i]?=some (p,v'):=
 List.getElem?_set_self (List.getElem?_eq_some_iff.1 hi).1
theorem tmod_emod (x y:Int) (hy:0<y):x%y=if x.tmod y<0 then x.tmod y+y else x.tmod y:=by
 have h1:=Int.emod_nonneg x (show y≠0 by omega)
 have h2:=Int.emod_lt_of_pos x hy
 rw [Int.tmod_eq_emod]
 split<;>split<;>omega
theorem intMod_any (F:Nat→Prop) (w:World) (L:List (Nat×E)) (h:St F w L) (i p q r:Nat) (v0:E) (x y:Int) (hi:L[i]?=some (p,v0)) (hq:(q,ofI x)∈L) (hr:(r,ofI y)∈L) (hpr:p≠r) (sx sy:Nat) [hs:Sz sx x] [ht:Sz sy y] (hs':sx≤4000) (ht':sy≤2496) (hy:0<y) :
  Calls Tryz.prog 66 #[pt p,pt q,pt r] w fun e w'=>∃v,Hid (v=x%y)∧Sz sy v∧e = .returned (pt p)∧St F w' (L.set i (p,ofI v))∧Keep (fun b=>¬F b) w w':=by
 have hsz:Sz sy (x%y):=ht.mod hy
 obtain⟨a,l,k,gp,hall,-⟩:=h.put hi
 obtain⟨a2,l2,k2,gr,hap⟩:=(hall r (ofI y) hr).resolve_left (fun e=>hpr e.symm)
 have hne:=eql_int_other w.drew gp.two gr.two hpr
 have p1:=gp.two.cell1
 have r1:=gr.two.cell1
 have hsa:sameA a a2=false:=by
  rcases a with _ | a
  ·rfl
  rcases a2 with _ | a2
  ·rfl
  have h1:=gp.nat
  have h2:=gr.nat
  rcases h1 with⟨h1,_⟩ | ⟨b1,c1,h1,_⟩
  ·simp at h1
  rcases h2 with⟨h2,_⟩ | ⟨b2,c2,h2,_⟩
  ·simp at h2
  simp only [Option.some.injEq] at h1 h2
  subst h1 h2
  simp only [sameA,beq_eq_false_iff_ne]
  rintro rfl
  exact hap _ (.inr rfl) (.inr rfl)
 have hC:=alias_any w.drew a a2 l k l2 k2 (gp.nat.buf.keep (Keep.refl Nope w).drew (fun _ _=>id)) (gr.nat.buf.keep (Keep.refl Nope w).drew (fun _ _=>id))
 rw [hsa] at hC
 have HC:Hid _:=hC
 have tp:=gp.two
 have tr:=gr.two
 clear hC hsa gp gr hap hall
 go_enter Tryz.func66,Tryz.ntmps66
 go_wp2_with fail
 refine AnyL_start (fun w'=>w'.cell? ⟨p,1,none⟩=some (.slice a l k)∧w'.cell? ⟨r,1,none⟩=some (.slice a2 l2 k2)∧(binOp .eql 68 (.pointer (some ⟨p,0,none⟩)) (.pointer (some ⟨r,0,none⟩))).run Tryz.prog w' = .ok (.bool false) w') [2,7,11] (by kernel_rfl) ?_
 have HS:(fun w':World=>w'.cell? ⟨p,1,none⟩=some (.slice a l k)∧w'.cell? ⟨r,1,none⟩=some (.slice a2 l2 k2)∧(binOp .eql 68 (.pointer (some ⟨p,0,none⟩)) (.pointer (some ⟨r,0,none⟩))).run Tryz.prog w' = .ok (.bool false) w') w.drew:=⟨p1,r1,hne⟩
 refine AP 0 ?_
 refine AP 1 ?_
 refine AL 2 HS ?_
 refine AP 3 ?_
 refine AP 4 ?_
 refine AP 5 ?_
 refine AP 6 ?_
 refine AL 7 HS ?_
 refine AP 8 ?_
 refine AP 9 ?_
 refine AP 10 ?_
 refine AL 11 HS ?_
 refine AnyL_one 12 rfl (by kernel_rfl) (fun K hK=>?_)
 go_simp
 refine Calls.mono (oo HC) ?_
 rintro e w1 ⟨rfl,hk1⟩
 have hk0:=hk1.undrew
 have hne1:=eql_int_other w1 (tp.keep hk0 id) (tr.keep hk0 id) hpr
 refine hK.out _ _ (.inr ⟨hk0.cell p1 id,hk0.cell r1 id,hne1⟩) ?_
 clear hK K
 try clear HS
 refine AP 13 ?_
 refine AnyL_done (by kernel_rfl) ?_
 have h1:St F w1 L:=h.keep hk0
 clear HC p1 r1 hne hne1 tp tr
 go_wp2_with fail
 have hnq:w1.heap.size≠q:=fun e=>by have:=h1.in hq;omega
 have hnr:w1.heap.size≠r:=fun e=>by have:=h1.in hr;omega
 have hnp:w1.heap.size≠p:=fun e=>by have:=h1.in (List.mem_of_getElem? hi);omega
 have hn0:y≠0:=by omega
 have hka:Keep (fun b=>¬F b) w (w1.alloc iz):=(hk0.mono fun _ _ h=>h.elim).alloc _
 refine(quoRem_any F _ _ (h1.alloc 85) 0 (i+1) w1.heap.size q r p (ofI 0) v0 x y rfl (by simpa using hi) (by omega) hnq hnr hpr (List.mem_cons_of_mem _ hq) (List.mem_cons_of_mem _ hr) sx sy hs' ht' hn0).mono ?_
 rintro e w2 ⟨rfl,h2,hk2⟩
 have h3:St F w2 (L.set i (p,ofI (x.tmod y))):=h2.tail
 have hk3:=hka.trans hk2
 have hi3:(L.set i (p,ofI (x.tmod y)))[i]?=some (p,ofI (x.tmod y)):=get_set_self hi
 have hr3:(r,ofI y)∈L.set i (p,ofI (x.tmod y)):=mem_set_other hi hr (fun e=>hpr e.symm)
 obtain⟨a3,l3,k3,g3⟩:=h3.getI (List.mem_of_getElem? hi3)
 obtain⟨a4,l4,k4,g4⟩:=h3.getI hr3
 have c3:=g3.1.cell0
 have c4:=g4.1.cell0
 have hyn:decide (y<0)=false:=decide_eq_false (by omega)
 simp only [hyn] at c4
 clear g3 g4 hyn h2 hka
 have HE:Hid _:=tmod_emod x y hy
 by_cases hneg:x.tmod y<0
 ·have hd:decide (x.tmod y<0)=true:=decide_eq_true hneg
  simp only [hd] at c3
  have HE2:Hid (x%y=x.tmod y+y):=by have:=HE.out;rwa [if_pos hneg] at this
  have hst:Sz sy (x.tmod y):=⟨by
   rw [Int.natAbs_tmod]
   exact Nat.lt_trans (Nat.mod_lt _ (by omega)) ht.lt⟩
  generalize x.tmod y=R0 at *
  clear hd hneg
  go_wp2_with fail
  refine(intAdd_any F w2 _ h3 i p p r (ofI R0) R0 y hi3 (List.mem_of_getElem? hi3) hr3 sy sy (by omega) (by omega)).mono ?_
  rintro e w3 ⟨v,hv,-,rfl,h4,hk4⟩
  go_wp2_with fail
  go_ret
  rw [List.set_set] at h4
  exact⟨v,(hv.out.trans HE2.out.symm:v=x%y),hsz.eq (hv.out.trans HE2.out.symm).symm,rfl,h4,hk3.trans hk4⟩
 ·have hd:decide (x.tmod y<0)=false:=decide_eq_false hneg
  simp only [hd] at c3
  have HE2:Hid (x%y=x.tmod y):=by have:=HE.out;rwa [if_neg hneg] at this
  generalize x.tmod y=R0 at *
  clear hd hneg
  go_wp2_with fail
  go_ret
  exact⟨R0,(HE2.out.symm:R0=x%y),hsz.eq HE2.out,rfl,h3,hk3⟩
theorem setInt64_any (F:Nat→Prop) (w:World) (L:List (Nat×E)) (h:St F w L) (i p:Nat) (v0:E) (hi:L[i]?=some (p,v0)) (x:Nat) (hx:x<9223372036854775808) :
  Calls Tryz.prog 85 #[pt p,.int .i64 (x:Int)] w fun e w'=>e = .returned (pt p)∧St F w' (L.set i (p,ofI (x:Int)))∧Keep (fun b=>¬F b) w w':=by
 obtain⟨a,l,k,c0,c1,hn,hfin⟩:=h.op hi
 have t1:¬((x:Int)<0):=by omega
 have t2:decide ((x:Int)<0)=false:=decide_eq_false t1
 have t3:IntKind.u64.wrap (x:Int)=(x:Int):=IntWalk.u64_in _ (by omega)
 clear t1
 go_enter Tryz.func85,Tryz.ntmps85
 go_wp2_with fail
 refine(setUint64_any _ a l k x hn.buf (by rw [show W64=18446744073709551616 from rfl];omega)).mono ?_
 rintro e w1 ⟨a1,l1,k1,rfl,hn1,ho1,hk1⟩
 obtain⟨f1,f2,x3,x0,hend⟩:=hfin w1 a1 l1 k1 _ hk1 hn1 ho1
 have x1:=x3.2
 have h1:=hend false (x:Int) (by simp) t2.symm
 have H1:Hid _:=h1
 clear h1 hend hfin
 go_wp2_with fail
 go_ret
 exact⟨rfl,H1.out⟩
theorem intAbs_any (F:Nat→Prop) (w:World) (L:List (Nat×E)) (h:St F w L) (i p q:Nat) (v0:E) (x:Nat) (hi:L[i]?=some (p,v0)) (hq:(q,ofI (x:Int))∈L) (s:Nat) [hs:Sz s (x:Int)] (hs':s≤4000) :
  Calls Tryz.prog 95 #[pt p,pt q] w fun e w'=>e = .returned (pt p)∧St F w' (L.set i (p,ofI (x:Int)))∧Keep (fun b=>¬F b) w w':=by
 go_enter Tryz.func95,Tryz.ntmps95
 go_wp2_with fail
 refine(intSet_any F w L h i p q v0 x hi hq s hs').mono ?_
 rintro e w1 ⟨rfl,h1,hk1⟩
 have hi1:(L.set i (p,ofI (x:Int)))[i]?=some (p,ofI (x:Int)):=get_set_self hi
 obtain⟨a,l,k,gp,hall,hput⟩:=h1.put hi1
 have c0:=gp.two.cell0
 have f0:=gp.two.frozen 0
 have hd:decide ((x:Int)<0)=false:=decide_eq_false (by omega)
 have hp:=hput (w1.setCell ⟨p,0,none⟩ (.bool false)) (ofI (x:Int)) a l k ((Keep.refl _ _).setCell (p:=⟨p,0,none⟩) (.inl rfl) _) (by show Two _ _ (.bool (decide ((x:Int)<0))) _;rw [hd];exact gp.two.set0 _) (gp.nat.keep ((Keep.refl (·=p) w1).setCell (p:=⟨p,0,none⟩) rfl _) (fun b e e'=>gp.noAt gp (e'▸e))) (.inl rfl)
 rw [List.set_set] at hp
 have HP:Hid _:=hp
 clear hp hput hall gp hd
 go_wp2_with fail
 go_ret
 exact⟨rfl,HP.out.1,hk1.trans HP.out.2⟩
end Go.Proofs.YtofkehhflkdabaaGreatDoor
