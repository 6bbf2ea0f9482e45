/- A part of the proof of FnCurveOf. -/
import Derived.Test.YtofkehhflkdabaaGreatDoorP20
import Derived.Test.YtofkehhflkdabaaGreatDoorP22
set_option maxRecDepth 100000
set_option maxHeartbeats 8000000
namespace Go.Proofs.YtofkehhflkdabaaGreatDoor
open Go Go.RowKit
def sm (g:Bool) (N:Nat):Int:=if g then -(N:Int) else (N:Int)
theorem sm_ofI (x:Int):sm (decide (x<0)) x.natAbs=x:=by
 unfold sm
 by_cases h:x<0
 ·rw [decide_eq_true h,if_pos rfl];omega
 ·rw [decide_eq_false h];simp;omega
theorem sm_mul (x:Int) (n:Bool) (w:Nat):sm (decide (x<0) != n) (x.natAbs*w)=(if n then -1 else 1)*(x*w):=by
 obtain⟨X,hX⟩:∃X,x.natAbs=X:=⟨_,rfl⟩
 have hp:((X*w:Nat):Int)=(X:Int)*(w:Int):=Int.natCast_mul X w
 rw [hX]
 by_cases h:x<0
 ·rw [decide_eq_true h]
  have e:x = -(X:Int):=by omega
  have e2:x*(w:Int) = -((X*w:Nat):Int):=by rw [hp,e,Int.neg_mul]
  rw [e2]
  cases n<;>simp [sm]
 ·rw [decide_eq_false h]
  have e:x=(X:Int):=by omega
  have e2:x*(w:Int)=((X*w:Nat):Int):=by rw [hp,e]
  rw [e2]
  cases n<;>simp [sm]
theorem mulW_any (F:Nat→Prop) (w:World) (L:List (Nat×E)) (h:St F w L) (i p q:Nat) (v0:E) (x:Int) (neg:Bool) (y:Nat) (hi:L[i]?=some (p,v0)) (hq:(q,ofI x)∈L) (s:Nat) [hs:Sz s x] (hs':s≤4000) (hy:y<W64) :
  Calls Tryz.prog 99 #[pt p,pt q,.bool neg,.int .u64 (y:Int)] w fun e w'=>e = .returned (.tuple #[])∧St F w' (L.set i (p,(decide (x<0) != neg,x.natAbs*y)))∧Keep (fun b=>¬F b) w w':=by
 obtain⟨a,l,k,c0,c1,hn,hfin⟩:=h.opE hi
 obtain⟨a',l',k',hg'⟩:=h.getI hq
 have d0:=hg'.1.cell0
 have d1:=hg'.1.cell1
 have hl:=hs.len hg'.2.1 (m:=63) (by omega)
 have m1:=hn.buf.dr
 have m2:=hg'.2.1.dr
 have x00:=fun w1 a1 l1 k1 N g1 g2 g3=>(hfin w1 a1 l1 k1 N g1 g2 g3).2.2.2.1 q (ofI x) hq
 clear hg'
 generalize hX:x.natAbs=X at *
 generalize hgx:decide (x<0)=gx at *
 have x0':∀(w1:World) (a1:Option Addr) (l1 k1 N:Nat),Keep (At a) w w1→IsNat w1 a1 l1 k1 N→Own w a a1→w1.cell? ⟨q,0,none⟩=some (.bool gx):=fun w1 a1 l1 k1 N g1 g2 g3=>by
  have:=(x00 w1 a1 l1 k1 N g1 g2 g3).1
  rw [show (ofI x).1=decide (x<0) from rfl,hgx] at this
  exact this
 have X0:Hid _:=x0'
 clear x00 x0' hX hgx
 go_enter Tryz.func99,Tryz.ntmps99
 go_wp2_with fail
 refine AnyL_start (fun w'=>w'.cell? ⟨p,1,none⟩=some (.slice a l k)∧w'.cell? ⟨q,1,none⟩=some (.slice a' l' k')) [4,8] (by kernel_rfl) ?_
 have HS:(fun w':World=>w'.cell? ⟨p,1,none⟩=some (.slice a l k)∧w'.cell? ⟨q,1,none⟩=some (.slice a' l' k')) w.drew:=⟨c1,d1⟩
 refine AP 0 ?_
 refine AP 1 ?_
 refine AP 2 ?_
 refine AP 3 ?_
 refine AL 4 HS ?_
 refine AP 5 ?_
 refine AP 6 ?_
 refine AP 7 ?_
 refine AL 8 HS ?_
 refine AP 9 ?_
 refine AnyL_one 10 rfl (by kernel_rfl) (fun K hK=>?_)
 go_simp
 refine(mulAddWW_any _ a a' l k l' k' X y 0 m1 m2 (by omega) hy W64_pos).mono ?_
 rintro e w1 ⟨a1,l1,k1,rfl,hn1,-,ho1,hk1⟩
 rw [Nat.add_zero] at hn1
 obtain⟨f1,f2,x1,x0,hend⟩:=hfin w1 a1 l1 k1 _ hk1.undrew hn1 ho1
 have x3:=(x0 p v0 (List.mem_of_getElem? hi)).1
 have x2:=oo X0 w1 a1 l1 k1 _ hk1.undrew hn1 ho1
 clear x0
 refine hK.out _ _ (.inl (by kernel_rfl)) ?_
 clear hK K
 try clear HS
 refine AP 11 ?_
 refine AP 12 ?_
 refine AnyL_one 13 rfl (by kernel_rfl) (fun K hK=>?_)
 go_simp
 refine hK.out _ _ (.inl (by kernel_rfl)) ?_
 clear hK K
 refine AnyL_done (by kernel_rfl) ?_
 have HE:Hid _:=hend
 clear hend hfin X0
 obtain⟨gz,hgz⟩:∃g,g=(!(gx==neg)):=⟨_,rfl⟩
 go_wp2_with fail
 first | go_end0 | (refine bodyPost_ret (results_none rfl _ _ _) rfl ?_)
 exact⟨rfl,oo HE _⟩
theorem addR_eq (F:Nat→Prop) (w:World) (L:List (Nat×E)) (h:St F w L) (i p q r:Nat) (v0:E) (g:Bool) (X Y:Nat) (hi:L[i]?=some (p,v0)) (hq:(q,((g,X):E))∈L) (hr:(r,((g,Y):E))∈L) (hX:X<2^(64*63)) (hY:Y<2^(64*63)) :
  Calls Tryz.prog 70 #[pt p,pt q,pt r] w fun e w'=>e = .returned (pt p)∧St F w' (L.set i (p,ofI (sm g X+sm (g) Y)))∧Keep (fun b=>¬F b) w w':=by
 obtain⟨a,l,k,c0,c1,hn,hfin⟩:=h.opE hi
 obtain⟨a',l',k',hg'⟩:=h.get hq
 obtain⟨a2,l2,k2,hg2⟩:=h.get hr
 have d0:w.cell? ⟨q,0,none⟩=some (.bool g):=hg'.two.cell0
 have d1:w.cell? ⟨q,1,none⟩=some (.slice a' l' k'):=hg'.two.cell1
 have e0:w.cell? ⟨r,0,none⟩=some (.bool (g)):=hg2.two.cell0
 have e1:w.cell? ⟨r,1,none⟩=some (.slice a2 l2 k2):=hg2.two.cell1
 have nx:IsNat w a' l' k' X:=hg'.nat
 have ny:IsNat w a2 l2 k2 Y:=hg2.nat
 have hl:=isNat_len nx hX
 have hl2:=isNat_len ny hY
 have mz:=hn.buf.dr.dr
 have mx:=nx.dr.dr
 have my:=ny.dr.dr
 clear hg' hg2 hn nx ny hX hY
 have tg:(g==g)=true:=by cases g<;>rfl
 have HF2:Hid (∀b,b=(decide (0<X+Y)&&g)→((b,X+Y):E)=ofI (sm g X+sm g Y)):=by
  rintro b rfl
  simp only [ofI,sm,Prod.mk.injEq]
  cases g
  ·simp only [Bool.and_false,Bool.false_eq_true,if_false]
   exact⟨(decide_eq_false (by omega)).symm,by omega⟩
  ·simp only [Bool.and_true,if_true,decide_eq_decide]
   omega
 go_enter Tryz.func70,Tryz.ntmps70
 go_wp2_with fail
 go_region
 go_wp2_with fail
 refine AnyL_start (fun w'=>w'.cell? ⟨p,1,none⟩=some (.slice a l k)∧w'.cell? ⟨q,1,none⟩=some (.slice a' l' k')∧w'.cell? ⟨r,1,none⟩=some (.slice a2 l2 k2)) [4,8,12] (by kernel_rfl) ?_
 have HS:(fun w':World=>w'.cell? ⟨p,1,none⟩=some (.slice a l k)∧w'.cell? ⟨q,1,none⟩=some (.slice a' l' k')∧w'.cell? ⟨r,1,none⟩=some (.slice a2 l2 k2)) w.drew:=⟨c1,d1,e1⟩
 refine AP 0 ?_
 refine AP 1 ?_
 refine AP 2 ?_
 refine AP 3 ?_
 refine AL 4 HS ?_
 refine AP 5 ?_
 refine AP 6 ?_
 refine AP 7 ?_
 refine AL 8 HS ?_
 refine AP 9 ?_
 refine AP 10 ?_
 refine AP 11 ?_
 refine AL 12 HS ?_
 refine AnyL_one 13 rfl (by kernel_rfl) (fun K hK=>?_)
 go_simp
 refine(add_any _ a a' a2 l k l' k' l2 k2 X Y mz mx my (by omega) (by omega)).mono ?_
 rintro e w1 ⟨a1,l1,k1,rfl,hn1,-,ho1,hk1⟩
 obtain⟨f1,f2,x1,x0,hend⟩:=hfin w1 a1 l1 k1 _ hk1.undrew.undrew hn1 ho1
 have x3:=(x0 p v0 (List.mem_of_getElem? hi)).1
 clear x0
 have HZ:Hid _:=isNat_zero hn1
 clear hn1
 refine hK.out _ _ (.inl (by kernel_rfl)) ?_
 clear hK K
 try clear HS
 refine AP 14 ?_
 refine AP 15 ?_
 refine AnyL_one 16 rfl (by kernel_rfl) (fun K hK=>?_)
 go_simp
 refine hK.out _ _ (.inl (by kernel_rfl)) ?_
 clear hK K
 refine AnyL_done (by kernel_rfl) ?_
 have HEND:Hid _:=hend
 clear hend
 rcases l1 with _ | m1
 ·have hb:X+Y=0:=(oo HZ).1 rfl
  have HB:Hid _:=hb
  clear hb
  go_wp2_with fail
  go_ret
  have h1:=HF2.out false (by rw [oo HB];simp)
  exact⟨rfl,h1▸oo HEND false⟩
 ·have hb:0<X+Y:=Nat.pos_of_ne_zero fun e=>absurd ((oo HZ).2 e) (by omega)
  have HB:Hid _:=hb
  clear hb
  have t1:(0:Int)<(m1:Int)+1:=by omega
  go_wp2_with fail
  go_ret
  have h1:=HF2.out (g) (by rw [decide_eq_true (oo HB)];simp)
  exact⟨rfl,h1▸oo HEND (g)⟩
theorem addR_ne (F:Nat→Prop) (w:World) (L:List (Nat×E)) (h:St F w L) (i p q r:Nat) (v0:E) (g:Bool) (X Y:Nat) (hi:L[i]?=some (p,v0)) (hq:(q,((g,X):E))∈L) (hr:(r,((!g,Y):E))∈L) (hX:X<2^(64*63)) (hY:Y<2^(64*63)) :
  Calls Tryz.prog 70 #[pt p,pt q,pt r] w fun e w'=>e = .returned (pt p)∧St F w' (L.set i (p,ofI (sm g X+sm (!g) Y)))∧Keep (fun b=>¬F b) w w':=by
 obtain⟨a,l,k,c0,c1,hn,hfin⟩:=h.opE hi
 obtain⟨a',l',k',hg'⟩:=h.get hq
 obtain⟨a2,l2,k2,hg2⟩:=h.get hr
 have d0:w.cell? ⟨q,0,none⟩=some (.bool g):=hg'.two.cell0
 have d1:w.cell? ⟨q,1,none⟩=some (.slice a' l' k'):=hg'.two.cell1
 have e0:w.cell? ⟨r,0,none⟩=some (.bool (!g)):=hg2.two.cell0
 have e1:w.cell? ⟨r,1,none⟩=some (.slice a2 l2 k2):=hg2.two.cell1
 have nx:IsNat w a' l' k' X:=hg'.nat
 have ny:IsNat w a2 l2 k2 Y:=hg2.nat
 have hl:=isNat_len nx hX
 have hl2:=isNat_len ny hY
 have mz:=hn.buf.dr.dr
 have mx:=nx.dr.dr
 have my:=ny.dr.dr
 clear hg' hg2 hn nx ny hX hY
 have tg:(g == !g)=false:=by cases g<;>rfl
 have HF2:Hid (Y≤X→∀b,b=(decide (0<X-Y)&&g)→((b,X-Y):E)=ofI (sm g X+sm (!g) Y)):=by
  rintro hle b rfl
  simp only [ofI,sm,Prod.mk.injEq]
  cases g
  ·simp only [Bool.and_false,Bool.false_eq_true,if_false,Bool.not_false,if_true]
   exact⟨(decide_eq_false (by omega)).symm,by omega⟩
  ·simp only [Bool.and_true,if_true,Bool.not_true,Bool.false_eq_true,if_false,decide_eq_decide]
   omega
 have HF3:Hid (X<Y→∀b,b=(decide (0<Y-X) && !g)→((b,Y-X):E)=ofI (sm g X+sm (!g) Y)):=by
  rintro hle b rfl
  simp only [ofI,sm,Prod.mk.injEq]
  cases g
  ·simp only [Bool.not_false,Bool.and_true,Bool.false_eq_true,if_false,if_true,decide_eq_decide]
   omega
  ·simp only [Bool.not_true,Bool.and_false,Bool.false_eq_true,if_false,if_true]
   exact⟨(decide_eq_false (by omega)).symm,by omega⟩
 go_enter Tryz.func70,Tryz.ntmps70
 go_wp2_with fail
 go_region
 go_wp2_with fail
 refine AnyL_start (fun w'=>w'.cell? ⟨q,1,none⟩=some (.slice a' l' k')∧w'.cell? ⟨r,1,none⟩=some (.slice a2 l2 k2)) [3,7] (by kernel_rfl) ?_
 have HS:(fun w':World=>w'.cell? ⟨q,1,none⟩=some (.slice a' l' k')∧w'.cell? ⟨r,1,none⟩=some (.slice a2 l2 k2)) w.drew:=⟨d1,e1⟩
 refine AP 0 ?_
 refine AP 1 ?_
 refine AP 2 ?_
 refine AL 3 HS ?_
 refine AP 4 ?_
 refine AP 5 ?_
 refine AP 6 ?_
 refine AL 7 HS ?_
 refine AnyL_one 8 rfl (by kernel_rfl) (fun K hK=>?_)
 go_simp
 refine(cmp_any _ a' a2 l' k' _ l2 k2 _ mx my (by omega) (by omega)).mono ?_
 rintro e w0 ⟨rfl,hk0⟩
 have hk0':=hk0.undrew.undrew
 refine hK.out _ _ (.inl (by kernel_rfl)) ?_
 clear hK K
 try clear HS
 refine AnyL_one 9 rfl (by kernel_rfl) (fun K hK=>?_)
 go_simp
 refine hK.out _ _ (.inr ⟨hk0'.cell d1 id,hk0'.cell e1 id⟩) ?_
 clear hK K
 refine AnyL_done (by kernel_rfl) ?_
 have c1':=hk0'.cell c1 id
 have d1':=hk0'.cell d1 id
 have e1':=hk0'.cell e1 id
 have mz':=(mz.keep hk0 (fun _ _=>id)).dr
 have mx':=(mx.keep hk0 (fun _ _=>id)).dr
 have my':=(my.keep hk0 (fun _ _=>id)).dr
 clear mz mx my
 by_cases hlt:X<Y
 ·have tc:cmpN X Y<0:=by rw [cmpN_lt hlt];decide
  have HL:Hid _:=hlt
  clear hlt
  generalize cmpN X Y=cv at *
  go_wp2_with fail
  refine AnyL_start (fun w'=>w'.cell? ⟨p,1,none⟩=some (.slice a l k)∧w'.cell? ⟨q,1,none⟩=some (.slice a' l' k')∧w'.cell? ⟨r,1,none⟩=some (.slice a2 l2 k2)) [4,8,12] (by kernel_rfl) ?_
  have HS:(fun w':World=>w'.cell? ⟨p,1,none⟩=some (.slice a l k)∧w'.cell? ⟨q,1,none⟩=some (.slice a' l' k')∧w'.cell? ⟨r,1,none⟩=some (.slice a2 l2 k2)) w0.drew:=⟨c1',d1',e1'⟩
  refine AP 0 ?_
  refine AP 1 ?_
  refine AP 2 ?_
  refine AP 3 ?_
  refine AL 4 HS ?_
  refine AP 5 ?_
  refine AP 6 ?_
  refine AP 7 ?_
  refine AL 8 HS ?_
  refine AP 9 ?_
  refine AP 10 ?_
  refine AP 11 ?_
  refine AL 12 HS ?_
  refine AnyL_one 13 rfl (by kernel_rfl) (fun K hK=>?_)
  go_simp
  refine(sub_any _ a a2 a' l k l2 k2 l' k' Y X mz' my' mx' (Nat.le_of_lt HL.out) (by omega)).mono ?_
  rintro e w1 ⟨a1,l1,k1,rfl,hn1,-,ho1,hk1⟩
  have ho2:=ho1.back hk0'
  obtain⟨f1,f2,x1,x0,hend⟩:=hfin w1 a1 l1 k1 _ ((hk0'.mono fun _ _ h=>h.elim).trans hk1.undrew) hn1 ho2
  have x3:=(x0 p v0 (List.mem_of_getElem? hi)).1
  clear x0
  have HZ:Hid _:=isNat_zero hn1
  clear hn1
  refine hK.out _ _ (.inl (by kernel_rfl)) ?_
  clear hK K
  try clear HS
  refine AP 14 ?_
  refine AP 15 ?_
  refine AnyL_one 16 rfl (by kernel_rfl) (fun K hK=>?_)
  go_simp
  refine hK.out _ _ (.inl (by kernel_rfl)) ?_
  clear hK K
  refine AnyL_done (by kernel_rfl) ?_
  have HEND:Hid _:=hend
  clear hend
  rcases l1 with _ | m1
  ·have hb:Y-X=0:=(oo HZ).1 rfl
   have HB:Hid _:=hb
   clear hb
   go_wp2_with fail
   go_ret
   have h1:=HF3.out HL.out false (by rw [oo HB];simp)
   exact⟨rfl,h1▸oo HEND false⟩
  ·have hb:0<Y-X:=Nat.pos_of_ne_zero fun e=>absurd ((oo HZ).2 e) (by omega)
   have HB:Hid _:=hb
   clear hb
   have t1:(0:Int)<(m1:Int)+1:=by omega
   go_wp2_with fail
   go_ret
   have h1:=HF3.out HL.out (!g) (by rw [decide_eq_true (oo HB)];simp)
   exact⟨rfl,h1▸oo HEND (!g)⟩
 ·have tc:(0:Int)≤cmpN X Y:=by
   rcases Nat.eq_or_lt_of_le (Nat.le_of_not_lt hlt) with h | h
   ·rw [cmpN_eq h.symm];decide
   ·rw [cmpN_gt h];decide
  have HL:Hid (Y≤X):=Nat.le_of_not_lt hlt
  clear hlt
  generalize cmpN X Y=cv at *
  go_wp2_with fail
  refine AnyL_start (fun w'=>w'.cell? ⟨p,1,none⟩=some (.slice a l k)∧w'.cell? ⟨q,1,none⟩=some (.slice a' l' k')∧w'.cell? ⟨r,1,none⟩=some (.slice a2 l2 k2)) [4,8,12] (by kernel_rfl) ?_
  have HS:(fun w':World=>w'.cell? ⟨p,1,none⟩=some (.slice a l k)∧w'.cell? ⟨q,1,none⟩=some (.slice a' l' k')∧w'.cell? ⟨r,1,none⟩=some (.slice a2 l2 k2)) w0.drew:=⟨c1',d1',e1'⟩
  refine AP 0 ?_
  refine AP 1 ?_
  refine AP 2 ?_
  refine AP 3 ?_
  refine AL 4 HS ?_
  refine AP 5 ?_
  refine AP 6 ?_
  refine AP 7 ?_
  refine AL 8 HS ?_
  refine AP 9 ?_
  refine AP 10 ?_
  refine AP 11 ?_
  refine AL 12 HS ?_
  refine AnyL_one 13 rfl (by kernel_rfl) (fun K hK=>?_)
  go_simp
  refine(sub_any _ a a' a2 l k l' k' l2 k2 X Y mz' mx' my' HL.out (by omega)).mono ?_
  rintro e w1 ⟨a1,l1,k1,rfl,hn1,-,ho1,hk1⟩
  have ho2:=ho1.back hk0'
  obtain⟨f1,f2,x1,x0,hend⟩:=hfin w1 a1 l1 k1 _ ((hk0'.mono fun _ _ h=>h.elim).trans hk1.undrew) hn1 ho2
  have x3:=(x0 p v0 (List.mem_of_getElem? hi)).1
  clear x0
  have HZ:Hid _:=isNat_zero hn1
  clear hn1
  refine hK.out _ _ (.inl (by kernel_rfl)) ?_
  clear hK K
  try clear HS
  refine AP 14 ?_
  refine AP 15 ?_
  refine AnyL_one 16 rfl (by kernel_rfl) (fun K hK=>?_)
  go_simp
  refine hK.out _ _ (.inl (by kernel_rfl)) ?_
  clear hK K
  refine AnyL_done (by kernel_rfl) ?_
  have HEND:Hid _:=hend
  clear hend
  rcases l1 with _ | m1
  ·have hb:X-Y=0:=(oo HZ).1 rfl
   have HB:Hid _:=hb
   clear hb
   go_wp2_with fail
   go_ret
   have h1:=HF2.out HL.out false (by rw [oo HB];simp)
   exact⟨rfl,h1▸oo HEND false⟩
  ·have hb:0<X-Y:=Nat.pos_of_ne_zero fun e=>absurd ((oo HZ).2 e) (by omega)
   have HB:Hid _:=hb
   clear hb
   have t1:(0:Int)<(m1:Int)+1:=by omega
   go_wp2_with fail
   go_ret
   have h1:=HF2.out HL.out (g) (by rw [decide_eq_true (oo HB)];simp)
   exact⟨rfl,h1▸oo HEND (g)⟩
theorem addR_any (F:Nat→Prop) (w:World) (L:List (Nat×E)) (h:St F w L) (i p q r:Nat) (v0:E) (gx gy:Bool) (X Y:Nat) (hi:L[i]?=some (p,v0)) (hq:(q,((gx,X):E))∈L) (hr:(r,((gy,Y):E))∈L) (hX:X<2^(64*63)) (hY:Y<2^(64*63)) :
  Calls Tryz.prog 70 #[pt p,pt q,pt r] w fun e w'=>e = .returned (pt p)∧St F w' (L.set i (p,ofI (sm gx X+sm gy Y)))∧Keep (fun b=>¬F b) w w':=by
 by_cases e:gx=gy
 ·subst e
  exact addR_eq F w L h i p q r v0 gx X Y hi hq hr hX hY
 ·obtain rfl:gy = !gx:=by
   clear hX hY
   cases gx<;>cases gy<;>first | rfl | exact absurd rfl e
  exact addR_ne F w L h i p q r v0 gx X Y hi hq hr hX hY
end Go.Proofs.YtofkehhflkdabaaGreatDoor
