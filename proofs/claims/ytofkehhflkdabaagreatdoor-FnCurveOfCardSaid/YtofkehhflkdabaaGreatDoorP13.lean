/- A part of the proof of FnCurveOf. -/
import Derived.Test.YtofkehhflkdabaaGreatDoorP09
set_option maxRecDepth 100000
set_option maxHeartbeats 8000000
namespace Go.Proofs.YtofkehhflkdabaaGreatDoor
open Go Go.RowKit
theorem info85:∃j,Tryz.prog.info? 85=some j∧j.size≠0:=by
 have h:=(by kernel_rfl:(Tryz.prog.info? 85).map (·.size)=some 2)
 cases e:Tryz.prog.info? 85 with
 | none=>rw [e] at h;simp at h
 | some j=>rw [e] at h;simp at h;exact⟨j,rfl,by omega⟩
theorem neq_int_same (w:World) (a:Addr):(binOp .neq 68 (.pointer (some a)) (.pointer (some a))).run Tryz.prog w = .ok (.bool false) w:=by
 obtain⟨j,hj,_⟩:=info85
 exact run_neq_same w a Tryz.underlying68 hj
theorem eql_int_same (w:World) (a:Addr):(binOp .eql 68 (.pointer (some a)) (.pointer (some a))).run Tryz.prog w = .ok (.bool true) w:=by
 obtain⟨j,hj,_⟩:=info85
 exact run_eql_ptr_same w a Tryz.underlying68 hj
theorem neq_int_other (w:World) {p q:Nat} {u v u' v':Value} (h1:Two w p u v) (h2:Two w q u' v') (h:p≠q) :
  (binOp .neq 68 (.pointer (some ⟨p,0,none⟩)) (.pointer (some ⟨q,0,none⟩))).run Tryz.prog w = .ok (.bool true) w:=by
 obtain⟨j,hj,hs⟩:=info85
 obtain⟨T1,hT1⟩:=h1
 obtain⟨T2,hT2⟩:=h2
 exact run_neq_other w (a:=⟨p,0,none⟩) (b:=⟨q,0,none⟩) Tryz.underlying68 hj hs (by simp only [ne_eq,Addr.mk.injEq,not_and];intro e;exact absurd e h) hT1 hT2
theorem eql_int_other (w:World) {p q:Nat} {u v u' v':Value} (h1:Two w p u v) (h2:Two w q u' v') (h:p≠q) :
  (binOp .eql 68 (.pointer (some ⟨p,0,none⟩)) (.pointer (some ⟨q,0,none⟩))).run Tryz.prog w = .ok (.bool false) w:=by
 obtain⟨j,hj,hs⟩:=info85
 obtain⟨T1,hT1⟩:=h1
 obtain⟨T2,hT2⟩:=h2
 exact run_eql_ptr_other w (a:=⟨p,0,none⟩) (b:=⟨q,0,none⟩) Tryz.underlying68 hj hs (by simp only [ne_eq,Addr.mk.injEq,not_and];intro e;exact absurd e h) hT1 hT2
abbrev pt (p:Nat):Value:=.pointer (some ⟨p,0,none⟩)
theorem isNat_zero {w:World} {a:Option Addr} {len cap N:Nat} (h:IsNat w a len cap N):len=0↔N=0:=by
 rcases h with⟨_,h,_,h'⟩ | ⟨b,c,h1,h2,h3,h4,h5,h6⟩
 ·omega
 ·constructor
  ·rintro rfl;rw [← h5];rfl
  ·intro hN
   rcases h6 with h | h
   ·exact h
   ·refine Nat.eq_zero_of_not_pos fun hl=>h ?_
    obtain⟨t,rfl⟩:∃t,len=t+1:=⟨len-1,by omega⟩
    have e:val c 0 (t+1)=val c 0 t+c (0+t)*W64^t:=rfl
    rw [Nat.zero_add] at e
    rw [e] at h5
    have h8:c t*W64^t=0:=by omega
    rcases Nat.mul_eq_zero.1 h8 with h | h
    ·simpa using h
    ·exact absurd h (Nat.ne_of_gt (Nat.pow_pos W64_pos))
def sgn (v:Int):Int:=if v<0 then -1 else if v=0 then 0 else 1
theorem sign_any (F:Nat→Prop) (w:World) (L:List (Nat×E)) (h:St F w L) (p:Nat) (v:Int) (hp:(p,ofI v)∈L) :
  Calls Tryz.prog 24 #[pt p] w fun e w'=>e = .returned (.int .i64 (sgn v))∧w'=w:=by
 obtain⟨a,l,k,hg⟩:=h.getI hp
 have c0:=hg.1.cell0
 have c1:=hg.1.cell1
 have hz:=isNat_zero hg.2.1
 simp only [Int.natAbs_eq_zero] at hz
 by_cases h0:v=0
 ·subst h0
  have hl:l=0:=hz.2 rfl
  subst hl
  go_enter Tryz.func24,Tryz.ntmps24
  go_wp2_with fail
  go_ret
  exact⟨rfl,rfl⟩
 ·have hl:((l:Int)==0)=false:=beq_eq_false_iff_ne.2 (fun e=>h0 (hz.1 (by omega)))
  by_cases hn:v<0
  ·have hd:decide (v<0)=true:=decide_eq_true hn
   have hS:Hid (sgn v = -1):=by show sgn v = -1;rw [sgn,if_pos hn]
   simp only [hd] at c0
   go_enter Tryz.func24,Tryz.ntmps24
   go_wp2_with fail
   go_ret
   exact⟨by rw [hS.out];rfl,rfl⟩
  ·have hd:decide (v<0)=false:=decide_eq_false hn
   have hS:Hid (sgn v=1):=by show sgn v=1;rw [sgn,if_neg hn,if_neg h0]
   simp only [hd] at c0
   go_enter Tryz.func24,Tryz.ntmps24
   go_wp2_with fail
   go_ret
   exact⟨by rw [hS.out];rfl,rfl⟩
theorem IsBuf.dr {w:World} {a:Option Addr} {l k:Nat} (h:IsBuf w a l k):IsBuf w.drew a l k:=h.keep (Keep.refl Nope w).drew (fun _ _=>id)
theorem IsNat.dr {w:World} {a:Option Addr} {l k N:Nat} (h:IsNat w a l k N):IsNat w.drew a l k N:=h.keep (Keep.refl Nope w).drew (fun _ _=>id)
theorem Own.back {S:Nat→Prop} {w w0:World} {a a1:Option Addr} (h:Own w0.drew a a1) (k:Keep S w w0):Own w a a1:=
 h.imp id fun⟨b,e,hb⟩=>⟨b,e,Nat.le_trans k.size hb⟩
theorem intSet_any (F:Nat→Prop) (w:World) (L:List (Nat×E)) (h:St F w L) (i p q:Nat) (v0:E) (v:Int) (hi:L[i]?=some (p,v0)) (hq:(q,ofI v)∈L) (s:Nat) [hs:Sz s v] (hs':s≤4000) :
  Calls Tryz.prog 71 #[pt p,pt q] w fun e w'=>e = .returned (pt p)∧St F w' (L.set i (p,ofI v))∧Keep (fun b=>¬F b) w w':=by
 obtain⟨a,l,k,c0,c1,hn,hfin⟩:=h.op hi
 by_cases e:p=q
 ·subst e
  have hv:=h.same (List.mem_of_getElem? hi) hq
  subst hv
  have hne:=neq_int_same w ⟨p,0,none⟩
  obtain⟨a,l,k,hg,hall,hput⟩:=h.put hi
  go_enter Tryz.func71,Tryz.ntmps71
  go_wp2_with fail
  go_ret
  exact⟨rfl,hput _ (ofI v) a l k (Keep.refl _ _) hg.two hg.nat (.inl rfl)⟩
 ·obtain⟨a0,l0,k0,hg0⟩:=h.get (List.mem_of_getElem? hi)
  obtain⟨a',l',k',hg'⟩:=h.getI hq
  have hne:=neq_int_other w hg0.two hg'.1 e
  have d0:=hg'.1.cell0
  have d1:=hg'.1.cell1
  have hl:=hs.len hg'.2.1 (m:=63) (by omega)
  have m1:=hn.buf.dr
  have m2:=hg'.2.1.dr
  clear hg0
  go_enter Tryz.func71,Tryz.ntmps71
  go_wp2_with fail
  refine AnyG_start (fun w'=>w'.cell? ⟨p,1,none⟩=some (.slice a l k)∧w'.cell? ⟨q,1,none⟩=some (.slice a' l' k')) 9 (by kernel_rfl) ?_
  have HS:(fun w':World=>w'.cell? ⟨p,1,none⟩=some (.slice a l k)∧w'.cell? ⟨q,1,none⟩=some (.slice a' l' k')) w.drew:=⟨c1,d1⟩
  refine AG 0 HS ?_
  refine AG 1 HS ?_
  refine AG 2 HS ?_
  refine AG 3 HS ?_
  refine AG 4 HS ?_
  refine AG 5 HS ?_
  refine AG 6 HS ?_
  refine AG 7 HS ?_
  refine AG 8 HS ?_
  refine AnyG_one 9 rfl (by kernel_rfl) (fun K hK=>?_)
  go_simp
  refine(set_any _ a a' l k l' k' v.natAbs m1 m2 (by omega)).mono ?_
  rintro e w1 ⟨a1,l1,k1,rfl,hn1,-,ho1,hk1⟩
  obtain⟨f1,f2,x3,x0,hend⟩:=hfin w1 a1 l1 k1 _ hk1.undrew hn1 ho1
  have x2:=x0 q v hq
  have x1:=x3.2
  refine hK.out _ _ (.inr ⟨x1,x2.2.trans d1⟩) ?_
  clear hK K
  refine AnyG_one 10 rfl (by kernel_rfl) (fun K hK=>?_)
  go_simp
  refine hK.out _ _ (.inl (by kernel_rfl)) ?_
  clear hK K
  refine AnyG_one 11 rfl (by kernel_rfl) (fun K hK=>?_)
  go_simp
  refine hK.out _ _ (.inl (by kernel_rfl)) ?_
  clear hK K
  refine AnyG_one 12 rfl (by kernel_rfl) (fun K hK=>?_)
  go_simp
  refine hK.out _ _ (.inl (by kernel_rfl)) ?_
  clear hK K
  refine AnyG_done (by kernel_rfl) ?_
  go_wp2_with fail
  go_ret
  exact⟨rfl,hend _ v rfl rfl⟩
theorem isNat_pos {w:World} {a:Option Addr} {len cap N:Nat} (h:IsNat w a len cap N):decide (0<(len:Int))=decide (0<N):=by
 have:=isNat_zero h
 rw [decide_eq_decide];omega
theorem intAdd_eq (F:Nat→Prop) (w:World) (L:List (Nat×E)) (h:St F w L) (i p q r:Nat) (v0:E) (x y:Int) (hi:L[i]?=some (p,v0)) (hq:(q,ofI x)∈L) (hr:(r,ofI y)∈L) (s t:Nat) (hs:Sz s x) (ht:Sz t y) (hs':s≤4000) (ht':t≤4000) (g:Bool) (hgx:decide (x<0)=g) (hgy:decide (y<0)=g) :
  Calls Tryz.prog 70 #[pt p,pt q,pt r] w fun e w'=>e = .returned (pt p)∧St F w' (L.set i (p,ofI (x+y)))∧Keep (fun b=>¬F b) w w':=by
 obtain⟨a,l,k,c0,c1,hn,hfin⟩:=h.op hi
 obtain⟨a',l',k',hg'⟩:=h.getI hq
 obtain⟨a2,l2,k2,hg2⟩:=h.getI hr
 have d0:=hg'.1.cell0
 have d1:=hg'.1.cell1
 have e0:=hg2.1.cell0
 have e1:=hg2.1.cell1
 have hl:=hs.len hg'.2.1 (m:=63) (by omega)
 have hl2:=ht.len hg2.2.1 (m:=63) (by omega)
 have mz:=hn.buf.dr.dr
 have mx:=hg'.2.1.dr.dr
 have my:=hg2.2.1.dr.dr
 have nx:=hg'.2.1
 have ny:=hg2.2.1
 clear hg' hg2 hn
 rw [hgx] at d0
 rw [hgy] at e0
 have HGX:Hid _:=hgx
 have HGY:Hid _:=hgy
 clear hgx hgy
 have tg:(g==g)=true:=by cases g<;>rfl
 have HF2:Hid (∀b,b=(decide (0<x.natAbs+y.natAbs)&&g)→(x+y).natAbs=x.natAbs+y.natAbs∧b=decide (x+y<0)):=by
  rintro b rfl
  have h1:=oo HGX
  have h2:=oo HGY
  cases g
  ·simp only [decide_eq_false_iff_not] at h1 h2
   refine⟨by omega,?_⟩
   rw [Bool.and_false];symm;rw [decide_eq_false_iff_not];omega
  ·simp only [decide_eq_true_eq] at h1 h2
   refine⟨by omega,?_⟩
   rw [Bool.and_true,decide_eq_decide];omega
 go_enter Tryz.func70,Tryz.ntmps70
 go_wp2_with fail
 go_region
 go_wp2_with fail
 refine AnyG_start (fun w'=>w'.cell? ⟨p,1,none⟩=some (.slice a l k)∧w'.cell? ⟨q,1,none⟩=some (.slice a' l' k')∧w'.cell? ⟨r,1,none⟩=some (.slice a2 l2 k2)) 13 (by kernel_rfl) ?_
 have HS:(fun w':World=>w'.cell? ⟨p,1,none⟩=some (.slice a l k)∧w'.cell? ⟨q,1,none⟩=some (.slice a' l' k')∧w'.cell? ⟨r,1,none⟩=some (.slice a2 l2 k2)) w.drew:=⟨c1,d1,e1⟩
 refine AG 0 HS ?_
 refine AG 1 HS ?_
 refine AG 2 HS ?_
 refine AG 3 HS ?_
 refine AG 4 HS ?_
 refine AG 5 HS ?_
 refine AG 6 HS ?_
 refine AG 7 HS ?_
 refine AG 8 HS ?_
 refine AG 9 HS ?_
 refine AG 10 HS ?_
 refine AG 11 HS ?_
 refine AG 12 HS ?_
 refine AnyG_one 13 rfl (by kernel_rfl) (fun K hK=>?_)
 go_simp
 refine(add_any _ a a' a2 l k l' k' l2 k2 x.natAbs y.natAbs mz mx my (by omega) (by omega)).mono ?_
 rintro e w1 ⟨a1,l1,k1,rfl,hn1,-,ho1,hk1⟩
 obtain⟨f1,f2,x3,x0,hend⟩:=hfin w1 a1 l1 k1 _ hk1.undrew.undrew hn1 ho1
 have x2:=x0 q x hq
 have x1:=x3.2
 have x4:=x0 r y hr
 have HZ:Hid _:=isNat_zero hn1
 clear hn1
 refine hK.out _ _ (.inr ⟨x1,x2.2.trans d1,x4.2.trans e1⟩) ?_
 clear hK K
 refine AnyG_one 14 rfl (by kernel_rfl) (fun K hK=>?_)
 go_simp
 refine hK.out _ _ (.inl (by kernel_rfl)) ?_
 clear hK K
 refine AnyG_one 15 rfl (by kernel_rfl) (fun K hK=>?_)
 go_simp
 refine hK.out _ _ (.inl (by kernel_rfl)) ?_
 clear hK K
 refine AnyG_one 16 rfl (by kernel_rfl) (fun K hK=>?_)
 go_simp
 refine hK.out _ _ (.inl (by kernel_rfl)) ?_
 clear hK K
 refine AnyG_done (by kernel_rfl) ?_
 rcases l1 with _ | m1
 ·have hb:x.natAbs+y.natAbs=0:=(oo HZ).1 rfl
  have HB:Hid _:=hb
  clear hb
  go_wp2_with fail
  go_ret
  have h1:=HF2.out false (by rw [oo HB];simp)
  exact⟨rfl,hend false _ h1.1 h1.2⟩
 ·have hb:0<x.natAbs+y.natAbs:=Nat.pos_of_ne_zero fun e=>absurd ((oo HZ).2 e) (by omega)
  have HB:Hid _:=hb
  clear hb
  have t1:(0:Int)<(m1:Int)+1:=by omega
  go_wp2_with fail
  go_ret
  have h1:=HF2.out (g) (by rw [decide_eq_true (oo HB)];simp)
  exact⟨rfl,hend (g) _ h1.1 h1.2⟩
theorem intAdd_ne (F:Nat→Prop) (w:World) (L:List (Nat×E)) (h:St F w L) (i p q r:Nat) (v0:E) (x y:Int) (hi:L[i]?=some (p,v0)) (hq:(q,ofI x)∈L) (hr:(r,ofI y)∈L) (s t:Nat) (hs:Sz s x) (ht:Sz t y) (hs':s≤4000) (ht':t≤4000) (g:Bool) (hgx:decide (x<0)=g) (hgy:decide (y<0) = !g) :
  Calls Tryz.prog 70 #[pt p,pt q,pt r] w fun e w'=>e = .returned (pt p)∧St F w' (L.set i (p,ofI (x+y)))∧Keep (fun b=>¬F b) w w':=by
 obtain⟨a,l,k,c0,c1,hn,hfin⟩:=h.op hi
 obtain⟨a',l',k',hg'⟩:=h.getI hq
 obtain⟨a2,l2,k2,hg2⟩:=h.getI hr
 have d0:=hg'.1.cell0
 have d1:=hg'.1.cell1
 have e0:=hg2.1.cell0
 have e1:=hg2.1.cell1
 have hl:=hs.len hg'.2.1 (m:=63) (by omega)
 have hl2:=ht.len hg2.2.1 (m:=63) (by omega)
 have mz:=hn.buf.dr.dr
 have mx:=hg'.2.1.dr.dr
 have my:=hg2.2.1.dr.dr
 have nx:=hg'.2.1
 have ny:=hg2.2.1
 clear hg' hg2 hn
 rw [hgx] at d0
 rw [hgy] at e0
 have HGX:Hid _:=hgx
 have HGY:Hid _:=hgy
 clear hgx hgy
 have tg:(g == !g)=false:=by cases g<;>rfl
 have HF2:Hid (y.natAbs≤x.natAbs→∀b,b=(decide (0<x.natAbs-y.natAbs)&&g)→(x+y).natAbs=x.natAbs-y.natAbs∧b=decide (x+y<0)):=by
  rintro hle b rfl
  have h1:=oo HGX
  have h2:=oo HGY
  cases g
  ·simp only [decide_eq_false_iff_not,Bool.not_false,decide_eq_true_eq] at h1 h2
   refine⟨by omega,?_⟩
   rw [Bool.and_false];symm;rw [decide_eq_false_iff_not];omega
  ·simp only [decide_eq_true_eq,Bool.not_true,decide_eq_false_iff_not] at h1 h2
   refine⟨by omega,?_⟩
   rw [Bool.and_true,decide_eq_decide];omega
 have HF3:Hid (x.natAbs<y.natAbs→∀b,b=(decide (0<y.natAbs-x.natAbs) && !g)→(x+y).natAbs=y.natAbs-x.natAbs∧b=decide (x+y<0)):=by
  rintro hle b rfl
  have h1:=oo HGX
  have h2:=oo HGY
  cases g
  ·simp only [decide_eq_false_iff_not,Bool.not_false,decide_eq_true_eq] at h1 h2
   refine⟨by omega,?_⟩
   rw [Bool.not_false,Bool.and_true,decide_eq_decide];omega
  ·simp only [decide_eq_true_eq,Bool.not_true,decide_eq_false_iff_not] at h1 h2
   refine⟨by omega,?_⟩
   rw [Bool.not_true,Bool.and_false];symm;rw [decide_eq_false_iff_not];omega
 have nx2:=nx.dr.dr
 have ny2:=ny.dr.dr
 clear nx ny
 go_enter Tryz.func70,Tryz.ntmps70
 go_wp2_with fail
 go_region
 go_wp2_with fail
 refine AnyG_start (fun w'=>w'.cell? ⟨q,1,none⟩=some (.slice a' l' k')∧w'.cell? ⟨r,1,none⟩=some (.slice a2 l2 k2)) 8 (by kernel_rfl) ?_
 have HS:(fun w':World=>w'.cell? ⟨q,1,none⟩=some (.slice a' l' k')∧w'.cell? ⟨r,1,none⟩=some (.slice a2 l2 k2)) w.drew:=⟨d1,e1⟩
 refine AG 0 HS ?_
 refine AG 1 HS ?_
 refine AG 2 HS ?_
 refine AG 3 HS ?_
 refine AG 4 HS ?_
 refine AG 5 HS ?_
 refine AG 6 HS ?_
 refine AG 7 HS ?_
 refine AnyG_one 8 rfl (by kernel_rfl) (fun K hK=>?_)
 go_simp
 refine(cmp_any _ a' a2 l' k' _ l2 k2 _ nx2 ny2 (by omega) (by omega)).mono ?_
 rintro e w0 ⟨rfl,hk0⟩
 have hk0':=hk0.undrew.undrew
 refine hK.out _ _ (.inr ⟨hk0'.cell d1 id,hk0'.cell e1 id⟩) ?_
 clear hK K
 refine AnyG_one 9 rfl (by kernel_rfl) (fun K hK=>?_)
 go_simp
 refine hK.out _ _ (.inr ⟨hk0'.cell d1 id,hk0'.cell e1 id⟩) ?_
 clear hK K
 refine AnyG_done (by kernel_rfl) ?_
 have c1':=hk0'.cell c1 id
 have d1':=hk0'.cell d1 id
 have e1':=hk0'.cell e1 id
 have mz':=(mz.keep hk0 (fun _ _=>id)).dr
 have mx':=(mx.keep hk0 (fun _ _=>id)).dr
 have my':=(my.keep hk0 (fun _ _=>id)).dr
 clear mz mx my nx2 ny2
 by_cases hlt:x.natAbs<y.natAbs
 ·have tc:cmpN x.natAbs y.natAbs<0:=by rw [cmpN_lt hlt];decide
  have HL:Hid _:=hlt
  clear hlt
  generalize cmpN x.natAbs y.natAbs=cv at *
  go_wp2_with fail
  refine AnyG_start (fun w'=>w'.cell? ⟨p,1,none⟩=some (.slice a l k)∧w'.cell? ⟨q,1,none⟩=some (.slice a' l' k')∧w'.cell? ⟨r,1,none⟩=some (.slice a2 l2 k2)) 13 (by kernel_rfl) ?_
  have HS:(fun w':World=>w'.cell? ⟨p,1,none⟩=some (.slice a l k)∧w'.cell? ⟨q,1,none⟩=some (.slice a' l' k')∧w'.cell? ⟨r,1,none⟩=some (.slice a2 l2 k2)) w0.drew:=⟨c1',d1',e1'⟩
  refine AG 0 HS ?_
  refine AG 1 HS ?_
  refine AG 2 HS ?_
  refine AG 3 HS ?_
  refine AG 4 HS ?_
  refine AG 5 HS ?_
  refine AG 6 HS ?_
  refine AG 7 HS ?_
  refine AG 8 HS ?_
  refine AG 9 HS ?_
  refine AG 10 HS ?_
  refine AG 11 HS ?_
  refine AG 12 HS ?_
  refine AnyG_one 13 rfl (by kernel_rfl) (fun K hK=>?_)
  go_simp
  refine(sub_any _ a a2 a' l k l2 k2 l' k' y.natAbs x.natAbs mz' my' mx' (Nat.le_of_lt HL.out) (by omega)).mono ?_
  rintro e w1 ⟨a1,l1,k1,rfl,hn1,-,ho1,hk1⟩
  have ho2:=ho1.back hk0'
  obtain⟨f1,f2,x3,x0,hend⟩:=hfin w1 a1 l1 k1 _ ((hk0'.mono fun _ _ h=>h.elim).trans hk1.undrew) hn1 ho2
  have x2:=x0 q x hq
  have x1:=x3.2
  have x4:=x0 r y hr
  have HZ:Hid _:=isNat_zero hn1
  clear hn1
  refine hK.out _ _ (.inr ⟨x1,x2.2.trans d1,x4.2.trans e1⟩) ?_
  clear hK K
  refine AnyG_one 14 rfl (by kernel_rfl) (fun K hK=>?_)
  go_simp
  refine hK.out _ _ (.inl (by kernel_rfl)) ?_
  clear hK K
  refine AnyG_one 15 rfl (by kernel_rfl) (fun K hK=>?_)
  go_simp
  refine hK.out _ _ (.inl (by kernel_rfl)) ?_
  clear hK K
  refine AnyG_one 16 rfl (by kernel_rfl) (fun K hK=>?_)
  go_simp
  refine hK.out _ _ (.inl (by kernel_rfl)) ?_
  clear hK K
  refine AnyG_done (by kernel_rfl) ?_
  rcases l1 with _ | m1
  ·have hb:y.natAbs-x.natAbs=0:=(oo HZ).1 rfl
   have HB:Hid _:=hb
   clear hb
   go_wp2_with fail
   go_ret
   have h1:=HF3.out HL.out false (by rw [oo HB];simp)
   exact⟨rfl,hend false _ h1.1 h1.2⟩
  ·have hb:0<y.natAbs-x.natAbs:=Nat.pos_of_ne_zero fun e=>absurd ((oo HZ).2 e) (by omega)
   have HB:Hid _:=hb
   clear hb
   have t1:(0:Int)<(m1:Int)+1:=by omega
   go_wp2_with fail
   go_ret
   have h1:=HF3.out HL.out (!g) (by rw [decide_eq_true (oo HB)];simp)
   exact⟨rfl,hend (!g) _ h1.1 h1.2⟩
 ·have tc:(0:Int)≤cmpN x.natAbs y.natAbs:=by
   rcases Nat.eq_or_lt_of_le (Nat.le_of_not_lt hlt) with h | h
   ·rw [cmpN_eq h.symm];decide
   ·rw [cmpN_gt h];decide
  have HL:Hid (y.natAbs≤x.natAbs):=Nat.le_of_not_lt hlt
  clear hlt
  generalize cmpN x.natAbs y.natAbs=cv at *
  go_wp2_with fail
  refine AnyG_start (fun w'=>w'.cell? ⟨p,1,none⟩=some (.slice a l k)∧w'.cell? ⟨q,1,none⟩=some (.slice a' l' k')∧w'.cell? ⟨r,1,none⟩=some (.slice a2 l2 k2)) 13 (by kernel_rfl) ?_
  have HS:(fun w':World=>w'.cell? ⟨p,1,none⟩=some (.slice a l k)∧w'.cell? ⟨q,1,none⟩=some (.slice a' l' k')∧w'.cell? ⟨r,1,none⟩=some (.slice a2 l2 k2)) w0.drew:=⟨c1',d1',e1'⟩
  refine AG 0 HS ?_
  refine AG 1 HS ?_
  refine AG 2 HS ?_
  refine AG 3 HS ?_
  refine AG 4 HS ?_
  refine AG 5 HS ?_
  refine AG 6 HS ?_
  refine AG 7 HS ?_
  refine AG 8 HS ?_
  refine AG 9 HS ?_
  refine AG 10 HS ?_
  refine AG 11 HS ?_
  refine AG 12 HS ?_
  refine AnyG_one 13 rfl (by kernel_rfl) (fun K hK=>?_)
  go_simp
  refine(sub_any _ a a' a2 l k l' k' l2 k2 x.natAbs y.natAbs mz' mx' my' HL.out (by omega)).mono ?_
  rintro e w1 ⟨a1,l1,k1,rfl,hn1,-,ho1,hk1⟩
  have ho2:=ho1.back hk0'
  obtain⟨f1,f2,x3,x0,hend⟩:=hfin w1 a1 l1 k1 _ ((hk0'.mono fun _ _ h=>h.elim).trans hk1.undrew) hn1 ho2
  have x2:=x0 q x hq
  have x1:=x3.2
  have x4:=x0 r y hr
  have HZ:Hid _:=isNat_zero hn1
  clear hn1
  refine hK.out _ _ (.inr ⟨x1,x2.2.trans d1,x4.2.trans e1⟩) ?_
  clear hK K
  refine AnyG_one 14 rfl (by kernel_rfl) (fun K hK=>?_)
  go_simp
  refine hK.out _ _ (.inl (by kernel_rfl)) ?_
  clear hK K
  refine AnyG_one 15 rfl (by kernel_rfl) (fun K hK=>?_)
  go_simp
  refine hK.out _ _ (.inl (by kernel_rfl)) ?_
  clear hK K
  refine AnyG_one 16 rfl (by kernel_rfl) (fun K hK=>?_)
  go_simp
  refine hK.out _ _ (.inl (by kernel_rfl)) ?_
  clear hK K
  refine AnyG_done (by kernel_rfl) ?_
  rcases l1 with _ | m1
  ·have hb:x.natAbs-y.natAbs=0:=(oo HZ).1 rfl
   have HB:Hid _:=hb
   clear hb
   go_wp2_with fail
   go_ret
   have h1:=HF2.out HL.out false (by rw [oo HB];simp)
   exact⟨rfl,hend false _ h1.1 h1.2⟩
  ·have hb:0<x.natAbs-y.natAbs:=Nat.pos_of_ne_zero fun e=>absurd ((oo HZ).2 e) (by omega)
   have HB:Hid _:=hb
   clear hb
   have t1:(0:Int)<(m1:Int)+1:=by omega
   go_wp2_with fail
   go_ret
   have h1:=HF2.out HL.out (g) (by rw [decide_eq_true (oo HB)];simp)
   exact⟨rfl,hend (g) _ h1.1 h1.2⟩
theorem St.nz {F:Nat→Prop} {w:World} {L:List (Nat×E)} {i p:Nat} {v u:Int} (h:St F w (L.set i (p,ofI v))) (e:v=u):St F w (L.set i (p,ofI u)):=e▸h
theorem intAdd_any (F:Nat→Prop) (w:World) (L:List (Nat×E)) (h:St F w L) (i p q r:Nat) (v0:E) (x y:Int) (hi:L[i]?=some (p,v0)) (hq:(q,ofI x)∈L) (hr:(r,ofI y)∈L) (s t:Nat) [hs:Sz s x] [ht:Sz t y] (hs':s≤4000) (ht':t≤4000) :
  Calls Tryz.prog 70 #[pt p,pt q,pt r] w fun e w'=>∃v,Hid (v=x+y)∧Sz (max s t+1) v∧e = .returned (pt p)∧St F w' (L.set i (p,ofI v))∧Keep (fun b=>¬F b) w w':=by
 suffices H:Calls Tryz.prog 70 #[pt p,pt q,pt r] w (fun e w'=>e = .returned (pt p)∧St F w' (L.set i (p,ofI (x+y)))∧Keep (fun b=>¬F b) w w') from H.mono fun e w' H=>⟨x+y,rfl,hs.add ht,H⟩
 by_cases hx:x<0<;>by_cases hy:y<0
 ·exact intAdd_eq F w L h i p q r v0 x y hi hq hr s t hs ht hs' ht' true (decide_eq_true hx) (decide_eq_true hy)
 ·exact intAdd_ne F w L h i p q r v0 x y hi hq hr s t hs ht hs' ht' true (decide_eq_true hx) (decide_eq_false hy)
 ·exact intAdd_ne F w L h i p q r v0 x y hi hq hr s t hs ht hs' ht' false (decide_eq_false hx) (decide_eq_true hy)
 ·exact intAdd_eq F w L h i p q r v0 x y hi hq hr s t hs ht hs' ht' false (decide_eq_false hx) (decide_eq_false hy)
theorem intSub_eq (F:Nat→Prop) (w:World) (L:List (Nat×E)) (h:St F w L) (i p q r:Nat) (v0:E) (x y:Int) (hi:L[i]?=some (p,v0)) (hq:(q,ofI x)∈L) (hr:(r,ofI y)∈L) (s t:Nat) (hs:Sz s x) (ht:Sz t y) (hs':s≤4000) (ht':t≤4000) (g:Bool) (hgx:decide (x<0)=g) (hgy:decide (y<0) = !g) :
  Calls Tryz.prog 77 #[pt p,pt q,pt r] w fun e w'=>e = .returned (pt p)∧St F w' (L.set i (p,ofI (x-y)))∧Keep (fun b=>¬F b) w w':=by
 obtain⟨a,l,k,c0,c1,hn,hfin⟩:=h.op hi
 obtain⟨a',l',k',hg'⟩:=h.getI hq
 obtain⟨a2,l2,k2,hg2⟩:=h.getI hr
 have d0:=hg'.1.cell0
 have d1:=hg'.1.cell1
 have e0:=hg2.1.cell0
 have e1:=hg2.1.cell1
 have hl:=hs.len hg'.2.1 (m:=63) (by omega)
 have hl2:=ht.len hg2.2.1 (m:=63) (by omega)
 have mz:=hn.buf.dr.dr
 have mx:=hg'.2.1.dr.dr
 have my:=hg2.2.1.dr.dr
 have nx:=hg'.2.1
 have ny:=hg2.2.1
 clear hg' hg2 hn
 rw [hgx] at d0
 rw [hgy] at e0
 have HGX:Hid _:=hgx
 have HGY:Hid _:=hgy
 clear hgx hgy
 have tg:(g != !g)=true:=by cases g<;>rfl
 have HF2:Hid (∀b,b=(decide (0<x.natAbs+y.natAbs)&&g)→(x-y).natAbs=x.natAbs+y.natAbs∧b=decide (x-y<0)):=by
  rintro b rfl
  have h1:=oo HGX
  have h2:=oo HGY
  cases g
  ·simp only [decide_eq_false_iff_not,Bool.not_false,decide_eq_true_eq] at h1 h2
   refine⟨by omega,?_⟩
   rw [Bool.and_false];symm;rw [decide_eq_false_iff_not];omega
  ·simp only [decide_eq_true_eq,Bool.not_true,decide_eq_false_iff_not] at h1 h2
   refine⟨by omega,?_⟩
   rw [Bool.and_true,decide_eq_decide];omega
 go_enter Tryz.func77,Tryz.ntmps77
 go_wp2_with fail
 go_region
 go_wp2_with fail
 refine AnyG_start (fun w'=>w'.cell? ⟨p,1,none⟩=some (.slice a l k)∧w'.cell? ⟨q,1,none⟩=some (.slice a' l' k')∧w'.cell? ⟨r,1,none⟩=some (.slice a2 l2 k2)) 13 (by kernel_rfl) ?_
 have HS:(fun w':World=>w'.cell? ⟨p,1,none⟩=some (.slice a l k)∧w'.cell? ⟨q,1,none⟩=some (.slice a' l' k')∧w'.cell? ⟨r,1,none⟩=some (.slice a2 l2 k2)) w.drew:=⟨c1,d1,e1⟩
 refine AG 0 HS ?_
 refine AG 1 HS ?_
 refine AG 2 HS ?_
 refine AG 3 HS ?_
 refine AG 4 HS ?_
 refine AG 5 HS ?_
 refine AG 6 HS ?_
 refine AG 7 HS ?_
 refine AG 8 HS ?_
 refine AG 9 HS ?_
 refine AG 10 HS ?_
 refine AG 11 HS ?_
 refine AG 12 HS ?_
 refine AnyG_one 13 rfl (by kernel_rfl) (fun K hK=>?_)
 go_simp
 refine(add_any _ a a' a2 l k l' k' l2 k2 x.natAbs y.natAbs mz mx my (by omega) (by omega)).mono ?_
 rintro e w1 ⟨a1,l1,k1,rfl,hn1,-,ho1,hk1⟩
 obtain⟨f1,f2,x3,x0,hend⟩:=hfin w1 a1 l1 k1 _ hk1.undrew.undrew hn1 ho1
 have x2:=x0 q x hq
 have x1:=x3.2
 have x4:=x0 r y hr
 have HZ:Hid _:=isNat_zero hn1
 clear hn1
 refine hK.out _ _ (.inr ⟨x1,x2.2.trans d1,x4.2.trans e1⟩) ?_
 clear hK K
 refine AnyG_one 14 rfl (by kernel_rfl) (fun K hK=>?_)
 go_simp
 refine hK.out _ _ (.inl (by kernel_rfl)) ?_
 clear hK K
 refine AnyG_one 15 rfl (by kernel_rfl) (fun K hK=>?_)
 go_simp
 refine hK.out _ _ (.inl (by kernel_rfl)) ?_
 clear hK K
 refine AnyG_one 16 rfl (by kernel_rfl) (fun K hK=>?_)
 go_simp
 refine hK.out _ _ (.inl (by kernel_rfl)) ?_
 clear hK K
 refine AnyG_done (by kernel_rfl) ?_
 rcases l1 with _ | m1
 ·have hb:x.natAbs+y.natAbs=0:=(oo HZ).1 rfl
  have HB:Hid _:=hb
  clear hb
  go_wp2_with fail
  go_ret
  have h1:=HF2.out false (by rw [oo HB];simp)
  exact⟨rfl,hend false _ h1.1 h1.2⟩
 ·have hb:0<x.natAbs+y.natAbs:=Nat.pos_of_ne_zero fun e=>absurd ((oo HZ).2 e) (by omega)
  have HB:Hid _:=hb
  clear hb
  have t1:(0:Int)<(m1:Int)+1:=by omega
  go_wp2_with fail
  go_ret
  have h1:=HF2.out (g) (by rw [decide_eq_true (oo HB)];simp)
  exact⟨rfl,hend (g) _ h1.1 h1.2⟩
theorem intSub_ne (F:Nat→Prop) (w:World) (L:List (Nat×E)) (h:St F w L) (i p q r:Nat) (v0:E) (x y:Int) (hi:L[i]?=some (p,v0)) (hq:(q,ofI x)∈L) (hr:(r,ofI y)∈L) (s t:Nat) (hs:Sz s x) (ht:Sz t y) (hs':s≤4000) (ht':t≤4000) (g:Bool) (hgx:decide (x<0)=g) (hgy:decide (y<0)=g) :
  Calls Tryz.prog 77 #[pt p,pt q,pt r] w fun e w'=>e = .returned (pt p)∧St F w' (L.set i (p,ofI (x-y)))∧Keep (fun b=>¬F b) w w':=by
 obtain⟨a,l,k,c0,c1,hn,hfin⟩:=h.op hi
 obtain⟨a',l',k',hg'⟩:=h.getI hq
 obtain⟨a2,l2,k2,hg2⟩:=h.getI hr
 have d0:=hg'.1.cell0
 have d1:=hg'.1.cell1
 have e0:=hg2.1.cell0
 have e1:=hg2.1.cell1
 have hl:=hs.len hg'.2.1 (m:=63) (by omega)
 have hl2:=ht.len hg2.2.1 (m:=63) (by omega)
 have mz:=hn.buf.dr.dr
 have mx:=hg'.2.1.dr.dr
 have my:=hg2.2.1.dr.dr
 have nx:=hg'.2.1
 have ny:=hg2.2.1
 clear hg' hg2 hn
 rw [hgx] at d0
 rw [hgy] at e0
 have HGX:Hid _:=hgx
 have HGY:Hid _:=hgy
 clear hgx hgy
 have tg:(g != g)=false:=by cases g<;>rfl
 have HF2:Hid (y.natAbs≤x.natAbs→∀b,b=(decide (0<x.natAbs-y.natAbs)&&g)→(x-y).natAbs=x.natAbs-y.natAbs∧b=decide (x-y<0)):=by
  rintro hle b rfl
  have h1:=oo HGX
  have h2:=oo HGY
  cases g
  ·simp only [decide_eq_false_iff_not] at h1 h2
   refine⟨by omega,?_⟩
   rw [Bool.and_false];symm;rw [decide_eq_false_iff_not];omega
  ·simp only [decide_eq_true_eq] at h1 h2
   refine⟨by omega,?_⟩
   rw [Bool.and_true,decide_eq_decide];omega
 have HF3:Hid (x.natAbs<y.natAbs→∀b,b=(decide (0<y.natAbs-x.natAbs) && !g)→(x-y).natAbs=y.natAbs-x.natAbs∧b=decide (x-y<0)):=by
  rintro hle b rfl
  have h1:=oo HGX
  have h2:=oo HGY
  cases g
  ·simp only [decide_eq_false_iff_not] at h1 h2
   refine⟨by omega,?_⟩
   rw [Bool.not_false,Bool.and_true,decide_eq_decide];omega
  ·simp only [decide_eq_true_eq] at h1 h2
   refine⟨by omega,?_⟩
   rw [Bool.not_true,Bool.and_false];symm;rw [decide_eq_false_iff_not];omega
 have nx2:=nx.dr.dr
 have ny2:=ny.dr.dr
 clear nx ny
 go_enter Tryz.func77,Tryz.ntmps77
 go_wp2_with fail
 go_region
 go_wp2_with fail
 refine AnyG_start (fun w'=>w'.cell? ⟨q,1,none⟩=some (.slice a' l' k')∧w'.cell? ⟨r,1,none⟩=some (.slice a2 l2 k2)) 8 (by kernel_rfl) ?_
 have HS:(fun w':World=>w'.cell? ⟨q,1,none⟩=some (.slice a' l' k')∧w'.cell? ⟨r,1,none⟩=some (.slice a2 l2 k2)) w.drew:=⟨d1,e1⟩
 refine AG 0 HS ?_
 refine AG 1 HS ?_
 refine AG 2 HS ?_
 refine AG 3 HS ?_
 refine AG 4 HS ?_
 refine AG 5 HS ?_
 refine AG 6 HS ?_
 refine AG 7 HS ?_
 refine AnyG_one 8 rfl (by kernel_rfl) (fun K hK=>?_)
 go_simp
 refine(cmp_any _ a' a2 l' k' _ l2 k2 _ nx2 ny2 (by omega) (by omega)).mono ?_
 rintro e w0 ⟨rfl,hk0⟩
 have hk0':=hk0.undrew.undrew
 refine hK.out _ _ (.inr ⟨hk0'.cell d1 id,hk0'.cell e1 id⟩) ?_
 clear hK K
 refine AnyG_one 9 rfl (by kernel_rfl) (fun K hK=>?_)
 go_simp
 refine hK.out _ _ (.inr ⟨hk0'.cell d1 id,hk0'.cell e1 id⟩) ?_
 clear hK K
 refine AnyG_done (by kernel_rfl) ?_
 have c1':=hk0'.cell c1 id
 have d1':=hk0'.cell d1 id
 have e1':=hk0'.cell e1 id
 have mz':=(mz.keep hk0 (fun _ _=>id)).dr
 have mx':=(mx.keep hk0 (fun _ _=>id)).dr
 have my':=(my.keep hk0 (fun _ _=>id)).dr
 clear mz mx my nx2 ny2
 by_cases hlt:x.natAbs<y.natAbs
 ·have tc:cmpN x.natAbs y.natAbs<0:=by rw [cmpN_lt hlt];decide
  have HL:Hid _:=hlt
  clear hlt
  generalize cmpN x.natAbs y.natAbs=cv at *
  go_wp2_with fail
  refine AnyG_start (fun w'=>w'.cell? ⟨p,1,none⟩=some (.slice a l k)∧w'.cell? ⟨q,1,none⟩=some (.slice a' l' k')∧w'.cell? ⟨r,1,none⟩=some (.slice a2 l2 k2)) 13 (by kernel_rfl) ?_
  have HS:(fun w':World=>w'.cell? ⟨p,1,none⟩=some (.slice a l k)∧w'.cell? ⟨q,1,none⟩=some (.slice a' l' k')∧w'.cell? ⟨r,1,none⟩=some (.slice a2 l2 k2)) w0.drew:=⟨c1',d1',e1'⟩
  refine AG 0 HS ?_
  refine AG 1 HS ?_
  refine AG 2 HS ?_
  refine AG 3 HS ?_
  refine AG 4 HS ?_
  refine AG 5 HS ?_
  refine AG 6 HS ?_
  refine AG 7 HS ?_
  refine AG 8 HS ?_
  refine AG 9 HS ?_
  refine AG 10 HS ?_
  refine AG 11 HS ?_
  refine AG 12 HS ?_
  refine AnyG_one 13 rfl (by kernel_rfl) (fun K hK=>?_)
  go_simp
  refine(sub_any _ a a2 a' l k l2 k2 l' k' y.natAbs x.natAbs mz' my' mx' (Nat.le_of_lt HL.out) (by omega)).mono ?_
  rintro e w1 ⟨a1,l1,k1,rfl,hn1,-,ho1,hk1⟩
  have ho2:=ho1.back hk0'
  obtain⟨f1,f2,x3,x0,hend⟩:=hfin w1 a1 l1 k1 _ ((hk0'.mono fun _ _ h=>h.elim).trans hk1.undrew) hn1 ho2
  have x2:=x0 q x hq
  have x1:=x3.2
  have x4:=x0 r y hr
  have HZ:Hid _:=isNat_zero hn1
  clear hn1
  refine hK.out _ _ (.inr ⟨x1,x2.2.trans d1,x4.2.trans e1⟩) ?_
  clear hK K
  refine AnyG_one 14 rfl (by kernel_rfl) (fun K hK=>?_)
  go_simp
  refine hK.out _ _ (.inl (by kernel_rfl)) ?_
  clear hK K
  refine AnyG_one 15 rfl (by kernel_rfl) (fun K hK=>?_)
  go_simp
  refine hK.out _ _ (.inl (by kernel_rfl)) ?_
  clear hK K
  refine AnyG_one 16 rfl (by kernel_rfl) (fun K hK=>?_)
  go_simp
  refine hK.out _ _ (.inl (by kernel_rfl)) ?_
  clear hK K
  refine AnyG_done (by kernel_rfl) ?_
  rcases l1 with _ | m1
  ·have hb:y.natAbs-x.natAbs=0:=(oo HZ).1 rfl
   have HB:Hid _:=hb
   clear hb
   go_wp2_with fail
   go_ret
   have h1:=HF3.out HL.out false (by rw [oo HB];simp)
   exact⟨rfl,hend false _ h1.1 h1.2⟩
  ·have hb:0<y.natAbs-x.natAbs:=Nat.pos_of_ne_zero fun e=>absurd ((oo HZ).2 e) (by omega)
   have HB:Hid _:=hb
   clear hb
   have t1:(0:Int)<(m1:Int)+1:=by omega
   go_wp2_with fail
   go_ret
   have h1:=HF3.out HL.out (!g) (by rw [decide_eq_true (oo HB)];simp)
   exact⟨rfl,hend (!g) _ h1.1 h1.2⟩
 ·have tc:(0:Int)≤cmpN x.natAbs y.natAbs:=by
   rcases Nat.eq_or_lt_of_le (Nat.le_of_not_lt hlt) with h | h
   ·rw [cmpN_eq h.symm];decide
   ·rw [cmpN_gt h];decide
  have HL:Hid (y.natAbs≤x.natAbs):=Nat.le_of_not_lt hlt
  clear hlt
  generalize cmpN x.natAbs y.natAbs=cv at *
  go_wp2_with fail
  refine AnyG_start (fun w'=>w'.cell? ⟨p,1,none⟩=some (.slice a l k)∧w'.cell? ⟨q,1,none⟩=some (.slice a' l' k')∧w'.cell? ⟨r,1,none⟩=some (.slice a2 l2 k2)) 13 (by kernel_rfl) ?_
  have HS:(fun w':World=>w'.cell? ⟨p,1,none⟩=some (.slice a l k)∧w'.cell? ⟨q,1,none⟩=some (.slice a' l' k')∧w'.cell? ⟨r,1,none⟩=some (.slice a2 l2 k2)) w0.drew:=⟨c1',d1',e1'⟩
  refine AG 0 HS ?_
  refine AG 1 HS ?_
  refine AG 2 HS ?_
  refine AG 3 HS ?_
  refine AG 4 HS ?_
  refine AG 5 HS ?_
  refine AG 6 HS ?_
  refine AG 7 HS ?_
  refine AG 8 HS ?_
  refine AG 9 HS ?_
  refine AG 10 HS ?_
  refine AG 11 HS ?_
  refine AG 12 HS ?_
  refine AnyG_one 13 rfl (by kernel_rfl) (fun K hK=>?_)
  go_simp
  refine(sub_any _ a a' a2 l k l' k' l2 k2 x.natAbs y.natAbs mz' mx' my' HL.out (by omega)).mono ?_
  rintro e w1 ⟨a1,l1,k1,rfl,hn1,-,ho1,hk1⟩
  have ho2:=ho1.back hk0'
  obtain⟨f1,f2,x3,x0,hend⟩:=hfin w1 a1 l1 k1 _ ((hk0'.mono fun _ _ h=>h.elim).trans hk1.undrew) hn1 ho2
  have x2:=x0 q x hq
  have x1:=x3.2
  have x4:=x0 r y hr
  have HZ:Hid _:=isNat_zero hn1
  clear hn1
  refine hK.out _ _ (.inr ⟨x1,x2.2.trans d1,x4.2.trans e1⟩) ?_
  clear hK K
  refine AnyG_one 14 rfl (by kernel_rfl) (fun K hK=>?_)
  go_simp
  refine hK.out _ _ (.inl (by kernel_rfl)) ?_
  clear hK K
  refine AnyG_one 15 rfl (by kernel_rfl) (fun K hK=>?_)
  go_simp
  refine hK.out _ _ (.inl (by kernel_rfl)) ?_
  clear hK K
  refine AnyG_one 16 rfl (by kernel_rfl) (fun K hK=>?_)
  go_simp
  refine hK.out _ _ (.inl (by kernel_rfl)) ?_
  clear hK K
  refine AnyG_done (by kernel_rfl) ?_
  rcases l1 with _ | m1
  ·have hb:x.natAbs-y.natAbs=0:=(oo HZ).1 rfl
   have HB:Hid _:=hb
   clear hb
   go_wp2_with fail
   go_ret
   have h1:=HF2.out HL.out false (by rw [oo HB];simp)
   exact⟨rfl,hend false _ h1.1 h1.2⟩
  ·have hb:0<x.natAbs-y.natAbs:=Nat.pos_of_ne_zero fun e=>absurd ((oo HZ).2 e) (by omega)
   have HB:Hid _:=hb
   clear hb
   have t1:(0:Int)<(m1:Int)+1:=by omega
   go_wp2_with fail
   go_ret
   have h1:=HF2.out HL.out (g) (by rw [decide_eq_true (oo HB)];simp)
   exact⟨rfl,hend (g) _ h1.1 h1.2⟩
theorem intSub_any (F:Nat→Prop) (w:World) (L:List (Nat×E)) (h:St F w L) (i p q r:Nat) (v0:E) (x y:Int) (hi:L[i]?=some (p,v0)) (hq:(q,ofI x)∈L) (hr:(r,ofI y)∈L) (s t:Nat) [hs:Sz s x] [ht:Sz t y] (hs':s≤4000) (ht':t≤4000) :
  Calls Tryz.prog 77 #[pt p,pt q,pt r] w fun e w'=>∃v,Hid (v=x-y)∧Sz (max s t+1) v∧e = .returned (pt p)∧St F w' (L.set i (p,ofI v))∧Keep (fun b=>¬F b) w w':=by
 suffices H:Calls Tryz.prog 77 #[pt p,pt q,pt r] w (fun e w'=>e = .returned (pt p)∧St F w' (L.set i (p,ofI (x-y)))∧Keep (fun b=>¬F b) w w') from H.mono fun e w' H=>⟨x-y,rfl,hs.sub ht,H⟩
 by_cases hx:x<0<;>by_cases hy:y<0
 ·exact intSub_ne F w L h i p q r v0 x y hi hq hr s t hs ht hs' ht' true (decide_eq_true hx) (decide_eq_true hy)
 ·exact intSub_eq F w L h i p q r v0 x y hi hq hr s t hs ht hs' ht' true (decide_eq_true hx) (decide_eq_false hy)
 ·exact intSub_eq F w L h i p q r v0 x y hi hq hr s t hs ht hs' ht' false (decide_eq_false hx) (decide_eq_true hy)
 ·exact intSub_ne F w L h i p q r v0 x y hi hq hr s t hs ht hs' ht' false (decide_eq_false hx) (decide_eq_false hy)
end Go.Proofs.YtofkehhflkdabaaGreatDoor
