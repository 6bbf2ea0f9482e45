/- A part of the proof of FnCurveOf. -/
import Derived.Test.YtofkehhflkdabaaGreatDoorP13
import Derived.Test.YtofkehhflkdabaaGreatDoorP17
import Derived.Test.YtofkehhflkdabaaGreatDoorP19
set_option maxRecDepth 100000
set_option maxHeartbeats 8000000
namespace Go.Proofs.YtofkehhflkdabaaGreatDoor
open Go Go.RowKit
theorem sqr_big (w:World) (az ax:Option Addr) (lz kz lx kx X:Nat) (hz:IsBuf w az lz kz) (hg3:w.cell? ⟨3,0,none⟩=some (.int .i64 12)) (hg4:w.cell? ⟨4,0,none⟩=some (.int .i64 80))
  (hx:IsNat w ax lx kx X) (hl0:12≤lx) (hl:lx<32) :
  Calls Tryz.prog 116 #[.slice az lz kz,.pointer none,.slice ax lx kx] w fun e w'=>
   ∃a' l' k',e = .returned (.slice a' l' k')∧IsNat w' a' l' k' (X*X)∧l'≤lx+lx∧Own w az a'∧Keep (At az) w w':=by
 have hxb:=hx.buf
 rcases hx with⟨_,h',_⟩ | ⟨bx,cx,rfl,h2,h3,h4,h5,h6⟩
 ·omega
 have t1:((lx:Int)==0)=false:=beq_eq_false_iff_ne.2 (by omega)
 have t2:((lx:Int)==1)=false:=beq_eq_false_iff_ne.2 (by omega)
 have t3:(12:Int)≤(lx:Int):=by omega
 have HX:Hid (val cx 0 lx=X):=h5
 clear h5 h6
 cases s1:sameA az (some ⟨bx,0,none⟩) with
 | true=>
  go_enter_defers Tryz.func116,Tryz.ntmps116
  go_wp2_with fail
  refine(alias_any _ az (some ⟨bx,0,none⟩) lz kz lx kx hz hxb).mono ?_
  rintro e w1 ⟨rfl,hk1⟩
  rw [s1]
  go_wp2_with fail
  rw [show (2*(lx:Int))=((2*lx:Nat):Int) from by omega]
  refine(make_any _ none 0 0 (2*lx) (.inl ⟨rfl,rfl,rfl⟩) (by omega)).mono ?_
  rintro e w2 ⟨a1,k1,rfl,hb,ho,hk2⟩
  have hk12:=hk1.trans hk2
  rcases hb with⟨_,h,_⟩ | ⟨b1,c1,rfl,hl1,hk63,hr1⟩
  ·exact absurd h (by omega)
  have hx1:=h4.keep hk12 id
  have hg32:=hk12.cell hg3 id
  have hg42:=hk12.cell hg4 id
  have nx:bx≠b1:=by
   rintro rfl
   rcases ho with h | ⟨k,h,hk⟩
   ·simp at h
   ·have:=h4.inHeap
    have h1:=hk1.size
    simp only [Option.some.injEq,Addr.mk.injEq,and_true] at h
    omega
  have hthr2:(lx:Int)<80:=by omega
  go_wp2_with fail
  refine(getStack_any _).mono ?_
  rintro e w3 ⟨p,rfl,hp,hst,hk3⟩
  have hr3:=hr1.keep hk3 id
  have hx3:=hx1.keep hk3 id
  have hg33:=hk3.cell hg32 id
  have hg43:=hk3.cell hg42 id
  have hb1:=hr1.inHeap
  have hbx:=hx1.inHeap
  go_wp2_with fail
  refine(basicSqr_any _ p 0 (·=p) hst (by omega) b1 k1 c1 bx lx kx cx hr3 hl0 hl hl1 hx3 h2 nx (by omega) (by omega) hg33 (by omega)).mono ?_
  rintro e w4 ⟨c4,B4,rfl,hr4,hv4,hs4,hB4,hk4⟩
  have HV4:Hid _:=hv4
  clear hv4
  go_wp2_with fail
  refine(norm_any _ (some ⟨b1,0,none⟩) (2*lx) k1 (X*X) (.inr ⟨b1,_,rfl,hl1,by omega,hr4,by rw [oo HV4,HX.out]⟩) (by omega)).mono ?_
  rintro e w5 ⟨l,rfl,hn5,hl5,hk5⟩
  have hs5:Stk w5 p 0 B4:=hs4.keep hk5 (fun _ _=>id)
  have hsz:=hk12.size
  have hsz3:=hk3.size
  have hB:∀k,B4 k→w2.heap.size≤k:=fun k hk=>by rcases hB4 k hk with h | h<;>omega
  go_wp2_with fail
  refine leaves_cons (f:=109) (args:=#[.pointer (some ⟨p,0,none⟩)]) (by simp) (by simp [go_sem]) ?_
  refine(free_d .returning _ p 0 B4 hs5).mono ?_
  rintro e u' w' ⟨rfl,rfl,hk'⟩
  refine⟨_,results_tmp rfl _ _ _,some ⟨b1,0,none⟩,l,k1,rfl,?_,by omega,?_,?_⟩
  ·refine hn5.keep hk' (fun b h e=>?_)
   simp only [Option.some.injEq,Addr.mk.injEq,and_true] at h
   have:=hB b e
   omega
  ·exact .inr ⟨b1,rfl,by rcases ho with h | ⟨k,h,hk⟩;simp at h;have h1:=hk1.size;simp only [Option.some.injEq,Addr.mk.injEq,and_true] at h;omega⟩
  ·have c1:Keep (·=b1) w2 w':=((hk3.mono (S':=(·=b1)) fun _ _ h=>h.elim).andThen hk4 (S:=(·=b1)) (fun _ _ h=>h) (fun k hk h=>h.elim id (fun h=>by omega))).trans (hk5.mono fun _ _ h=>h.elim) |>.andThen hk' (fun _ _ h=>h) (fun k hk h=>by have:=hB k h;omega)
   exact(hk12.own (az:=none) (by rcases ho with h | ⟨k,h,hk⟩;simp at h;exact .inr ⟨k,h,by have:=hk1.size;omega⟩) (c1.mono fun k _ e=>by rw [e];rfl)).mono (fun k _ h=>by simp [At] at h)
 | false=>
  go_enter_defers Tryz.func116,Tryz.ntmps116
  go_wp2_with fail
  refine(alias_any _ az (some ⟨bx,0,none⟩) lz kz lx kx hz hxb).mono ?_
  rintro e w1 ⟨rfl,hk1⟩
  rw [s1]
  go_wp2_with fail
  rw [show (2*(lx:Int))=((2*lx:Nat):Int) from by omega]
  refine(make_any _ az lz kz (2*lx) (hz.keep hk1 (fun _ _=>id)) (by omega)).mono ?_
  rintro e w2 ⟨a1,k1,rfl,hb,ho,hk2⟩
  have hk12:=hk1.trans hk2
  rcases hb with⟨_,h,_⟩ | ⟨b1,c1,rfl,hl1,hk63,hr1⟩
  ·exact absurd h (by omega)
  have hx1:=h4.keep hk12 id
  have hg32:=hk12.cell hg3 id
  have hg42:=hk12.cell hg4 id
  have nx:bx≠b1:=by
   rintro rfl
   rcases ho with h | ⟨k,h,hk⟩
   ·rw [← h] at s1;simp [sameA] at s1
   ·have:=h4.inHeap
    have h1:=hk1.size
    simp only [Option.some.injEq,Addr.mk.injEq,and_true] at h
    omega
  have hthr2:(lx:Int)<80:=by omega
  go_wp2_with fail
  refine(getStack_any _).mono ?_
  rintro e w3 ⟨p,rfl,hp,hst,hk3⟩
  have hr3:=hr1.keep hk3 id
  have hx3:=hx1.keep hk3 id
  have hg33:=hk3.cell hg32 id
  have hg43:=hk3.cell hg42 id
  have hb1:=hr1.inHeap
  have hbx:=hx1.inHeap
  go_wp2_with fail
  refine(basicSqr_any _ p 0 (·=p) hst (by omega) b1 k1 c1 bx lx kx cx hr3 hl0 hl hl1 hx3 h2 nx (by omega) (by omega) hg33 (by omega)).mono ?_
  rintro e w4 ⟨c4,B4,rfl,hr4,hv4,hs4,hB4,hk4⟩
  have HV4:Hid _:=hv4
  clear hv4
  go_wp2_with fail
  refine(norm_any _ (some ⟨b1,0,none⟩) (2*lx) k1 (X*X) (.inr ⟨b1,_,rfl,hl1,by omega,hr4,by rw [oo HV4,HX.out]⟩) (by omega)).mono ?_
  rintro e w5 ⟨l,rfl,hn5,hl5,hk5⟩
  have hs5:Stk w5 p 0 B4:=hs4.keep hk5 (fun _ _=>id)
  have hsz:=hk12.size
  have hsz3:=hk3.size
  have hB:∀k,B4 k→w2.heap.size≤k:=fun k hk=>by rcases hB4 k hk with h | h<;>omega
  go_wp2_with fail
  refine leaves_cons (f:=109) (args:=#[.pointer (some ⟨p,0,none⟩)]) (by simp) (by simp [go_sem]) ?_
  refine(free_d .returning _ p 0 B4 hs5).mono ?_
  rintro e u' w' ⟨rfl,rfl,hk'⟩
  refine⟨_,results_tmp rfl _ _ _,some ⟨b1,0,none⟩,l,k1,rfl,?_,by omega,?_,?_⟩
  ·refine hn5.keep hk' (fun b h e=>?_)
   simp only [Option.some.injEq,Addr.mk.injEq,and_true] at h
   have:=hB b e
   omega
  ·exact ho.mono hk1.size
  ·have c1:Keep (·=b1) w2 w':=((hk3.mono (S':=(·=b1)) fun _ _ h=>h.elim).andThen hk4 (S:=(·=b1)) (fun _ _ h=>h) (fun k hk h=>h.elim id (fun h=>by omega))).trans (hk5.mono fun _ _ h=>h.elim) |>.andThen hk' (fun _ _ h=>h) (fun k hk h=>by have:=hB k h;omega)
   exact hk12.own (ho.mono hk1.size) (c1.mono fun k _ e=>by rw [e];rfl)
theorem sqr_all (w:World) (az ax:Option Addr) (lz kz lx kx X:Nat) (hz:IsBuf w az lz kz) (hg3:w.cell? ⟨3,0,none⟩=some (.int .i64 12)) (hg4:w.cell? ⟨4,0,none⟩=some (.int .i64 80))
  (hx:IsNat w ax lx kx X) (hl:lx<32) :
  Calls Tryz.prog 116 #[.slice az lz kz,.pointer none,.slice ax lx kx] w fun e w'=>
   ∃a' l' k',e = .returned (.slice a' l' k')∧IsNat w' a' l' k' (X*X)∧l'≤lx+lx∧Own w az a'∧Keep (At az) w w':=by
 by_cases h:lx<12
 ·exact sqr_any w _ az ax lz kz lx kx X hz hg3 hg4 hx h
 ·exact sqr_big w az ax lz kz lx kx X hz hg3 hg4 hx (by omega) hl
theorem nlz2:nlzN 2=62:=by decide +kernel
theorem nlz3:nlzN 3=62:=by decide +kernel
theorem exp2_any (w:World) (ax ay am:Option Addr) (lx kx ky lm km X M:Nat) (hx:IsNat w ax lx kx X) (hlx:1<lx) (hlx2:lx<12) (hy:IsNat w ay 1 ky 2) (hm:IsNat w am lm km M) (hlm:1<lm) (hlm2:lm<12) (hM:0<M)
  (hg3:w.cell? ⟨3,0,none⟩=some (.int .i64 12)) (hg4:w.cell? ⟨4,0,none⟩=some (.int .i64 80)) (_hg5:w.cell? ⟨5,0,none⟩=some (.int .i64 40)) (hg6:w.cell? ⟨6,0,none⟩=some (.int .i64 40)) :
  Calls Tryz.prog 86 #[.slice none 0 0,.pointer none,.slice ax lx kx,.slice ay 1 ky,.slice am lm km,.bool false] w fun e w'=>∃a l k,e = .returned (.slice a l k)∧IsNat w' a l k (X^2%M)∧(∀b,At a b→w.heap.size≤b)∧Keep Nope w w':=by
 obtain⟨by',rfl,fy,hky,-,-⟩:=isNat_one hy
 have t1:((lm:Int)==1)=false:=beq_eq_false_iff_ne.2 (by omega)
 have t2:((lx:Int)==0)=false:=beq_eq_false_iff_ne.2 (by omega)
 have t3:((lx:Int)==1)=false:=beq_eq_false_iff_ne.2 (by omega)
 have t4:((lm:Int) != 0)=true:=by rw [bne_iff_ne];omega
 go_enter_defers Tryz.func86,Tryz.ntmps86
 go_wp2_with fail
 refine(alias_any _ none ax 0 0 lx kx (.inl ⟨rfl,rfl,rfl⟩) hx.buf).mono ?_
 rintro e w1 ⟨rfl,hk1⟩
 have s1:sameA none ax=false:=by cases ax<;>rfl
 rw [s1]
 go_wp2_with fail
 refine(alias_any _ none (some ⟨by',0,none⟩) 0 0 1 ky (.inl ⟨rfl,rfl,rfl⟩) (hy.keep hk1 (fun _ _=>id)).buf).mono ?_
 rintro e w2 ⟨rfl,hk2⟩
 have s2:sameA none (some ⟨by',0,none⟩)=false:=rfl
 rw [s2]
 have hk12:=hk1.trans hk2
 have fy2:=hk12.cell fy id
 go_wp2_with fail
 refine(getStack_any _).mono ?_
 rintro e w3 ⟨p,rfl,hp,hst,hk3⟩
 have fy3:=hk3.cell fy2 id
 have hk13:=hk12.trans hk3
 go_wp2_with fail
 refine(make_any _ none 0 0 lm (.inl ⟨rfl,rfl,rfl⟩) (by omega)).mono ?_
 rintro e w4 ⟨a1,k1,rfl,hb1,ho1,hk4⟩
 have fy4:=hk4.cell fy3 id
 have hk14:=hk13.trans hk4
 go_wp2_with fail
 refine(set_any _ a1 ax lm k1 lx kx X hb1 (hx.keep hk14 (fun _ _=>id)) (by omega)).mono ?_
 rintro e w5 ⟨a2,l2,k2,rfl,hn2,rfl,ho2,hk5⟩
 have ho1':Own w none a1:=ho1.mono hk13.size
 have hk15:Keep Nope w w5:=(hk14.own ho1' hk5).mono fun k _ h=>by simp [At] at h
 have fy5:=hk15.cell fy id
 go_wp2_with (go_at_call 115;refine(nlz_any 2 (by rw [W64];omega) _).mono ?_;rintro e w' ⟨rfl,rfl⟩;rw [nlz2])
 have nwp:∀(az:Option Addr) (w0:World),Own w0 none az→w3.heap.size≤w0.heap.size→∀b,At az b→p<b:=by
  intro az w0 ho hs b hb
  rcases ho with rfl | ⟨k,rfl,hk⟩
  ·simp [At] at hb
  ·simp only [At,Option.some.injEq,Addr.mk.injEq,and_true] at hb
   have:=hst.in p rfl
   omega
 go_loopw [0,15,17,19,20,21] (fun s0 s15 s17 s19 s20 s21 wr=>∃(j v:Nat),s15 = .int .u64 (v:Int)∧s21 = .int .i64 (j:Int) ∧
  ((j=0∧v=0∧s0 = .slice a2 l2 k2∧s17 = .slice none 0 0∧s19 = .slice none 0 0∧s20 = .slice none 0 0∧wr=w5) ∨
     (j=1∧∃a l k B,s0 = .slice a l k∧Hid (IsNat wr a l k (X^2%M))∧Hid (∀b,At a b→w.heap.size≤b∧¬B b)∧l<900∧Hid (Stk wr p 0 B)∧Hid (∀b,B b→w.heap.size≤b)∧Hid (Keep Nope w wr)))) (fun _ _ _ _ _ s21 _=>1-(intOf s21).toNat)
 case atStart=>exact⟨0,0,rfl,rfl,.inl ⟨rfl,rfl,rfl,rfl,rfl,rfl,rfl⟩⟩
 case round=>
  obtain⟨j,v,rfl,rfl,⟨rfl,rfl,rfl,rfl,rfl,rfl,rfl⟩ | ⟨rfl,a,l,k,B,rfl,HN,HA,hl,HS,HB,HK⟩⟩:=hrel
  ·have hst5:Stk wr p 0 (·=p):=(hst.keep hk4 (fun _ _=>id)).keep hk5 (fun b e h=>by have:=nwp a1 w3 ho1 (Nat.le_refl _) b h;omega)
   go_wp2_with fail
   refine(sqr_any wr (.pointer (some ⟨p,0,none⟩)) none a2 0 0 _ k2 X (.inl ⟨rfl,rfl,rfl⟩) (hk15.cell hg3 id) (hk15.cell hg4 id) hn2 (by omega)).mono ?_
   rintro e w6 ⟨a3,l3,k3,rfl,hn3,hl3,ho3,hk6⟩
   have hk6':Keep Nope wr w6:=hk6.mono fun k _ h=>by simp [At] at h
   have hk16:=hk15.trans hk6'
   have hst6:=hst5.keep hk6' (fun _ _=>id)
   go_wp2_with fail
   have hm6:=hm.keep hk16 (fun _ _=>id)
   have h6:6<w.heap.size:=World.block_lt_of_cell? w _ hg6
   have hpw:w.heap.size≤p:=by have:=hk12.size;omega
   have np2:∀b,At a2 b→¬b=p:=fun b hb e=>by
    rcases ho2 with h | ⟨k,h,hk⟩
    ·have:=nwp a1 w3 ho1 (Nat.le_refl _) b (h▸hb);omega
    ·simp only [At,h,Option.some.injEq,Addr.mk.injEq,and_true] at hb
     have:=hst.in p rfl
     have:=hk4.size
     omega
   have np3:∀b,At a3 b→¬b=p:=fun b hb e=>by
    have:=nwp a3 wr ho3 (by have:=hk4.size;have:=hk5.size;omega) b hb
    omega
   have npm:∀b,At am b→¬b=p:=fun b hb e=>by
    have:=hm.has b hb;omega
   have na2:∀b,At a2 b→w.heap.size≤b:=fun b hb=>by
    rcases ho2 with h | ⟨k,h,hk⟩
    ·have:=nwp a1 w3 ho1 (Nat.le_refl _) b (h▸hb);omega
    ·simp only [At,h,Option.some.injEq,Addr.mk.injEq,and_true] at hb
     have:=hk14.size
     omega
   refine(div_stk w6 p 0 (·=p) hst6 (by omega) a2 none a3 am _ k2 0 0 l3 k3 lm km (X*X) M (hn2.buf.keep hk6' (fun _ _=>id)) (.inl ⟨rfl,rfl,rfl⟩) hn3 hm6 (by omega) (by omega) hM (fun k _ h=>by simp [At] at h) (hk16.cell hg6 id) (by omega) np2 (fun b h=>by simp [At] at h) np3 npm).mono ?_
   rintro e w7 ⟨B7,aq,lq,kq,ar,lr,kr,rfl,hq7,hr7,hoq,hor,hk7,hne7,hst7,hB7,hBq⟩
   have hk17:Keep Nope w w7:=hk16.andThen hk7 (S:=Nope) (fun _ _ h=>h) (fun b hb h=>by
    rcases h with h | h | h
    ·have:=na2 b h;omega
    ·simp [At] at h
    ·omega)
   have HN7:Hid (IsNat w7 ar lr kr (X^2%M)):=by rw [Nat.pow_two];exact hr7
   have HA7:Hid (∀b,At ar b→w.heap.size≤b∧¬B7 b):=fun b hb=>⟨by
    rcases hor with h | ⟨k,h,hk⟩
    ·rw [h] at hb;simp [At] at hb
    ·simp only [At,h,Option.some.injEq,Addr.mk.injEq,and_true] at hb
     have:=hk16.size;omega,fun h=>(hBq b h).2 hb⟩
   have HS7:Hid (Stk w7 p 0 B7):=hst7
   have HB7:Hid (∀b,B7 b→w.heap.size≤b):=fun b hb=>by
    rcases hB7 b hb with h | h
    ·omega
    ·have:=hk16.size;omega
   have hlr:lr<900:=by
    refine Nat.lt_of_le_of_lt (isNat_len (m:=lm) hr7 ?_) (by omega)
    refine Nat.lt_trans (Nat.mod_lt _ hM) ?_
    have:=hm.val.lt
    rwa [W64_eq,← Nat.pow_mul] at this
   clear hq7 hr7 hoq hor hk7 hne7 hst7 hB7 hBq na2 npm np3 np2
   go_wp2_with fail
   go_roundw
   case rel=>exact⟨1,0,by go_num,by go_num,.inr ⟨rfl,ar,lr,kr,B7,rfl,HN7,HA7,hlr,HS7,HB7,hk17⟩⟩
   case measure=>simp [intOf]
  ·go_wp2_with fail
   go_loopw [0,22] (fun s0 s22 wx=>s0 = .slice a l k∧s22 = .int .i64 (-1)∧wx=wr) (fun _ _ _=>0)
   case atStart=>exact⟨rfl,by go_num,rfl⟩
   case round=>
    obtain⟨rfl,rfl,rfl⟩:=hrel
    go_wp2_with fail
    refine(norm_any _ a l k (X^2%M) (oo HN).val (by omega)).mono ?_
    rintro e w8 ⟨l8,rfl,hn8,hl8,hk8⟩
    go_wp2_with fail
    refine leaves_cons (f:=109) (args:=#[.pointer (some ⟨p,0,none⟩)]) (by simp) (by simp [go_sem]) ?_
    refine(free_d .returning _ p 0 B ((oo HS).keep hk8 (fun _ _=>id))).mono ?_
    rintro e u' w9 ⟨rfl,rfl,hk9⟩
    refine⟨_,results_tmp rfl _ _ _,a,l8,k,rfl,hn8.keep hk9 (fun b h e=>((oo HA) b h).2 e),fun b h=>((oo HA) b h).1,?_⟩
    exact((oo HK).trans hk8).andThen hk9 (S:=Nope) (fun _ _ h=>h) (fun b hb h=>by have:=(oo HB) b h;omega)
theorem exp3_any (w:World) (ax ay am:Option Addr) (lx kx ky lm km X M:Nat) (hx:IsNat w ax lx kx X) (hlx:1<lx) (hlx2:lx<12) (hy:IsNat w ay 1 ky 3) (hm:IsNat w am lm km M) (hlm:1<lm) (hlm2:lm<12) (hM:0<M)
  (hg3:w.cell? ⟨3,0,none⟩=some (.int .i64 12)) (hg4:w.cell? ⟨4,0,none⟩=some (.int .i64 80)) (hg5:w.cell? ⟨5,0,none⟩=some (.int .i64 40)) (hg6:w.cell? ⟨6,0,none⟩=some (.int .i64 40)) :
  Calls Tryz.prog 86 #[.slice none 0 0,.pointer none,.slice ax lx kx,.slice ay 1 ky,.slice am lm km,.bool false] w fun e w'=>∃a l k,e = .returned (.slice a l k)∧IsNat w' a l k (X^3%M)∧(∀b,At a b→w.heap.size≤b)∧Keep Nope w w':=by
 obtain⟨by',rfl,fy,hky,-,-⟩:=isNat_one hy
 have t1:((lm:Int)==1)=false:=beq_eq_false_iff_ne.2 (by omega)
 have t2:((lx:Int)==0)=false:=beq_eq_false_iff_ne.2 (by omega)
 have t3:((lx:Int)==1)=false:=beq_eq_false_iff_ne.2 (by omega)
 have t4:((lm:Int) != 0)=true:=by rw [bne_iff_ne];omega
 go_enter_defers Tryz.func86,Tryz.ntmps86
 go_wp2_with fail
 refine(alias_any _ none ax 0 0 lx kx (.inl ⟨rfl,rfl,rfl⟩) hx.buf).mono ?_
 rintro e w1 ⟨rfl,hk1⟩
 have s1:sameA none ax=false:=by cases ax<;>rfl
 rw [s1]
 go_wp2_with fail
 refine(alias_any _ none (some ⟨by',0,none⟩) 0 0 1 ky (.inl ⟨rfl,rfl,rfl⟩) (hy.keep hk1 (fun _ _=>id)).buf).mono ?_
 rintro e w2 ⟨rfl,hk2⟩
 have s2:sameA none (some ⟨by',0,none⟩)=false:=rfl
 rw [s2]
 have hk12:=hk1.trans hk2
 have fy2:=hk12.cell fy id
 go_wp2_with fail
 refine(getStack_any _).mono ?_
 rintro e w3 ⟨p,rfl,hp,hst,hk3⟩
 have fy3:=hk3.cell fy2 id
 have hk13:=hk12.trans hk3
 go_wp2_with fail
 refine(make_any _ none 0 0 lm (.inl ⟨rfl,rfl,rfl⟩) (by omega)).mono ?_
 rintro e w4 ⟨a1,k1,rfl,hb1,ho1,hk4⟩
 have fy4:=hk4.cell fy3 id
 have hk14:=hk13.trans hk4
 go_wp2_with fail
 refine(set_any _ a1 ax lm k1 lx kx X hb1 (hx.keep hk14 (fun _ _=>id)) (by omega)).mono ?_
 rintro e w5 ⟨a2,l2,k2,rfl,hn2,rfl,ho2,hk5⟩
 have ho1':Own w none a1:=ho1.mono hk13.size
 have hk15:Keep Nope w w5:=(hk14.own ho1' hk5).mono fun k _ h=>by simp [At] at h
 have fy5:=hk15.cell fy id
 go_wp2_with (go_at_call 115;refine(nlz_any 3 (by rw [W64];omega) _).mono ?_;rintro e w' ⟨rfl,rfl⟩;rw [nlz3])
 have nwp:∀(az:Option Addr) (w0:World),Own w0 none az→w3.heap.size≤w0.heap.size→∀b,At az b→p<b:=by
  intro az w0 ho hs b hb
  rcases ho with rfl | ⟨k,rfl,hk⟩
  ·simp [At] at hb
  ·simp only [At,Option.some.injEq,Addr.mk.injEq,and_true] at hb
   have:=hst.in p rfl
   omega
 go_loopw [0,15,17,19,20,21] (fun s0 s15 s17 s19 s20 s21 wr=>∃(j v:Nat),s15 = .int .u64 (v:Int)∧s21 = .int .i64 (j:Int) ∧
  ((j=0∧v=9223372036854775808∧s0 = .slice a2 l2 k2∧s17 = .slice none 0 0∧s19 = .slice none 0 0∧s20 = .slice none 0 0∧wr=w5) ∨
     (j=1∧∃a l k B,s0 = .slice a l k∧Hid (IsNat wr a l k (X^3%M))∧Hid (∀b,At a b→w.heap.size≤b∧¬B b)∧l<900∧Hid (Stk wr p 0 B)∧Hid (∀b,B b→w.heap.size≤b)∧Hid (Keep Nope w wr)))) (fun _ _ _ _ _ s21 _=>1-(intOf s21).toNat)
 case atStart=>exact⟨0,9223372036854775808,rfl,rfl,.inl ⟨rfl,rfl,rfl,rfl,rfl,rfl,rfl⟩⟩
 case round=>
  obtain⟨j,v,rfl,rfl,⟨rfl,rfl,rfl,rfl,rfl,rfl,rfl⟩ | ⟨rfl,a,l,k,B,rfl,HN,HA,hl,HS,HB,HK⟩⟩:=hrel
  ·have hst5:Stk wr p 0 (·=p):=(hst.keep hk4 (fun _ _=>id)).keep hk5 (fun b e h=>by have:=nwp a1 w3 ho1 (Nat.le_refl _) b h;omega)
   go_wp2_with fail
   refine(sqr_any wr (.pointer (some ⟨p,0,none⟩)) none a2 0 0 _ k2 X (.inl ⟨rfl,rfl,rfl⟩) (hk15.cell hg3 id) (hk15.cell hg4 id) hn2 (by omega)).mono ?_
   rintro e w6 ⟨a3,l3,k3,rfl,hn3,hl3,ho3,hk6⟩
   have hk6':Keep Nope wr w6:=hk6.mono fun k _ h=>by simp [At] at h
   have hk16:=hk15.trans hk6'
   have hst6:=hst5.keep hk6' (fun _ _=>id)
   go_wp2_with fail
   have hx6:=hx.keep hk16 (fun _ _=>id)
   refine(mul_any w6 (.pointer (some ⟨p,0,none⟩)) a2 a3 ax _ k2 l3 k3 _ kx (X*X) X (hn2.buf.keep hk6' (fun _ _=>id)) (hk16.cell hg5 id) hn3 hx6 (by omega) (by omega)).mono ?_
   rintro e wm ⟨a4,l4,k4,rfl,hn4,hl4,ho4,hkm⟩
   have na2':∀b,At a2 b→w.heap.size≤b∧b≠p:=fun b hb=>by
    rcases ho2 with h | ⟨k,h,hk⟩
    ·have:=nwp a1 w3 ho1 (Nat.le_refl _) b (h▸hb)
     have:=hk12.size
     omega
    ·simp only [At,h,Option.some.injEq,Addr.mk.injEq,and_true] at hb
     have:=hk14.size
     have:=hst.in p rfl
     have:=hk4.size
     omega
   have hk1m:Keep Nope w wm:=hk16.andThen hkm (S:=Nope) (fun _ _ h=>h) (fun b hb h=>by have:=(na2' b h).1;omega)
   have hstm:Stk wm p 0 (·=p):=hst6.keep hkm (fun b e h=>(na2' b h).2 e)
   have n23:∀b,At a3 b→¬At a2 b:=fun b hb h=>by
    rcases ho3 with h' | ⟨k,h',hk⟩
    ·rw [h'] at hb;simp [At] at hb
    ·simp only [At,h',Option.some.injEq,Addr.mk.injEq,and_true] at hb
     have:=hn2.has b h
     omega
   have hn3m:=hn3.buf.keep hkm (fun b h e=>n23 b h e)
   go_wp2_with fail
   have hm6:=hm.keep hk1m (fun _ _=>id)
   have h6:6<w.heap.size:=World.block_lt_of_cell? w _ hg6
   have hpw:w.heap.size≤p:=by have:=hk12.size;omega
   have np2:∀b,At a2 b→¬b=p:=fun b hb e=>by
    rcases ho2 with h | ⟨k,h,hk⟩
    ·have:=nwp a1 w3 ho1 (Nat.le_refl _) b (h▸hb);omega
    ·simp only [At,h,Option.some.injEq,Addr.mk.injEq,and_true] at hb
     have:=hst.in p rfl
     have:=hk4.size
     omega
   have np3:∀b,At a3 b→¬b=p:=fun b hb e=>by
    have:=nwp a3 wr ho3 (by have:=hk4.size;have:=hk5.size;omega) b hb
    omega
   have np4:∀b,At a4 b→¬b=p:=fun b hb e=>by
    rcases ho4 with h | ⟨k,h,hk⟩
    ·exact np2 b (h▸hb) e
    ·simp only [At,h,Option.some.injEq,Addr.mk.injEq,and_true] at hb
     have:=hst6.in p rfl
     omega
   have na3:∀b,At a3 b→w.heap.size≤b:=fun b hb=>by
    rcases ho3 with h | ⟨k,h,hk⟩
    ·rw [h] at hb;simp [At] at hb
    ·simp only [At,h,Option.some.injEq,Addr.mk.injEq,and_true] at hb
     have:=hk15.size
     omega
   have npm:∀b,At am b→¬b=p:=fun b hb e=>by
    have:=hm.has b hb;omega
   have na2:∀b,At a2 b→w.heap.size≤b:=fun b hb=>by
    rcases ho2 with h | ⟨k,h,hk⟩
    ·have:=nwp a1 w3 ho1 (Nat.le_refl _) b (h▸hb);omega
    ·simp only [At,h,Option.some.injEq,Addr.mk.injEq,and_true] at hb
     have:=hk14.size
     omega
   refine(div_stk wm p 0 (·=p) hstm (by omega) a3 none a4 am l3 k3 0 0 l4 k4 lm km (X*X*X) M hn3m (.inl ⟨rfl,rfl,rfl⟩) hn4 hm6 (by omega) (by omega) hM (fun k _ h=>by simp [At] at h) (hk1m.cell hg6 id) (by omega) np3 (fun b h=>by simp [At] at h) np4 npm).mono ?_
   rintro e w7 ⟨B7,aq,lq,kq,ar,lr,kr,rfl,hq7,hr7,hoq,hor,hk7,hne7,hst7,hB7,hBq⟩
   have hk17:Keep Nope w w7:=hk1m.andThen hk7 (S:=Nope) (fun _ _ h=>h) (fun b hb h=>by
    rcases h with h | h | h
    ·have:=na3 b h;omega
    ·simp [At] at h
    ·omega)
   have HN7:Hid (IsNat w7 ar lr kr (X^3%M)):=by rw [show X^3=X*X*X from by rw [Nat.pow_succ,Nat.pow_two]];exact hr7
   have HA7:Hid (∀b,At ar b→w.heap.size≤b∧¬B7 b):=fun b hb=>⟨by
    rcases hor with h | ⟨k,h,hk⟩
    ·rw [h] at hb;simp [At] at hb
    ·simp only [At,h,Option.some.injEq,Addr.mk.injEq,and_true] at hb
     have:=hk1m.size;omega,fun h=>(hBq b h).2 hb⟩
   have HS7:Hid (Stk w7 p 0 B7):=hst7
   have HB7:Hid (∀b,B7 b→w.heap.size≤b):=fun b hb=>by
    rcases hB7 b hb with h | h
    ·omega
    ·have:=hk1m.size;omega
   have hlr:lr<900:=by
    refine Nat.lt_of_le_of_lt (isNat_len (m:=lm) hr7 ?_) (by omega)
    refine Nat.lt_trans (Nat.mod_lt _ hM) ?_
    have:=hm.val.lt
    rwa [W64_eq,← Nat.pow_mul] at this
   clear np4 na3 na2' n23 hq7 hr7 hoq hor hk7 hne7 hst7 hB7 hBq na2 npm np3 np2
   go_wp2_with fail
   go_roundw
   case rel=>exact⟨1,0,by go_num,by go_num,.inr ⟨rfl,ar,lr,kr,B7,rfl,HN7,HA7,hlr,HS7,HB7,hk17⟩⟩
   case measure=>simp [intOf]
  ·go_wp2_with fail
   go_loopw [0,22] (fun s0 s22 wx=>s0 = .slice a l k∧s22 = .int .i64 (-1)∧wx=wr) (fun _ _ _=>0)
   case atStart=>exact⟨rfl,by go_num,rfl⟩
   case round=>
    obtain⟨rfl,rfl,rfl⟩:=hrel
    go_wp2_with fail
    refine(norm_any _ a l k (X^3%M) (oo HN).val (by omega)).mono ?_
    rintro e w8 ⟨l8,rfl,hn8,hl8,hk8⟩
    go_wp2_with fail
    refine leaves_cons (f:=109) (args:=#[.pointer (some ⟨p,0,none⟩)]) (by simp) (by simp [go_sem]) ?_
    refine(free_d .returning _ p 0 B ((oo HS).keep hk8 (fun _ _=>id))).mono ?_
    rintro e u' w9 ⟨rfl,rfl,hk9⟩
    refine⟨_,results_tmp rfl _ _ _,a,l8,k,rfl,hn8.keep hk9 (fun b h e=>((oo HA) b h).2 e),fun b h=>((oo HA) b h).1,?_⟩
    exact((oo HK).trans hk8).andThen hk9 (S:=Nope) (fun _ _ h=>h) (fun b hb h=>by have:=(oo HB) b h;omega)
theorem mul_sqr (F:Nat→Prop) (w:World) (L:List (Nat×E)) (h:St F w L) (i p q:Nat) (v0:E) (x:Int) (hi:L[i]?=some (p,v0)) (hq:(q,ofI x)∈L) (s:Nat) (hs:Sz s x) (hs':s≤1984) :
  Calls Tryz.prog 123 #[pt p,.pointer none,pt q,pt q] w fun e w'=>e = .returned (.tuple #[])∧St F w' (L.set i (p,ofI (x*x)))∧Keep (fun b=>¬F b) w w':=by
 have hb3:=h.base.c3
 have hb4:=h.base.c4
 obtain⟨a,l,k,c0,c1,hn,hfin⟩:=h.op hi
 obtain⟨a',l',k',hg'⟩:=h.getI hq
 have hne:=eql_int_same w ⟨q,0,none⟩
 have d1:=hg'.1.cell1
 have hl:=hs.len hg'.2.1 (m:=31) (by omega)
 have m1:=hn.buf.dr
 have m2:=hg'.2.1.dr
 clear hg'
 go_enter Tryz.func123,Tryz.ntmps123
 go_wp2_with fail
 refine AnyG_start (fun w'=>w'.cell? ⟨p,1,none⟩=some (.slice a l k)∧w'.cell? ⟨q,1,none⟩=some (.slice a' l' k')) 10 (by kernel_rfl) ?_
 have HS:(fun w':World=>w'.cell? ⟨p,1,none⟩=some (.slice a l k)∧w'.cell? ⟨q,1,none⟩=some (.slice a' l' k')) w.drew:=⟨c1,d1⟩
 refine AG 0 HS ?_
 refine AG 1 HS ?_
 refine AG 2 HS ?_
 refine AG 3 HS ?_
 refine AG 4 HS ?_
 refine AG 5 HS ?_
 refine AG 6 HS ?_
 refine AG 7 HS ?_
 refine AG 8 HS ?_
 refine AG 9 HS ?_
 refine AnyG_one 10 rfl (by kernel_rfl) (fun K hK=>?_)
 go_simp
 refine(sqr_all _ a a' l k l' k' x.natAbs m1 hb3 hb4 m2 (by omega)).mono ?_
 rintro e w1 ⟨a1,l1,k1,rfl,hn1,-,ho1,hk1⟩
 obtain⟨f1,f2,x3,x0,hend⟩:=hfin w1 a1 l1 k1 _ hk1.undrew hn1 ho1
 have x2:=x0 q x hq
 have x1:=x3.2
 refine hK.out _ _ (.inr ⟨x1,x2.2.trans d1⟩) ?_
 clear hK K
 refine AnyG_one 11 rfl (by kernel_rfl) (fun K hK=>?_)
 go_simp
 refine hK.out _ _ (.inl (by kernel_rfl)) ?_
 clear hK K
 refine AnyG_one 12 rfl (by kernel_rfl) (fun K hK=>?_)
 go_simp
 refine hK.out _ _ (.inl (by kernel_rfl)) ?_
 clear hK K
 refine AnyG_one 13 rfl (by kernel_rfl) (fun K hK=>?_)
 go_simp
 refine hK.out _ _ (.inl (by kernel_rfl)) ?_
 clear hK K
 refine AnyG_done (by kernel_rfl) ?_
 go_wp2_with fail
 refine bodyPost_ret (results_none rfl _ _ _) rfl ?_
 have hnn:¬x*x<0:=by
  rcases(show 0≤x∨0≤-x by omega) with h | h
  ·have:=Int.mul_nonneg h h;omega
  ·have:=Int.mul_nonneg h h
   rw [Int.neg_mul_neg] at this;omega
 exact⟨rfl,hend false (x*x) (Int.natAbs_mul x x) (decide_eq_false hnn).symm⟩
theorem mul_mul (F:Nat→Prop) (w:World) (L:List (Nat×E)) (h:St F w L) (i p q r:Nat) (v0:E) (x y:Int) (hi:L[i]?=some (p,v0)) (hq:(q,ofI x)∈L) (hr:(r,ofI y)∈L) (hqr:q≠r) (s t:Nat) (hs:Sz s x) (ht:Sz t y) (hs':s≤2496) (ht':t≤2496) :
  Calls Tryz.prog 123 #[pt p,.pointer none,pt q,pt r] w fun e w'=>e = .returned (.tuple #[])∧St F w' (L.set i (p,ofI (x*y)))∧Keep (fun b=>¬F b) w w':=by
 have hb5:=h.base.c5
 obtain⟨a,l,k,c0,c1,hn,hfin⟩:=h.op hi
 obtain⟨a',l',k',hg'⟩:=h.getI hq
 obtain⟨a2,l2,k2,hg2⟩:=h.getI hr
 have hne:=eql_int_other w hg'.1 hg2.1 hqr
 have d1:=hg'.1.cell1
 have e1:=hg2.1.cell1
 have hl:=hs.len hg'.2.1 (m:=39) (by omega)
 have hl2:=ht.len hg2.2.1 (m:=39) (by omega)
 have mz:=hn.buf.dr
 have mx:=hg'.2.1.dr
 have my:=hg2.2.1.dr
 clear hg' hg2 hn
 obtain⟨g,hg⟩:∃g,(decide (x<0) != decide (y<0))=g:=⟨_,rfl⟩
 have HF2:Hid (∀b,b=(decide (0<x.natAbs*y.natAbs)&&g)→(x*y).natAbs=x.natAbs*y.natAbs∧b=decide (x*y<0)):=by
  rintro b rfl
  refine⟨Int.natAbs_mul x y,?_⟩
  rw [← hg]
  by_cases hx:x<0<;>by_cases hy:y<0
  ·have:=Int.mul_pos_of_neg_of_neg hx hy
   simp [hx,hy,show ¬x*y<0 by omega]
  ·by_cases hy0:y=0
   ·subst hy0;simp
   ·have:=Int.mul_neg_of_neg_of_pos hx (show 0<y by omega)
    simp [hx,hy,this,show 0<x.natAbs*y.natAbs from Nat.mul_pos (by omega) (by omega)]
  ·by_cases hx0:x=0
   ·subst hx0;simp
   ·have:=Int.mul_neg_of_pos_of_neg (show 0<x by omega) hy
    simp [hx,hy,this,show 0<x.natAbs*y.natAbs from Nat.mul_pos (by omega) (by omega)]
  ·have:=Int.mul_nonneg (show 0≤x by omega) (show 0≤y by omega)
   simp [hx,hy,show ¬x*y<0 by omega]
 go_enter Tryz.func123,Tryz.ntmps123
 go_wp2_with fail
 refine AnyG_start (fun w'=>w'.cell? ⟨p,1,none⟩=some (.slice a l k)∧w'.cell? ⟨q,1,none⟩=some (.slice a' l' k')∧w'.cell? ⟨r,1,none⟩=some (.slice a2 l2 k2)) 14 (by kernel_rfl) ?_
 have HS:(fun w':World=>w'.cell? ⟨p,1,none⟩=some (.slice a l k)∧w'.cell? ⟨q,1,none⟩=some (.slice a' l' k')∧w'.cell? ⟨r,1,none⟩=some (.slice a2 l2 k2)) w.drew:=⟨c1,d1,e1⟩
 refine AG 0 HS ?_
 refine AG 1 HS ?_
 refine AG 2 HS ?_
 refine AG 3 HS ?_
 refine AG 4 HS ?_
 refine AG 5 HS ?_
 refine AG 6 HS ?_
 refine AG 7 HS ?_
 refine AG 8 HS ?_
 refine AG 9 HS ?_
 refine AG 10 HS ?_
 refine AG 11 HS ?_
 refine AG 12 HS ?_
 refine AG 13 HS ?_
 refine AnyG_one 14 rfl (by kernel_rfl) (fun K hK=>?_)
 go_simp
 refine(mul_any _ (.pointer none) a a' a2 l k l' k' l2 k2 x.natAbs y.natAbs mz hb5 mx my (by omega) (by omega)).mono ?_
 rintro e w1 ⟨a1,l1,k1,rfl,hn1,-,ho1,hk1⟩
 obtain⟨f1,f2,x3,x0,hend⟩:=hfin w1 a1 l1 k1 _ hk1.undrew hn1 ho1
 have x2:=x0 q x hq
 have x1:=x3.2
 have x4:=x0 r y hr
 have HZ:Hid _:=isNat_zero hn1
 clear hn1
 refine hK.out _ _ (.inr ⟨x1,x2.2.trans d1,x4.2.trans e1⟩) ?_
 clear hK K
 refine AnyG_one 15 rfl (by kernel_rfl) (fun K hK=>?_)
 go_simp
 refine hK.out _ _ (.inl (by kernel_rfl)) ?_
 clear hK K
 refine AnyG_one 16 rfl (by kernel_rfl) (fun K hK=>?_)
 go_simp
 refine hK.out _ _ (.inl (by kernel_rfl)) ?_
 clear hK K
 refine AnyG_one 17 rfl (by kernel_rfl) (fun K hK=>?_)
 go_simp
 refine hK.out _ _ (.inl (by kernel_rfl)) ?_
 clear hK K
 refine AnyG_done (by kernel_rfl) ?_
 generalize decide (x<0)=gx at *
 generalize decide (y<0)=gy at *
 clear hs ht hne mz mx my
 obtain rfl:g=(!(gx==gy)):=hg.symm
 clear hg
 rcases l1 with _ | m1
 ·have hb:x.natAbs*y.natAbs=0:=(oo HZ).1 rfl
  have HB:Hid _:=hb
  clear hb
  go_wp2_with fail
  go_region
  go_wp2_with fail
  go_end0
  have h1:=HF2.out false (by rw [oo HB];simp)
  exact⟨rfl,(hend false _ h1.1 h1.2).1.drew,(hend false _ h1.1 h1.2).2.drew⟩
 ·have hb:0<x.natAbs*y.natAbs:=Nat.pos_of_ne_zero fun e=>absurd ((oo HZ).2 e) (by omega)
  have HB:Hid _:=hb
  clear hb
  have t1:(0:Int)<(m1:Int)+1:=by omega
  go_wp2_with fail
  go_region
  go_wp2_with fail
  go_end0
  have h1:=HF2.out (!(gx==gy)) (by rw [decide_eq_true (oo HB)];simp)
  exact⟨rfl,(hend (!(gx==gy)) _ h1.1 h1.2).1.drew,(hend (!(gx==gy)) _ h1.1 h1.2).2.drew⟩
theorem intMul_any (F:Nat→Prop) (w:World) (L:List (Nat×E)) (h:St F w L) (i p q r:Nat) (v0:E) (x y:Int) (hi:L[i]?=some (p,v0)) (hq:(q,ofI x)∈L) (hr:(r,ofI y)∈L) (s t:Nat) [hs:Sz s x] [ht:Sz t y] (hs':s≤1984) (ht':t≤2496) :
  Calls Tryz.prog 100 #[pt p,pt q,pt r] w fun e w'=>∃v,Hid (v=x*y)∧Sz (s+t) v∧e = .returned (pt p)∧St F w' (L.set i (p,ofI v))∧Keep (fun b=>¬F b) w w':=by
 have hsz:Sz (s+t) (x*y):=hs.mul ht
 have H:Calls Tryz.prog 123 #[pt p,.pointer none,pt q,pt r] w fun e w'=>e = .returned (.tuple #[])∧St F w' (L.set i (p,ofI (x*y)))∧Keep (fun b=>¬F b) w w':=by
  by_cases e:q=r
  ·subst e
   obtain rfl:=ofI_inj (h.same hq hr)
   exact mul_sqr F w L h i p q v0 x hi hq s hs hs'
  ·exact mul_mul F w L h i p q r v0 x y hi hq hr e s t hs ht (by omega) ht'
 go_enter Tryz.func100,Tryz.ntmps100
 go_wp2_with fail
 refine H.mono ?_
 rintro e w1 ⟨rfl,h1,h2⟩
 go_wp2_with fail
 go_ret
 exact⟨x*y,rfl,hsz,rfl,h1,h2⟩
theorem intLsh_any (F:Nat→Prop) (w:World) (L:List (Nat×E)) (h:St F w L) (i p q:Nat) (v0:E) (x:Int) (hi:L[i]?=some (p,v0)) (hq:(q,ofI x)∈L) (n s:Nat) [hs:Sz s x] (hs':s≤4000) (hn0:0<n) (hn:n<64) :
  Calls Tryz.prog 212 #[pt p,pt q,.int .u64 (n:Int)] w fun e w'=>∃v,Hid (v=x*2^n)∧Sz (s+n) v∧e = .returned (pt p)∧St F w' (L.set i (p,ofI v))∧Keep (fun b=>¬F b) w w':=by
 have hsz:Sz (s+n) (x*2^n):=hs.shl
 have HV:Hid ((x*2^n).natAbs=x.natAbs*2^n∧decide (x<0)=decide (x*2^n<0)):=by
  refine⟨by rw [Int.natAbs_mul,Int.natAbs_pow];rfl,?_⟩
  have h2:(0:Int)<2^n:=Int.pow_pos (by decide)
  rw [decide_eq_decide]
  constructor
  ·intro h;exact Int.mul_neg_of_neg_of_pos h h2
  ·intro h
   refine Int.not_le.1 fun h'=>?_
   have:=Int.mul_nonneg h' (Int.le_of_lt h2)
   omega
 generalize x*2^n=v at *
 obtain⟨a,l,k,c0,c1,hn',hfin⟩:=h.op hi
 obtain⟨a',l',k',hg'⟩:=h.getI hq
 have d0:=hg'.1.cell0
 have d1:=hg'.1.cell1
 have hl:=hs.len hg'.2.1 (m:=63) (by omega)
 have m1:=hn'.buf.dr
 have m2:=hg'.2.1.dr
 clear hg'
 go_enter Tryz.func212,Tryz.ntmps212
 go_wp2_with fail
 refine AnyG_start (fun w'=>w'.cell? ⟨p,1,none⟩=some (.slice a l k)∧w'.cell? ⟨q,1,none⟩=some (.slice a' l' k')) 10 (by kernel_rfl) ?_
 have HS:(fun w':World=>w'.cell? ⟨p,1,none⟩=some (.slice a l k)∧w'.cell? ⟨q,1,none⟩=some (.slice a' l' k')) w.drew:=⟨c1,d1⟩
 refine AG 0 HS ?_
 refine AG 1 HS ?_
 refine AG 2 HS ?_
 refine AG 3 HS ?_
 refine AG 4 HS ?_
 refine AG 5 HS ?_
 refine AG 6 HS ?_
 refine AG 7 HS ?_
 refine AG 8 HS ?_
 refine AG 9 HS ?_
 refine AnyG_one 10 rfl (by kernel_rfl) (fun K hK=>?_)
 go_simp
 refine(lsh_any _ a a' l k l' k' x.natAbs n m1 m2 (by omega) hn0 hn).mono ?_
 rintro e w1 ⟨a1,l1,k1,rfl,hn1,-,ho1,hk1⟩
 obtain⟨f1,f2,x3,x0,hend⟩:=hfin w1 a1 l1 k1 _ hk1.undrew hn1 ho1
 have x2:=x0 q x hq
 have x1:=x3.2
 refine hK.out _ _ (.inr ⟨x1,x2.2.trans d1⟩) ?_
 clear hK K
 refine AnyG_one 11 rfl (by kernel_rfl) (fun K hK=>?_)
 go_simp
 refine hK.out _ _ (.inl (by kernel_rfl)) ?_
 clear hK K
 refine AnyG_one 12 rfl (by kernel_rfl) (fun K hK=>?_)
 go_simp
 refine hK.out _ _ (.inl (by kernel_rfl)) ?_
 clear hK K
 refine AnyG_one 13 rfl (by kernel_rfl) (fun K hK=>?_)
 go_simp
 refine hK.out _ _ (.inl (by kernel_rfl)) ?_
 clear hK K
 refine AnyG_done (by kernel_rfl) ?_
 generalize decide (x<0)=gx at *
 go_wp2_with fail
 go_ret
 exact⟨v,rfl,hsz,rfl,hend gx v HV.out.1 HV.out.2⟩
def cmpI (x y:Int):Int:=if x<y then -1 else if y<x then 1 else 0
theorem intCmp_any (F:Nat→Prop) (w:World) (L:List (Nat×E)) (h:St F w L) (q r:Nat) (x y:Int) (hq:(q,ofI x)∈L) (hr:(r,ofI y)∈L) (s t:Nat) [hs:Sz s x] [ht:Sz t y] (hs':s≤4000) (ht':t≤4000) :
  Calls Tryz.prog 68 #[pt q,pt r] w fun e w'=>e = .returned (.int .i64 (cmpI x y))∧Keep Nope w w':=by
 by_cases e:q=r
 ·subst e
  obtain rfl:=ofI_inj (h.same hq hr)
  have hne:=eql_int_same w ⟨q,0,none⟩
  go_enter Tryz.func68,Tryz.ntmps68
  go_wp2_with fail
  go_ret
  refine⟨?_,Keep.refl _ _⟩
  rw [cmpI,if_neg (by omega),if_neg (by omega)];rfl
 ·obtain⟨a',l',k',hg'⟩:=h.getI hq
  obtain⟨a2,l2,k2,hg2⟩:=h.getI hr
  have hne:=eql_int_other w hg'.1 hg2.1 e
  have d0:=hg'.1.cell0
  have d1:=hg'.1.cell1
  have e0:=hg2.1.cell0
  have e1:=hg2.1.cell1
  have hl:=hs.len hg'.2.1 (m:=63) (by omega)
  have hl2:=ht.len hg2.2.1 (m:=63) (by omega)
  have mx:=hg'.2.1.dr.dr
  have my:=hg2.2.1.dr.dr
  clear hg' hg2 hs ht
  have tcmp:∀u,cmpI x y=u→(decide (x<0)=decide (y<0)→u=if x<0 then -(cmpN x.natAbs y.natAbs) else cmpN x.natAbs y.natAbs)∧(x<0→¬y<0→u = -1)∧(¬x<0→y<0→u=1):=by
   rintro u rfl
   refine⟨fun hxy=>?_,fun h1 h2=>?_,fun h1 h2=>?_⟩
   ·rw [decide_eq_decide] at hxy
    unfold cmpN cmpI
    split<;>split<;>split<;>(try split)<;>omega
   ·rw [cmpI,if_pos (by omega)]
   ·rw [cmpI,if_neg (by omega),if_pos (by omega)]
  obtain⟨u,hu⟩:∃u,cmpI x y=u:=⟨_,rfl⟩
  rw [hu]
  have T:=tcmp u hu
  clear tcmp hu
  obtain⟨T1,T2,T3⟩:=T
  have HT1:Hid _:=T1
  have HT2:Hid _:=T2
  have HT3:Hid _:=T3
  clear T1 T2 T3
  by_cases hx:x<0<;>by_cases hy:y<0
  ·have gx:=decide_eq_true hx
   have gy:=decide_eq_true hy
   have HU:Hid (u = -(cmpN x.natAbs y.natAbs)):=by
    have:=HT1.out (by rw [gx,gy]);rwa [if_pos hx] at this
   rw [gx] at d0
   rw [gy] at e0
   clear gx gy hx hy
   have hcb:cmpN x.natAbs y.natAbs = -1∨cmpN x.natAbs y.natAbs=0∨cmpN x.natAbs y.natAbs=1:=by
    unfold cmpN;split<;>(try split)<;>simp
   have hC:=cmp_any (w.drew.drew) a' a2 l' k' _ l2 k2 _ mx my (by omega) (by omega)
   go_enter Tryz.func68,Tryz.ntmps68
   go_wp2_with fail
   go_region
   go_wp2_with fail
   refine AnyG_start (fun w'=>w'.cell? ⟨q,1,none⟩=some (.slice a' l' k')∧w'.cell? ⟨r,1,none⟩=some (.slice a2 l2 k2)) 8 (by kernel_rfl) ?_
   have HS:(fun w':World=>w'.cell? ⟨q,1,none⟩=some (.slice a' l' k')∧w'.cell? ⟨r,1,none⟩=some (.slice a2 l2 k2)) w.drew:=⟨d1,e1⟩
   refine AG 0 HS ?_
   refine AG 1 HS ?_
   refine AG 2 HS ?_
   refine AG 3 HS ?_
   refine AG 4 HS ?_
   refine AG 5 HS ?_
   refine AG 6 HS ?_
   refine AG 7 HS ?_
   refine AnyG_one 8 rfl (by kernel_rfl) (fun K hK=>?_)
   go_simp
   refine hC.mono ?_
   rintro e w0 ⟨rfl,hk0⟩
   have hk0':=hk0.undrew.undrew
   have z0:=hk0'.cell d0 id
   clear hC
   refine hK.out _ _ (.inr ⟨hk0'.cell d1 id,hk0'.cell e1 id⟩) ?_
   clear hK K
   refine AnyG_one 9 rfl (by kernel_rfl) (fun K hK=>?_)
   go_simp
   refine hK.out _ _ (.inr ⟨hk0'.cell d1 id,hk0'.cell e1 id⟩) ?_
   clear hK K
   refine AnyG_done (by kernel_rfl) ?_
   rcases hcb with hcb | hcb | hcb<;>rw [hcb] at HU ⊢<;>(clear hcb;go_wp2_with fail;go_ret;exact⟨by rw [HU.out];rfl,hk0'⟩)
  ·have HU:=HT2.out hx hy
   have HU:Hid _:=HU
   have gx:=decide_eq_true hx
   have gy:=decide_eq_false hy
   rw [gx] at d0
   rw [gy] at e0
   clear gx gy hx hy
   go_enter Tryz.func68,Tryz.ntmps68
   go_wp2_with fail
   go_region
   go_wp2_with fail
   go_ret
   exact⟨by rw [HU.out];rfl,(Keep.refl _ _).drew⟩
  ·have HU:=HT3.out hx hy
   have HU:Hid _:=HU
   have gx:=decide_eq_false hx
   have gy:=decide_eq_true hy
   rw [gx] at d0
   rw [gy] at e0
   clear gx gy hx hy
   go_enter Tryz.func68,Tryz.ntmps68
   go_wp2_with fail
   go_region
   go_wp2_with fail
   go_ret
   exact⟨by rw [HU.out];rfl,(Keep.refl _ _).drew⟩
  ·have gx:=decide_eq_false hx
   have gy:=decide_eq_false hy
   have HU:Hid (u=cmpN x.natAbs y.natAbs):=by
    have:=HT1.out (by rw [gx,gy]);rwa [if_neg hx] at this
   rw [gx] at d0
   rw [gy] at e0
   clear gx gy hx hy
   have hC:=cmp_any (w.drew.drew) a' a2 l' k' _ l2 k2 _ mx my (by omega) (by omega)
   go_enter Tryz.func68,Tryz.ntmps68
   go_wp2_with fail
   go_region
   go_wp2_with fail
   refine AnyG_start (fun w'=>w'.cell? ⟨q,1,none⟩=some (.slice a' l' k')∧w'.cell? ⟨r,1,none⟩=some (.slice a2 l2 k2)) 8 (by kernel_rfl) ?_
   have HS:(fun w':World=>w'.cell? ⟨q,1,none⟩=some (.slice a' l' k')∧w'.cell? ⟨r,1,none⟩=some (.slice a2 l2 k2)) w.drew:=⟨d1,e1⟩
   refine AG 0 HS ?_
   refine AG 1 HS ?_
   refine AG 2 HS ?_
   refine AG 3 HS ?_
   refine AG 4 HS ?_
   refine AG 5 HS ?_
   refine AG 6 HS ?_
   refine AG 7 HS ?_
   refine AnyG_one 8 rfl (by kernel_rfl) (fun K hK=>?_)
   go_simp
   refine hC.mono ?_
   rintro e w0 ⟨rfl,hk0⟩
   have hk0':=hk0.undrew.undrew
   have z0:=hk0'.cell d0 id
   clear hC
   refine hK.out _ _ (.inr ⟨hk0'.cell d1 id,hk0'.cell e1 id⟩) ?_
   clear hK K
   refine AnyG_one 9 rfl (by kernel_rfl) (fun K hK=>?_)
   go_simp
   refine hK.out _ _ (.inr ⟨hk0'.cell d1 id,hk0'.cell e1 id⟩) ?_
   clear hK K
   refine AnyG_done (by kernel_rfl) ?_
   go_wp2_with fail
   go_ret
   exact⟨by rw [HU.out];rfl,hk0'⟩
end Go.Proofs.YtofkehhflkdabaaGreatDoor
