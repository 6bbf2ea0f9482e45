/- A part of the proof of FnCurveOf. -/
import Derived.Test.YtofkehhflkdabaaGreatDoorP15
set_option maxRecDepth 100000
set_option maxHeartbeats 8000000
namespace Go.Proofs.YtofkehhflkdabaaGreatDoor
open Go Go.RowKit
theorem Row.noInt {w:World} {b n k:Nat} {c:Nat→Nat} {x:Int} (h:Row w b n c) (hn:0<n) (hg:w.cell? ⟨k,0,none⟩=some (.int .i64 x)):b≠k:=by
 rintro rfl
 have:=h.cell hn
 rw [hg] at this
 simp at this
theorem IsVal.in {w:World} {a:Option Addr} {len cap N b:Nat} (h:IsVal w a len cap N) (ha:a=some ⟨b,0,none⟩):b<w.heap.size:=by
 rcases h with⟨h,_⟩ | ⟨b',c,h1,_,_,h4,_⟩
 ·rw [h] at ha;simp at ha
 ·rw [h1] at ha
  simp only [Option.some.injEq,Addr.mk.injEq,and_true] at ha
  exact ha▸h4.inHeap
theorem shift_fits {c cy:Nat→Nat} {o n s r y1:Nat} (hn:0<n) (hc:∀i,i<n→cy i<W64) (h1:cy (n-1)=y1) (hs:s<64) (h3:y1*2^s<W64) (h:val c o n+r*W64^n=val cy 0 n*2^s):r=0:=by
 obtain⟨t,rfl⟩:∃t,n=t+1:=⟨n-1,by omega⟩
 simp only [Nat.add_sub_cancel] at h1
 have h2:val cy 0 (t+1)<(y1+1)*W64^t:=by
  rw [val_one,Nat.zero_add,h1,Nat.succ_mul]
  have:=val_lt (c:=cy) (o:=0) (n:=t) (fun i hi=>by rw [Nat.zero_add];exact hc i (by omega))
  omega
 have h4:(y1+1)*2^s≤W64:=by
  have e:W64=2^(64-s)*2^s:=by rw [← Nat.pow_add,W64_eq];congr 1;omega
  rw [e] at h3 ⊢
  exact Nat.mul_le_mul_right _ (Nat.lt_of_mul_lt_mul_right h3)
 have h5:val cy 0 (t+1)*2^s<W64^(t+1):=by
  have a1:val cy 0 (t+1)*2^s<(y1+1)*W64^t*2^s:=Nat.mul_lt_mul_of_pos_right h2 (Nat.pow_pos (by decide))
  have a2:(y1+1)*W64^t*2^s=(y1+1)*2^s*W64^t:=by grind
  have a3:=Nat.mul_le_mul_right (W64^t) h4
  rw [Nat.pow_succ,Nat.mul_comm (W64^t)]
  omega
 refine Nat.eq_zero_of_not_pos fun hr=>?_
 have:=Nat.mul_le_mul_right (W64^(t+1)) hr
 omega
theorem val_zeros {c:Nat→Nat} {n:Nat}:∀k,(∀i,n≤i→i<n+k→c i=0)→val c 0 (n+k)=val c 0 n
 | 0,_=>rfl
 | k+1,h=>by
  show val c 0 (n+k)+c (0+(n+k))*W64^(n+k)=_
  rw [Nat.zero_add,h (n+k) (by omega) (by omega),Nat.zero_mul,Nat.add_zero]
  exact val_zeros k fun i h1 h2=>h i h1 (by omega)
theorem top_scaled {c cy:Nat→Nat} {o n s y1 T:Nat} (hn:0<n) (hc:∀i,i<n→c (o+i)<W64) (h1:cy (n-1)=y1) (h:val c o n=val cy 0 n*2^s) (hT:T≤y1*2^s):T≤c (o+n-1):=by
 obtain⟨t,rfl⟩:∃t,n=t+1:=⟨n-1,by omega⟩
 simp only [Nat.add_sub_cancel] at h1
 rw [show o+(t+1)-1=o+t from by omega]
 have h2:=val_lt (c:=c) (o:=o) (n:=t) (fun i hi=>hc i (by omega))
 rw [val_one,val_one,Nat.zero_add,h1] at h
 have h3:y1*2^s*W64^t≤(val cy 0 t+y1*W64^t)*2^s:=by
  rw [Nat.add_mul]
  have:y1*2^s*W64^t=y1*W64^t*2^s:=by grind
  omega
 have h4:y1*2^s*W64^t<(c (o+t)+1)*W64^t:=by
  rw [Nat.succ_mul];omega
 have:=Nat.lt_of_mul_lt_mul_right h4
 omega
theorem low_scaled {c d:Nat→Nat} {m n l o X Y s:Nat} (hl:m+n=l+1) (hn:0<n) (hX:X<W64^l) (h:val c 0 (l+1)=X*2^s) (hY:W64^(n-1)≤Y) (h':val d o n=Y*2^s):val c m n<val d o n:=by
 obtain⟨t,rfl⟩:∃t,n=t+1:=⟨n-1,by omega⟩
 simp only [Nat.add_sub_cancel] at hY
 rw [← hl,val_add,Nat.zero_add] at h
 rw [h']
 obtain rfl:l=m+t:=by omega
 have h1:W64^m*val c m (t+1)<W64^m*(W64^t*2^s):=by
  have:=Nat.mul_lt_mul_of_pos_right hX (Nat.two_pow_pos s)
  rw [Nat.pow_add,Nat.mul_assoc] at this
  omega
 have h2:=Nat.lt_of_mul_lt_mul_left h1
 exact Nat.lt_of_lt_of_le h2 (Nat.mul_le_mul_right _ hY)
theorem div_scaled {X Y P q R:Nat} (hP:0<P) (h:X*P=q*(Y*P)+R) (hR:R<Y*P):q=X / Y∧R=X%Y*P:=by
 obtain⟨h1,h2⟩:=div_of h hR
 rw [Nat.mul_div_mul_right _ _ hP] at h1
 rw [Nat.mul_mod_mul_right] at h2
 exact⟨h1.symm,h2.symm⟩
theorem divLarge_any (w:World) (p L:Nat) (B:Nat→Prop) (hs:Stk w p L B) (hL:L<500) (az a2:Option Addr) (lz kz l2 k2:Nat) (hz:IsBuf w az lz kz) (h2:IsBuf w a2 l2 k2)
  (bx lx kx X:Nat) (cx:Nat→Nat) (hx:Row w bx kx cx) (hxl:lx≤kx) (eX:val cx 0 lx=X) (by' n ky Y:Nat) (cy:Nat→Nat) (hy:Row w by' ky cy) (hyl:n≤ky) (eY:val cy 0 n=Y) (htop:cy (n-1)≠0)
  (hn2:2≤n) (hn:n<40) (hnl:n≤lx) (hlx:lx<900) (hg:w.cell? ⟨6,0,none⟩=some (.int .i64 40)) (hBg:¬B 6)
  (hBz:∀b,az=some ⟨b,0,none⟩→¬B b) (hB2:∀b,a2=some ⟨b,0,none⟩→¬B b) (hBx:¬B bx) (hBy:¬B by') :
  Calls Tryz.prog 122 #[.slice az lz kz,.pointer (some ⟨p,0,none⟩),.slice a2 l2 k2,.slice (some ⟨bx,0,none⟩) lx kx,.slice (some ⟨by',0,none⟩) n ky] w fun e w'=>
   ∃aq lq kq ar lr kr B',e = .returned (.tuple #[.slice aq lq kq,.slice ar lr kr])∧IsNat w' aq lq kq (X / Y)∧IsNat w' ar lr kr (X%Y)∧Own w az aq∧Own w a2 ar∧lq≤lx∧lr≤lx+1 ∧
    Keep (fun k=>At az k∨At a2 k∨B k) w w'∧Stk w' p L B'∧(∀k,B' k→B k∨w.heap.size≤k)∧(∀k,At aq k→¬At ar k)∧(∀k,B' k→¬At aq k∧¬At ar k):=by
 have ylt:cy (n-1)<W64:=hy.lt _ (by omega)
 obtain⟨y1,hy1⟩:∃y,cy (n-1)=y:=⟨_,rfl⟩
 have fy:=hy.cell (i:=n-1) (by omega)
 rw [hy1] at fy htop ylt
 have HY1:Hid (cy (n-1)=y1):=hy1
 have EX:Hid (val cx 0 lx=X):=eX
 have EY:Hid (val cy 0 n=Y):=eY
 clear hy1 eX eY
 obtain⟨hs1,hs2,hs3⟩:=nlz_spec (x:=y1) (by omega) ylt
 have b0:((lx:Int)-(n:Int))=((lx-n:Nat):Int):=by omega
 have b1:IntKind.i64.wrap ((lx:Int)-(n:Int))=((lx-n:Nat):Int):=by rw [b0];exact IntWalk.i64_in _ (by omega)
 go_enter_defers Tryz.func122,Tryz.ntmps122
 go_wp2_with fail
 refine(save_any _ p L B hs).mono ?_
 rintro e w0 ⟨rfl,rfl⟩
 go_wp2_with fail
 refine(nlz_any y1 ylt _).mono ?_
 rintro e w0 ⟨rfl,rfl⟩
 generalize hse:nlzN y1=s at *
 go_wp2_with fail
 refine(nat_any _ p L n B hs (by omega) (by omega) (by omega)).mono ?_
 rintro e w1 ⟨bv,ov,Nv,cv,kv,L1,B1,rfl,hkv,hv,hvl,hs1',hL1,hL2,hBv,hk1,hB1,hlent,hbv⟩
 have hz1:=hz.keep hk1 hBz
 have h21:=h2.keep hk1 hB2
 have hx1:=hx.keep hk1 hBx
 have hy1:=hy.keep hk1 hBy
 go_wp2_with fail
 rw [show ((lx:Int)+1)=((lx+1:Nat):Int) from by omega]
 refine(make_any _ a2 l2 k2 (lx+1) h21 (by omega)).mono ?_
 rintro e w2 ⟨au,ku,rfl,hbu,hou,hk2⟩
 rcases hbu with⟨_,h,_⟩ | ⟨bu,cu0,rfl,hul,hku,hu⟩
 ·exact absurd h (by omega)
 have hz2:=hz1.keep hk2 (fun _ _=>id)
 have hx2:=hx1.keep hk2 id
 have hy2:=hy1.keep hk2 id
 have hv2:=hv.keep hk2 id
 have hu2:=hu
 have hs2':=hs1'.keep hk2 (fun _ _=>id)
 have hbw:=hbv
 have hvx:bx≠bv:=fun e=>by
  rcases hbw with h | h
  ·exact hBx (e▸h)
  ·have:=hx.inHeap;omega
 have hvy:by'≠bv:=fun e=>by
  rcases hbw with h | h
  ·exact hBy (e▸h)
  ·have:=hy.inHeap;omega
 have huv:bu≠bv:=fun e=>by
  rcases hou with h | ⟨k,h,hk⟩
  ·rcases hbw with h' | h'
   ·exact hB2 bu h.symm (e▸h')
   ·rcases h2 with⟨h3,_⟩ | ⟨b,c,h3,_,_,h4⟩
    ·rw [h3] at h;simp at h
    ·rw [h3] at h
     simp only [Option.some.injEq,Addr.mk.injEq,and_true] at h
     have:=h4.inHeap;omega
  ·simp only [Option.some.injEq,Addr.mk.injEq,and_true] at h
   have:=hv.inHeap;omega
 have HS2:Hid (9223372036854775808≤y1*2^s):=hs2
 have HS3:Hid (y1*2^s<W64):=hs3
 clear hs2 hs3
 go_upto_if 40 with fail
 go_cut [] from 40 to 68 (fun wx=>∃cv' cu',Row wx bv Nv cv'∧Row wx bu ku cu'∧val cv' ov n=Y*2^s∧val cu' 0 (lx+1)=X*2^s∧Keep (fun k=>k=bv∨k=bu) w2 wx)
 case first=>
  by_cases h0:s=0
  ·subst h0
   obtain⟨w3,c3,hrun3,hv3,hk3,hin3,_⟩:=run_copy_u64 83 83 3 Tryz.underlying83 (oz:=ov) (ox:=0) (dL:=n) (dK:=kv) (sL:=n) (sK:=ky) hv2 hy2 n (Nat.min_self n).symm hvl (by omega)
   have hu3:=hu.keep hk3 huv
   have hx3:=hx2.keep hk3 hvx
   obtain⟨w4,c4,hrun4,hu4,hk4,hin4,_⟩:=run_copy_u64 83 83 3 Tryz.underlying83 (oz:=0) (ox:=0) (dL:=lx) (dK:=ku) (sL:=lx) (sK:=kx) hu3 hx3 lx (Nat.min_self lx).symm (by omega) (by omega)
   have hv4:=hv3.keep hk4 (fun e=>huv e.symm)
   have fz:=hu4.cell (i:=lx) (by omega)
   have ff:=hu4.frozen lx
   have hu5:=hu4.set lx 0 W64_pos
   have hv5:=hv4.setOther (p:=⟨bu,lx,none⟩) huv (.int .u64 0)
   have hk5:Keep (fun k=>k=bv∨k=bu) w2 _:=((hk3.mono fun _ _ h=>.inl h).trans (hk4.mono fun _ _ h=>.inr h)).setCell (p:=⟨bu,lx,none⟩) (.inr rfl) (.int .u64 0)
   have H3:Hid (∀i,i<n→c3 (ov+i)=cy (0+i)):=hin3
   have H4:Hid (∀i,i<lx→c4 (0+i)=cx (0+i)):=hin4
   have q1:lx≤ku:=by omega
   clear hin3 hin4
   go_wp2_with fail
   go_meet
   refine⟨c3,upd c4 lx 0,hv5,hu5,?_,?_,hk5⟩
   ·rw [Nat.pow_zero,Nat.mul_one,← EY.out];exact val_ext H3.out
   ·rw [Nat.pow_zero,Nat.mul_one,← EX.out,val_one,Nat.zero_add,upd_same,Nat.zero_mul,Nat.add_zero,val_upd _ _ _ _ _ (by omega)]
    exact val_ext H4.out
  ·have tb:((s:Int)==0)=false:=beq_eq_false_iff_ne.2 (by omega)
   have hs0:0<s:=by omega
   have hnn:0<n:=by omega
   have hnn2:n<1000000:=by omega
   go_wp2_with fail
   refine(lshVU_any _ bv ov kv Nv cv by' 0 ky ky cy s n hv2 hy2 hvl (by omega) hnn hnn2 hs0 hs1 (fun e=>absurd e hvy)).mono ?_
   rintro e w3 ⟨r3,c3,rfl,hv3,hk3,hr3,hout3,hval3⟩
   have HV3:Hid (val c3 ov n+r3*W64^n=Y*2^s):=by rw [← EY.out];exact hval3
   clear hval3 hout3
   have hu3:=hu2.keep hk3 huv
   have hx3:=hx2.keep hk3 hvx
   have q1:lx≤ku:=by omega
   go_wp2_with fail
   refine(lshVU_any _ bu 0 ku ku cu0 bx 0 kx kx cx s lx hu3 hx3 (by omega) (by omega) (by omega) (by omega) hs0 hs1 (fun _=>.inl (Nat.le_refl _))).mono ?_
   rintro e w4 ⟨r4,c4,rfl,hu4,hk4,hr4,hout4,hval4⟩
   have HV4:Hid (val c4 0 lx+r4*W64^lx=X*2^s):=by rw [← EX.out];exact hval4
   clear hval4 hout4
   have hv4:=hv3.keep hk4 (fun e=>huv e.symm)
   have fz:=hu4.cell (i:=lx) (by omega)
   have ff:=hu4.frozen lx
   have hr4':r4<W64:=Nat.lt_trans hr4 (by rw [W64_eq];exact Nat.pow_lt_pow_right (by decide) hs1)
   have hu5:=hu4.set lx r4 hr4'
   have hv5:=hv4.setOther (p:=⟨bu,lx,none⟩) huv (.int .u64 (r4:Nat))
   have hk5:Keep (fun k=>k=bv∨k=bu) w2 _:=((hk3.mono fun _ _ h=>.inl h).trans (hk4.mono fun _ _ h=>.inr h)).setCell (p:=⟨bu,lx,none⟩) (.inr rfl) (.int .u64 (r4:Nat))
   go_wp2_with fail
   go_meet
   refine⟨c3,upd c4 lx r4,hv5,hu5,?_,?_,hk5⟩
   ·have h:=HV3.out
    have hr:=shift_fits (c:=c3) (cy:=cy) (o:=ov) (n:=n) (r:=r3) (by omega) (fun i hi=>hy.lt i (by omega)) HY1.out hs1 HS3.out (by rw [EY.out];exact h)
    rw [hr,Nat.zero_mul,Nat.add_zero] at h
    exact h
   ·rw [val_one,Nat.zero_add,upd_same,val_upd _ _ _ _ _ (by omega)];exact HV4.out
 case rest=>
  obtain⟨cv',cu',hv3,hu3,ev,eu,hk3⟩:=hcut
  have EV:Hid (val cv' ov n=Y*2^s):=ev
  have EU:Hid (val cu' 0 (lx+1)=X*2^s):=eu
  clear ev eu
  have nu:¬B1 bu:=fun h=>by
   rcases hou with h' | ⟨k,h',hk⟩
   ·rcases hB1 bu h with h3 | h3
    ·exact hB2 bu h'.symm h3
    ·rcases h2 with⟨h4,_⟩ | ⟨b,c,h4,_,_,h5⟩
     ·rw [h4] at h';simp at h'
     ·rw [h4] at h'
      simp only [Option.some.injEq,Addr.mk.injEq,and_true] at h'
      have:=h5.inHeap;omega
   ·simp only [Option.some.injEq,Addr.mk.injEq,and_true] at h'
    have:=hs1'.in bu h;omega
  have hs3:Stk wc p L1 B1:=hs2'.rowed hk3 (by
   rintro k hk (rfl | rfl)
   ·rfl
   ·exact absurd hk nu) hv2 hv3
  have hz3:IsBuf wc az lz kz:=by
   rcases hz2 with h | ⟨b,c,e1,e2,e3,e4⟩
   ·exact .inl h
   ·have hbv':b≠bv:=fun e=>by
     rcases hbw with h | h
     ·exact hBz b e1 (e▸h)
     ·rcases hz with⟨h4,_⟩ | ⟨b2,c2,h4,_,_,h5⟩
      ·rw [h4] at e1;simp at e1
      ·rw [h4] at e1
       simp only [Option.some.injEq,Addr.mk.injEq,and_true] at e1
       have:=h5.inHeap;omega
    by_cases hb:b=bu
    ·subst hb
     obtain⟨rfl,_⟩:=e4.same hu2
     exact .inr ⟨b,cu',e1,e2,e3,hu3⟩
    ·exact .inr ⟨b,c,e1,e2,e3,e4.keep hk3 (fun h=>h.elim hbv' hb)⟩
  go_wp2_with fail
  refine(alias_any _ az (some ⟨bu,0,none⟩) lz kz (lx+1) ku hz3 (.inr ⟨bu,cu',rfl,hul,hku,hu3⟩)).mono ?_
  rintro e wa ⟨rfl,hka⟩
  obtain⟨sb,hsb⟩:∃b,sameA az (some ⟨bu,0,none⟩)=b:=⟨_,rfl⟩
  rw [hsb]
  have HSB:Hid (sameA az (some ⟨bu,0,none⟩)=sb):=hsb
  clear hsb
  go_upto_if 71 with fail
  go_cut [0] from 71 to 71 (fun z wx=>∃a' l' k',z = .slice a' l' k'∧IsBuf wx a' l' k'∧a'≠some ⟨bu,0,none⟩∧(a'=az∨a'=none)∧Keep Nope wc wx)
  case first=>
   cases sb with
   | true=>
    go_wp2_with fail
    go_meet
    exact⟨none,0,0,rfl,.inl ⟨rfl,rfl,rfl⟩,by simp,.inr rfl,hka⟩
   | false=>
    go_wp2_with fail
    go_meet
    refine⟨az,lz,kz,rfl,hz3.keep hka (fun _ _=>id),?_,.inl rfl,hka⟩
    intro e
    have:=HSB.out
    rw [e] at this
    simp [sameA] at this
  case rest=>
   obtain⟨a4,l4,k4,rfl,hz4,hne4,hor4,hk4⟩:=hcut
   go_wp2_with fail
   rw [show ((lx-n:Nat):Int)+1=((lx-n+1:Nat):Int) from by omega]
   refine(make_any _ a4 l4 k4 (lx-n+1) hz4 (by omega)).mono ?_
   rintro e w5 ⟨aq,kq,rfl,hbq,hoq,hk5⟩
   rcases hbq with⟨_,h,_⟩ | ⟨bq,cq0,rfl,hql,hkq,hq⟩
   ·exact absurd h (by omega)
   have hk35:=hk3.trans ((hk4.trans hk5).mono fun _ _ h=>h.elim)
   have hv5:=(hv3.keep hk4 id).keep hk5 id
   have hu5:=(hu3.keep hk4 id).keep hk5 id
   have hs5:=(hs3.keep hk4 (fun _ _=>id)).keep hk5 (fun _ _=>id)
   have hg1:=hk1.cell hg hBg
   have hg2:=hk2.cell hg1 id
   have hg3:=hk35.cell hg2 (by
    rintro (h | h)
    ·exact hv2.noInt (by omega) hg2 h.symm
    ·exact hu2.noInt (by omega) hg2 h.symm)
   have hz0:∀b,az=some ⟨b,0,none⟩→b<w1.heap.size:=fun b e=>by
    have:=hz1
    rcases this with⟨h4,_⟩ | ⟨b2,c2,h4,_,_,h5⟩
    ·rw [h4] at e;simp at e
    ·rw [h4] at e
     simp only [Option.some.injEq,Addr.mk.injEq,and_true] at e
     exact e▸h5.inHeap
   have hn40:(n:Int)<40:=by omega
   have hsz:=hk2.size
   have hsz3:=hk3.size
   have hsz4:=hk4.size
   have hqb:(a4=some ⟨bq,0,none⟩)∨wc.heap.size≤bq:=by
    rcases hoq with h | ⟨k,h,hk⟩
    ·exact .inl h.symm
    ·simp only [Option.some.injEq,Addr.mk.injEq,and_true] at h
     exact .inr (by omega)
   have hqu:bu≠bq:=fun e=>by
    rcases hqb with h | h
    ·exact hne4 (by rw [h,e])
    ·have:=hu3.inHeap;omega
   have hqz:bq<w1.heap.size→az=some ⟨bq,0,none⟩:=fun hlt=>by
    rcases hqb with h | h
    ·rcases hor4 with h' | h'
     ·rw [← h',h]
     ·rw [h'] at h;simp at h
    ·omega
   have nq:¬B1 bq:=fun h=>by
    have h1:=hs1'.in bq h
    have h3:=hqz h1
    rcases hB1 bq h with h | h
    ·exact hBz bq h3 h
    ·rcases hz with⟨h4,_⟩ | ⟨b2,c2,h4,_,_,h5⟩
     ·rw [h4] at h3;simp at h3
     ·rw [h4] at h3
      simp only [Option.some.injEq,Addr.mk.injEq,and_true] at h3
      have:=h5.inHeap;omega
   have hqv:bq≠bv:=fun e=>by
    have h3:=hqz (e▸hv.inHeap)
    rcases hbw with h | h
    ·exact hBz bq h3 (e▸h)
    ·rcases hz with⟨h4,_⟩ | ⟨b2,c2,h4,_,_,h5⟩
     ·rw [h4] at h3;simp at h3
     ·rw [h4] at h3
      simp only [Option.some.injEq,Addr.mk.injEq,and_true] at h3
      have:=h5.inHeap;omega
   have hmn:lx+1=lx-n+1+n:=by omega
   have HTOP:9223372036854775808≤cv' (ov+n-1):=top_scaled (by omega) (fun i hi=>hv3.lt _ (by omega)) HY1.out (by rw [EY.out];exact EV.out) HS2.out
   have HSM:val cu' (lx-n+1) n<val cv' ov n:=low_scaled hmn.symm (by omega) (by rw [← EX.out];exact val_lt fun i hi=>by rw [Nat.zero_add];exact hx.lt i (by omega)) EU.out (by
    rw [← EY.out]
    obtain⟨t,ht⟩:∃t,n=t+1:=⟨n-1,by omega⟩
    rw [ht,Nat.add_sub_cancel,val_one,Nat.zero_add]
    have h1:cy t=y1:=by rw [← HY1.out,ht,Nat.add_sub_cancel]
    rw [h1]
    have:=Nat.mul_le_mul_right (W64^t) (show 1≤y1 by omega)
    omega) EV.out
   go_wp2_with fail
   refine(divBasic_any w5 p L1 B1 hs5 (by omega) bq kq (lx-n+1) cq0 hq hql bu ku n cu' hu5 (by omega) bv ov kv Nv cv' hv5 hvl hkv hqu huv hqv nu nq hBv hn2 hn (by omega) (by omega) HTOP HSM hku.2 hkq.2).mono ?_
   rintro e w6 ⟨cq6,cu6,B6,rfl,hq6,hu6,hdiv,hrem,hzero,hk6,hs6,hB6⟩
   have HM:Hid (lx+1=lx-n+1+n):=hmn
   have HDIV:Hid _:=hdiv
   have HREM:Hid _:=hrem
   have HZERO:Hid _:=hzero
   clear hmn hdiv hrem hzero
   obtain⟨qv,hqv2⟩:∃x,val cq6 0 (lx-n+1)=x:=⟨_,rfl⟩
   have HQV:Hid (val cq6 0 (lx-n+1)=qv):=hqv2
   clear hqv2
   go_wp2_with fail
   refine(norm_any _ (some ⟨bq,0,none⟩) (lx-n+1) kq qv (.inr ⟨bq,cq6,rfl,hql,hkq,hq6,HQV.out⟩) (by omega)).mono ?_
   rintro e w7 ⟨lq,rfl,hnq,hlq,hk7⟩
   have hu7:=hu6.keep hk7 id
   obtain⟨HQ,HR0⟩:=div_scaled (X:=X) (Y:=Y) (P:=2^s) (q:=qv) (R:=val cu6 0 n) (Nat.pow_pos (by decide)) (by rw [← EU.out,← EV.out,← HQV.out,HM.out];exact oo HDIV) (by rw [← EV.out];exact oo HREM)
   have HQ:Hid _:=HQ
   have HR:Hid (val cu6 0 (lx-n+1+n)=X%Y*2^s):=by
    show _=_
    rw [← HR0,Nat.add_comm]
    exact val_zeros _ fun i h1 h2=>oo HZERO i h1 (by omega)
   clear HR0
   go_upto_if 92 with fail
   go_cut [] from 92 to 96 (fun wx=>∃cr,Row wx bu ku cr∧val cr 0 (lx-n+1+n)=X%Y∧Keep (·=bu) w7 wx)
   case first=>
    by_cases h0:s=0
    ·subst h0
     go_wp2_with fail
     go_meet
     exact⟨cu6,hu7,by have:=HR.out;rw [Nat.pow_zero,Nat.mul_one] at this;exact this,Keep.refl _ _⟩
    ·have tb:((s:Int) != 0)=true:=by rw [bne_iff_ne];omega
     have hs0:0<s:=Nat.pos_of_ne_zero h0
     have hlu:0+(lx-n+1+n)≤ku:=by rw [Nat.zero_add,← HM.out];exact hul
     have hlx2:lx-n+1+n<1000000:=by omega
     clear h0 HTOP HSM b0 b1
     go_wp2_with fail
     refine(rshVU_any _ bu 0 ku ku cu6 bu 0 ku ku cu6 s (lx-n+1+n) hu7 hu7 hlu hlu (by omega) hlx2 hs0 hs1 (fun _=>.inl (Nat.le_refl _))).mono ?_
     rintro e w8 ⟨r8,c8,rfl,hu8,hk8,_,hval8⟩
     have H8:Hid _:=hval8
     clear hval8
     go_wp2_with fail
     go_meet
     exact⟨c8,hu8,by rw [oo H8,HR.out,Nat.mul_div_cancel _ (Nat.pow_pos (by decide))],hk8⟩
   case rest=>
    obtain⟨cr,hu8,hr8,hk8⟩:=hcut
    have HR8:Hid _:=hr8
    clear hr8
    have hnq8:=hnq.keep hk8 (fun b h e=>by simp only [Option.some.injEq,Addr.mk.injEq,and_true] at h;exact hqu (by omega))
    go_wp2_with fail
    refine(norm_any _ (some ⟨bu,0,none⟩) (lx-n+1+n) ku (X%Y) (.inr ⟨bu,cr,rfl,by rw [← HM.out];exact hul,hku,hu8,oo HR8⟩) (by omega)).mono ?_
    rintro e w9 ⟨lr,rfl,hnr,hlr,hk9⟩
    have n6u:¬B6 bu:=fun h=>(hB6 bu h).elim nu (fun h=>by have:=hu5.inHeap;omega)
    have n6q:¬B6 bq:=fun h=>(hB6 bq h).elim nq (fun h=>by have:=hq.inHeap;omega)
    have hs9:Stk w9 p L1 B6:=((hs6.keep hk7 (fun _ _=>id)).keep hk8 (fun b hb e=>n6u (e▸hb))).keep hk9 (fun _ _=>id)
    have hnq9:=hnq8.keep hk9 (fun _ _=>id)
    go_wp2_with fail
    refine leaves_cons (f:=129) (args:=#[.pointer (some ⟨p,0,none⟩),.int .i64 (L:Int)]) (by simp) (by simp [go_sem]) ?_
    refine(restore_d .returning _ p L1 L B6 hs9 hL1).mono ?_
    rintro e u' w' ⟨rfl,rfl,hs',hk'⟩
    have e6:∀k,B6 k→B k∨w0.heap.size≤k:=fun k hk=>by
     rcases hB6 k hk with h | h
     ·exact hB1 k h
     ·right
      have:=hk1.size
      have:=hk4.size
      have:=hk5.size
      omega
    refine⟨_,results_tmp2 rfl _ _ _,some ⟨bq,0,none⟩,lq,kq,some ⟨bu,0,none⟩,lr,ku,B6,rfl,?_,?_,?_,?_,by omega,by omega,?_,hs',e6,?_,?_⟩
    ·have:=hnq9.keep hk' (fun b h hb=>n6q (by simp only [Option.some.injEq,Addr.mk.injEq,and_true] at h;exact h▸hb))
     rwa [oo HQ] at this
    ·exact hnr.keep hk' (fun b h hb=>n6u (by simp only [Option.some.injEq,Addr.mk.injEq,and_true] at h;exact h▸hb))
    ·by_cases hlt:bq<w1.heap.size
     ·exact .inl (hqz hlt).symm
     ·exact .inr ⟨bq,rfl,by have:=hk1.size;omega⟩
    ·rcases hou with h | ⟨k,h,hk⟩
     ·exact .inl h
     ·exact .inr ⟨k,h,by have:=hk1.size;omega⟩
    ·have hsz1:=hk1.size
     have c1a:Keep (fun k=>At az k∨At a2 k∨B k) w0 w1:=hk1.mono fun _ _ h=>.inr (.inr h)
     have c1b:Keep (fun k=>At az k∨At a2 k∨B k) w0 w2:=c1a.andThen hk2 (fun _ _ h=>h) (fun _ _ h=>h.elim)
     have c1:Keep (fun k=>At az k∨At a2 k∨B k) w0 _:=c1b.andThen (C:=fun k=>k=bv∨k=bu) hk3 (fun _ _ h=>h) (by
      rintro k hk (h | h)
      ·rcases hbw with h' | h'
       ·exact .inr (.inr (h▸h'))
       ·omega
      ·rcases hou with h' | ⟨k',h',hk'⟩
       ·exact .inr (.inl (by rw [h];exact h'.symm))
       ·simp only [Option.some.injEq,Addr.mk.injEq,and_true] at h'
        omega)
     have hqS:∀k,k<w0.heap.size→k=bq→At az k:=fun k hk e=>e▸hqz (by omega)
     have huS:∀k,k<w0.heap.size→k=bu→At a2 k:=fun k hk e=>by
      rcases hou with h' | ⟨k',h',hk'⟩
      ·rw [e];exact h'.symm
      ·simp only [Option.some.injEq,Addr.mk.injEq,and_true] at h'
       omega
     have c2a:Keep (fun k=>At az k∨At a2 k∨B k) w0 _:=c1.andThen hk4 (fun _ _ h=>h) (fun _ _ h=>h.elim)
     have c2:Keep (fun k=>At az k∨At a2 k∨B k) w0 w5:=c2a.andThen hk5 (fun _ _ h=>h) (fun _ _ h=>h.elim)
     have c3:Keep (fun k=>At az k∨At a2 k∨B k) w0 w6:=c2.andThen (C:=fun k=>k=bq∨k=bu∨B1 k) hk6 (fun _ _ h=>h) (by
      rintro k hk (h | h | h)
      ·exact .inl (hqS k hk h)
      ·exact .inr (.inl (huS k hk h))
      ·rcases hB1 k h with h | h
       ·exact .inr (.inr h)
       ·omega)
     have c4:Keep (fun k=>At az k∨At a2 k∨B k) w0 w7:=c3.andThen hk7 (fun _ _ h=>h) (fun _ _ h=>h.elim)
     have c5:Keep (fun k=>At az k∨At a2 k∨B k) w0 _:=c4.andThen (C:=fun k=>k=bu) hk8 (fun _ _ h=>h) (fun k hk h=>.inr (.inl (huS k hk h)))
     have c6:Keep (fun k=>At az k∨At a2 k∨B k) w0 w9:=c5.andThen hk9 (fun _ _ h=>h) (fun _ _ h=>h.elim)
     exact c6.andThen (C:=B6) hk' (fun _ _ h=>h) (fun k hk h=>by
      rcases e6 k h with h | h
      ·exact .inr (.inr h)
      ·omega)
    ·intro k h1 h2
     simp only [At,Option.some.injEq,Addr.mk.injEq,and_true] at h1 h2
     exact hqu (h2.trans h1.symm)
    ·intro k hk
     constructor
     ·intro h1
      simp only [At,Option.some.injEq,Addr.mk.injEq,and_true] at h1
      exact n6q (h1▸hk)
     ·intro h1
      simp only [At,Option.some.injEq,Addr.mk.injEq,and_true] at h1
      exact n6u (h1▸hk)
theorem quot_one {q y r X:Nat} (h:q*y+r=X) (hr:r<y):q=X / y∧r=X%y:=by
 obtain⟨h1,h2⟩:=div_of h.symm hr
 exact⟨h1.symm,h2.symm⟩
theorem divW_any (w:World) (az ax:Option Addr) (lz kz lx kx X y:Nat) (hz:IsBuf w az lz kz) (hx:IsNat w ax lx kx X) (hl:lx<900000) (hy:y<W64) (hy0:0<y) :
  Calls Tryz.prog 121 #[.slice az lz kz,.slice ax lx kx,.int .u64 (y:Int)] w fun e w'=>
   ∃aq lq kq r,Hid (r=X%y)∧e = .returned (.tuple #[.slice aq lq kq,.int .u64 (r:Int)])∧IsNat w' aq lq kq (X / y)∧Own w az aq∧Keep (At az) w w':=by
 have t0:((y:Int)==0)=false:=beq_eq_false_iff_ne.2 (by omega)
 by_cases h1:y=1
 ·subst h1
  go_enter Tryz.func121,Tryz.ntmps121
  go_wp2_with fail
  refine(set_any _ az ax lz kz lx kx X hz hx (by omega)).mono ?_
  rintro e w1 ⟨a1,l1,k1,rfl,hn1,-,ho1,hk1⟩
  go_wp2_with fail
  go_ret2
  exact⟨a1,l1,k1,0,(Nat.mod_one X).symm,rfl,by rw [Nat.div_one];exact hn1,ho1,hk1⟩
 ·have t1:((y:Int)==1)=false:=beq_eq_false_iff_ne.2 (by omega)
  by_cases h0:lx=0
  ·subst h0
   have hX:X=0:=(by
    rcases hx with⟨_,_,_,h⟩ | ⟨b,c,_,_,_,_,h,_⟩
    ·exact h
    ·rw [← h];rfl)
   subst hX
   have hle:lz≤kz:=by rcases hz with⟨_,a,b⟩ | ⟨_,_,_,a,_⟩<;>omega
   go_enter Tryz.func121,Tryz.ntmps121
   go_wp2_with fail
   go_ret2
   refine⟨az,0,kz,0,(Nat.zero_mod y).symm,rfl,?_,.inl rfl,Keep.refl _ _⟩
   ·rw [Nat.zero_div]
    rcases hz with⟨a,b,c⟩ | ⟨b,c,a1,a2,a3,a4⟩
    ·exact .inl ⟨a,rfl,c,rfl⟩
    ·exact .inr ⟨b,c,a1,by omega,a3,a4,rfl,.inl rfl⟩
  ·rcases hx with⟨_,h,_⟩ | ⟨bx,cx,rfl,hxl,hxk,hx,hxv,hxt⟩
   ·exact absurd h h0
   ·have t2:((lx:Int)==0)=false:=beq_eq_false_iff_ne.2 (by omega)
    have HXV:Hid (val cx 0 lx=X):=hxv
    clear hxv hxt h1
    go_enter Tryz.func121,Tryz.ntmps121
    go_wp2_with fail
    refine(make_any _ az lz kz lx hz (by omega)).mono ?_
    rintro e w1 ⟨a1,k1,rfl,hb1,ho1,hk1⟩
    have hx1:=hx.keep hk1 id
    rcases hb1 with⟨_,h,_⟩ | ⟨b1,c1,rfl,hl1,hkk1,hr1⟩
    ·exact absurd h h0
    go_wp2_with fail
    have H:Calls Tryz.prog 148 #[.slice (some ⟨b1,0,none⟩) lx k1,.int .u64 0,.slice (some ⟨bx,0,none⟩) lx kx,.int .u64 (y:Int)] w1 fun e w'=>
      ∃r c',e = .returned (.int .u64 (r:Nat))∧Row w' b1 k1 c'∧Keep (·=b1) w1 w'∧r<y∧(∀i,lx≤i→c' i=c1 i)∧val c' 0 lx*y+r=val cx 0 lx:=by
     by_cases h1:lx=1
     ·subst h1
      exact divWVW_one w1 b1 k1 k1 c1 bx kx kx cx y hr1 hx1 hl1 hxl hy0 hy
     ·exact divWVW_more w1 b1 k1 k1 c1 bx kx kx cx y lx hr1 hx1 hl1 hxl (by omega) (by omega) hy0 hy
    refine H.mono ?_
    rintro e w2 ⟨r,c2,rfl,hr2,hk2,hrlt,-,hval⟩
    obtain⟨hq0,hr0⟩:=quot_one (hval.trans HXV.out) hrlt
    have HQ:Hid _:=hq0
    have HR:Hid _:=hr0
    clear hval hq0 hr0
    go_wp2_with fail
    refine(norm_any _ (some ⟨b1,0,none⟩) lx k1 (X / y) (.inr ⟨b1,c2,rfl,hl1,hkk1,hr2,HQ.out⟩) (by omega)).mono ?_
    rintro e w3 ⟨m,rfl,hn3,hm3,hk3⟩
    go_wp2_with fail
    go_ret2
    refine⟨some ⟨b1,0,none⟩,m,k1,r,HR.out,rfl,hn3,ho1,?_⟩
    ·have h2:Keep (At (some ⟨b1,0,none⟩)) w1 w2:=hk2.mono fun k _ e=>by rw [e];rfl
     exact Keep.own hk1 ho1 (h2.trans (hk3.mono fun _ _ h=>h.elim))
theorem isNat_take {w:World} {a:Option Addr} {l k:Nat} (h:IsBuf w a l k):IsNat w a 0 k 0:=by
 rcases h with⟨a,b,c⟩ | ⟨b,c,a1,a2,a3,a4⟩
 ·exact .inl ⟨a,rfl,c,rfl⟩
 ·exact .inr ⟨b,c,a1,by omega,a3,a4,rfl,.inl rfl⟩
theorem isNat_one {w:World} {a:Option Addr} {k Y:Nat} (h:IsNat w a 1 k Y):∃b,a=some ⟨b,0,none⟩∧w.cell? ⟨b,0,none⟩=some (.int .u64 (Y:Int))∧1≤k∧Y<W64∧0<Y:=by
 rcases h with⟨_,h,_⟩ | ⟨b,c,h1,h2,h3,h4,h5,h6⟩
 ·omega
 ·have e:c 0=Y:=by rw [← h5];simp [val]
  have:=h4.cell (i:=0) (by omega)
  rw [e] at this
  refine⟨b,h1,this,h2,e▸h4.lt 0 (by omega),?_⟩
  rcases h6 with h | h
  ·omega
  ·simp only [Nat.sub_self,e] at h;omega
theorem IsBuf.has {w:World} {a:Option Addr} {len cap:Nat} (h:IsBuf w a len cap) {b:Nat} (e:At a b):b<w.heap.size:=by
 rcases h with⟨h1,_⟩ | ⟨b',c,h1,_,_,h4⟩
 ·rw [At,h1] at e;simp at e
 ·rw [At,h1] at e
  simp only [Option.some.injEq,Addr.mk.injEq,and_true] at e
  exact e▸h4.inHeap
def DivPost (az a2:Option Addr) (X Y:Nat) (B:Nat→Prop) (w:World) (e:Ending) (w':World):Prop:=
 ∃aq lq kq ar lr kr,e = .returned (.tuple #[.slice aq lq kq,.slice ar lr kr])∧IsNat w' aq lq kq (X / Y)∧IsNat w' ar lr kr (X%Y)∧Own w az aq∧Own w a2 ar ∧
  Keep (fun k=>At az k∨At a2 k∨B k) w w'∧(∀k,At aq k→¬At ar k)
theorem div_nil (w:World) (az a2 ax ay:Option Addr) (lz kz l2 k2 lx kx ly ky X Y:Nat) (hz:IsBuf w az lz kz) (h2:IsBuf w a2 l2 k2) (hx:IsNat w ax lx kx X) (hy:IsNat w ay ly ky Y)
  (hlx:lx<900) (hly:ly<40) (hY:0<Y) (hne:∀k,At az k→¬At a2 k) (hg:w.cell? ⟨6,0,none⟩=some (.int .i64 40)) :
  Calls Tryz.prog 93 #[.slice az lz kz,.pointer none,.slice a2 l2 k2,.slice ax lx kx,.slice ay ly ky] w (DivPost az a2 X Y Nope w):=by
 have hly0:ly≠0:=fun e=>by
  subst e
  rcases hy with⟨_,_,_,h⟩ | ⟨b,c,_,_,_,_,h,_⟩
  ·omega
  ·rw [show val c 0 0=0 from rfl] at h;omega
 have t0:((ly:Int)==0)=false:=beq_eq_false_iff_ne.2 (by omega)
 by_cases h1:ly=1
 ·subst h1
  obtain⟨by',rfl,fy,hky,hyW,hy0⟩:=isNat_one hy
  go_enter_defers Tryz.func93,Tryz.ntmps93
  go_wp2_with fail
  refine(divW_any _ az ax lz kz lx kx X Y hz hx (by omega) hyW hy0).mono ?_
  rintro e w1 ⟨aq,lq,kq,r,HR,rfl,hq1,ho1,hk1⟩
  have h21:=h2.keep hk1 (fun b e h=>hne b h e)
  have hrW:r<W64:=by rw [HR.out];exact Nat.lt_trans (Nat.mod_lt _ hy0) hyW
  have hne1:∀k,At aq k→¬At a2 k:=fun k hk hk'=>by
   rcases ho1 with h | ⟨k2,h,hk2⟩
   ·exact hne k (h▸hk) hk'
   ·have:=h2.has hk'
    simp only [At,h,Option.some.injEq,Addr.mk.injEq,and_true] at hk
    omega
  go_wp2_with fail
  refine(setWord_any _ a2 l2 k2 r h21 hrW).mono ?_
  rintro e w2 ⟨ar,lr,kr,rfl,hr2,ho2,hk2⟩
  go_wp2_with fail
  refine⟨_,results_tmp2 rfl _ _ _,aq,lq,kq,ar,lr,kr,rfl,hq1.keep hk2 (fun b e h=>hne1 b e h),HR.out▸hr2,ho1,?_,?_,?_⟩
  ·exact ho2.imp id fun⟨k,e,h⟩=>⟨k,e,Nat.le_trans hk1.size h⟩
  ·exact(hk1.mono fun _ _ h=>.inl h).trans (hk2.mono fun _ _ h=>.inr (.inl h))
  ·intro k h1 h2
   rcases ho2 with h | ⟨k2,h,hk'⟩
   ·exact hne1 k h1 (h▸h2)
   ·have:=hq1.has k h1
    simp only [At,h,Option.some.injEq,Addr.mk.injEq,and_true] at h2
    omega
 ·have t1:((ly:Int)==1)=false:=beq_eq_false_iff_ne.2 (by omega)
  go_enter_defers Tryz.func93,Tryz.ntmps93
  go_wp2_with fail
  refine(cmp_any _ ax ay lx kx X ly ky Y hx hy (by omega) (by omega)).mono ?_
  rintro e w1 ⟨rfl,hk1⟩
  by_cases hlt:X<Y
  ·have tc:cmpN X Y<0:=by rw [cmpN_lt hlt];decide
   generalize cmpN X Y=cv at *
   have HL:Hid _:=hlt
   clear hlt
   have hle:lz≤kz:=by rcases hz with⟨_,a,b⟩ | ⟨_,_,_,a,_⟩<;>omega
   go_wp2_with fail
   refine(set_any _ a2 ax l2 k2 lx kx X (h2.keep hk1 (fun _ _=>id)) (hx.keep hk1 (fun _ _=>id)) (by omega)).mono ?_
   rintro e w2 ⟨ar,lr,kr,rfl,hr2,-,ho2,hk2⟩
   go_wp2_with fail
   refine⟨_,results_tmp2 rfl _ _ _,az,0,kz,ar,lr,kr,rfl,?_,?_,.inl rfl,?_,?_,?_⟩
   ·rw [Nat.div_eq_of_lt HL.out]
    exact isNat_take ((hz.keep hk1 (fun _ _=>id)).keep hk2 (fun b e h=>hne b e h))
   ·rw [Nat.mod_eq_of_lt HL.out];exact hr2
   ·exact ho2.imp id fun⟨k,e,h⟩=>⟨k,e,Nat.le_trans hk1.size h⟩
   ·exact(hk1.mono fun _ _ h=>h.elim).trans (hk2.mono fun _ _ h=>.inr (.inl h))
   ·intro k h1 h3
    rcases ho2 with h | ⟨k2,h,hk'⟩
    ·exact hne k h1 (h▸h3)
    ·have:=hz.has h1
     have:=hk1.size
     simp only [At,h,Option.some.injEq,Addr.mk.injEq,and_true] at h3
     omega
  ·have tc:(0:Int)≤cmpN X Y:=by
    rcases Nat.eq_or_lt_of_le (Nat.le_of_not_lt hlt) with h | h
    ·rw [cmpN_eq h.symm];decide
    ·rw [cmpN_gt h];decide
   have HL:Hid (Y≤X):=Nat.le_of_not_lt hlt
   clear hlt
   generalize cmpN X Y=cv at *
   go_wp2_with fail
   refine(getStack_any _).mono ?_
   rintro e w2 ⟨p,rfl,hp2,hs2,hk2⟩
   have hk12:=hk1.trans hk2
   rcases hx with⟨_,_,_,h⟩ | ⟨bx,cx,rfl,hxl,hxk,hx,hxv,hxt⟩
   ·have:=HL.out;omega
   rcases hy with⟨_,h,_⟩ | ⟨by',cy,rfl,hyl,hyk,hy,hyv,hyt⟩
   ·exact absurd h hly0
   have hlen:ly≤lx:=by
    refine Nat.le_of_not_lt fun hlt=>?_
    have a1:val cx 0 lx<W64^lx:=val_lt fun i hi=>by rw [Nat.zero_add];exact hx.lt i (by omega)
    obtain⟨t,rfl⟩:∃t,ly=t+1:=⟨ly-1,by omega⟩
    have a2:val cy 0 (t+1)=val cy 0 t+cy (0+t)*W64^t:=rfl
    rw [Nat.zero_add] at a2
    rcases hyt with h | h
    ·omega
    ·simp only [Nat.add_sub_cancel] at h
     have a3:W64^t≤cy t*W64^t:=Nat.le_mul_of_pos_left _ (by omega)
     have a4:W64^lx≤W64^t:=Nat.pow_le_pow_right W64_pos (by omega)
     have:=HL.out
     omega
   have hyt':cy (ly-1)≠0:=hyt.resolve_left hly0
   have HXV:Hid (val cx 0 lx=X):=hxv
   have HYV:Hid (val cy 0 ly=Y):=hyv
   have HYT:Hid (cy (ly-1)≠0):=hyt'
   clear hxv hyv hxt hyt hyt'
   go_wp2_with fail
   refine(divLarge_any w2 p 0 (·=p) hs2 (by omega) az a2 lz kz l2 k2 (hz.keep hk12 (fun _ _=>id)) (h2.keep hk12 (fun _ _=>id)) bx lx kx X cx (hx.keep hk12 id) hxl HXV.out by' ly ky Y cy (hy.keep hk12 id) hyl HYV.out HYT.out
    (by omega) hly hlen hlx (hk12.cell hg id) (by have h6:6<w.heap.size:=World.block_lt_of_cell? w _ hg;have:=hk1.size;omega)
    (fun b e=>by have:=hz.has e;have:=hk1.size;omega) (fun b e=>by have:=h2.has e;have:=hk1.size;omega) (by have:=hx.inHeap;have:=hk1.size;omega) (by have:=hy.inHeap;have:=hk1.size;omega)).mono ?_
   rintro e w3 ⟨aq,lq,kq,ar,lr,kr,B3,rfl,hq3,hr3,ho3,ho3',hlq,hlr,hk3,hs3,hB3,hne3,hnB3⟩
   go_wp2_with fail
   refine leaves_cons (f:=109) (args:=#[.pointer (some ⟨p,0,none⟩)]) (by simp) (by simp [go_sem]) ?_
   refine(free_d .returning _ p 0 B3 hs3).mono ?_
   rintro e u' w' ⟨rfl,rfl,hk'⟩
   have hsz:=hk12.size
   have hsz1:=hk1.size
   have hB:∀k,B3 k→w.heap.size≤k:=fun k hk=>by
    rcases hB3 k hk with h | h<;>omega
   refine⟨_,results_tmp2 rfl _ _ _,aq,lq,kq,ar,lr,kr,rfl,hq3.keep hk' (fun b e h=>(hnB3 b h).1 e),hr3.keep hk' (fun b e h=>(hnB3 b h).2 e),?_,?_,?_,hne3⟩
   ·exact ho3.imp id fun⟨k,e,h⟩=>⟨k,e,Nat.le_trans hsz h⟩
   ·exact ho3'.imp id fun⟨k,e,h⟩=>⟨k,e,Nat.le_trans hsz h⟩
   ·have c1:Keep (fun k=>At az k∨At a2 k∨Nope k) w w2:=hk12.mono fun _ _ h=>h.elim
    have c2:Keep (fun k=>At az k∨At a2 k∨Nope k) w w3:=c1.andThen (C:=fun k=>At az k∨At a2 k∨k=p) hk3 (fun _ _ h=>h) (by
     rintro k hk (h | h | h)
     ·exact .inl h
     ·exact .inr (.inl h)
     ·omega)
    exact c2.andThen (C:=B3) hk' (fun _ _ h=>h) (fun k hk h=>by have:=hB k h;omega)
def DivPostS (az a2:Option Addr) (X Y:Nat) (p L:Nat) (B:Nat→Prop) (w:World) (e:Ending) (w':World):Prop:=
 ∃B' aq lq kq ar lr kr,e = .returned (.tuple #[.slice aq lq kq,.slice ar lr kr])∧IsNat w' aq lq kq (X / Y)∧IsNat w' ar lr kr (X%Y)∧Own w az aq∧Own w a2 ar ∧
  Keep (fun k=>At az k∨At a2 k∨B k) w w'∧(∀k,At aq k→¬At ar k)∧Stk w' p L B'∧(∀k,B' k→B k∨w.heap.size≤k)∧(∀k,B' k→¬At aq k∧¬At ar k)
theorem div_stk (w:World) (p L:Nat) (B:Nat→Prop) (hs:Stk w p L B) (hL:L<500) (az a2 ax ay:Option Addr) (lz kz l2 k2 lx kx ly ky X Y:Nat) (hz:IsBuf w az lz kz) (h2:IsBuf w a2 l2 k2) (hx:IsNat w ax lx kx X) (hy:IsNat w ay ly ky Y)
  (hlx:lx<900) (hly:ly<40) (hY:0<Y) (hne:∀k,At az k→¬At a2 k) (hg:w.cell? ⟨6,0,none⟩=some (.int .i64 40))
  (hB6:¬B 6) (hBz:∀b,At az b→¬B b) (hB2:∀b,At a2 b→¬B b) (hBx:∀b,At ax b→¬B b) (hBy:∀b,At ay b→¬B b) :
  Calls Tryz.prog 93 #[.slice az lz kz,.pointer (some ⟨p,0,none⟩),.slice a2 l2 k2,.slice ax lx kx,.slice ay ly ky] w (DivPostS az a2 X Y p L B w):=by
 have hly0:ly≠0:=fun e=>by
  subst e
  rcases hy with⟨_,_,_,h⟩ | ⟨b,c,_,_,_,_,h,_⟩
  ·omega
  ·rw [show val c 0 0=0 from rfl] at h;omega
 have t0:((ly:Int)==0)=false:=beq_eq_false_iff_ne.2 (by omega)
 by_cases h1:ly=1
 ·subst h1
  obtain⟨by',rfl,fy,hky,hyW,hy0⟩:=isNat_one hy
  go_enter_defers Tryz.func93,Tryz.ntmps93
  go_wp2_with fail
  refine(divW_any _ az ax lz kz lx kx X Y hz hx (by omega) hyW hy0).mono ?_
  rintro e w1 ⟨aq,lq,kq,r,HR,rfl,hq1,ho1,hk1⟩
  have h21:=h2.keep hk1 (fun b e h=>hne b h e)
  have hrW:r<W64:=by rw [HR.out];exact Nat.lt_trans (Nat.mod_lt _ hy0) hyW
  have hne1:∀k,At aq k→¬At a2 k:=fun k hk hk'=>by
   rcases ho1 with h | ⟨k2,h,hk2⟩
   ·exact hne k (h▸hk) hk'
   ·have:=h2.has hk'
    simp only [At,h,Option.some.injEq,Addr.mk.injEq,and_true] at hk
    omega
  go_wp2_with fail
  refine(setWord_any _ a2 l2 k2 r h21 hrW).mono ?_
  rintro e w2 ⟨ar,lr,kr,rfl,hr2,ho2,hk2⟩
  go_wp2_with fail
  refine⟨_,results_tmp2 rfl _ _ _,B,aq,lq,kq,ar,lr,kr,rfl,hq1.keep hk2 (fun b e h=>hne1 b e h),HR.out▸hr2,ho1,?_,?_,?_,(hs.keep hk1 (fun b hb e=>hBz b e hb)).keep hk2 (fun b hb e=>hB2 b e hb),fun _ h=>.inl h,?_⟩
  ·exact ho2.imp id fun⟨k,e,h⟩=>⟨k,e,Nat.le_trans hk1.size h⟩
  ·exact(hk1.mono fun _ _ h=>.inl h).trans (hk2.mono fun _ _ h=>.inr (.inl h))
  ·intro k h1 h2
   rcases ho2 with h | ⟨k2,h,hk'⟩
   ·exact hne1 k h1 (h▸h2)
   ·have:=hq1.has k h1
    simp only [At,h,Option.some.injEq,Addr.mk.injEq,and_true] at h2
    omega
  ·intro k hk
   refine⟨fun e=>?_,fun e=>?_⟩
   ·rcases ho1 with h | ⟨k2,h,hk2⟩
    ·exact hBz k (h▸e) hk
    ·have:=hs.in k hk
     simp only [At,h,Option.some.injEq,Addr.mk.injEq,and_true] at e
     omega
   ·rcases ho2 with h | ⟨k2,h,hk2⟩
    ·exact hB2 k (h▸e) hk
    ·have:=hs.in k hk
     have:=hk1.size
     simp only [At,h,Option.some.injEq,Addr.mk.injEq,and_true] at e
     omega
 ·have t1:((ly:Int)==1)=false:=beq_eq_false_iff_ne.2 (by omega)
  go_enter_defers Tryz.func93,Tryz.ntmps93
  go_wp2_with fail
  refine(cmp_any _ ax ay lx kx X ly ky Y hx hy (by omega) (by omega)).mono ?_
  rintro e w1 ⟨rfl,hk1⟩
  by_cases hlt:X<Y
  ·have tc:cmpN X Y<0:=by rw [cmpN_lt hlt];decide
   generalize cmpN X Y=cv at *
   have HL:Hid _:=hlt
   clear hlt
   have hle:lz≤kz:=by rcases hz with⟨_,a,b⟩ | ⟨_,_,_,a,_⟩<;>omega
   go_wp2_with fail
   refine(set_any _ a2 ax l2 k2 lx kx X (h2.keep hk1 (fun _ _=>id)) (hx.keep hk1 (fun _ _=>id)) (by omega)).mono ?_
   rintro e w2 ⟨ar,lr,kr,rfl,hr2,-,ho2,hk2⟩
   go_wp2_with fail
   refine⟨_,results_tmp2 rfl _ _ _,B,az,0,kz,ar,lr,kr,rfl,?_,?_,.inl rfl,?_,?_,?_,(hs.keep hk1 (fun _ _=>id)).keep hk2 (fun b hb e=>hB2 b e hb),fun _ h=>.inl h,?_⟩
   ·rw [Nat.div_eq_of_lt HL.out]
    exact isNat_take ((hz.keep hk1 (fun _ _=>id)).keep hk2 (fun b e h=>hne b e h))
   ·rw [Nat.mod_eq_of_lt HL.out];exact hr2
   ·exact ho2.imp id fun⟨k,e,h⟩=>⟨k,e,Nat.le_trans hk1.size h⟩
   ·exact(hk1.mono fun _ _ h=>h.elim).trans (hk2.mono fun _ _ h=>.inr (.inl h))
   ·intro k h1 h3
    rcases ho2 with h | ⟨k2,h,hk'⟩
    ·exact hne k h1 (h▸h3)
    ·have:=hz.has h1
     have:=hk1.size
     simp only [At,h,Option.some.injEq,Addr.mk.injEq,and_true] at h3
     omega
   ·intro k hk
    refine⟨fun e=>hBz k e hk,fun e=>?_⟩
    rcases ho2 with h | ⟨k2,h,hk2⟩
    ·exact hB2 k (h▸e) hk
    ·have:=hs.in k hk
     have:=hk1.size
     simp only [At,h,Option.some.injEq,Addr.mk.injEq,and_true] at e
     omega
  ·have tc:(0:Int)≤cmpN X Y:=by
    rcases Nat.eq_or_lt_of_le (Nat.le_of_not_lt hlt) with h | h
    ·rw [cmpN_eq h.symm];decide
    ·rw [cmpN_gt h];decide
   have HL:Hid (Y≤X):=Nat.le_of_not_lt hlt
   clear hlt
   generalize cmpN X Y=cv at *
   go_wp2_with fail
   have hk12:=hk1
   rcases hx with⟨_,_,_,h⟩ | ⟨bx,cx,rfl,hxl,hxk,hx,hxv,hxt⟩
   ·have:=HL.out;omega
   rcases hy with⟨_,h,_⟩ | ⟨by',cy,rfl,hyl,hyk,hy,hyv,hyt⟩
   ·exact absurd h hly0
   have hlen:ly≤lx:=by
    refine Nat.le_of_not_lt fun hlt=>?_
    have a1:val cx 0 lx<W64^lx:=val_lt fun i hi=>by rw [Nat.zero_add];exact hx.lt i (by omega)
    obtain⟨t,rfl⟩:∃t,ly=t+1:=⟨ly-1,by omega⟩
    have a2:val cy 0 (t+1)=val cy 0 t+cy (0+t)*W64^t:=rfl
    rw [Nat.zero_add] at a2
    rcases hyt with h | h
    ·omega
    ·simp only [Nat.add_sub_cancel] at h
     have a3:W64^t≤cy t*W64^t:=Nat.le_mul_of_pos_left _ (by omega)
     have a4:W64^lx≤W64^t:=Nat.pow_le_pow_right W64_pos (by omega)
     have:=HL.out
     omega
   have hyt':cy (ly-1)≠0:=hyt.resolve_left hly0
   have HXV:Hid (val cx 0 lx=X):=hxv
   have HYV:Hid (val cy 0 ly=Y):=hyv
   have HYT:Hid (cy (ly-1)≠0):=hyt'
   clear hxv hyv hxt hyt hyt'
   go_wp2_with fail
   refine(divLarge_any w1 p L B (hs.keep hk1 (fun _ _=>id)) hL az a2 lz kz l2 k2 (hz.keep hk12 (fun _ _=>id)) (h2.keep hk12 (fun _ _=>id)) bx lx kx X cx (hx.keep hk12 id) hxl HXV.out by' ly ky Y cy (hy.keep hk12 id) hyl HYV.out HYT.out
    (by omega) hly hlen hlx (hk12.cell hg id) hB6 hBz hB2 (hBx bx rfl) (hBy by' rfl)).mono ?_
   rintro e w3 ⟨aq,lq,kq,ar,lr,kr,B3,rfl,hq3,hr3,ho3,ho3',hlq,hlr,hk3,hs3,hB3,hne3,hnB3⟩
   go_wp2_with fail
   have hsz1:=hk1.size
   refine⟨_,results_tmp2 rfl _ _ _,B3,aq,lq,kq,ar,lr,kr,rfl,hq3,hr3,?_,?_,?_,hne3,hs3,?_,fun k hk=>hnB3 k hk⟩
   ·exact ho3.imp id fun⟨k,e,h⟩=>⟨k,e,Nat.le_trans hsz1 h⟩
   ·exact ho3'.imp id fun⟨k,e,h⟩=>⟨k,e,Nat.le_trans hsz1 h⟩
   ·exact(hk1.mono fun _ _ h=>h.elim).trans hk3
   ·intro k hk
    rcases hB3 k hk with h | h
    ·exact .inl h
    ·exact .inr (by omega)
end Go.Proofs.YtofkehhflkdabaaGreatDoor
