/- A part of the proof of FnCurveOf. -/
import Derived.Test.YtofkehhflkdabaaGreatDoorP12
import Derived.Test.YtofkehhflkdabaaGreatDoorP15
set_option maxRecDepth 100000
set_option maxHeartbeats 8000000
namespace Go.Proofs.YtofkehhflkdabaaGreatDoor
open Go Go.RowKit
def Ends (A:Act) (W:World):Exit→Act→World→Prop
 | .normal,a,w=>a=A∧w=W
 | _,_,_=>False
theorem wp_ends {P:Program} {id:Nat} {ops:Array Oper} {b:Bool} {Q:Exit→Act→World→Prop} {a:Act} {w:World} (A:Act) (W:World) (h:(Code.region id ops b).wp P (Ends A W) a w) (hq:Q .normal A W):(Code.region id ops b).wp P Q a w:=
 Code.wp_mono (fun e a w h=>by cases e<;>first | (obtain⟨rfl,rfl⟩:=h;exact hq) | exact(h:False).elim) h
theorem basicSqr_any (w:World) (p L:Nat) (B:Nat→Prop) (hs:Stk w p L B) (hL:L<500) (bz kz:Nat) (cz:Nat→Nat) (bx n kx:Nat) (cx:Nat→Nat) (hz:Row w bz kz cz) (hn:12≤n) (hn2:n<32) (hlz:2*n≤kz)
  (hx:Row w bx kx cx) (hxl:n≤kx) (hbx:bx≠bz) (hBx:¬B bx) (hBz:¬B bz) (hg3:w.cell? ⟨3,0,none⟩=some (.int .i64 12)) (hkz:kz≤9223372036854775807) :
  Calls Tryz.prog 142 #[.pointer (some ⟨p,0,none⟩),.slice (some ⟨bz,0,none⟩) (2*n) kz,.slice (some ⟨bx,0,none⟩) n kx] w fun e w'=>
   ∃c' B',e = .returned (.tuple #[])∧Row w' bz kz c'∧val c' 0 (2*n)=val cx 0 n*val cx 0 n∧Stk w' p L B'∧(∀k,B' k→B k∨w.heap.size≤k)∧Keep (fun k=>k=bz∨B k) w w':=by
 have HZK:Hid (kz≤9223372036854775807):=hkz
 have t0:((12:Int)≤(n:Int)):=by omega
 have hzn:=hz.inHeap
 have hxn:=hx.inHeap
 go_enter_defers Tryz.func142,Tryz.ntmps142
 go_wp2_with (go_at_call 130;refine(save_any _ p L B hs).mono ?_;rintro e w' ⟨rfl,rfl⟩)
 rw [show (2*(n:Int))=((2*n:Nat):Int) from by omega]
 refine(nat_any w' p L (2*n) B hs (by omega) (by omega) (by omega)).mono ?_
 rintro e w1 ⟨bt,ot,Nt,ct,kt,L1,B1,rfl,hkt,hrt,hot,hst,hL1,hL1',hLt,hk1,hB1,hlent,hbt⟩
 have hbz:bt≠bz:=by rintro rfl;rcases hbt with h | h;exact hBz h;omega
 have hbx':bt≠bx:=by rintro rfl;rcases hbt with h | h;exact hBx h;omega
 have nz1:¬B1 bz:=fun h=>by
  rcases hB1 _ h with h | h
  ·exact hBz h
  ·omega
 have hz1:=hz.keep hk1 hBz
 have hx1:=hx.keep hk1 hBx
 obtain⟨w2,c2,hrun,hr2,hk2,hin2,hout2⟩:=run_clear_u64 83 0 Tryz.underlying83 (n:=2*n) (dK:=kt) hrt hot
 have hz2:=hz1.keep hk2 (fun e=>hbz e.symm)
 have hx2:=hx1.keep hk2 (fun e=>hbx' e.symm)
 go_wp2_with fail
 have fx0:=hx2.cell (i:=0) (by omega)
 have d0lt:=hx.lt 0 (by omega)
 generalize hd:cx 0=d0 at fx0 d0lt
 have HD0:Hid (cx 0=d0):=hd
 clear hd
 have fz1:=hz2.cell (i:=1) (by omega)
 have ff1:=hz2.frozen 1
 have hz3:=hz2.set 1 (mulHi d0 d0 0) (mulHi_lt d0lt d0lt W64_pos)
 have fz0:=hz3.cell (i:=0) (by omega)
 have ff0:=hz3.frozen 0
 have q0:0<n:=by omega
 have q1:(1:Int)<2*(n:Int):=by omega
 have q2:(0:Int)<2*(n:Int):=by omega
 have HIN:Hid _:=hin2
 have HOUT:Hid _:=hout2
 clear hin2 hout2
 have fx0d:w2.drew.cell? ⟨bx,0,none⟩=some (.int .u64 (d0:Nat)):=fx0
 apply wp_ends
 case h=>
  go_region_with (go_at_call 140;refine(mulWW_any d0 d0 d0lt d0lt _).mono ?_;rintro e w' ⟨rfl,rfl⟩)
  all_goals exact⟨rfl,rfl⟩
 have hk3:Keep (·=bz) w2 ((w2.setCell { block:=bz,off:=1 } (Value.int IntKind.u64 ↑(mulHi d0 d0 0))).setCell { block:=bz,off:=0 } (Value.int IntKind.u64 ↑(mulLo d0 d0 0))).drew:=
  (((Keep.refl (·=bz) w2).setCell (p:=⟨bz,1,none⟩) rfl _).setCell (p:=⟨bz,0,none⟩) rfl _).drew
 have hz4:=(hz3.set 0 (mulLo d0 d0 0) (mulLo_lt _ _ _)).drew
 generalize ((w2.setCell { block:=bz,off:=1 } (Value.int IntKind.u64 ↑(mulHi d0 d0 0))).setCell { block:=bz,off:=0 } (Value.int IntKind.u64 ↑(mulLo d0 d0 0))).drew=w3 at *
 have hr3:=hr2.keep hk3 hbz
 have hx3:=hx2.keep hk3 hbx
 have H0:Hid (c2 ot=0):=by have:=(oo HIN) 0 (by omega);rwa [Nat.add_zero] at this
 have HF:Hid _:=sqr_first (cx:=cx) (cz:=cz) (hi:=mulHi d0 d0 0) (lo:=mulLo d0 d0 0) (by have:=mul_eq d0 d0 0;rw [HD0.out];omega) (fun j=>c2 (ot+j)) H0.out
 clear fx0 fx0d fz1 ff1 fz0 ff0 hrun
 have HR2:Hid _:=hr2
 have HK2:Hid _:=hk2
 have HK3:Hid _:=hk3
 have HZ1:Hid _:=hz1
 clear hr2 hz2 hz3 hz1
 go_wp2_with fail
 go_loopw [8,9] (fun i _ wr=>∃(k:Nat) (cz' ct':Nat→Nat),1≤k∧k≤n∧i = .int .i64 (k:Int)∧Row wr bz kz cz'∧Row wr bt Nt ct'∧Keep (fun b=>b=bz∨b=bt) w3 wr ∧
  val cz' 0 (2*k)+2*val (fun j=>ct' (ot+j)) 0 (2*k-1)=val cx 0 k*val cx 0 k∧(∀j,2*k-1≤j→j<2*n→ct' (ot+j)=0)∧ct' ot=0) (fun i _ _=>n-(intOf i).toNat)
 case atStart=>
  exact⟨1,_,_,by omega,by omega,rfl,hz4,hr3,Keep.refl _ _,HF.out,fun j _ hj=>(oo HIN) j hj,H0.out⟩
 case round=>
  obtain⟨k,cz',ct',hk0,hk,rfl,hrz,hrt',hkeep,hinv,hzero,h00⟩:=hrel
  have HI:Hid _:=hinv
  have HZE:Hid _:=hzero
  have H00:Hid _:=h00
  clear hinv hzero h00
  by_cases hlt:k<n
  ·have hxr:=hx3.keep hkeep (fun h=>h.elim hbx (fun e=>hbx' e.symm))
   have fx:=hxr.cell (i:=k) (by omega)
   have dlt:=hx.lt k (by omega)
   generalize hd:cx k=d at *
   have HD:Hid (cx k=d):=hd
   clear hd
   have fz1:=hrz.cell (i:=2*k+1) (by omega)
   have ff1:=hrz.frozen (2*k+1)
   have hrz1:=hrz.set (2*k+1) (mulHi d d 0) (mulHi_lt dlt dlt W64_pos)
   have fz0:=hrz1.cell (i:=2*k) (by omega)
   have ff0:=hrz1.frozen (2*k)
   have hrz2:=hrz1.set (2*k) (mulLo d d 0) (mulLo_lt _ _ _)
   go_wp2_with (go_at_call 140;refine(mulWW_any d d dlt dlt _).mono ?_;rintro e w' ⟨rfl,rfl⟩)
   have hkz4:Keep (·=bz) wr ((wr.setCell { block:=bz,off:=2*k+1 } (Value.int IntKind.u64 ↑(mulHi d d 0))).setCell { block:=bz,off:=2*k } (Value.int IntKind.u64 ↑(mulLo d d 0))):=
    ((Keep.refl (·=bz) wr).setCell (p:=⟨bz,2*k+1,none⟩) rfl _).setCell (p:=⟨bz,2*k,none⟩) rfl _
   generalize (wr.setCell { block:=bz,off:=2*k+1 } (Value.int IntKind.u64 ↑(mulHi d d 0))).setCell { block:=bz,off:=2*k } (Value.int IntKind.u64 ↑(mulLo d d 0))=w4 at *
   have hrt4:=hrt'.keep hkz4 hbz
   have hx4:=hxr.keep hkz4 hbx
   have hkp4:Keep (fun b=>b=bz∨b=bt) w3 w4:=hkeep.trans (hkz4.mono fun _ _ h=>.inl h)
   clear fz1 ff1 fz0 ff0 hrz1
   have HRZ:Hid _:=hrz
   clear hrz
   have q1:k≤2*k:=by omega
   have q2:2*k≤kt:=by omega
   have q3:IntKind.i64.wrap (2*(k:Int))=2*(k:Int):=IntWalk.i64_in _ (by omega)
   have q4:(2*(k:Int)).toNat=2*k:=by omega
   have q5:2*k-k=k:=by omega
   have q6:(k:Int)≤2*(k:Int):=by omega
   have q7:2*(k:Int)≤(kt:Int):=by omega
   have q8:(2*(k:Int))<2*(n:Int):=by omega
   have q9:(0:Int)≤2*(k:Int):=by omega
   have q10:¬kt=k:=by omega
   have q11:k≤kx:=by omega
   refine wp_region_noPanic ?_
   go_region_with (go_at_call 160;refine(addMulVVWW_any _ bt (ot+k) (kt-k) Nt ct' bt (ot+k) (kt-k) Nt ct' bx 0 kx kx cx d 0 k hrt4.drew hrt4.drew hx4.drew (by omega) (by omega) (by omega) (by omega) dlt W64_pos (fun _=>by omega) (fun h=>absurd h.symm hbx')).mono ?_;rintro e w5 ⟨r,c5,rfl,hr5,hk5,hrlt,hout5,hval5⟩;have fz:=hr5.cell (i:=ot+2*k) (by omega);have ff:=hr5.frozen (ot+2*k);have HV5:Hid _:=hval5;have HO5:Hid _:=hout5;clear hval5 hout5)
   refine NoPanic.normal ?_
   (try simp only [Exit.inBlock,Exit.then])
   go_wp2_with fail
   go_roundw
   case rel=>
    refine⟨k+1,_,_,by omega,by omega,by go_num,hrz2.keep ((hk5.undrew).setCell (p:=⟨bt,ot+2*k,none⟩) rfl _) (fun e=>hbz e.symm),hr5.set _ _ hrlt,hkp4.trans (((hk5.undrew).setCell (p:=⟨bt,ot+2*k,none⟩) rfl _).mono fun _ _ h=>.inr h),?_,?_,?_⟩
    ·have h:=sqr_step (cx:=cx) (cz:=cz') (ct:=fun j=>ct' (ot+j)) (c2:=fun j=>c5 (ot+j)) (i:=k) (d:=d) (hi:=mulHi d d 0) (lo:=mulLo d d 0) (r:=r) (by omega) HI.out HD.out (by have:=mul_eq d d 0;omega) ?_ ?_ ((HZE.out) (2*k-1) (by omega) (by omega))
     ·have e:(fun j=>upd c5 (ot+2*k) r (ot+j))=upd (fun j=>c5 (ot+j)) (2*k) r:=by
       funext j;simp only [upd,Nat.add_left_cancel_iff]
      rw [e];exact h
     ·have h:=(oo HV5)
      rw [Nat.add_zero] at h
      rw [val_ext (c:=fun j=>c5 (ot+j)) (d:=c5) (p:=ot+k) (fun i _=>by simp only [Nat.add_assoc]),val_ext (c:=fun j=>ct' (ot+j)) (d:=ct') (p:=ot+k) (fun i _=>by simp only [Nat.add_assoc])]
      exact h
     ·exact fun j hj=>(oo HO5) _ (by omega)
    ·intro j h1 h2
     rw [upd_ne _ _ (by omega),(oo HO5) _ (by omega)]
     exact HZE.out j (by omega) h2
    ·rw [upd_ne _ _ (by omega),(oo HO5) _ (by omega)]
     exact H00.out
   case measure=>simp [intOf];omega
  ·obtain rfl:k=n:=by omega
   have q1:(1:Int)≤2*(k:Int)-1:=by omega
   have q2:2*(k:Int)-1≤(kt:Int):=by omega
   have q3:(2*(k:Int)-1).toNat=2*k-1:=by omega
   have q4:2*k-1-1=2*k-2:=by omega
   have q5:IntKind.i64.wrap (2*(k:Int))=2*(k:Int):=IntWalk.i64_in _ (by omega)
   have q6:IntKind.i64.wrap (2*(k:Int)-1)=2*(k:Int)-1:=IntWalk.i64_in _ (by omega)
   have q7:2*(k:Int)-1<2*(k:Int):=by omega
   have q8:(0:Int)≤2*(k:Int)-1:=by omega
   have q9:¬kt=1:=by omega
   have q10:1≤2*k-1:=by omega
   have q11:(1:Int)≤2*(k:Int):=by omega
   go_wp2_with fail
   refine wp_region_noPanic ?_
   go_region_with (go_at_call 149;refine(lshVU_any _ bt (ot+1) (kt-1) Nt ct' bt (ot+1) (kt-1) Nt ct' 1 (2*k-2) hrt'.drew hrt'.drew (by omega) (by omega) (by omega) (by omega) (by omega) (by omega) (fun _=>by omega)).mono ?_;rintro e w5 ⟨r,c5,rfl,hr5,hk5,hrlt,hout5,hval5⟩;have fz:=hr5.cell (i:=ot+(2*k-1)) (by omega);have ff:=hr5.frozen (ot+(2*k-1));have HV5:Hid _:=hval5;have HO5:Hid _:=hout5;clear hval5 hout5)
   refine NoPanic.normal ?_
   (try simp only [Exit.then])
   have hk6:=(hk5.undrew).setCell (p:=⟨bt,ot+(2*k-1),none⟩) rfl (.int .u64 (r:Nat))
   have hr6:=hr5.set (ot+(2*k-1)) r (Nat.lt_trans hrlt (by decide))
   have hz6:=hrz.keep hk6 (fun e=>hbz e.symm)
   have HK6:Hid _:=hk6
   clear hk6 fz ff hk5 hr5
   generalize w5.setCell { block:=bt,off:=ot+(2*k-1) } (Value.int IntKind.u64 ↑r)=w6 at *
   go_wp2_with fail
   refine(addVV_any w6 bz 0 kz kz cz' bz 0 kz kz cz' bt ot kt Nt _ (2*k) hz6 hz6 hr6 (by omega) (by omega) (by omega) (by omega) (fun _=>by omega) (fun h=>absurd h hbz)).mono ?_
   rintro e w7 ⟨r7,c7,rfl,hz7,hk7,hr71,hout7,hval7⟩
   have HV7:Hid _:=hval7
   clear hval7 hout7
   go_wp2_with fail
   have hr7:=hr6.keep hk7 hbz
   have K1:Keep (fun b=>b=bz∨b=bt) w1 w7:=((((oo HK2).mono fun _ _ h=>.inr h).trans ((oo HK3).mono fun _ _ h=>.inl h)).trans hkeep).trans (((oo HK6).mono fun _ _ h=>.inr h).trans (hk7.mono fun _ _ h=>.inl h))
   have hst7:Stk w7 p L1 B1:=hst.rowed K1 (fun j hj h=>h.elim (fun e=>absurd (e▸hj) nz1) id) hrt hr7
   refine leaves_cons (f:=129) (args:=#[.pointer (some ⟨p,0,none⟩),.int .i64 (L:Int)]) (by simp) (by simp [go_sem]) ?_
   refine(restore_d .returning _ p L1 L B1 hst7 hL1).mono ?_
   rintro e u' w8 ⟨rfl,rfl,hs8,hk8⟩
   refine⟨_,results_none rfl _ _ _,c7,B1,rfl,hz7.keep hk8 nz1,?_,hs8,hB1,?_⟩
   ·have hs:=(oo HV5)
    refine sqr_end (cz:=cz') (ct:=fun j=>ct' (ot+j)) (c3:=fun j=>c5 (ot+j)) (cc:=r) (cc2:=r7) (by omega) HI.out H00.out ?_ ?_ ?_ (fun i hi=>hx.lt i (by omega))
    ·show c5 (ot+0)=0
     rw [(oo HO5) _ (by omega)];exact H00.out
    ·rw [Nat.pow_one] at hs
     rw [val_ext (c:=fun j=>c5 (ot+j)) (d:=c5) (p:=ot+1) (fun i _=>by simp only [Nat.add_assoc]),val_ext (c:=fun j=>ct' (ot+j)) (d:=ct') (p:=ot+1) (fun i _=>by simp only [Nat.add_assoc])]
     exact hs
    ·have h:=(oo HV7)
     rw [h]
     congr 1
     refine val_ext fun i hi=>?_
     simp only [upd,Nat.zero_add,Nat.add_left_cancel_iff]
   ·refine(hk1.andThen K1 (S:=fun k=>k=bz∨B k) (fun k _ h=>.inr h) ?_).andThen hk8 (fun k _ h=>h) ?_
    ·rintro j hj (h | rfl)
     ·exact .inl h
     ·rcases hbt with h | h
      ·exact .inr h
      ·omega
    ·intro j hj h
     rcases hB1 j h with h | h
     ·exact .inr h
     ·omega
end Go.Proofs.YtofkehhflkdabaaGreatDoor
