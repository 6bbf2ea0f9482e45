/- A part of the proof of FnCurveOf. -/
import Derived.Test.YtofkehhflkdabaaGreatDoorP02
import Derived.Test.YtofkehhflkdabaaGreatDoorP03
import Derived.StillTailTactics
set_option maxRecDepth 100000
set_option maxHeartbeats 8000000
namespace Go.Proofs.YtofkehhflkdabaaGreatDoor
open Go Go.RowKit
def cmpN (x y:Nat):Int:=if x<y then -1 else if y<x then 1 else 0
theorem cmpN_lt {x y:Nat} (h:x<y):cmpN x y = -1:=by unfold cmpN;rw [if_pos h]
theorem cmpN_gt {x y:Nat} (h:y<x):cmpN x y=1:=by unfold cmpN;rw [if_neg (by omega),if_pos h]
theorem cmpN_eq {x y:Nat} (h:x=y):cmpN x y=0:=by unfold cmpN;rw [if_neg (by omega),if_neg (by omega)]
theorem ret_i64 {a b:Int} (h:a=b):Ending.returned (.int .i64 a) = .returned (.int .i64 b):=by rw [h]
theorem val_top {c d:Nat→Nat} {m k:Nat} (hk:k≤m) (hc:∀i,i≤m→c i<W64) (heq:∀j,k<j→j≤m→c j=d j) (hlt:c k<d k) :
  val c 0 (m+1)<val d 0 (m+1):=by
 obtain⟨n,rfl⟩:∃n,m=k+n:=⟨m-k,by omega⟩
 rw [show k+n+1=(k+1)+n from by omega,val_add c 0 (k+1) n,val_add d 0 (k+1) n]
 rw [val_ext (c:=c) (d:=d) (o:=0+(k+1)) (p:=0+(k+1)) (n:=n) (fun i hi=>heq _ (by omega) (by omega))]
 have h1:val c 0 k<W64^k:=val_lt fun i hi=>by rw [Nat.zero_add];exact hc _ (by omega)
 have h2:(c k+1)*W64^k≤d k*W64^k:=Nat.mul_le_mul_right _ hlt
 rw [Nat.succ_mul] at h2
 simp only [val,Nat.zero_add]
 omega
theorem val_eq_top {c d:Nat→Nat} {m:Nat} (heq:∀j,j≤m→c j=d j):val c 0 (m+1)=val d 0 (m+1):=
 val_ext fun i hi=>by rw [Nat.zero_add];exact heq i (by omega)
theorem cmp_rows (w:World) (bx by' kx ky m X Y Nx Ny:Nat) (cx cy:Nat→Nat) (hx:Row w bx Nx cx) (hy:Row w by' Ny cy) (lx:m+1≤Nx) (ly:m+1≤Ny) (hm:m<1000000)
  (eX:val cx 0 (m+1)=X) (eY:val cy 0 (m+1)=Y) :
  Calls Tryz.prog 80 #[.slice (some ⟨bx,0,none⟩) (m+1) kx,.slice (some ⟨by',0,none⟩) (m+1) ky] w fun e w'=>
   e = .returned (.int .i64 (cmpN X Y))∧Keep Nope w w':=by
 go_enter Tryz.func80,Tryz.ntmps80
 go_wp2_with fail
 go_loopw [7] (fun i wr=>∃k:Nat,k≤m∧i = .int .i64 (k:Int)∧Keep Nope w wr∧(∀j,k<j→j≤m→cx j=cy j)) (fun i _=>(intOf i).toNat)
 case atStart=>exact⟨m,Nat.le_refl _,rfl,Keep.refl _ _,fun j h1 h2=>by omega⟩
 case round=>
  obtain⟨k,hk,rfl,hkeep,heq⟩:=hrel
  have fx:=(hx.keep hkeep id).cell (i:=k) (by omega)
  have fy:=(hy.keep hkeep id).cell (i:=k) (by omega)
  have HE:Hid (∀j,k<j→j≤m→cx j=cy j):=heq
  clear heq
  generalize hxk:cx k=x at *
  generalize hyk:cy k=y at *
  have HX:Hid (cx k=x):=hxk
  have HY:Hid (cy k=y):=hyk
  clear hxk hyk
  by_cases hk0:k=0
  ·subst hk0
   have hg:decide ((0:Int)<((0:Nat):Int))=false:=by decide
   go_wp2_with fail
   go_quiet (fail)
   go_wp2_with fail
   go_quiet (fail)
   go_wp2_with fail
   ·have hlt:x<y:=by assumption
    go_ret
    refine⟨ret_i64 (cmpN_lt ?_).symm,by repeat (first | exact hkeep | apply Keep.drewN)⟩
    rw [← eX,← eY]
    exact val_top hk (fun i hi=>hx.lt i (by omega)) HE.out (by rw [HX.out,HY.out];exact hlt)
   ·go_quiet (fail)
    go_wp2_with fail
    ·have hgt:y<x:=by assumption
     go_ret
     refine⟨ret_i64 (cmpN_gt ?_).symm,by repeat (first | exact hkeep | apply Keep.drewN)⟩
     rw [← eX,← eY]
     exact val_top hk (fun i hi=>hy.lt i (by omega)) (fun j h1 h2=>(HE.out j h1 h2).symm) (by rw [HX.out,HY.out];exact hgt)
    ·have hxy:x=y:=by omega
     go_ret
     refine⟨ret_i64 (cmpN_eq ?_).symm,by repeat (first | exact hkeep | apply Keep.drewN)⟩
     rw [← eX,← eY]
     refine val_eq_top fun j hj=>?_
     by_cases h0:j=0
     ·rw [h0,HX.out,HY.out,hxy]
     ·exact HE.out j (by omega) hj
  ·have hg:0<k:=by omega
   by_cases hxy:x=y
   ·subst hxy
    go_wp2_with fail
    go_quiet (fail)
    go_wp2_with fail
    go_roundw
    case rel=>
     refine⟨k-1,by omega,congrArg (Value.int .i64) (by omega),by repeat (first | exact hkeep | apply Keep.drewN),fun j h1 h2=>?_⟩
     by_cases e:j=k
     ·rw [e,HX.out,HY.out]
     ·exact HE.out j (by omega) h2
    case measure=>simp [intOf];omega
   ·have ht:((x:Int)==(y:Int))=false:=beq_eq_false_iff_ne.2 (by omega)
    go_wp2_with fail
    go_quiet (fail)
    go_wp2_with fail
    go_quiet (fail)
    go_wp2_with fail
    ·have hlt:x<y:=by assumption
     go_ret
     refine⟨ret_i64 (cmpN_lt ?_).symm,by repeat (first | exact hkeep | apply Keep.drewN)⟩
     rw [← eX,← eY]
     exact val_top hk (fun i hi=>hx.lt i (by omega)) HE.out (by rw [HX.out,HY.out];exact hlt)
    ·go_quiet (fail)
     go_wp2_with fail
     ·have hgt:y<x:=by assumption
      go_ret
      refine⟨ret_i64 (cmpN_gt ?_).symm,by repeat (first | exact hkeep | apply Keep.drewN)⟩
      rw [← eX,← eY]
      exact val_top hk (fun i hi=>hy.lt i (by omega)) (fun j h1 h2=>(HE.out j h1 h2).symm) (by rw [HX.out,HY.out];exact hgt)
theorem lt_of_len {w:World} {ax ay:Option Addr} {lx kx X ly ky Y:Nat} (hx:IsNat w ax lx kx X) (hy:IsNat w ay ly ky Y) (h:lx<ly):X<Y:=by
 have h1:=hx.val.lt
 rcases hy.big with h2 | h2
 ·omega
 ·have h3:W64^lx≤W64^(ly-1):=Nat.pow_le_pow_right W64_pos (by omega)
  omega
theorem cmp_any (w:World) (ax ay:Option Addr) (lx kx X ly ky Y:Nat) (hx:IsNat w ax lx kx X) (hy:IsNat w ay ly ky Y) (hl:lx<1000000) (hl':ly<1000000) :
  Calls Tryz.prog 80 #[.slice ax lx kx,.slice ay ly ky] w fun e w'=>e = .returned (.int .i64 (cmpN X Y))∧Keep Nope w w':=by
 by_cases h:lx=ly
 ·subst h
  by_cases h0:lx=0
  ·subst h0
   have e1:X=0:=by have:=hx.val.lt;simpa using this
   have e2:Y=0:=by have:=hy.val.lt;simpa using this
   subst e1;subst e2
   go_enter Tryz.func80,Tryz.ntmps80
   go_wp2_with fail
   go_ret
   exact⟨ret_i64 rfl,Keep.refl _ _⟩
  ·obtain⟨m,rfl⟩:∃m,lx=m+1:=⟨lx-1,by omega⟩
   rcases hx with⟨_,h,_⟩ | ⟨bx,cx,rfl,h2,h3,h4,h5,h6⟩
   ·omega
   rcases hy with⟨_,h,_⟩ | ⟨by',cy,rfl,g2,g3,g4,g5,g6⟩
   ·omega
   exact cmp_rows w bx by' kx ky m X Y kx ky cx cy h4 g4 h2 g2 (by omega) h5 g5
 ·have hne:((lx:Int) != (ly:Int))=true:=by rw [bne_iff_ne];omega
  have hne2:((lx:Int)==(ly:Int))=false:=beq_eq_false_iff_ne.2 (by omega)
  by_cases hlt:lx<ly
  ·have H:=cmpN_lt (lt_of_len hx hy hlt)
   have H:Hid _:=H
   go_enter Tryz.func80,Tryz.ntmps80
   go_wp2_with fail
   go_ret
   exact⟨ret_i64 (oo H).symm,Keep.refl _ _⟩
  ·have hgt:ly<lx:=by omega
   have H:=cmpN_gt (lt_of_len hy hx hgt)
   have H:Hid _:=H
   go_enter Tryz.func80,Tryz.ntmps80
   go_wp2_with fail
   go_ret
   exact⟨ret_i64 (oo H).symm,Keep.refl _ _⟩
def sameA:Option Addr→Option Addr→Bool
 | some a,some b=>a.block==b.block
 | _,_=>false
theorem alias_any (w:World) (ax ay:Option Addr) (lx kx ly ky:Nat) (hx:IsBuf w ax lx kx) (hy:IsBuf w ay ly ky) :
  Calls Tryz.prog 75 #[.slice ax lx kx,.slice ay ly ky] w fun e w'=>e = .returned (.bool (sameA ax ay))∧Keep Nope w w':=by
 rcases hx with⟨rfl,rfl,rfl⟩ | ⟨bx,cx,rfl,h2,h3,h4⟩
 ·go_enter Tryz.func75,Tryz.ntmps75
  go_wp2_with fail
  go_quiet (fail)
  go_wp2_with fail
  go_ret
  exact⟨by cases ay<;>rfl,(Keep.refl _ _).drewN _⟩
 ·obtain⟨j,rfl⟩:∃j,kx=j+1:=⟨kx-1,by omega⟩
  have t1:(0:Int)<(j:Int)+1:=by omega
  rcases hy with⟨rfl,rfl,rfl⟩ | ⟨by',cy,rfl,g2,g3,g4⟩
  ·go_enter Tryz.func75,Tryz.ntmps75
   go_wp2_with fail
   go_quiet (fail)
   go_wp2_with fail
   go_ret
   exact⟨rfl,(Keep.refl _ _).drewN _⟩
  ·obtain⟨i,rfl⟩:∃i,ky=i+1:=⟨ky-1,by omega⟩
   have t2:(0:Int)<(i:Int)+1:=by omega
   by_cases hb:bx=by'
   ·subst hb
    obtain⟨e,_⟩:=h4.same g4
    obtain rfl:j=i:=by omega
    have heq:=fun n=>eql_word_same (w.drewN n) ⟨bx,j,none⟩
    go_enter Tryz.func75,Tryz.ntmps75
    go_wp2_with fail
    go_quiet (fail)
    go_wp2_with fail
    go_ret
    exact⟨by simp [sameA],(Keep.refl _ _).drewN _⟩
   ·have heq:=fun n=>eql_word_other (w.drewN n) (o1:=j) (o2:=i) (h4.drewN n) (g4.drewN n) (.inl hb)
    go_enter Tryz.func75,Tryz.ntmps75
    go_wp2_with fail
    go_quiet (fail)
    go_wp2_with fail
    go_ret
    exact⟨by simp [sameA,hb],(Keep.refl _ _).drewN _⟩
theorem sameA_no {w:World} {ax ay:Option Addr} {lx kx ly ky:Nat} (_hx:IsBuf w ax lx kx) (_hy:IsBuf w ay ly ky) (h:sameA ax ay=false) (b:Nat) (e:ay=some ⟨b,0,none⟩):¬At ax b:=by
 intro hA
 unfold At at hA
 rw [hA,e] at h
 simp [sameA] at h
theorem sameA_yes {w:World} {ax ay:Option Addr} {lx kx ly ky:Nat} (hx:IsBuf w ax lx kx) (hy:IsBuf w ay ly ky) (h:sameA ax ay=true):ax=ay:=by
 rcases hx with⟨rfl,rfl,rfl⟩ | ⟨bx,cx,rfl,h2,h3,h4⟩
 ·simp [sameA] at h
 ·rcases hy with⟨rfl,rfl,rfl⟩ | ⟨by',cy,rfl,g2,g3,g4⟩
  ·simp [sameA] at h
  ·have:bx=by':=by simpa [sameA] using h
   rw [this]
theorem Row.after {w w':World} {b N b' N' o n:Nat} {c c' d:Nat→Nat} (hz:Row w b N c) (hr:Row w' b N c') (hk:Keep (·=b) w w')
  (hout:∀i,i<o∨o+n≤i→c' i=c i) (hx:Row w b' N' d):∃d',Row w' b' N' d'∧∀i,i<N'→(i<o∨o+n≤i)→d' i=d i:=by
 by_cases hb:b'=b
 ·subst hb
  obtain⟨rfl,hs⟩:=hx.same hz
  exact⟨c',hr,fun i hi h=>by rw [hout i h,hs i hi]⟩
 ·exact⟨d,hx.keep hk hb,fun _ _ _=>rfl⟩
theorem Keep.at {w w':World} {b:Nat} (h:Keep (·=b) w w'):Keep (At (some ⟨b,0,none⟩)) w w':=h.mono fun k _ e=>by subst e;rfl
theorem add_ge (w:World) (az:Option Addr) (lz kz bx m kx by' n ky X Y:Nat) (cx cy:Nat→Nat) (hz:IsBuf w az lz kz)
  (hx:Row w bx kx cx) (hxl:m≤kx) (eX:val cx 0 m=X) (hy:Row w by' ky cy) (hyl:n≤ky) (eY:val cy 0 n=Y) (h0:0<n) (hmn:n≤m) (hm:m<900000) :
  Calls Tryz.prog 82 #[.slice az lz kz,.slice (some ⟨bx,0,none⟩) m kx,.slice (some ⟨by',0,none⟩) n ky] w fun e w'=>
   ∃a' l' k',e = .returned (.slice a' l' k')∧IsNat w' a' l' k' (X+Y)∧l'≤m+1∧Own w az a'∧Keep (At az) w w':=by
 have t1:((m:Int)==0)=false:=beq_eq_false_iff_ne.2 (by omega)
 have t2:((n:Int)==0)=false:=beq_eq_false_iff_ne.2 (by omega)
 go_enter Tryz.func82,Tryz.ntmps82
 go_wp2_with fail
 refine(make_any w az lz kz (m+1) hz (by omega)).mono ?_
 rintro e w1 ⟨a1,k1,rfl,hb,ho,hk⟩
 rcases hb with⟨_,h,_⟩ | ⟨b1,c1,rfl,hl1,_,hr1⟩
 ·exact absurd h (by omega)
 have hx1:=hx.keep hk id
 have hy1:=hy.keep hk id
 go_wp2_with fail
 have q1:n≤k1:=by omega
 have q2:n≤kx:=by omega
 go_still_tail 9,(by kernel_rfl)
 change wpList _ _ _ _ _ w1.drew
 go_wp2_with fail
 refine(addVV_any _ b1 0 k1 k1 c1 bx 0 kx kx cx by' 0 ky ky cy n hr1.drew hx1.drew hy1.drew (by omega) (by omega) (by omega) (by omega) (fun _=>by omega) (fun _=>by omega)).mono ?_
 rintro e w2 ⟨r1,c2,rfl,hr2,hk2,hle1,hout2,hval2⟩
 have hk2':=hk2.undrew
 clear hk2
 obtain⟨cx2,hx2,hcx2⟩:=Row.after hr1 hr2 hk2' hout2 hx1
 have fz:=fun c (h:Row w2 b1 k1 c)=>h.cell (i:=m) (by omega)
 by_cases hlt:n<m
 ·have hkn:¬k1=n:=by omega
  have hkx:¬kx=n:=by omega
  have HO2:Hid (∀i,i<0∨0+n≤i→c2 i=c1 i):=hout2
  have HCX:Hid (∀i,i<kx→(i<0∨0+n≤i)→cx2 i=cx i):=hcx2
  have HV2:Hid (val c2 0 n+r1*W64^n=val cx 0 n+val cy 0 n):=hval2
  have EX:Hid (val cx 0 m=X):=eX
  have EY:Hid (val cy 0 n=Y):=eY
  clear hout2 hcx2 hval2 eX eY fz
  go_wp2_with fail
  have q3:m≤k1:=by omega
  go_still_tail 8,(by kernel_rfl)
  change wpList _ _ _ _ _ w2.drew
  go_wp2_with fail
  refine(addVW_any _ b1 n (k1-n) k1 c2 bx n (kx-n) kx cx2 r1 (m-n) hr2.drew hx2.drew (by omega) (by omega) (by omega) (by omega) hle1 (by omega) (by omega) (fun _=>rfl)).mono ?_
  rintro e w3 ⟨r2,c3,rfl,hr3,hk3,hle2,hout3,hval3⟩
  have HO3:Hid (∀i,i<n∨n+(m-n)≤i→c3 i=c2 i):=hout3
  have HV3:Hid (val c3 n (m-n)+r2*W64^(m-n)=val cx2 n (m-n)+r1):=hval3
  have hk3':=hk3.undrew
  have fz:=hr3.cell (i:=m) (by omega)
  have ff:=hr3.frozen m
  have hr2lt:r2<W64:=by unfold W64;omega
  have hr4:=hr3.set m r2 hr2lt
  have hk4:=hk3'.setCell (p:=⟨b1,m,none⟩) rfl (.int .u64 (r2:Int))
  clear hout3 hval3 hk3
  go_wp2_with fail
  refine(norm_any _ (some ⟨b1,0,none⟩) (m+1) k1 (X+Y) (.inr ⟨b1,_,rfl,hl1,by omega,hr4,?_⟩) (by omega)).mono ?_
  ·have e1:val (upd c3 m r2) 0 (m+1)=val c3 0 m+r2*W64^m:=by
    simp only [val,Nat.zero_add,upd_same];rw [val_upd _ _ _ _ _ (by omega)]
   obtain⟨d,rfl⟩:∃d,m=n+d:=⟨m-n,by omega⟩
   have h2:=HV2.out
   have h3:=HV3.out
   have h4:=EX.out
   rw [Nat.add_sub_cancel_left] at h3
   rw [val_ext (c:=cx2) (d:=cx) (o:=n) (p:=n) (n:=d) (fun i hi=>HCX.out _ (by omega) (by omega))] at h3
   rw [e1,val_add c3 0 n d,val_ext (c:=c3) (d:=c2) (o:=0) (p:=0) (n:=n) (fun i hi=>HO3.out _ (by omega)),Nat.zero_add,Nat.pow_add,← h4,← EY.out,val_add cx 0 n d,Nat.zero_add]
   have h5:W64^n*(val c3 n d+r2*W64^d)=W64^n*(val cx n d+r1):=by rw [h3]
   grind
  rintro e w5 ⟨l,rfl,hn,hl,hk5⟩
  go_wp2_with fail
  go_ret
  refine⟨_,l,k1,rfl,hn,hl,ho,hk.own ho ?_⟩
  exact((hk2'.trans hk4).at).trans (hk5.mono fun _ _ h=>h.elim)
 ·obtain rfl:n=m:=by omega
  have HV2:Hid (val c2 0 n+r1*W64^n=val cx 0 n+val cy 0 n):=hval2
  have EX:Hid (val cx 0 n=X):=eX
  have EY:Hid (val cy 0 n=Y):=eY
  clear hout2 hcx2 hval2 eX eY fz
  have fz:=hr2.cell (i:=n) (by omega)
  have ff:=hr2.frozen n
  go_wp2_with fail
  refine(norm_any _ (some ⟨b1,0,none⟩) (n+1) k1 (X+Y) (.inr ⟨b1,_,rfl,hl1,by omega,hr2.set n r1 (by unfold W64;omega),?_⟩) (by omega)).mono ?_
  ·have e1:val (upd c2 n r1) 0 (n+1)=val c2 0 n+r1*W64^n:=by
    simp only [val,Nat.zero_add,upd_same];rw [val_upd _ _ _ _ _ (by omega)]
   rw [e1,HV2.out,EX.out,EY.out]
  rintro e w5 ⟨l,rfl,hn,hl,hk5⟩
  go_wp2_with fail
  go_ret
  refine⟨_,l,k1,rfl,hn,hl,ho,hk.own ho ?_⟩
  exact((hk2'.setCell (p:=⟨b1,n,none⟩) rfl _).at).trans (hk5.mono fun _ _ h=>h.elim)
theorem add_le (w:World) (az ax ay:Option Addr) (lz kz lx kx ly ky X Y:Nat) (hz:IsBuf w az lz kz) (hx:IsNat w ax lx kx X) (hy:IsNat w ay ly ky Y) (h:ly≤lx) (hl:lx<900000) :
  Calls Tryz.prog 82 #[.slice az lz kz,.slice ax lx kx,.slice ay ly ky] w fun e w'=>
   ∃a' l' k',e = .returned (.slice a' l' k')∧IsNat w' a' l' k' (X+Y)∧l'≤lx+1∧Own w az a'∧Keep (At az) w w':=by
 by_cases h0:ly=0
 ·subst h0
  have eY:Y=0:=by have:=hy.val.lt;simpa using this
  subst eY
  by_cases h1:lx=0
  ·subst h1
   have eX:X=0:=by have:=hx.val.lt;simpa using this
   subst eX
   go_enter Tryz.func82,Tryz.ntmps82
   go_wp2_with fail
   go_ret
   refine⟨az,0,kz,rfl,?_,by omega,.inl rfl,Keep.refl _ _⟩
   rcases hz with⟨rfl,_,rfl⟩ | ⟨b,c,rfl,h2,h3,h4⟩
   ·exact .inl ⟨rfl,rfl,rfl,rfl⟩
   ·exact .inr ⟨b,c,rfl,Nat.zero_le _,h3,h4,rfl,.inl rfl⟩
  ·have t1:((lx:Int)==0)=false:=beq_eq_false_iff_ne.2 (by omega)
   go_enter Tryz.func82,Tryz.ntmps82
   go_wp2_with fail
   refine(set_any w az ax lz kz lx kx X hz hx (by omega)).mono ?_
   rintro e w1 ⟨a1,l1,k1,rfl,hn,hl1,ho,hk⟩
   subst hl1
   go_wp2_with fail
   go_ret
   exact⟨a1,_,k1,rfl,hn,by omega,ho,hk⟩
 ·rcases hx with⟨_,h',_⟩ | ⟨bx,cx,rfl,h2,h3,h4,h5,h6⟩
  ·omega
  rcases hy with⟨_,h',_⟩ | ⟨by',cy,rfl,g2,g3,g4,g5,g6⟩
  ·omega
  exact add_ge w az lz kz bx lx kx by' ly ky X Y cx cy hz h4 h2 h5 g4 g2 g5 (by omega) h hl
theorem add_any (w:World) (az ax ay:Option Addr) (lz kz lx kx ly ky X Y:Nat) (hz:IsBuf w az lz kz) (hx:IsNat w ax lx kx X) (hy:IsNat w ay ly ky Y) (hl:lx<900000) (hl':ly<900000) :
  Calls Tryz.prog 82 #[.slice az lz kz,.slice ax lx kx,.slice ay ly ky] w fun e w'=>
   ∃a' l' k',e = .returned (.slice a' l' k')∧IsNat w' a' l' k' (X+Y)∧l'≤max lx ly+1∧Own w az a'∧Keep (At az) w w':=by
 by_cases h:ly≤lx
 ·exact(add_le w az ax ay lz kz lx kx ly ky X Y hz hx hy h hl).mono fun e w' ⟨a',l',k',h1,h2,h3,h4⟩=>⟨a',l',k',h1,h2,by omega,h4⟩
 ·go_enter Tryz.func82,Tryz.ntmps82
  go_wp2_with fail
  refine(add_le w az ay ax lz kz ly ky lx kx Y X hz hy hx (by omega) hl').mono ?_
  rintro e w1 ⟨a1,l1,k1,rfl,hn,hl1,ho,hk⟩
  go_wp2_with fail
  go_ret
  exact⟨a1,l1,k1,rfl,by rw [Nat.add_comm];exact hn,by omega,ho,hk⟩
theorem basicMul_any (w:World) (bz lz kz:Nat) (cz:Nat→Nat) (bx m kx by' n ky:Nat) (cx cy:Nat→Nat) (hz:Row w bz kz cz) (hlz:lz≤kz) (hmn:m+n≤lz)
  (hx:Row w bx kx cx) (hxl:m≤kx) (hy:Row w by' ky cy) (hyl:n≤ky) (hbx:bx≠bz) (hby:by'≠bz) (hm:lz<900000) :
  Calls Tryz.prog 141 #[.slice (some ⟨bz,0,none⟩) lz kz,.slice (some ⟨bx,0,none⟩) m kx,.slice (some ⟨by',0,none⟩) n ky] w fun e w'=>
   ∃c',e = .returned (.tuple #[])∧Row w' bz kz c'∧Keep (·=bz) w w'∧val c' 0 (m+n)=val cx 0 m*val cy 0 n∧(∀i,m+n≤i→c' i=cz i):=by
 obtain⟨w1,c1,hrun,hr1,hk1,hin1,hout1⟩:=run_clear_u64 83 0 Tryz.underlying83 (n:=m+n) (dK:=kz) (oz:=0) hz (by omega)
 go_enter Tryz.func141,Tryz.ntmps141
 go_wp2_with fail
 go_loopw [17] (fun i wr=>∃(k:Nat) (c':Nat→Nat),k≤n∧i = .int .i64 (k:Int)∧Row wr bz kz c'∧Keep (·=bz) w wr ∧
  val c' 0 (m+k)=val cx 0 m*val cy 0 k∧(∀i,m+k≤i→i<m+n→c' i=0)∧(∀i,m+n≤i→c' i=cz i)) (fun i _=>n-(intOf i).toNat)
 case atStart=>
  refine⟨0,c1,by omega,rfl,hr1,hk1,?_,fun i h1 h2=>by have:=hin1 i h2;rwa [Nat.zero_add] at this,fun i hi=>hout1 i (by omega)⟩
  rw [val_ext (c:=c1) (d:=fun _=>0) (o:=0) (p:=0) (n:=m+0) (fun i hi=>hin1 i (by omega))]
  have:∀j,val (fun _=>0) 0 j=0:=by
   intro j;induction j with
   | zero=>rfl
   | succ j ih=>simp [val,ih]
  rw [this];simp [val]
 case round=>
  obtain⟨k,c',hk,rfl,hrow,hkeep,hval,hzero,hout⟩:=hrel
  have HV:Hid (val c' 0 (m+k)=val cx 0 m*val cy 0 k):=hval
  have HZ:Hid (∀i,m+k≤i→i<m+n→c' i=0):=hzero
  have HO:Hid (∀i,m+n≤i→c' i=cz i):=hout
  clear hval hzero hout hrun hin1 hout1
  by_cases hlt:k<n
  ·have fy:=(hy.keep hkeep hby).cell (i:=k) (by omega)
   have dlt:=hy.lt k (by omega)
   have hxr:=hx.keep hkeep hbx
   generalize hd:cy k=d at *
   have HD:Hid (cy k=d):=hd
   clear hd
   by_cases hd0:d=0
   ·have ht:((d:Int) != 0)=false:=by rw [hd0];rfl
    have HD0:Hid (d=0):=hd0
    clear hd0
    go_wp2_with fail
    go_roundw
    case rel=>
     refine⟨k+1,c',by omega,by go_num,hrow,hkeep,?_,fun i h1 h2=>HZ.out i (by omega) h2,HO.out⟩
     have e1:val c' 0 (m+(k+1))=val c' 0 (m+k)+c' (0+(m+k))*W64^(m+k):=rfl
     have e2:val cy 0 (k+1)=val cy 0 k+cy (0+k)*W64^k:=rfl
     rw [e1,e2,Nat.zero_add,Nat.zero_add,HZ.out (m+k) (by omega) (by omega),HD.out,HD0.out,HV.out]
     simp
    case measure=>simp [intOf];omega
   ·have ht:((d:Int) != 0)=true:=by rw [bne_iff_ne];omega
    have HD0:Hid (d≠0):=hd0
    clear hd0
    go_wp2_with fail
    have q1:k+m≤kz:=by omega
    have q2:¬kz=k:=by omega
    have q3:IntKind.i64.wrap ((k:Int)+(m:Int))=(k:Int)+(m:Int):=IntWalk.i64_in _ (by omega)
    have q4:IntKind.i64.wrap ((m:Int)+(k:Int))=(m:Int)+(k:Int):=IntWalk.i64_in _ (by omega)
    have q7:(k:Int)+(m:Int)≤(kz:Int):=by omega
    have q8:(k:Int)≤(k:Int)+(m:Int):=by omega
    have q9:((k:Int)+(m:Int)).toNat=k+m:=by omega
    have q10:((m:Int)+(k:Int)).toNat=m+k:=by omega
    have q11:(m:Int)+(k:Int)<(lz:Int):=by omega
    have q12:(0:Int)≤(m:Int)+(k:Int):=by omega
    have q13:(0:Int)≤(k:Int)+(m:Int):=by omega
    have q5:k≤k+m:=by omega
    have q6:k+m-k=m:=by omega
    have fxx:=hrow.drew
    go_region_with (go_at_call 160;refine(addMulVVWW_any _ bz k (kz-k) kz c' bz k (kz-k) kz c' bx 0 kx kx cx d 0 m hrow.drew hrow.drew hxr.drew (by omega) (by omega) (by omega) (by omega) dlt W64_pos (fun _=>by omega) (fun h=>absurd h hbx)).mono ?_;rintro e w2 ⟨r,c2,rfl,hr2,hk2,hrlt,hout2,hval2⟩;have fz:=hr2.cell (i:=m+k) (by omega);have ff:=hr2.frozen (m+k);have HV2:Hid _:=hval2;have HO2:Hid _:=hout2;clear hval2 hout2)
    go_wp2_with fail
    go_roundw
    case rel=>
     refine⟨k+1,upd c2 (m+k) r,by omega,by go_num,hr2.set _ _ hrlt,(hkeep.trans hk2.undrew).setCell rfl _,?_,?_,?_⟩
     ·have h2:=oo HV2
      have h3:=oo HO2
      have h4:=HV.out
      have e1:val (upd c2 (m+k) r) 0 (m+(k+1))=val c2 0 (k+m)+r*W64^(k+m):=by
       show val (upd c2 (m+k) r) 0 (m+k)+upd c2 (m+k) r (0+(m+k))*W64^(m+k)=_
       rw [Nat.zero_add,upd_same,val_upd _ _ _ _ _ (by omega),Nat.add_comm m k]
      have e2:val cy 0 (k+1)=val cy 0 k+d*W64^k:=by
       show val cy 0 k+cy (0+k)*W64^k=_
       rw [Nat.zero_add,HD.out]
      rw [Nat.add_comm m k,val_add c' 0 k m] at h4
      rw [e1,e2,val_add c2 0 k m,val_ext (c:=c2) (d:=c') (o:=0) (p:=0) (n:=k) (fun i hi=>h3 _ (by omega)),Nat.pow_add]
      rw [Nat.zero_add] at h4 ⊢
      have h5:W64^k*(val c2 k m+r*W64^m)=W64^k*(val c' k m+val cx 0 m*d+0):=by rw [h2]
      grind
     ·intro i h1 h2
      rw [upd_ne _ _ (by omega),oo HO2 i (by omega)]
      exact HZ.out i (by omega) h2
     ·intro i hi
      rw [upd_ne _ _ (by omega),oo HO2 i (by omega)]
      exact HO.out i hi
    case measure=>simp [intOf];omega
  ·obtain rfl:k=n:=by omega
   go_wp2_with fail
   go_end0
   exact⟨c',rfl,hrow,hkeep,HV.out,HO.out⟩
theorem sub_ge (w:World) (az:Option Addr) (lz kz bx m kx by' n ky X Y:Nat) (cx cy:Nat→Nat) (hz:IsBuf w az lz kz)
  (hx:Row w bx kx cx) (hxl:m≤kx) (eX:val cx 0 m=X) (hy:Row w by' ky cy) (hyl:n≤ky) (eY:val cy 0 n=Y) (h0:0<n) (hmn:n≤m) (hm:m<900000) (hXY:Y≤X) :
  Calls Tryz.prog 83 #[.slice az lz kz,.slice (some ⟨bx,0,none⟩) m kx,.slice (some ⟨by',0,none⟩) n ky] w fun e w'=>
   ∃a' l' k',e = .returned (.slice a' l' k')∧IsNat w' a' l' k' (X-Y)∧l'≤m∧Own w az a'∧Keep (At az) w w':=by
 have t1:((m:Int)==0)=false:=beq_eq_false_iff_ne.2 (by omega)
 have t2:((n:Int)==0)=false:=beq_eq_false_iff_ne.2 (by omega)
 go_enter Tryz.func83,Tryz.ntmps83
 go_wp2_with fail
 refine(make_any w az lz kz m hz (by omega)).mono ?_
 rintro e w1 ⟨a1,k1,rfl,hb,ho,hk⟩
 rcases hb with⟨_,h,_⟩ | ⟨b1,c1,rfl,hl1,_,hr1⟩
 ·exact absurd h (by omega)
 have hx1:=hx.keep hk id
 have hy1:=hy.keep hk id
 go_wp2_with fail
 have q1:n≤k1:=by omega
 have q2:n≤kx:=by omega
 go_still_tail 9,(by kernel_rfl)
 change wpList _ _ _ _ _ w1.drew
 go_wp2_with fail
 refine(subVV_any _ b1 0 k1 k1 c1 bx 0 kx kx cx by' 0 ky ky cy n hr1.drew hx1.drew hy1.drew (by omega) (by omega) (by omega) (by omega) (fun _=>by omega) (fun _=>by omega)).mono ?_
 rintro e w2 ⟨r1,c2,rfl,hr2,hk2,hle1,hout2,hval2⟩
 have hk2':=hk2.undrew
 clear hk2
 obtain⟨cx2,hx2,hcx2⟩:=Row.after hr1 hr2 hk2' hout2 hx1
 by_cases hlt:n<m
 ·have hkn:¬k1=n:=by omega
  have hkx:¬kx=n:=by omega
  have HO2:Hid (∀i,i<0∨0+n≤i→c2 i=c1 i):=hout2
  have HCX:Hid (∀i,i<kx→(i<0∨0+n≤i)→cx2 i=cx i):=hcx2
  have HV2:Hid (val c2 0 n+val cy 0 n=val cx 0 n+r1*W64^n):=hval2
  have EX:Hid (val cx 0 m=X):=eX
  have EY:Hid (val cy 0 n=Y):=eY
  clear hout2 hcx2 hval2 eX eY
  go_wp2_with fail
  have q3:m≤k1:=by omega
  go_still_tail 7,(by kernel_rfl)
  change wpList _ _ _ _ _ w2.drew
  go_wp2_with fail
  refine(subVW_any _ b1 n (k1-n) k1 c2 bx n (kx-n) kx cx2 r1 (m-n) hr2.drew hx2.drew (by omega) (by omega) (by omega) (by omega) hle1 (by omega) (by omega) (fun _=>rfl)).mono ?_
  rintro e w3 ⟨r2,c3,rfl,hr3,hk3,hle2,hout3,hval3⟩
  have hk3':=hk3.undrew
  have e1:val c3 0 m+Y=X+r2*W64^m:=by
   obtain⟨d,rfl⟩:∃d,m=n+d:=⟨m-n,by omega⟩
   have h2:=HV2.out
   have h4:=EX.out
   rw [Nat.add_sub_cancel_left] at hval3
   rw [val_ext (c:=cx2) (d:=cx) (o:=n) (p:=n) (n:=d) (fun i hi=>HCX.out _ (by omega) (by omega))] at hval3
   rw [val_add c3 0 n d,val_ext (c:=c3) (d:=c2) (o:=0) (p:=0) (n:=n) (fun i hi=>hout3 _ (by omega)),Nat.zero_add,Nat.pow_add,← h4,← EY.out,val_add cx 0 n d,Nat.zero_add]
   have h5:W64^n*(val c3 n d+r1)=W64^n*(val cx n d+r2*W64^d):=by rw [hval3]
   grind
  have hlt3:val c3 0 m<W64^m:=val_lt fun i hi=>hr3.lt _ (by omega)
  have hr20:r2=0:=by
   rcases(show r2=0∨r2=1 from by omega) with h | h
   ·exact h
   ·subst h;omega
  subst hr20
  have HE1:Hid (val c3 0 m+Y=X+0*W64^m):=e1
  clear hout3 hval3 hk3 e1
  go_wp2_with fail
  refine(norm_any _ (some ⟨b1,0,none⟩) m k1 (X-Y) (.inr ⟨b1,_,rfl,hl1,by omega,hr3,?_⟩) (by omega)).mono ?_
  ·have:=HE1.out;omega
  rintro e w5 ⟨l,rfl,hn,hl,hk5⟩
  go_wp2_with fail
  go_ret
  refine⟨_,l,k1,rfl,hn,hl,ho,hk.own ho ?_⟩
  exact((hk2'.trans hk3').at).trans (hk5.mono fun _ _ h=>h.elim)
 ·obtain rfl:n=m:=by omega
  have e1:val c2 0 n+Y=X+r1*W64^n:=by rw [← eX,← eY];exact hval2
  have hlt3:val c2 0 n<W64^n:=val_lt fun i hi=>hr2.lt _ (by omega)
  have hr20:r1=0:=by
   rcases(show r1=0∨r1=1 from by omega) with h | h
   ·exact h
   ·subst h;omega
  subst hr20
  have HE1:Hid (val c2 0 n+Y=X+0*W64^n):=e1
  clear hout2 hcx2 hval2 eX eY e1
  go_wp2_with fail
  refine(norm_any _ (some ⟨b1,0,none⟩) n k1 (X-Y) (.inr ⟨b1,_,rfl,hl1,by omega,hr2,?_⟩) (by omega)).mono ?_
  ·have:=HE1.out;omega
  rintro e w5 ⟨l,rfl,hn,hl,hk5⟩
  go_wp2_with fail
  go_ret
  refine⟨_,l,k1,rfl,hn,hl,ho,hk.own ho ?_⟩
  exact hk2'.at.trans (hk5.mono fun _ _ h=>h.elim)
theorem sub_any (w:World) (az ax ay:Option Addr) (lz kz lx kx ly ky X Y:Nat) (hz:IsBuf w az lz kz) (hx:IsNat w ax lx kx X) (hy:IsNat w ay ly ky Y) (hXY:Y≤X) (hl:lx<900000) :
  Calls Tryz.prog 83 #[.slice az lz kz,.slice ax lx kx,.slice ay ly ky] w fun e w'=>
   ∃a' l' k',e = .returned (.slice a' l' k')∧IsNat w' a' l' k' (X-Y)∧l'≤lx∧Own w az a'∧Keep (At az) w w':=by
 have h:ly≤lx:=by
  refine Classical.byContradiction fun h=>?_
  have:=lt_of_len hx hy (by omega)
  omega
 by_cases h0:ly=0
 ·subst h0
  have eY:Y=0:=by have:=hy.val.lt;simpa using this
  subst eY
  by_cases h1:lx=0
  ·subst h1
   have eX:X=0:=by have:=hx.val.lt;simpa using this
   subst eX
   go_enter Tryz.func83,Tryz.ntmps83
   go_wp2_with fail
   go_ret
   refine⟨az,0,kz,rfl,?_,by omega,.inl rfl,Keep.refl _ _⟩
   rcases hz with⟨rfl,_,rfl⟩ | ⟨b,c,rfl,h2,h3,h4⟩
   ·exact .inl ⟨rfl,rfl,rfl,rfl⟩
   ·exact .inr ⟨b,c,rfl,Nat.zero_le _,h3,h4,rfl,.inl rfl⟩
  ·have t1:((lx:Int)==0)=false:=beq_eq_false_iff_ne.2 (by omega)
   clear h hXY
   go_enter Tryz.func83,Tryz.ntmps83
   go_wp2_with fail
   refine(set_any w az ax lz kz lx kx X hz hx (by omega)).mono ?_
   rintro e w1 ⟨a1,l1,k1,rfl,hn,hl1,ho,hk⟩
   subst hl1
   go_wp2_with fail
   go_ret
   exact⟨a1,_,k1,rfl,hn,by omega,ho,hk⟩
 ·rcases hx with⟨_,h',_⟩ | ⟨bx,cx,rfl,h2,h3,h4,h5,h6⟩
  ·omega
  rcases hy with⟨_,h',_⟩ | ⟨by',cy,rfl,g2,g3,g4,g5,g6⟩
  ·omega
  exact sub_ge w az lz kz bx lx kx by' ly ky X Y cx cy hz h4 h2 h5 g4 g2 g5 (by omega) h hl hXY
theorem Keep.cell {S:Nat→Prop} {w w':World} (h:Keep S w w') {a:Addr} {v:Value} (hc:w.cell? a=some v) (hs:¬S a.block):w'.cell? a=some v:=by
 have hb:a.block<w.heap.size:=by
  refine Classical.byContradiction fun hge=>?_
  simp [World.cell?,Array.getElem?_eq_none (Nat.le_of_not_lt hge)] at hc
 rw [← hc]
 simp only [World.cell?,h.block _ hb hs]
theorem mulAddWW_any (w:World) (az ax:Option Addr) (lz kz lx kx X y r:Nat) (hz:IsBuf w az lz kz) (hx:IsNat w ax lx kx X) (hl:lx<900000) (hy:y<W64) (hr:r<W64) :
  Calls Tryz.prog 88 #[.slice az lz kz,.slice ax lx kx,.int .u64 (y:Int),.int .u64 (r:Int)] w fun e w'=>
   ∃a' l' k',e = .returned (.slice a' l' k')∧IsNat w' a' l' k' (X*y+r)∧l'≤lx+1∧Own w az a'∧Keep (At az) w w':=by
 by_cases h0:lx=0
 ·subst h0
  have eX:X=0:=by have:=hx.val.lt;simpa using this
  subst eX
  go_enter Tryz.func88,Tryz.ntmps88
  go_wp2_with fail
  refine(setWord_any w az lz kz r hz hr).mono ?_
  rintro e w1 ⟨a1,l1,k1,rfl,hn,ho,hk⟩
  have hl1:=hn.big
  go_wp2_with fail
  go_ret
  refine⟨a1,l1,k1,rfl,by simpa using hn,?_,ho,hk⟩
  rcases hl1 with h | h
  ·omega
  ·refine Classical.byContradiction fun hgt=>?_
   have h2:W64^1≤W64^(l1-1):=Nat.pow_le_pow_right W64_pos (by omega)
   rw [Nat.pow_one] at h2
   omega
 ·have t1:((lx:Int)==0)=false:=beq_eq_false_iff_ne.2 (by omega)
  by_cases hy0:y=0
  ·subst hy0
   go_enter Tryz.func88,Tryz.ntmps88
   go_wp2_with fail
   refine(setWord_any w az lz kz r hz hr).mono ?_
   rintro e w1 ⟨a1,l1,k1,rfl,hn,ho,hk⟩
   have hl1:=hn.big
   go_wp2_with fail
   go_ret
   refine⟨a1,l1,k1,rfl,by simpa using hn,?_,ho,hk⟩
   rcases hl1 with h | h
   ·omega
   ·refine Classical.byContradiction fun hgt=>?_
    have h2:W64^1≤W64^(l1-1):=Nat.pow_le_pow_right W64_pos (by omega)
    rw [Nat.pow_one] at h2
    omega
  ·have t2:((y:Int)==0)=false:=beq_eq_false_iff_ne.2 (by omega)
   rcases hx with⟨_,h',_⟩ | ⟨bx,cx,rfl,h2,h3,h4,h5,h6⟩
   ·omega
   have EX:Hid (val cx 0 lx=X):=h5
   clear h5 h6
   go_enter Tryz.func88,Tryz.ntmps88
   go_wp2_with fail
   refine(make_any w az lz kz (lx+1) hz (by omega)).mono ?_
   rintro e w1 ⟨a1,k1,rfl,hb,ho,hk⟩
   rcases hb with⟨_,h,_⟩ | ⟨b1,c1,rfl,hl1,_,hr1⟩
   ·exact absurd h (by omega)
   have hx1:=h4.keep hk id
   go_wp2_with fail
   refine(mulAddVWW_any _ b1 0 k1 k1 c1 bx 0 kx kx cx y r lx hr1 hx1 (by omega) (by omega) (by omega) hy hr (fun _=>by omega)).mono ?_
   rintro e w2 ⟨r2,c2,rfl,hr2,hk2,hlt2,hout2,hval2⟩
   have HV2:Hid _:=hval2
   clear hval2 hout2
   have fz:=hr2.cell (i:=lx) (by omega)
   have ff:=hr2.frozen lx
   go_wp2_with fail
   refine(norm_any _ (some ⟨b1,0,none⟩) (lx+1) k1 (X*y+r) (.inr ⟨b1,_,rfl,hl1,by omega,hr2.set lx r2 hlt2,?_⟩) (by omega)).mono ?_
   ·have e1:val (upd c2 lx r2) 0 (lx+1)=val c2 0 lx+r2*W64^lx:=by
     simp only [val,Nat.zero_add,upd_same];rw [val_upd _ _ _ _ _ (by omega)]
    rw [e1,oo HV2,EX.out]
   rintro e w5 ⟨l,rfl,hn,hl,hk5⟩
   go_wp2_with fail
   go_ret
   refine⟨_,l,k1,rfl,hn,hl,ho,hk.own ho ?_⟩
   exact((hk2.setCell (p:=⟨b1,lx,none⟩) rfl _).at).trans (hk5.mono fun _ _ h=>h.elim)
theorem mul_ge (w:World) (stk:Value) (az:Option Addr) (lz kz bx m kx by' n ky X Y:Nat) (cx cy:Nat→Nat) (hz:IsBuf w az lz kz) (hg:w.cell? ⟨5,0,none⟩=some (.int .i64 40))
  (hx:Row w bx kx cx) (hxl:m≤kx) (eX:val cx 0 m=X) (hy:Row w by' ky cy) (hyl:n≤ky) (eY:val cy 0 n=Y) (h0:1<n) (hmn:n≤m) (hn:n<40) (hm:m<400000) (hkx:kx≤9223372036854775807) (hky:ky≤9223372036854775807) :
  Calls Tryz.prog 117 #[.slice az lz kz,stk,.slice (some ⟨bx,0,none⟩) m kx,.slice (some ⟨by',0,none⟩) n ky] w fun e w'=>
   ∃a' l' k',e = .returned (.slice a' l' k')∧IsNat w' a' l' k' (X*Y)∧l'≤m+n∧Own w az a'∧Keep (At az) w w':=by
 have t1:((m:Int)==0)=false:=beq_eq_false_iff_ne.2 (by omega)
 have t2:((n:Int)==0)=false:=beq_eq_false_iff_ne.2 (by omega)
 have t3:((n:Int)==1)=false:=beq_eq_false_iff_ne.2 (by omega)
 have EX:Hid (val cx 0 m=X):=eX
 have EY:Hid (val cy 0 n=Y):=eY
 clear eX eY
 have hbx:IsBuf w (some ⟨bx,0,none⟩) m kx:=.inr ⟨bx,cx,rfl,hxl,by omega,hx⟩
 have hby:IsBuf w (some ⟨by',0,none⟩) n ky:=.inr ⟨by',cy,rfl,hyl,by omega,hy⟩
 cases s1:sameA az (some ⟨bx,0,none⟩) with
 | true=>
  go_enter Tryz.func117,Tryz.ntmps117
  go_wp2_with fail
  refine(alias_any _ az (some ⟨bx,0,none⟩) lz kz m kx hz hbx).mono ?_
  rintro e w1 ⟨rfl,hk1⟩
  rw [s1]
  go_wp2_with fail
  refine(make_any _ none 0 0 (m+n) (.inl ⟨rfl,rfl,rfl⟩) (by omega)).mono ?_
  rintro e w2 ⟨a1,k1,rfl,hb,ho,hk2⟩
  have hk12:=hk1.trans hk2
  rcases hb with⟨_,h,_⟩ | ⟨b1,c1,rfl,hl1,_,hr1⟩
  ·exact absurd h (by omega)
  have hx1:=hx.keep hk12 id
  have hy1:=hy.keep hk12 id
  have hg2:=hk12.cell hg id
  have nx:bx≠b1:=by
   rintro rfl
   rcases ho with h | ⟨k,h,hk⟩
   ·simp at h
   ·have:=hx.inHeap
    have h1:=hk1.size
    simp only [Option.some.injEq,Addr.mk.injEq,and_true] at h
    omega
  have ny:by'≠b1:=by
   rintro rfl
   rcases ho with h | ⟨k,h,hk⟩
   ·simp at h
   ·have:=hy.inHeap
    have h1:=hk1.size
    simp only [Option.some.injEq,Addr.mk.injEq,and_true] at h
    omega
  have hthr:(n:Int)<40:=by omega
  go_wp2_with fail
  refine(basicMul_any _ b1 (m+n) k1 c1 bx m kx by' n ky cx cy hr1 hl1 (Nat.le_refl _) hx1 hxl hy1 hyl nx ny (by omega)).mono ?_
  rintro e w3 ⟨c3,rfl,hr3,hk3,hval3,_⟩
  have HV3:Hid _:=hval3
  clear hval3
  go_wp2_with fail
  refine(norm_any _ (some ⟨b1,0,none⟩) (m+n) k1 (X*Y) (.inr ⟨b1,_,rfl,hl1,by omega,hr3,by rw [oo HV3,EX.out,EY.out]⟩) (by omega)).mono ?_
  rintro e w5 ⟨l,rfl,hn5,hl5,hk5⟩
  go_wp2_with fail
  go_ret
  refine⟨_,l,k1,rfl,hn5,hl5,.inr ⟨b1,rfl,by rcases ho with h | ⟨k,h,hk⟩;simp at h;have h1:=hk1.size;simp only [Option.some.injEq,Addr.mk.injEq,and_true] at h;omega⟩,(hk12.own (az:=none) (by rcases ho with h | ⟨k,h,hk⟩;simp at h;exact .inr ⟨k,h,by have:=hk1.size;omega⟩) (hk3.at.trans (hk5.mono fun _ _ h=>h.elim))).mono (fun k _ h=>by simp [At] at h)⟩
 | false=>
  cases s2:sameA az (some ⟨by',0,none⟩) with
  | true=>
   go_enter Tryz.func117,Tryz.ntmps117
   go_wp2_with fail
   refine(alias_any _ az (some ⟨bx,0,none⟩) lz kz m kx hz hbx).mono ?_
   rintro e w0 ⟨rfl,hk0⟩
   rw [s1]
   go_wp2_with fail
   refine(alias_any _ az (some ⟨by',0,none⟩) lz kz n ky (hz.keep hk0 (fun _ _=>id)) (hby.keep hk0 (fun _ _=>id))).mono ?_
   rintro e w1 ⟨rfl,hk1'⟩
   have hk1:=hk0.trans hk1'
   clear hk1' hk0
   rw [s2]
   go_wp2_with fail
   refine(make_any _ none 0 0 (m+n) (.inl ⟨rfl,rfl,rfl⟩) (by omega)).mono ?_
   rintro e w2 ⟨a1,k1,rfl,hb,ho,hk2⟩
   have hk12:=hk1.trans hk2
   rcases hb with⟨_,h,_⟩ | ⟨b1,c1,rfl,hl1,_,hr1⟩
   ·exact absurd h (by omega)
   have hx1:=hx.keep hk12 id
   have hy1:=hy.keep hk12 id
   have hg2:=hk12.cell hg id
   have nx:bx≠b1:=by
    rintro rfl
    rcases ho with h | ⟨k,h,hk⟩
    ·simp at h
    ·have:=hx.inHeap
     have h1:=hk1.size
     simp only [Option.some.injEq,Addr.mk.injEq,and_true] at h
     omega
   have ny:by'≠b1:=by
    rintro rfl
    rcases ho with h | ⟨k,h,hk⟩
    ·simp at h
    ·have:=hy.inHeap
     have h1:=hk1.size
     simp only [Option.some.injEq,Addr.mk.injEq,and_true] at h
     omega
   have hthr:(n:Int)<40:=by omega
   go_wp2_with fail
   refine(basicMul_any _ b1 (m+n) k1 c1 bx m kx by' n ky cx cy hr1 hl1 (Nat.le_refl _) hx1 hxl hy1 hyl nx ny (by omega)).mono ?_
   rintro e w3 ⟨c3,rfl,hr3,hk3,hval3,_⟩
   have HV3:Hid _:=hval3
   clear hval3
   go_wp2_with fail
   refine(norm_any _ (some ⟨b1,0,none⟩) (m+n) k1 (X*Y) (.inr ⟨b1,_,rfl,hl1,by omega,hr3,by rw [oo HV3,EX.out,EY.out]⟩) (by omega)).mono ?_
   rintro e w5 ⟨l,rfl,hn5,hl5,hk5⟩
   go_wp2_with fail
   go_ret
   refine⟨_,l,k1,rfl,hn5,hl5,.inr ⟨b1,rfl,by rcases ho with h | ⟨k,h,hk⟩;simp at h;have h1:=hk1.size;simp only [Option.some.injEq,Addr.mk.injEq,and_true] at h;omega⟩,(hk12.own (az:=none) (by rcases ho with h | ⟨k,h,hk⟩;simp at h;exact .inr ⟨k,h,by have:=hk1.size;omega⟩) (hk3.at.trans (hk5.mono fun _ _ h=>h.elim))).mono (fun k _ h=>by simp [At] at h)⟩
  | false=>
   go_enter Tryz.func117,Tryz.ntmps117
   go_wp2_with fail
   refine(alias_any _ az (some ⟨bx,0,none⟩) lz kz m kx hz hbx).mono ?_
   rintro e w0 ⟨rfl,hk0⟩
   rw [s1]
   go_wp2_with fail
   refine(alias_any _ az (some ⟨by',0,none⟩) lz kz n ky (hz.keep hk0 (fun _ _=>id)) (hby.keep hk0 (fun _ _=>id))).mono ?_
   rintro e w1 ⟨rfl,hk1'⟩
   have hk1:=hk0.trans hk1'
   clear hk1' hk0
   rw [s2]
   go_wp2_with fail
   refine(make_any _ az lz kz (m+n) (hz.keep hk1 (fun _ _=>id)) (by omega)).mono ?_
   rintro e w2 ⟨a1,k1,rfl,hb,ho,hk2⟩
   have hk12:=hk1.trans hk2
   rcases hb with⟨_,h,_⟩ | ⟨b1,c1,rfl,hl1,_,hr1⟩
   ·exact absurd h (by omega)
   have hx1:=hx.keep hk12 id
   have hy1:=hy.keep hk12 id
   have hg2:=hk12.cell hg id
   have nx:bx≠b1:=by
    rintro rfl
    rcases ho with h | ⟨k,h,hk⟩
    ·rw [← h] at s1;simp [sameA] at s1
    ·have:=hx.inHeap
     have h1:=hk1.size
     simp only [Option.some.injEq,Addr.mk.injEq,and_true] at h
     omega
   have ny:by'≠b1:=by
    rintro rfl
    rcases ho with h | ⟨k,h,hk⟩
    ·rw [← h] at s2;simp [sameA] at s2
    ·have:=hy.inHeap
     have h1:=hk1.size
     simp only [Option.some.injEq,Addr.mk.injEq,and_true] at h
     omega
   have hthr:(n:Int)<40:=by omega
   go_wp2_with fail
   refine(basicMul_any _ b1 (m+n) k1 c1 bx m kx by' n ky cx cy hr1 hl1 (Nat.le_refl _) hx1 hxl hy1 hyl nx ny (by omega)).mono ?_
   rintro e w3 ⟨c3,rfl,hr3,hk3,hval3,_⟩
   have HV3:Hid _:=hval3
   clear hval3
   go_wp2_with fail
   refine(norm_any _ (some ⟨b1,0,none⟩) (m+n) k1 (X*Y) (.inr ⟨b1,_,rfl,hl1,by omega,hr3,by rw [oo HV3,EX.out,EY.out]⟩) (by omega)).mono ?_
   rintro e w5 ⟨l,rfl,hn5,hl5,hk5⟩
   go_wp2_with fail
   go_ret
   refine⟨_,l,k1,rfl,hn5,hl5,ho.mono hk1.size,hk12.own (ho.mono hk1.size) (hk3.at.trans (hk5.mono fun _ _ h=>h.elim))⟩
theorem IsNat.zero {w:World} {a:Option Addr} {cap N:Nat} (h:IsNat w a 0 cap N):N=0:=by have:=h.val.lt;simpa using this
theorem IsBuf.nat0 {w:World} {a:Option Addr} {len cap:Nat} (h:IsBuf w a len cap):IsNat w a 0 cap 0:=by
 rcases h with⟨rfl,_,rfl⟩ | ⟨b,c,rfl,h2,h3,h4⟩
 ·exact .inl ⟨rfl,rfl,rfl,rfl⟩
 ·exact .inr ⟨b,c,rfl,Nat.zero_le _,h3,h4,rfl,.inl rfl⟩
theorem mul_le (w:World) (stk:Value) (az ax ay:Option Addr) (lz kz lx kx ly ky X Y:Nat) (hz:IsBuf w az lz kz) (hg:w.cell? ⟨5,0,none⟩=some (.int .i64 40))
  (hx:IsNat w ax lx kx X) (hy:IsNat w ay ly ky Y) (h:ly≤lx) (hl:lx<400000) (hl':ly<40) :
  Calls Tryz.prog 117 #[.slice az lz kz,stk,.slice ax lx kx,.slice ay ly ky] w fun e w'=>
   ∃a' l' k',e = .returned (.slice a' l' k')∧IsNat w' a' l' k' (X*Y)∧l'≤lx+ly∧Own w az a'∧Keep (At az) w w':=by
 by_cases h0:ly=0
 ·subst h0
  obtain rfl:=hy.zero
  by_cases h1:lx=0
  ·subst h1
   go_enter Tryz.func117,Tryz.ntmps117
   go_wp2_with fail
   go_ret
   exact⟨az,0,kz,rfl,by rw [Nat.mul_zero];exact hz.nat0,by omega,.inl rfl,Keep.refl _ _⟩
  ·have t1:((lx:Int)==0)=false:=beq_eq_false_iff_ne.2 (by omega)
   go_enter Tryz.func117,Tryz.ntmps117
   go_wp2_with fail
   go_ret
   exact⟨az,0,kz,rfl,by rw [Nat.mul_zero];exact hz.nat0,by omega,.inl rfl,Keep.refl _ _⟩
 ·have hx0:=hx
  rcases hx with⟨_,h',_⟩ | ⟨bx,cx,rfl,h2,h3,h4,h5,h6⟩
  ·omega
  rcases hy with⟨_,h',_⟩ | ⟨by',cy,rfl,g2,g3,g4,g5,g6⟩
  ·omega
  by_cases h1:ly=1
  ·subst h1
   have t1:((lx:Int)==0)=false:=beq_eq_false_iff_ne.2 (by omega)
   have fy:=g4.cell (i:=0) (by omega)
   have dlt:=g4.lt 0 (by omega)
   have eY:cy 0=Y:=by rw [← g5];simp [val]
   rw [eY] at fy dlt
   clear g6 g5 eY h6 h5
   go_enter Tryz.func117,Tryz.ntmps117
   go_wp2_with fail
   refine(mulAddWW_any _ az (some ⟨bx,0,none⟩) lz kz lx kx X Y 0 hz hx0 (by omega) dlt W64_pos).mono ?_
   rintro e w1 ⟨a1,l1,k1,rfl,hn,hl1,ho,hk⟩
   go_wp2_with fail
   go_ret
   exact⟨a1,l1,k1,rfl,hn,hl1,ho,hk⟩
  ·exact mul_ge w stk az lz kz bx lx kx by' ly ky X Y cx cy hz hg h4 h2 h5 g4 g2 g5 (by omega) h hl' hl h3.2 g3.2
theorem mul_any (w:World) (stk:Value) (az ax ay:Option Addr) (lz kz lx kx ly ky X Y:Nat) (hz:IsBuf w az lz kz) (hg:w.cell? ⟨5,0,none⟩=some (.int .i64 40))
  (hx:IsNat w ax lx kx X) (hy:IsNat w ay ly ky Y) (hl:lx<40) (hl':ly<40) :
  Calls Tryz.prog 117 #[.slice az lz kz,stk,.slice ax lx kx,.slice ay ly ky] w fun e w'=>
   ∃a' l' k',e = .returned (.slice a' l' k')∧IsNat w' a' l' k' (X*Y)∧l'≤lx+ly∧Own w az a'∧Keep (At az) w w':=by
 by_cases h:ly≤lx
 ·exact mul_le w stk az ax ay lz kz lx kx ly ky X Y hz hg hx hy h (by omega) hl'
 ·go_enter Tryz.func117,Tryz.ntmps117
  go_wp2_with fail
  refine(mul_le w stk az ay ax lz kz ly ky lx kx Y X hz hg hy hx (by omega) (by omega) hl).mono ?_
  rintro e w1 ⟨a1,l1,k1,rfl,hn,hl1,ho,hk⟩
  go_wp2_with fail
  go_ret
  exact⟨a1,l1,k1,rfl,by rw [Nat.mul_comm];exact hn,by omega,ho,hk⟩
theorem sqr_any (w:World) (stk:Value) (az ax:Option Addr) (lz kz lx kx X:Nat) (hz:IsBuf w az lz kz) (hg3:w.cell? ⟨3,0,none⟩=some (.int .i64 12)) (hg4:w.cell? ⟨4,0,none⟩=some (.int .i64 80))
  (hx:IsNat w ax lx kx X) (hl:lx<12) :
  Calls Tryz.prog 116 #[.slice az lz kz,stk,.slice ax lx kx] w fun e w'=>
   ∃a' l' k',e = .returned (.slice a' l' k')∧IsNat w' a' l' k' (X*X)∧l'≤lx+lx∧Own w az a'∧Keep (At az) w w':=by
 by_cases h0:lx=0
 ·subst h0
  obtain rfl:=hx.zero
  go_enter Tryz.func116,Tryz.ntmps116
  go_wp2_with fail
  go_ret
  exact⟨az,0,kz,rfl,hz.nat0,by omega,.inl rfl,Keep.refl _ _⟩
 ·have hxb:=hx.buf
  rcases hx with⟨_,h',_⟩ | ⟨bx,cx,rfl,h2,h3,h4,h5,h6⟩
  ·omega
  have t1:((lx:Int)==0)=false:=beq_eq_false_iff_ne.2 (by omega)
  by_cases h1:lx=1
  ·subst h1
   have fx:=h4.cell (i:=0) (by omega)
   have dlt:=h4.lt 0 (by omega)
   have eX:cx 0=X:=by rw [← h5];simp [val]
   rw [eX] at fx dlt
   clear h6 h5 eX
   go_enter Tryz.func116,Tryz.ntmps116
   go_wp2_with fail
   refine(make_any _ az lz kz 2 hz (by omega)).mono ?_
   rintro e w1 ⟨a1,k1,rfl,hb,ho,hk⟩
   rcases hb with⟨_,h,_⟩ | ⟨b1,c1,rfl,hl1,_,hr1⟩
   ·exact absurd h (by omega)
   go_wp2_with fail
   have fz:=hr1.cell (i:=1) (by omega)
   have ff:=hr1.frozen 1
   have hr2:=hr1.set 1 (mulHi X X 0) (mulHi_lt dlt dlt W64_pos)
   have fz2:=hr2.cell (i:=0) (by omega)
   have ff2:=hr2.frozen 0
   have hr3:=hr2.set 0 (mulLo X X 0) (mulLo_lt _ _ _)
   have hk3:=((Keep.refl (At (some ⟨b1,0,none⟩)) w1).setCell (p:=⟨b1,1,none⟩) rfl (.int .u64 (mulHi X X 0:Nat))).setCell (p:=⟨b1,0,none⟩) rfl (.int .u64 (mulLo X X 0:Nat))
   have hval:val (upd (upd c1 1 (mulHi X X 0)) 0 (mulLo X X 0)) 0 2=X*X:=by
    have:=mul_eq X X 0
    simp only [val,upd,Nat.zero_add,if_true,Nat.pow_zero,Nat.pow_one,Nat.mul_one]
    simp
    rw [Nat.mul_comm (mulHi X X 0)]
    omega
   have HV:Hid _:=hval
   clear hval
   go_wp2_with (go_at_call 140;refine(mulWW_any X X dlt dlt _).mono ?_;rintro e w' ⟨rfl,rfl⟩)
   refine(norm_any _ (some ⟨b1,0,none⟩) 2 k1 (X*X) (.inr ⟨b1,_,rfl,hl1,by omega,hr3,oo HV⟩) (by omega)).mono ?_
   rintro e w5 ⟨l,rfl,hn5,hl5,hk5⟩
   go_wp2_with fail
   go_ret
   exact⟨_,l,k1,rfl,hn5,by omega,ho,hk.own ho (hk3.trans (hk5.mono fun _ _ h=>h.elim))⟩
  ·have t2:((lx:Int)==1)=false:=beq_eq_false_iff_ne.2 (by omega)
   have HX:Hid (val cx 0 lx=X):=h5
   clear h5 h6
   cases s1:sameA az (some ⟨bx,0,none⟩) with
   | true=>
    go_enter Tryz.func116,Tryz.ntmps116
    go_wp2_with fail
    refine(alias_any _ az (some ⟨bx,0,none⟩) lz kz lx kx hz hxb).mono ?_
    rintro e w1 ⟨rfl,hk1⟩
    rw [s1]
    go_wp2_with fail
    rw [show (2*(lx:Int))=((lx+lx:Nat):Int) from by omega]
    refine(make_any _ none 0 0 (lx+lx) (.inl ⟨rfl,rfl,rfl⟩) (by omega)).mono ?_
    rintro e w2 ⟨a1,k1,rfl,hb,ho,hk2⟩
    have hk12:=hk1.trans hk2
    rcases hb with⟨_,h,_⟩ | ⟨b1,c1,rfl,hl1,_,hr1⟩
    ·exact absurd h (by omega)
    have hx1:=h4.keep hk12 id
    have hg32:=hk12.cell hg3 id
    have hg42:=hk12.cell hg4 id
    have nx:bx≠b1:=by
     rintro rfl
     rcases ho with h | ⟨k,h,hk⟩
     ·simp at h
     ·have:=h4.inHeap
      have h1:=hk1.size
      simp only [Option.some.injEq,Addr.mk.injEq,and_true] at h
      omega
    have hthr:lx<12:=hl
    have hthr2:(lx:Int)<80:=by omega
    go_wp2_with fail
    refine(basicMul_any _ b1 (lx+lx) k1 c1 bx lx kx bx lx kx cx cx hr1 hl1 (Nat.le_refl _) hx1 h2 hx1 h2 nx nx (by omega)).mono ?_
    rintro e w3 ⟨c3,rfl,hr3,hk3,hval3,_⟩
    have HV3:Hid _:=hval3
    clear hval3
    go_wp2_with fail
    refine(norm_any _ (some ⟨b1,0,none⟩) (lx+lx) k1 (X*X) (.inr ⟨b1,_,rfl,hl1,by omega,hr3,by rw [oo HV3,HX.out]⟩) (by omega)).mono ?_
    rintro e w5 ⟨l,rfl,hn5,hl5,hk5⟩
    go_wp2_with fail
    go_ret
    exact⟨_,l,k1,rfl,hn5,hl5,.inr ⟨b1,rfl,by rcases ho with h | ⟨k,h,hk⟩;simp at h;have h1:=hk1.size;simp only [Option.some.injEq,Addr.mk.injEq,and_true] at h;omega⟩,(hk12.own (az:=none) (by rcases ho with h | ⟨k,h,hk⟩;simp at h;exact .inr ⟨k,h,by have:=hk1.size;omega⟩) (hk3.at.trans (hk5.mono fun _ _ h=>h.elim))).mono (fun k _ h=>by simp [At] at h)⟩
   | false=>
    go_enter Tryz.func116,Tryz.ntmps116
    go_wp2_with fail
    refine(alias_any _ az (some ⟨bx,0,none⟩) lz kz lx kx hz hxb).mono ?_
    rintro e w1 ⟨rfl,hk1⟩
    rw [s1]
    go_wp2_with fail
    rw [show (2*(lx:Int))=((lx+lx:Nat):Int) from by omega]
    refine(make_any _ az lz kz (lx+lx) (hz.keep hk1 (fun _ _=>id)) (by omega)).mono ?_
    rintro e w2 ⟨a1,k1,rfl,hb,ho,hk2⟩
    have hk12:=hk1.trans hk2
    rcases hb with⟨_,h,_⟩ | ⟨b1,c1,rfl,hl1,_,hr1⟩
    ·exact absurd h (by omega)
    have hx1:=h4.keep hk12 id
    have hg32:=hk12.cell hg3 id
    have hg42:=hk12.cell hg4 id
    have nx:bx≠b1:=by
     rintro rfl
     rcases ho with h | ⟨k,h,hk⟩
     ·rw [← h] at s1;simp [sameA] at s1
     ·have:=h4.inHeap
      have h1:=hk1.size
      simp only [Option.some.injEq,Addr.mk.injEq,and_true] at h
      omega
    have hthr:lx<12:=hl
    have hthr2:(lx:Int)<80:=by omega
    go_wp2_with fail
    refine(basicMul_any _ b1 (lx+lx) k1 c1 bx lx kx bx lx kx cx cx hr1 hl1 (Nat.le_refl _) hx1 h2 hx1 h2 nx nx (by omega)).mono ?_
    rintro e w3 ⟨c3,rfl,hr3,hk3,hval3,_⟩
    have HV3:Hid _:=hval3
    clear hval3
    go_wp2_with fail
    refine(norm_any _ (some ⟨b1,0,none⟩) (lx+lx) k1 (X*X) (.inr ⟨b1,_,rfl,hl1,by omega,hr3,by rw [oo HV3,HX.out]⟩) (by omega)).mono ?_
    rintro e w5 ⟨l,rfl,hn5,hl5,hk5⟩
    go_wp2_with fail
    go_ret
    exact⟨_,l,k1,rfl,hn5,hl5,ho.mono hk1.size,hk12.own (ho.mono hk1.size) (hk3.at.trans (hk5.mono fun _ _ h=>h.elim))⟩
theorem lsh_any (w:World) (az ax:Option Addr) (lz kz lx kx X s:Nat) (hz:IsBuf w az lz kz) (hx:IsNat w ax lx kx X) (hl:lx<900000) (hs0:0<s) (hs:s<64) :
  Calls Tryz.prog 132 #[.slice az lz kz,.slice ax lx kx,.int .u64 (s:Int)] w fun e w'=>
   ∃a' l' k',e = .returned (.slice a' l' k')∧IsNat w' a' l' k' (X*2^s)∧l'≤lx+1∧Own w az a'∧Keep (At az) w w':=by
 have s1:((s:Int)==0)=false:=beq_eq_false_iff_ne.2 (by omega)
 have s2:(s:Int) / 64=0:=by omega
 have s3:(s:Int)%64=(s:Int):=by omega
 by_cases h0:lx=0
 ·subst h0
  obtain rfl:=hx.zero
  go_enter Tryz.func132,Tryz.ntmps132
  go_wp2_with fail
  go_ret
  exact⟨az,0,kz,rfl,by rw [Nat.zero_mul];exact hz.nat0,by omega,.inl rfl,Keep.refl _ _⟩
 ·rcases hx with⟨_,h',_⟩ | ⟨bx,cx,rfl,h2,h3,h4,h5,h6⟩
  ·omega
  have t1:((lx:Int)==0)=false:=beq_eq_false_iff_ne.2 (by omega)
  have EX:Hid (val cx 0 lx=X):=h5
  clear h5 h6
  go_enter Tryz.func132,Tryz.ntmps132
  go_wp2_with fail
  refine(make_any _ az lz kz (lx+1) hz (by omega)).mono ?_
  rintro e w1 ⟨a1,k1,rfl,hb,ho,hk⟩
  rcases hb with⟨_,h,_⟩ | ⟨b1,c1,rfl,hl1,_,hr1⟩
  ·exact absurd h (by omega)
  have hx1:=h4.keep hk id
  go_wp2_with fail
  refine(lshVU_any _ b1 0 k1 k1 c1 bx 0 kx kx cx s lx hr1 hx1 (by omega) (by omega) (by omega) (by omega) hs0 hs (fun _=>.inl (Nat.le_refl _))).mono ?_
  rintro e w2 ⟨r,c2,rfl,hr2,hk2,hrlt,hout2,hval2⟩
  have hrlt':r<W64:=Nat.lt_trans hrlt (by rw [W64_eq];exact Nat.pow_lt_pow_right (by decide) hs)
  have HV2:Hid _:=hval2
  clear hval2 hout2 hrlt
  have fz:=hr2.cell (i:=lx) (by omega)
  have ff:=hr2.frozen lx
  have hr3:=hr2.set lx r hrlt'
  have hk3:=hk2.setCell (p:=⟨b1,lx,none⟩) rfl (.int .u64 (r:Nat))
  obtain⟨w4,c4,hrun,hr4,hk4,hin4,hout4⟩:=run_clear_u64 83 0 Tryz.underlying83 (n:=0) (dK:=k1) (oz:=0) hr3 (by omega)
  have HO4:Hid _:=hout4
  clear hin4 hout4
  go_wp2_with fail
  refine(norm_any _ (some ⟨b1,0,none⟩) (lx+1) k1 (X*2^s) (.inr ⟨b1,_,rfl,hl1,by omega,hr4,?_⟩) (by omega)).mono ?_
  ·rw [val_ext (c:=c4) (d:=upd c2 lx r) (o:=0) (p:=0) (n:=lx+1) (fun i hi=>oo HO4 _ (by omega))]
   have e1:val (upd c2 lx r) 0 (lx+1)=val c2 0 lx+r*W64^lx:=by
    simp only [val,Nat.zero_add,upd_same];rw [val_upd _ _ _ _ _ (by omega)]
   rw [e1,oo HV2,EX.out]
  rintro e w5 ⟨l,rfl,hn5,hl5,hk5⟩
  go_wp2_with fail
  go_ret
  exact⟨_,l,k1,rfl,hn5,hl5,ho,hk.own ho ((hk3.trans hk4).at.trans (hk5.mono fun _ _ h=>h.elim))⟩
def byt (X t:Nat):Nat:=X / 256^t%256
theorem byt_lt (X t:Nat):byt X t<256:=Nat.mod_lt _ (by decide)
theorem byte_of {cx:Nat→Nat} {X lz k j:Nat} (hv:val cx 0 lz=X) (hlt:∀i,i<lz→cx i<W64) (hk:k<lz) (hj:j<8):cx k / 256^j%256=byt X (8*k+j):=by
 have e1:val cx 0 lz=val cx 0 k+W64^k*val cx k (lz-k):=by
  have:=val_add cx 0 k (lz-k)
  rwa [show k+(lz-k)=lz from by omega,Nat.zero_add] at this
 obtain⟨m,hm⟩:∃m,lz-k=m+1:=⟨lz-k-1,by omega⟩
 rw [hm,val_cons] at e1
 have hl:val cx 0 k<W64^k:=val_lt fun i hi=>by rw [Nat.zero_add];exact hlt i (by omega)
 have hW:W64=256^8:=by decide
 have e2:X / W64^k=cx k+W64*val cx (k+1) m:=by
  rw [← hv,e1,Nat.add_mul_div_left _ _ (Nat.pow_pos W64_pos),Nat.div_eq_of_lt hl,Nat.zero_add]
 have e3:X / 256^(8*k+j)=(X / W64^k) / 256^j:=by
  rw [Nat.div_div_eq_div_mul,hW,← Nat.pow_mul,← Nat.pow_add]
 have e4:W64=256^j*(256*256^(7-j)):=by
  rw [hW,Nat.mul_comm 256,← Nat.pow_succ,← Nat.pow_add];congr 1;omega
 rw [byt,e3,e2,e4,Nat.mul_assoc,Nat.add_mul_div_left _ _ (Nat.pow_pos (by decide)),Nat.mul_assoc,Nat.add_mul_mod_self_left]
theorem byt_zero {X t n:Nat} (h:X<256^n) (ht:n≤t):byt X t=0:=by
 rw [byt,Nat.div_eq_of_lt (Nat.lt_of_lt_of_le h (Nat.pow_le_pow_right (by decide) ht))]
def Byf (c:Nat→Nat) (o n X T:Nat):Prop:=∀j,j<n→c (o+j)=if n-1-j<T then byt X (n-1-j) else 0
theorem Byf.step {c:Nat→Nat} {o n X T:Nat} (h:Byf c o n X T) (hT:T<n):Byf (upd c (o+(n-1-T)) (byt X T)) o n X (T+1):=by
 intro j hj
 by_cases e:j=n-1-T
 ·subst e
  rw [upd_same,show n-1-(n-1-T)=T from by omega,if_pos (by omega)]
 ·rw [upd_ne _ _ (by omega),h j hj]
  by_cases h1:n-1-j<T
  ·rw [if_pos h1,if_pos (by omega)]
  ·rw [if_neg h1,if_neg (by omega)]
theorem Byf.all {c:Nat→Nat} {o n X T:Nat} (h:Byf c o n X T) (hX:X<256^T):∀j,j<n→c (o+j)=byt X (n-1-j):=by
 intro j hj
 rw [h j hj]
 split
 ·rfl
 ·exact(byt_zero hX (by omega)).symm
theorem Byf.past {c:Nat→Nat} {o n X T T':Nat} (h:Byf c o n X T) (_hX:X<256^n) (hT:n≤T∨T=T') (hT':n≤T'∨T=T'):Byf c o n X T':=by
 rcases hT with hT | rfl
 ·rcases hT' with hT' | rfl
  ·intro j hj;rw [h j hj,if_pos (by omega),if_pos (by omega)]
  ·exact h
 ·exact h
theorem bytes_any (w:World) (az:Option Addr) (lz kz X bb ob n kb Nb:Nat) (c:Nat→Nat) (hz:IsNat w az lz kz X) (hl:lz<900) (hb:Rwb w bb Nb c) (hob:ob+n≤Nb) (hn:n<1000) (hc0:∀j,j<n→c (ob+j)=0) (hX:X<256^n) (hne:∀k,az=some ⟨k,0,none⟩→k≠bb) :
  Calls Tryz.prog 46 #[.slice az lz kz,.slice (some ⟨bb,ob,none⟩) n kb] w fun e w'=>
   ∃r c',e = .returned (.int .i64 r)∧Rwb w' bb Nb c'∧Keep (·=bb) w w'∧(∀i,i<ob∨ob+n≤i→c' i=c i)∧(∀j,j<n→c' (ob+j)=byt X (n-1-j)):=by
 have hB0:Byf c ob n X 0:=fun j hj=>by rw [hc0 j hj,if_neg (by omega)]
 have hlen:(lz:Int)<900:=by omega
 obtain⟨cx,hxv,hxl,hxc⟩:∃cx,Hid (val cx 0 lz=X)∧(∀i,i<lz→cx i<W64)∧Hid (∀w',Keep (·=bb) w w'→∀i,i<lz→∃b,az=some ⟨b,0,none⟩∧w'.cell? ⟨b,i,none⟩=some (.int .u64 (cx i:Nat))):=by
  rcases hz with⟨h1,h2,h3,h4⟩ | ⟨b,cx,h1,h2,h3,h4,h5,h6⟩
  ·subst h2
   exact⟨fun _=>0,by show val _ 0 0=X;rw [h4];rfl,fun i hi=>by omega,fun w' k i hi=>by omega⟩
  ·refine⟨cx,h5,fun i hi=>h4.lt i (by omega),fun w' k i hi=>⟨b,h1,(h4.keep k (hne b h1)).cell (by omega)⟩⟩
 have HB0:Hid _:=hB0
 have HC0:Hid _:=hc0
 clear hc0 hB0
 go_enter Tryz.func46,Tryz.ntmps46
 go_wp2_with fail
 go_loopw [4,12] (fun s4 s12 wr=>∃(k:Nat) (c':Nat→Nat) (v:Int),Hid (v=(n:Int)-8*(k:Int))∧k≤lz∧s4 = .int .i64 v∧s12 = .int .i64 (k:Int)∧Rwb wr bb Nb c'∧Keep (·=bb) w wr∧Hid (Byf c' ob n X (8*k))∧Hid (∀i,i<ob∨ob+n≤i→c' i=c i)) (fun _ s12 _=>(lz-(intOf s12).toNat:Nat))
 case atStart=>
  exact⟨0,c,n,(by show _=_;omega),by omega,rfl,rfl,hb,Keep.refl _ _,HB0.out,fun _ _=>rfl⟩
 case round=>
  obtain⟨k,c',v,HV,hk,rfl,rfl,hr,hkeep,HB,HO⟩:=hrel
  by_cases hkl:k<lz
  ·obtain⟨bz,rfl,fz⟩:=hxc.out wr hkeep k hkl
   have dlt:=hxl k hkl
   obtain⟨d,hd⟩:∃d,cx k=d:=⟨_,rfl⟩
   rw [hd] at fz dlt
   have HD:Hid _:=hd
   clear hd
   go_wp2_with fail
   go_loopw [4,6,7] (fun s4 s6 s7 wx=>∃(j:Nat) (c':Nat→Nat) (v:Int),Hid (v=(n:Int)-8*(k:Int)-(j:Int))∧j≤8∧s4 = .int .i64 v∧s6 = .int .u64 ((d / 256^j:Nat):Int)∧s7 = .int .i64 (j:Int)∧Rwb wx bb Nb c'∧Keep (·=bb) w wx∧Hid (Byf c' ob n X (8*k+j))∧Hid (∀i,i<ob∨ob+n≤i→c' i=c i)) (fun _ _ s7 _=>(8-(intOf s7).toNat:Nat))
   case atStart=>
    refine⟨0,c',v,(by show _=_;rw [HV.out];omega),by omega,rfl,?_,rfl,hr,hkeep,HB,HO⟩
    rw [Nat.pow_zero,Nat.div_one]
   case round=>
    obtain⟨j,c',v,HV,hj,rfl,rfl,rfl,hr,hkeep,HB,HO⟩:=hrel
    by_cases hj8:j<8
    ·have hv:=HV.out
     have q0:IntKind.i64.wrap (v-1)=v-1:=IntWalk.i64_in _ (by omega)
     have qj:IntKind.i64.wrap ((j:Int)+1)=(j:Int)+1:=IntWalk.i64_in _ (by omega)
     have dj:d / 256^j / 256=d / 256^(j+1):=by rw [Nat.div_div_eq_div_mul,← Nat.pow_succ]
     have hd8:d / 256^j%256=byt X (8*k+j):=by rw [← HD.out];exact byte_of hxv.out hxl hkl hj8
     obtain⟨D,hD⟩:∃D,d / 256^j=D:=⟨_,rfl⟩
     have hDW:D<W64:=by rw [← hD];exact Nat.lt_of_le_of_lt (Nat.div_le_self _ _) dlt
     rw [hD] at dj hd8 ⊢
     have HD8:Hid _:=hd8
     have HDJ:Hid _:=dj
     clear hd8 dj hD
     by_cases hT:8*k+j<n
     ·have q1:0≤v-1:=by omega
      have q2:v-1<(n:Int):=by omega
      have q3:(v-1).toNat=n-1-(8*k+j):=by omega
      have fz:=hr.cell (i:=ob+(n-1-(8*k+j))) (by omega)
      have ff:=hr.frozen (ob+(n-1-(8*k+j)))
      have HV2:Hid _:=hv
      clear hv
      go_wp2_with fail
      have hbx:D%256<256:=Nat.mod_lt _ (by decide)
      have hrs:=hr.set (ob+(n-1-(8*k+j))) (D%256) hbx
      rw [show (((D%256:Nat)):Int)=(D:Int)%256 from by omega] at hrs
      go_roundw
      case rel=>
       refine⟨j+1,_,v-1,(by show _=_;rw [HV2.out];omega),by omega,rfl,by rw [← HDJ.out];go_num,by go_num,hrs,hkeep.setCell rfl _,?_,?_⟩
       ·rw [HD8.out];exact HB.out.step hT
       ·intro i hi
        rw [upd_ne _ _ (by omega)];exact HO.out i hi
      case measure=>simp [intOf];omega
     ·have q1:v-1<0:=by omega
      have q2:(((D:Int)%256) != 0)=false:=by
       rw [bne_eq_false_iff_eq]
       have e:=HD8.out
       rw [byt_zero hX (by omega)] at e
       omega
      have HV2:Hid _:=hv
      clear hv
      go_wp2_with fail
      go_roundw
      case rel=>
       refine⟨j+1,c',v-1,(by show _=_;rw [HV2.out];omega),by omega,rfl,by rw [← HDJ.out];go_num,by go_num,hr,hkeep,?_,HO⟩
       exact HB.out.past hX (.inl (by omega)) (.inl (by omega))
      case measure=>simp [intOf];omega
    ·obtain rfl:j=8:=by omega
     go_wp2_with fail
     go_roundw
     case rel=>
      refine⟨k+1,c',v,(by show _=_;rw [HV.out];omega),by omega,by go_num,by go_num,hr,hkeep,?_,HO⟩
      rw [show 8*(k+1)=8*k+8 from by omega];exact HB
     case measure=>simp [intOf];omega
  ·obtain rfl:k=lz:=by omega
   have HX:Hid (X<256^(8*k)):=by
    show _<_
    rw [← hxv.out,Nat.pow_mul]
    exact val_lt fun i hi=>by rw [Nat.zero_add];exact hxl i hi
   have HX0:Hid _:=hX
   clear hX
   by_cases hv0:v<0
   ·go_wp2_with fail
    go_loopw [4] (fun s4 wx=>∃r:Nat,s4 = .int .i64 (r:Int)∧r≤n∧wx=wr) (fun s4 _=>(n-(intOf s4).toNat:Nat))
    case atStart=>exact⟨0,rfl,by omega,rfl⟩
    case round=>
     obtain⟨r,rfl,hrn,rfl⟩:=hrel
     by_cases hlt:r<n
     ·have fb:=hr.cell (i:=ob+r) (by omega)
      have qr:IntKind.i64.wrap ((r:Int)+1)=(r:Int)+1:=IntWalk.i64_in _ (by omega)
      obtain⟨x,hx⟩:∃x,c' (ob+r)=x:=⟨_,rfl⟩
      rw [hx] at fb
      clear hx
      by_cases hx:x=0
      ·have t0:((x:Int)==0)=true:=by rw [hx];rfl
       clear hx
       go_wp2_with fail
       go_roundw
       case rel=>exact⟨r+1,by go_num,by omega,by first | rfl | trivial⟩
       case measure=>simp [intOf];omega
      ·have t0:((x:Int)==0)=false:=beq_eq_false_iff_ne.2 (by omega)
       clear hx
       go_wp2_with fail
       go_ret
       exact⟨r,c',rfl,hr,hkeep,HO.out,HB.out.all HX.out⟩
     ·obtain rfl:r=n:=by omega
      go_wp2_with fail
      go_ret
      exact⟨r,c',rfl,hr,hkeep,HO.out,HB.out.all HX.out⟩
   ·obtain⟨r0,rfl⟩:∃r0:Nat,v=r0:=⟨v.toNat,by omega⟩
    have hr0:r0≤n:=by have:=HV.out;omega
    go_wp2_with fail
    go_loopw [4] (fun s4 wx=>∃r:Nat,s4 = .int .i64 (r:Int)∧r≤n∧wx=wr) (fun s4 _=>(n-(intOf s4).toNat:Nat))
    case atStart=>exact⟨r0,rfl,by omega,rfl⟩
    case round=>
     obtain⟨r,rfl,hrn,rfl⟩:=hrel
     by_cases hlt:r<n
     ·have fb:=hr.cell (i:=ob+r) (by omega)
      have qr:IntKind.i64.wrap ((r:Int)+1)=(r:Int)+1:=IntWalk.i64_in _ (by omega)
      obtain⟨x,hx⟩:∃x,c' (ob+r)=x:=⟨_,rfl⟩
      rw [hx] at fb
      clear hx
      by_cases hx:x=0
      ·have t0:((x:Int)==0)=true:=by rw [hx];rfl
       clear hx
       go_wp2_with fail
       go_roundw
       case rel=>exact⟨r+1,by go_num,by omega,by first | rfl | trivial⟩
       case measure=>simp [intOf];omega
      ·have t0:((x:Int)==0)=false:=beq_eq_false_iff_ne.2 (by omega)
       clear hx
       go_wp2_with fail
       go_ret
       exact⟨r,c',rfl,hr,hkeep,HO.out,HB.out.all HX.out⟩
     ·obtain rfl:r=n:=by omega
      go_wp2_with fail
      go_ret
      exact⟨r,c',rfl,hr,hkeep,HO.out,HB.out.all HX.out⟩
end Go.Proofs.YtofkehhflkdabaaGreatDoor
