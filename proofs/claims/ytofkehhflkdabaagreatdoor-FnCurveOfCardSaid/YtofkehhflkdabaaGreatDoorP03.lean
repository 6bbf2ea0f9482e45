/- A part of the proof of FnCurveOf. -/
import Derived.Test.YtofkehhflkdabaaGreatDoorP01
import Derived.Deep.QuietTactic
import Derived.BigQuiet
import Derived.RegionTactic
import Derived.Deep.RegionWith
set_option maxRecDepth 100000
set_option maxHeartbeats 8000000
namespace Go.Proofs.YtofkehhflkdabaaGreatDoor
open Go Go.RowKit
def Later (bz oz bx ox n:Nat):Prop:=bx=bz→oz≤ox∨ox+n≤oz
theorem Row.later {w wr:World} {bz oz Nz bx ox Nx n k:Nat} {cz c' cx:Nat→Nat} (hz:Row w bz Nz cz) (hx:Row w bx Nx cx) (hxz:Later bz oz bx ox n)
  (hk:Keep (·=bz) w wr) (hr:Row wr bz Nz c') (hout:∀i,i<oz∨oz+k≤i→c' i=cz i) (hkn:k<n) (lx:ox+n≤Nx) :
  wr.cell? ⟨bx,ox+k,none⟩=some (.int .u64 (cx (ox+k):Nat)):=by
 by_cases hb:bx=bz
 ·subst hb
  obtain⟨rfl,hs⟩:=hz.same hx
  rw [hr.cell (by omega),hout _ (by have:=hxz rfl;omega),hs _ (by omega)]
 ·exact(hx.keep hk hb).cell (by omega)
theorem addVV_g_any (w:World) (bz oz kz Nz:Nat) (cz:Nat→Nat) (bx ox kx Nx:Nat) (cx:Nat→Nat) (by' oy ky Ny:Nat) (cy:Nat→Nat) (n:Nat)
  (hz:Row w bz Nz cz) (hx:Row w bx Nx cx) (hy:Row w by' Ny cy) (lz:oz+n≤Nz) (lx:ox+n≤Nx) (ly:oy+n≤Ny) (hn:n<1000000)
  (hxz:Later bz oz bx ox n) (hyz:Later bz oz by' oy n) :
  Calls Tryz.prog 124 #[.slice (some ⟨bz,oz,none⟩) n kz,.slice (some ⟨bx,ox,none⟩) n kx,.slice (some ⟨by',oy,none⟩) n ky] w fun e w'=>
   ∃r c',e = .returned (.int .u64 (r:Nat))∧Row w' bz Nz c'∧Keep (·=bz) w w'∧r≤1∧(∀i,i<oz∨oz+n≤i→c' i=cz i)∧val c' oz n+r*W64^n=val cx ox n+val cy oy n:=by
 go_enter Tryz.func124,Tryz.ntmps124
 go_wp2_with fail
 go_loopw [6,25] (fun c i wr=>∃(k r:Nat) (c':Nat→Nat),k≤n∧c = .int .u64 (r:Int)∧i = .int .i64 (k:Int)∧r≤1∧Row wr bz Nz c'∧Keep (·=bz) w wr ∧
  (∀i,i<oz∨oz+k≤i→c' i=cz i)∧val c' oz k+r*W64^k=val cx ox k+val cy oy k) (fun _ i _=>n-(intOf i).toNat)
 case atStart=>exact⟨0,0,cz,by omega,rfl,rfl,by omega,hz,Keep.refl _ _,fun _ _=>rfl,by simp [val]⟩
 case round=>
  obtain⟨k,r,c',hk,rfl,rfl,hr,hrow,hkeep,hout,hval⟩:=hrel
  by_cases hlt:k<n
  ·have fx:=Row.later hz hx hxz hkeep hrow hout hlt lx
   have fy:=Row.later hz hy hyz hkeep hrow hout hlt ly
   have fz:=hrow.cell (i:=oz+k) (by omega)
   have ff:=hrow.frozen (oz+k)
   have xlt:=hx.lt (ox+k) (by omega)
   have ylt:=hy.lt (oy+k) (by omega)
   have hx':Hid (val cx ox (k+1)=val cx ox k+cx (ox+k)*W64^k):=rfl
   have hy':Hid (val cy oy (k+1)=val cy oy k+cy (oy+k)*W64^k):=rfl
   generalize cx (ox+k)=xk at *
   generalize cy (oy+k)=yk at *
   have HV:Hid (val c' oz k+r*W64^k=val cx ox k+val cy oy k):=hval
   have HO:Hid (∀i,i<oz∨oz+k≤i→c' i=cz i):=hout
   clear hval hout hxz hyz
   go_wp2_with fail
   go_quiet ((go_at_call 125;exact Calls.quiet_of_same ((Add_any xk yk r xlt ylt hr _).mono fun _ _ h=>⟨h.1,h.2.symm⟩)))
   go_wp2_with fail
   go_roundw
   case rel=>
    have e1:=add_eq xk yk r
    refine⟨k+1,addHi xk yk r,upd c' (oz+k) (addLo xk yk r),by omega,rfl,by go_num,addHi_le xlt ylt hr,(hrow.drewN _).set _ _ (addLo_lt _ _ _),(hkeep.drewN _).setCell rfl _,?_,?_⟩
    ·intro i hi
     rw [upd_ne _ _ (by omega)]
     exact HO.out i (by omega)
    ·have e2:val (upd c' (oz+k) (addLo xk yk r)) oz (k+1)=val c' oz k+addLo xk yk r*W64^k:=by
      simp only [val,upd_same];rw [val_upd _ _ _ _ _ (by omega)]
     rw [e2,hx'.out,hy'.out,Nat.pow_succ]
     have e3:=HV.out
     have e4:(addLo xk yk r+W64*addHi xk yk r)*W64^k=(xk+yk+r)*W64^k:=by rw [e1]
     grind
   case measure=>simp [intOf];omega
  ·go_wp2_with fail
   obtain rfl:k=n:=by omega
   go_ret
   exact⟨r,c',rfl,hrow,hkeep,hr,hout,hval⟩
theorem subVV_g_any (w:World) (bz oz kz Nz:Nat) (cz:Nat→Nat) (bx ox kx Nx:Nat) (cx:Nat→Nat) (by' oy ky Ny:Nat) (cy:Nat→Nat) (n:Nat)
  (hz:Row w bz Nz cz) (hx:Row w bx Nx cx) (hy:Row w by' Ny cy) (lz:oz+n≤Nz) (lx:ox+n≤Nx) (ly:oy+n≤Ny) (hn:n<1000000)
  (hxz:Later bz oz bx ox n) (hyz:Later bz oz by' oy n) :
  Calls Tryz.prog 126 #[.slice (some ⟨bz,oz,none⟩) n kz,.slice (some ⟨bx,ox,none⟩) n kx,.slice (some ⟨by',oy,none⟩) n ky] w fun e w'=>
   ∃r c',e = .returned (.int .u64 (r:Nat))∧Row w' bz Nz c'∧Keep (·=bz) w w'∧r≤1∧(∀i,i<oz∨oz+n≤i→c' i=cz i)∧val c' oz n+val cy oy n=val cx ox n+r*W64^n:=by
 go_enter Tryz.func126,Tryz.ntmps126
 go_wp2_with fail
 go_loopw [6,25] (fun c i wr=>∃(k r:Nat) (c':Nat→Nat),k≤n∧c = .int .u64 (r:Int)∧i = .int .i64 (k:Int)∧r≤1∧Row wr bz Nz c'∧Keep (·=bz) w wr ∧
  (∀i,i<oz∨oz+k≤i→c' i=cz i)∧val c' oz k+val cy oy k=val cx ox k+r*W64^k) (fun _ i _=>n-(intOf i).toNat)
 case atStart=>exact⟨0,0,cz,by omega,rfl,rfl,by omega,hz,Keep.refl _ _,fun _ _=>rfl,by simp [val]⟩
 case round=>
  obtain⟨k,r,c',hk,rfl,rfl,hr,hrow,hkeep,hout,hval⟩:=hrel
  by_cases hlt:k<n
  ·have fx:=Row.later hz hx hxz hkeep hrow hout hlt lx
   have fy:=Row.later hz hy hyz hkeep hrow hout hlt ly
   have fz:=hrow.cell (i:=oz+k) (by omega)
   have ff:=hrow.frozen (oz+k)
   have xlt:=hx.lt (ox+k) (by omega)
   have ylt:=hy.lt (oy+k) (by omega)
   have hx':Hid (val cx ox (k+1)=val cx ox k+cx (ox+k)*W64^k):=rfl
   have hy':Hid (val cy oy (k+1)=val cy oy k+cy (oy+k)*W64^k):=rfl
   generalize cx (ox+k)=xk at *
   generalize cy (oy+k)=yk at *
   have HV:Hid (val c' oz k+val cy oy k=val cx ox k+r*W64^k):=hval
   have HO:Hid (∀i,i<oz∨oz+k≤i→c' i=cz i):=hout
   clear hval hout hxz hyz
   go_wp2_with fail
   go_quiet ((go_at_call 127;exact Calls.quiet_of_same ((Sub_any xk yk r hr _).mono fun _ _ h=>⟨h.1,h.2.symm⟩)))
   go_wp2_with fail
   go_roundw
   case rel=>
    have e1:=sub_eq xlt ylt hr
    refine⟨k+1,subHi xk yk r,upd c' (oz+k) (subLo xk yk r),by omega,rfl,by go_num,subHi_le _ _ _,(hrow.drewN _).set _ _ (subLo_lt _ _ _),(hkeep.drewN _).setCell rfl _,?_,?_⟩
    ·intro i hi
     rw [upd_ne _ _ (by omega)]
     exact HO.out i (by omega)
    ·have e2:val (upd c' (oz+k) (subLo xk yk r)) oz (k+1)=val c' oz k+subLo xk yk r*W64^k:=by
      simp only [val,upd_same];rw [val_upd _ _ _ _ _ (by omega)]
     rw [e2,hx'.out,hy'.out,Nat.pow_succ]
     have e3:=HV.out
     have e4:(subLo xk yk r+yk+r)*W64^k=(xk+W64*subHi xk yk r)*W64^k:=by rw [e1]
     grind
   case measure=>simp [intOf];omega
  ·go_wp2_with fail
   obtain rfl:k=n:=by omega
   go_ret
   exact⟨r,c',rfl,hrow,hkeep,hr,hout,hval⟩
theorem mulAddVWW_g_any (w:World) (bz oz kz Nz:Nat) (cz:Nat→Nat) (bx ox kx Nx:Nat) (cx:Nat→Nat) (y r0 n:Nat)
  (hz:Row w bz Nz cz) (hx:Row w bx Nx cx) (lz:oz+n≤Nz) (lx:ox+n≤Nx) (hn:n<1000000) (hy:y<W64) (hr0:r0<W64)
  (hxz:Later bz oz bx ox n) :
  Calls Tryz.prog 146 #[.slice (some ⟨bz,oz,none⟩) n kz,.slice (some ⟨bx,ox,none⟩) n kx,.int .u64 (y:Int),.int .u64 (r0:Int)] w fun e w'=>
   ∃r c',e = .returned (.int .u64 (r:Nat))∧Row w' bz Nz c'∧Keep (·=bz) w w'∧r<W64∧(∀i,i<oz∨oz+n≤i→c' i=cz i)∧val c' oz n+r*W64^n=val cx ox n*y+r0:=by
 go_enter Tryz.func146,Tryz.ntmps146
 go_wp2_with fail
 go_loopw [8,19] (fun c i wr=>∃(k r:Nat) (c':Nat→Nat),k≤n∧c = .int .u64 (r:Int)∧i = .int .i64 (k:Int)∧r<W64∧Row wr bz Nz c'∧Keep (·=bz) w wr ∧
  (∀i,i<oz∨oz+k≤i→c' i=cz i)∧val c' oz k+r*W64^k=val cx ox k*y+r0) (fun _ i _=>n-(intOf i).toNat)
 case atStart=>exact⟨0,r0,cz,by omega,rfl,rfl,hr0,hz,Keep.refl _ _,fun _ _=>rfl,by simp [val]⟩
 case round=>
  obtain⟨k,r,c',hk,rfl,rfl,hr,hrow,hkeep,hout,hval⟩:=hrel
  by_cases hlt:k<n
  ·have fx:=Row.later hz hx hxz hkeep hrow hout hlt lx
   have fz:=hrow.cell (i:=oz+k) (by omega)
   have ff:=hrow.frozen (oz+k)
   have xlt:=hx.lt (ox+k) (by omega)
   have hx':Hid (val cx ox (k+1)=val cx ox k+cx (ox+k)*W64^k):=rfl
   generalize cx (ox+k)=xk at *
   have HV:Hid (val c' oz k+r*W64^k=val cx ox k*y+r0):=hval
   have HO:Hid (∀i,i<oz∨oz+k≤i→c' i=cz i):=hout
   clear hval hout hxz
   go_wp2_with (go_at_call 166;refine(mulAddWWW_any xk y r xlt hy hr _).mono ?_;rintro e w' ⟨rfl,rfl⟩)
   go_roundw
   case rel=>
    have e1:=mul_eq xk y r
    refine⟨k+1,mulHi xk y r,upd c' (oz+k) (mulLo xk y r),by omega,rfl,by go_num,mulHi_lt xlt hy hr,hrow.set _ _ (mulLo_lt _ _ _),hkeep.setCell rfl _,?_,?_⟩
    ·intro i hi
     rw [upd_ne _ _ (by omega)]
     exact HO.out i (by omega)
    ·have e2:val (upd c' (oz+k) (mulLo xk y r)) oz (k+1)=val c' oz k+mulLo xk y r*W64^k:=by
      simp only [val,upd_same];rw [val_upd _ _ _ _ _ (by omega)]
     rw [e2,hx'.out,Nat.pow_succ]
     have e3:=HV.out
     have e4:(mulLo xk y r+W64*mulHi xk y r)*W64^k=(xk*y+r)*W64^k:=by rw [e1]
     grind
   case measure=>simp [intOf];omega
  ·go_wp2_with fail
   obtain rfl:k=n:=by omega
   go_ret
   exact⟨r,c',rfl,hrow,hkeep,hr,hout,hval⟩
theorem addMul_parts {x y m c:Nat} (hx:x<W64) (hy:y<W64) (hm:m<W64) (hc:c<W64) :
  addHi (mulLo y m x) c 0+mulHi y m x<W64∧addLo (mulLo y m x) c 0+W64*(addHi (mulLo y m x) c 0+mulHi y m x)=y*m+x+c:=by
 have h1:=mul_eq y m x
 have h2:=add_eq (mulLo y m x) c 0
 have e:addLo (mulLo y m x) c 0+W64*(addHi (mulLo y m x) c 0+mulHi y m x)=y*m+x+c:=by
  rw [Nat.mul_add];omega
 refine⟨?_,e⟩
 have h3:y*m≤(W64-1)*(W64-1):=Nat.mul_le_mul (by omega) (by omega)
 have h4:(W64-1)*(W64-1)+(W64-1)+(W64-1)<W64*W64:=by decide
 refine Classical.byContradiction fun hge=>?_
 have:W64*W64≤W64*(addHi (mulLo y m x) c 0+mulHi y m x):=Nat.mul_le_mul_left _ (by omega)
 omega
theorem addMulVVWW_g_any (w:World) (bz oz kz Nz:Nat) (cz:Nat→Nat) (bx ox kx Nx:Nat) (cx:Nat→Nat) (by' oy ky Ny:Nat) (cy:Nat→Nat) (m r0 n:Nat)
  (hz:Row w bz Nz cz) (hx:Row w bx Nx cx) (hy:Row w by' Ny cy) (lz:oz+n≤Nz) (lx:ox+n≤Nx) (ly:oy+n≤Ny) (hn:n<1000000) (hm:m<W64) (hr0:r0<W64)
  (hxz:Later bz oz bx ox n) (hyz:Later bz oz by' oy n) :
  Calls Tryz.prog 174 #[.slice (some ⟨bz,oz,none⟩) n kz,.slice (some ⟨bx,ox,none⟩) n kx,.slice (some ⟨by',oy,none⟩) n ky,.int .u64 (m:Int),.int .u64 (r0:Int)] w fun e w'=>
   ∃r c',e = .returned (.int .u64 (r:Nat))∧Row w' bz Nz c'∧Keep (·=bz) w w'∧r<W64∧(∀i,i<oz∨oz+n≤i→c' i=cz i)∧val c' oz n+r*W64^n=val cx ox n+val cy oy n*m+r0:=by
 go_enter Tryz.func174,Tryz.ntmps174
 go_wp2_with fail
 go_loopw [10,32] (fun c i wr=>∃(k r:Nat) (c':Nat→Nat),k≤n∧c = .int .u64 (r:Int)∧i = .int .i64 (k:Int)∧r<W64∧Row wr bz Nz c'∧Keep (·=bz) w wr ∧
  (∀i,i<oz∨oz+k≤i→c' i=cz i)∧val c' oz k+r*W64^k=val cx ox k+val cy oy k*m+r0) (fun _ i _=>n-(intOf i).toNat)
 case atStart=>exact⟨0,r0,cz,by omega,rfl,rfl,hr0,hz,Keep.refl _ _,fun _ _=>rfl,by simp [val]⟩
 case round=>
  obtain⟨k,r,c',hk,rfl,rfl,hr,hrow,hkeep,hout,hval⟩:=hrel
  by_cases hlt:k<n
  ·have fx:=Row.later hz hx hxz hkeep hrow hout hlt lx
   have fy:=Row.later hz hy hyz hkeep hrow hout hlt ly
   have fz:=hrow.cell (i:=oz+k) (by omega)
   have ff:=hrow.frozen (oz+k)
   have xlt:=hx.lt (ox+k) (by omega)
   have ylt:=hy.lt (oy+k) (by omega)
   have hx':Hid (val cx ox (k+1)=val cx ox k+cx (ox+k)*W64^k):=rfl
   have hy':Hid (val cy oy (k+1)=val cy oy k+cy (oy+k)*W64^k):=rfl
   generalize cx (ox+k)=xk at *
   generalize cy (oy+k)=yk at *
   have HV:Hid (val c' oz k+r*W64^k=val cx ox k+val cy oy k*m+r0):=hval
   have HO:Hid (∀i,i<oz∨oz+k≤i→c' i=cz i):=hout
   obtain⟨p1,p2⟩:=addMul_parts xlt ylt hm hr
   have P2:Hid (addLo (mulLo yk m xk) r 0+W64*(addHi (mulLo yk m xk) r 0+mulHi yk m xk)=yk*m+xk+r):=p2
   have hw:IntKind.u64.wrap ((addHi (mulLo yk m xk) r 0:Int)+(mulHi yk m xk:Int))=((addHi (mulLo yk m xk) r 0+mulHi yk m xk:Nat):Int):=by
    clear P2 p2 HV
    unfold W64 at p1
    rw [Int.natCast_add]
    exact IntWalk.u64_in _ (by omega)
   generalize hq:addHi (mulLo yk m xk) r 0+mulHi yk m xk=q at *
   have HQ:=hq
   have HQ:Hid (addHi (mulLo yk m xk) r 0+mulHi yk m xk=q):=hq
   clear hval hout hxz hyz p2 hq
   go_wp2_with fail
   go_quiet ((go_at_call 166;exact Calls.quiet_of_same ((mulAddWWW_any yk m xk ylt hm xlt _).mono fun _ _ h=>⟨h.1,h.2.symm⟩)))
   go_wp2_with (go_at_call 125;refine(Add_any (mulLo yk m xk) r 0 (mulLo_lt _ _ _) hr (by omega) _).mono ?_;rintro e w' ⟨rfl,rfl⟩)
   go_roundw
   case rel=>
    refine⟨k+1,q,upd c' (oz+k) (addLo (mulLo yk m xk) r 0),by omega,rfl,by go_num,p1,(hrow.drewN _).set _ _ (addLo_lt _ _ _),(hkeep.drewN _).setCell rfl _,?_,?_⟩
    ·intro i hi
     rw [upd_ne _ _ (by omega)]
     exact HO.out i (by omega)
    ·have e2:val (upd c' (oz+k) (addLo (mulLo yk m xk) r 0)) oz (k+1)=val c' oz k+addLo (mulLo yk m xk) r 0*W64^k:=by
      simp only [val,upd_same];rw [val_upd _ _ _ _ _ (by omega)]
     rw [e2,hx'.out,hy'.out,Nat.pow_succ]
     have e3:=HV.out
     have e4:(addLo (mulLo yk m xk) r 0+W64*q)*W64^k=(yk*m+xk+r)*W64^k:=by rw [P2.out]
     grind
   case measure=>simp [intOf];omega
  ·go_wp2_with fail
   obtain rfl:k=n:=by omega
   go_ret
   exact⟨r,c',rfl,hrow,hkeep,hr,hout,hval⟩
theorem addVW_low (w:World) (bz oz kz Nz:Nat) (cz:Nat→Nat) (bx ox kx Nx:Nat) (cx:Nat→Nat) (y n:Nat)
  (hz:Row w bz Nz cz) (hx:Row w bx Nx cx) (lz:oz+n≤Nz) (lx:ox+n≤Nx) (hn0:0<n) (hn:n<1000000) (hy:y≤1)
  (hal:bx≠bz) (lkz:n≤kz) (lkx:n≤kx) (hlow:addHi (cx ox) y 0=0) :
  Calls Tryz.prog 104 #[.slice (some ⟨bz,oz,none⟩) n kz,.slice (some ⟨bx,ox,none⟩) n kx,.int .u64 (y:Int)] w fun e w'=>
   ∃r c',e = .returned (.int .u64 (r:Nat))∧Row w' bz Nz c'∧Keep (·=bz) w w'∧r≤1∧(∀i,i<oz∨oz+n≤i→c' i=cz i)∧val c' oz n+r*W64^n=val cx ox n+y:=by
 have fx:=hx.cell (i:=ox) (by omega)
 have fz:=hz.cell (i:=oz) (by omega)
 have ff:=hz.frozen oz
 have xlt:=hx.lt ox (by omega)
 generalize hx0:cx ox=x0 at *
 have HX0:Hid (cx ox=x0):=hx0
 clear hx0
 have ylt:y<W64:=by unfold W64;omega
 have hc0:((addHi x0 y 0:Int)==0)=true:=by rw [hlow];rfl
 have hz1:=hz.set oz (addLo x0 y 0) (addLo_lt _ _ _)
 have hx1:=hx.setOther (p:=⟨bz,oz,none⟩) (fun e=>hal e.symm) (.int .u64 (addLo x0 y 0:Nat))
 have hk1:Keep (·=bz) w (w.setCell ⟨bz,oz,none⟩ (.int .u64 (addLo x0 y 0:Nat))):=(Keep.refl (·=bz) w).setCell (p:=⟨bz,oz,none⟩) rfl _
 have HL:Hid (addHi x0 y 0=0):=hlow
 clear hlow
 go_enter Tryz.func104,Tryz.ntmps104
 go_wp2_with (go_at_call 125;refine(Add_any x0 y 0 xlt ylt (by omega) _).mono ?_;rintro e w' ⟨rfl,rfl⟩)
 generalize w.setCell ⟨bz,oz,none⟩ (.int .u64 (addLo x0 y 0:Nat))=w1 at *
 have hne1:=neq_word_other w1.drew (o1:=oz) (o2:=ox) hz1.drew hx1.drew (.inl fun e=>hal e.symm)
 have hn1:(1:Int)≤(n:Int):=by omega
 obtain⟨az,ifz,haz⟩:=slice_from bz oz kz 1
 obtain⟨ax,ifx,hax⟩:=slice_from bx ox kx 1
 have HZ:Hid (az=oz+1∨kz=1∧az=oz):=haz
 have HX:Hid (ax=ox+1∨kx=1∧ax=ox):=hax
 have laz:az+(n-1)≤Nz:=by omega
 have lax:ax+(n-1)≤Nx:=by omega
 clear haz hax
 obtain⟨w2,c2,hrun,hrow2,hkeep2,hin,hout⟩:=run_copy_u64 82 82 3 Tryz.underlying82 (dL:=n-1) (dK:=kz-1) (sL:=n-1) (sK:=kx-1) hz1.drew.drew hx1.drew.drew (n-1) (by simp) laz lax
 have hk2:=hk1.trans hkeep2.undrew.undrew
 clear hkeep2 hk1
 go_region
 go_wp2_with fail
 go_region
 go_wp2_with fail
 go_ret
 have hL:=HL.out
 have e1:=add_eq x0 y 0
 have hZ:=HZ.out
 have hX:=HX.out
 refine⟨0,c2,rfl,hrow2,hk2,by omega,fun i hi=>?_,?_⟩
 ·rw [hout i (by omega),upd_ne _ _ (by omega)]
 ·obtain⟨m,rfl⟩:∃m,n=m+1:=⟨n-1,by omega⟩
  rw [val_cons,val_cons,HX0.out,hout oz (by omega),upd_same]
  rw [val_ext (c:=c2) (d:=cx) (o:=oz+1) (p:=ox+1) (n:=m) (fun i hi=>by
   have:=hin i (by omega)
   rcases hZ with h | h
   ·rcases hX with h' | h'
    ·rw [h,h'] at this;exact this
    ·omega
   ·omega)]
  rw [hL] at e1
  omega
theorem addVW_high (w:World) (bz oz kz Nz:Nat) (cz:Nat→Nat) (bx ox kx Nx:Nat) (cx:Nat→Nat) (y n:Nat)
  (hz:Row w bz Nz cz) (hx:Row w bx Nx cx) (lz:oz+n≤Nz) (lx:ox+n≤Nx) (hn0:0<n) (hn:n<1000000) (hy:y≤1)
  (hal:bx≠bz) (lkz:n≤kz) (lkx:n≤kx) (hhigh:addHi (cx ox) y 0=1) :
  Calls Tryz.prog 104 #[.slice (some ⟨bz,oz,none⟩) n kz,.slice (some ⟨bx,ox,none⟩) n kx,.int .u64 (y:Int)] w fun e w'=>
   ∃r c',e = .returned (.int .u64 (r:Nat))∧Row w' bz Nz c'∧Keep (·=bz) w w'∧r≤1∧(∀i,i<oz∨oz+n≤i→c' i=cz i)∧val c' oz n+r*W64^n=val cx ox n+y:=by
 have fx:=hx.cell (i:=ox) (by omega)
 have fz:=hz.cell (i:=oz) (by omega)
 have ff:=hz.frozen oz
 have xlt:=hx.lt ox (by omega)
 generalize hx0:cx ox=x0 at *
 have HX0:Hid (cx ox=x0):=hx0
 clear hx0
 have ylt:y<W64:=by unfold W64;omega
 have hc0:((addHi x0 y 0:Int)==0)=false:=by rw [hhigh];rfl
 have hz1:=hz.set oz (addLo x0 y 0) (addLo_lt _ _ _)
 have hx1:=hx.setOther (p:=⟨bz,oz,none⟩) (fun e=>hal e.symm) (.int .u64 (addLo x0 y 0:Nat))
 have hk1:Keep (·=bz) w (w.setCell ⟨bz,oz,none⟩ (.int .u64 (addLo x0 y 0:Nat))):=(Keep.refl (·=bz) w).setCell (p:=⟨bz,oz,none⟩) rfl _
 have HL:Hid (addHi x0 y 0=1):=hhigh
 clear hhigh
 go_enter Tryz.func104,Tryz.ntmps104
 go_wp2_with (go_at_call 125;refine(Add_any x0 y 0 xlt ylt (by omega) _).mono ?_;rintro e w' ⟨rfl,rfl⟩)
 generalize w.setCell ⟨bz,oz,none⟩ (.int .u64 (addLo x0 y 0:Nat))=w1 at *
 go_loopw [9] (fun i wr=>∃(k:Nat) (c':Nat→Nat),1≤k∧k≤n∧i = .int .i64 (k:Int)∧Row wr bz Nz c'∧Keep (·=bz) w wr ∧
  (∀i,i<oz∨oz+k≤i→c' i=cz i)∧val c' oz k+W64^k=val cx ox k+y) (fun i _=>n-(intOf i).toNat)
 case atStart=>
  refine⟨1,upd cz oz (addLo x0 y 0),by omega,by omega,rfl,hz1,hk1,fun i hi=>upd_ne _ _ (by omega),?_⟩
  have e1:=add_eq x0 y 0
  rw [HL.out] at e1
  simp only [val,Nat.add_zero,upd_same,HX0.out,Nat.pow_zero,Nat.pow_one]
  omega
 case round=>
  obtain⟨k,c',hk1',hk,rfl,hrow,hkeep,hout,hval⟩:=hrel
  have HO:Hid (∀i,i<oz∨oz+k≤i→c' i=cz i):=hout
  have HV:Hid (val c' oz k+W64^k=val cx ox k+y):=hval
  clear hval hout hc0
  by_cases hlt:k<n
  ·have fx:=(hx.keep hkeep hal).cell (i:=ox+k) (by omega)
   have fz:=hrow.cell (i:=oz+k) (by omega)
   have ff:=hrow.frozen (oz+k)
   have xlt:=hx.lt (ox+k) (by omega)
   have hx':Hid (val cx ox (k+1)=val cx ox k+cx (ox+k)*W64^k):=rfl
   have hxr:=hx.keep hkeep hal
   generalize hxk:cx (ox+k)=xk at *
   have HXK:Hid (cx (ox+k)=xk):=hxk
   clear hxk
   by_cases hm:xk=W64-1
   ·have ht:((xk:Int) != 18446744073709551615)=false:=by rw [hm];rfl
    have HM:=hm
    have HM:Hid (xk=W64-1):=hm
    clear hm
    go_wp2_with fail
    go_roundw
    case rel=>
     refine⟨k+1,upd c' (oz+k) 0,by omega,by omega,by go_num,hrow.set _ _ W64_pos,hkeep.setCell rfl _,?_,?_⟩
     ·intro i hi
      rw [upd_ne _ _ (by omega)]
      exact HO.out i (by omega)
     ·have e2:val (upd c' (oz+k) 0) oz (k+1)=val c' oz k+0*W64^k:=by
       simp only [val,upd_same];rw [val_upd _ _ _ _ _ (by omega)]
      rw [e2,hx'.out,Nat.pow_succ,HM.out]
      have e3:=HV.out
      have e4:(W64-1)*W64^k+W64^k=W64*W64^k:=by rw [← Nat.succ_mul];rfl
      rw [Nat.mul_comm (W64^k) W64]
      omega
    case measure=>simp [intOf];omega
   ·have ht:((xk:Int) != 18446744073709551615)=true:=by
     rw [bne_iff_ne];intro h;apply hm;unfold W64;omega
    obtain⟨xs,hxs⟩:∃v,v=xk+1:=⟨_,rfl⟩
    have hxs':xs<W64:=by unfold W64 at *;omega
    have hw:IntKind.u64.wrap ((xk:Int)+1)=(xs:Int):=by
     unfold W64 at xlt hm
     rw [hxs,Int.natCast_add]
     exact IntWalk.u64_in _ (by omega)
    have HS:Hid (xs=xk+1):=hxs
    clear hxs hm
    have hrow2:=hrow.set (oz+k) xs hxs'
    have hxr2:=hxr.setOther (p:=⟨bz,oz+k,none⟩) (fun e=>hal e.symm) (.int .u64 (xs:Nat))
    have hk2:=hkeep.setCell (p:=⟨bz,oz+k,none⟩) rfl (.int .u64 (xs:Nat))
    go_wp2_with fail
    generalize wr.setCell ⟨bz,oz+k,none⟩ (.int .u64 (xs:Nat))=w2 at *
    have hne1:=neq_word_other w2.drew (o1:=oz) (o2:=ox) hrow2.drew hxr2.drew (.inl fun e=>hal e.symm)
    have hn1:((k:Int)+1)≤(n:Int):=by omega
    obtain⟨az,ifz,haz⟩:=slice_from bz oz kz (k+1)
    obtain⟨ax,ifx,hax⟩:=slice_from bx ox kx (k+1)
    have HZ:Hid (az=oz+(k+1)∨kz=k+1∧az=oz):=haz
    have HX:Hid (ax=ox+(k+1)∨kx=k+1∧ax=ox):=hax
    have laz:az+(n-(k+1))≤Nz:=by omega
    have lax:ax+(n-(k+1))≤Nx:=by omega
    clear haz hax
    obtain⟨w3,c3,hrun,hrow3,hkeep3,hin,hout⟩:=run_copy_u64 82 82 3 Tryz.underlying82 (dL:=n-(k+1)) (dK:=kz-(k+1)) (sL:=n-(k+1)) (sK:=kx-(k+1)) hrow2.drew.drew hxr2.drew.drew (n-(k+1)) (by simp) laz lax
    have hk3:=hk2.trans hkeep3.undrew.undrew
    clear hkeep3 hk2
    go_region
    go_wp2_with fail
    go_region
    go_wp2_with fail
    go_ret
    have e3:=HV.out
    have hZ:=HZ.out
    have hX:=HX.out
    refine⟨0,c3,rfl,hrow3,hk3,by omega,fun i hi=>?_,?_⟩
    ·rw [hout i (by omega),upd_ne _ _ (by omega)]
     exact HO.out i (by omega)
    ·obtain⟨m,rfl⟩:∃m,n=k+1+m:=⟨n-(k+1),by omega⟩
     rw [val_add c3 oz (k+1) m,val_add cx ox (k+1) m,hx'.out]
     have e2:val c3 oz (k+1)=val c' oz k+xs*W64^k:=by
      simp only [val]
      rw [hout (oz+k) (by omega),upd_same,val_ext (c:=c3) (d:=c') (o:=oz) (p:=oz) (n:=k) (fun i hi=>by
       rw [hout _ (by omega),upd_ne _ _ (by omega)])]
     rw [e2,val_ext (c:=c3) (d:=cx) (o:=oz+(k+1)) (p:=ox+(k+1)) (n:=m) (fun i hi=>by
      have:=hin i (by omega)
      rcases hZ with h | h
      ·rcases hX with h' | h'
       ·rw [h,h'] at this;exact this
       ·omega
      ·omega),HS.out,Nat.succ_mul]
     omega
  ·go_wp2_with fail
   obtain rfl:k=n:=by omega
   go_ret
   exact⟨1,c',rfl,hrow,hkeep,by omega,HO.out,by have:=HV.out;omega⟩
theorem addVW_same (w:World) (bz oz kz Nz:Nat) (cz:Nat→Nat) (kx y n:Nat)
  (hz:Row w bz Nz cz) (lz:oz+n≤Nz) (hn0:0<n) (hn:n<1000000) (hy:y≤1) :
  Calls Tryz.prog 104 #[.slice (some ⟨bz,oz,none⟩) n kz,.slice (some ⟨bz,oz,none⟩) n kx,.int .u64 (y:Int)] w fun e w'=>
   ∃r c',e = .returned (.int .u64 (r:Nat))∧Row w' bz Nz c'∧Keep (·=bz) w w'∧r≤1∧(∀i,i<oz∨oz+n≤i→c' i=cz i)∧val c' oz n+r*W64^n=val cz oz n+y:=by
 have fz:=hz.cell (i:=oz) (by omega)
 have ff:=hz.frozen oz
 have xlt:=hz.lt oz (by omega)
 generalize hx0:cz oz=x0 at *
 have HX0:Hid (cz oz=x0):=hx0
 clear hx0
 have ylt:y<W64:=by unfold W64;omega
 have hz1:=hz.set oz (addLo x0 y 0) (addLo_lt _ _ _)
 have hk1:Keep (·=bz) w (w.setCell ⟨bz,oz,none⟩ (.int .u64 (addLo x0 y 0:Nat))):=(Keep.refl (·=bz) w).setCell (p:=⟨bz,oz,none⟩) rfl _
 rcases(show addHi x0 y 0=0∨addHi x0 y 0=1 from by have:=addHi_le xlt ylt (c:=0) (by omega);omega) with hlow | hhigh
 ·have hc0:((addHi x0 y 0:Int)==0)=true:=by rw [hlow];rfl
  have HL:Hid (addHi x0 y 0=0):=hlow
  clear hlow
  go_enter Tryz.func104,Tryz.ntmps104
  go_wp2_with (go_at_call 125;refine(Add_any x0 y 0 xlt ylt (by omega) _).mono ?_;rintro e w' ⟨rfl,rfl⟩)
  generalize w.setCell ⟨bz,oz,none⟩ (.int .u64 (addLo x0 y 0:Nat))=w1 at *
  have hne1:=neq_word_same w1.drew ⟨bz,oz,none⟩
  go_region
  go_wp2_with fail
  go_ret
  have hL:=HL.out
  have e1:=add_eq x0 y 0
  refine⟨0,_,rfl,hz1.drew,hk1.drew,by omega,fun i hi=>?_,?_⟩
  ·rw [upd_ne _ _ (by omega)]
  ·obtain⟨m,rfl⟩:∃m,n=m+1:=⟨n-1,by omega⟩
   rw [val_cons,val_cons,HX0.out,upd_same,val_upd _ _ _ _ _ (by omega)]
   rw [hL] at e1
   omega
 ·have hc0:((addHi x0 y 0:Int)==0)=false:=by rw [hhigh];rfl
  have HL:Hid (addHi x0 y 0=1):=hhigh
  clear hhigh
  go_enter Tryz.func104,Tryz.ntmps104
  go_wp2_with (go_at_call 125;refine(Add_any x0 y 0 xlt ylt (by omega) _).mono ?_;rintro e w' ⟨rfl,rfl⟩)
  generalize w.setCell ⟨bz,oz,none⟩ (.int .u64 (addLo x0 y 0:Nat))=w1 at *
  go_loopw [9] (fun i wr=>∃(k:Nat) (c':Nat→Nat),1≤k∧k≤n∧i = .int .i64 (k:Int)∧Row wr bz Nz c'∧Keep (·=bz) w wr ∧
   (∀i,i<oz∨oz+k≤i→c' i=cz i)∧val c' oz k+W64^k=val cz oz k+y) (fun i _=>n-(intOf i).toNat)
  case atStart=>
   refine⟨1,upd cz oz (addLo x0 y 0),by omega,by omega,rfl,hz1,hk1,fun i hi=>upd_ne _ _ (by omega),?_⟩
   have e1:=add_eq x0 y 0
   rw [HL.out] at e1
   simp only [val,Nat.add_zero,upd_same,HX0.out,Nat.pow_zero,Nat.pow_one]
   omega
  case round=>
   obtain⟨k,c',hk1',hk,rfl,hrow,hkeep,hout,hval⟩:=hrel
   have HO:Hid (∀i,i<oz∨oz+k≤i→c' i=cz i):=hout
   have HV:Hid (val c' oz k+W64^k=val cz oz k+y):=hval
   clear hval hc0
   by_cases hlt:k<n
   ·have fx:=hrow.cell (i:=oz+k) (by omega)
    rw [hout (oz+k) (by omega)] at fx
    have ff:=hrow.frozen (oz+k)
    have xlt:=hz.lt (oz+k) (by omega)
    have hx':Hid (val cz oz (k+1)=val cz oz k+cz (oz+k)*W64^k):=rfl
    clear hout
    generalize hxk:cz (oz+k)=xk at *
    have HXK:Hid (cz (oz+k)=xk):=hxk
    clear hxk
    by_cases hm:xk=W64-1
    ·have ht:((xk:Int) != 18446744073709551615)=false:=by rw [hm];rfl
     have HM:Hid (xk=W64-1):=hm
     clear hm
     go_wp2_with fail
     go_roundw
     case rel=>
      refine⟨k+1,upd c' (oz+k) 0,by omega,by omega,by go_num,hrow.set _ _ W64_pos,hkeep.setCell rfl _,?_,?_⟩
      ·intro i hi
       rw [upd_ne _ _ (by omega)]
       exact HO.out i (by omega)
      ·have e2:val (upd c' (oz+k) 0) oz (k+1)=val c' oz k+0*W64^k:=by
        simp only [val,upd_same];rw [val_upd _ _ _ _ _ (by omega)]
       rw [e2,hx'.out,Nat.pow_succ,HM.out]
       have e3:=HV.out
       have e4:(W64-1)*W64^k+W64^k=W64*W64^k:=by rw [← Nat.succ_mul];rfl
       rw [Nat.mul_comm (W64^k) W64]
       omega
     case measure=>simp [intOf];omega
    ·have ht:((xk:Int) != 18446744073709551615)=true:=by
      rw [bne_iff_ne];intro h;apply hm;unfold W64;omega
     obtain⟨xs,hxs⟩:∃v,v=xk+1:=⟨_,rfl⟩
     have hxs':xs<W64:=by unfold W64 at *;omega
     have hw:IntKind.u64.wrap ((xk:Int)+1)=(xs:Int):=by
      unfold W64 at xlt hm
      rw [hxs,Int.natCast_add]
      exact IntWalk.u64_in _ (by omega)
     have HS:Hid (xs=xk+1):=hxs
     clear hxs hm
     have hrow2:=hrow.set (oz+k) xs hxs'
     have hk2:=hkeep.setCell (p:=⟨bz,oz+k,none⟩) rfl (.int .u64 (xs:Nat))
     go_wp2_with fail
     generalize wr.setCell ⟨bz,oz+k,none⟩ (.int .u64 (xs:Nat))=w2 at *
     have hne1:=neq_word_same w2.drew ⟨bz,oz,none⟩
     go_region
     go_wp2_with fail
     go_ret
     have e3:=HV.out
     refine⟨0,_,rfl,hrow2.drew,hk2.drew,by omega,fun i hi=>?_,?_⟩
     ·rw [upd_ne _ _ (by omega)]
      exact HO.out i (by omega)
     ·obtain⟨m,rfl⟩:∃m,n=k+1+m:=⟨n-(k+1),by omega⟩
      rw [val_add (upd c' (oz+k) xs) oz (k+1) m,val_add cz oz (k+1) m,hx'.out]
      have e2:val (upd c' (oz+k) xs) oz (k+1)=val c' oz k+xs*W64^k:=by
       simp only [val,upd_same];rw [val_upd _ _ _ _ _ (by omega)]
      rw [e2,val_ext (c:=upd c' (oz+k) xs) (d:=cz) (o:=oz+(k+1)) (p:=oz+(k+1)) (n:=m) (fun i hi=>by
       rw [upd_ne _ _ (by omega)];exact HO.out _ (by omega)),HS.out,Nat.succ_mul]
      omega
   ·go_wp2_with fail
    obtain rfl:k=n:=by omega
    go_ret
    exact⟨1,c',rfl,hrow,hkeep,by omega,HO.out,by have:=HV.out;omega⟩
theorem addVW_any (w:World) (bz oz kz Nz:Nat) (cz:Nat→Nat) (bx ox kx Nx:Nat) (cx:Nat→Nat) (y n:Nat)
  (hz:Row w bz Nz cz) (hx:Row w bx Nx cx) (lz:oz+n≤Nz) (lx:ox+n≤Nx) (hn0:0<n) (hn:n<1000000) (hy:y≤1)
  (lkz:n≤kz) (lkx:n≤kx) (hal:bx=bz→ox=oz) :
  Calls Tryz.prog 104 #[.slice (some ⟨bz,oz,none⟩) n kz,.slice (some ⟨bx,ox,none⟩) n kx,.int .u64 (y:Int)] w fun e w'=>
   ∃r c',e = .returned (.int .u64 (r:Nat))∧Row w' bz Nz c'∧Keep (·=bz) w w'∧r≤1∧(∀i,i<oz∨oz+n≤i→c' i=cz i)∧val c' oz n+r*W64^n=val cx ox n+y:=by
 by_cases hb:bx=bz
 ·subst hb
  obtain rfl:=hal rfl
  obtain⟨rfl,hs⟩:=hx.same hz
  have:=addVW_same w bx ox kz Nx cz kx y n hz lz hn0 hn hy
  rw [val_ext (c:=cx) (d:=cz) (o:=ox) (p:=ox) (n:=n) (fun i hi=>hs _ (by omega))]
  exact this
 ·rcases(show addHi (cx ox) y 0=0∨addHi (cx ox) y 0=1 from by have:=addHi_le (hx.lt ox (by omega)) (show y<W64 from by unfold W64;omega) (c:=0) (by omega);omega) with h | h
  ·exact addVW_low w bz oz kz Nz cz bx ox kx Nx cx y n hz hx lz lx hn0 hn hy hb lkz lkx h
  ·exact addVW_high w bz oz kz Nz cz bx ox kx Nx cx y n hz hx lz lx hn0 hn hy hb lkz lkx h
theorem subVW_low (w:World) (bz oz kz Nz:Nat) (cz:Nat→Nat) (bx ox kx Nx:Nat) (cx:Nat→Nat) (y n:Nat)
  (hz:Row w bz Nz cz) (hx:Row w bx Nx cx) (lz:oz+n≤Nz) (lx:ox+n≤Nx) (hn0:0<n) (hn:n<1000000) (hy:y≤1)
  (hal:bx≠bz) (lkz:n≤kz) (lkx:n≤kx) (hlow:subHi (cx ox) y 0=0) :
  Calls Tryz.prog 106 #[.slice (some ⟨bz,oz,none⟩) n kz,.slice (some ⟨bx,ox,none⟩) n kx,.int .u64 (y:Int)] w fun e w'=>
   ∃r c',e = .returned (.int .u64 (r:Nat))∧Row w' bz Nz c'∧Keep (·=bz) w w'∧r≤1∧(∀i,i<oz∨oz+n≤i→c' i=cz i)∧val c' oz n+y=val cx ox n+r*W64^n:=by
 have fx:=hx.cell (i:=ox) (by omega)
 have fz:=hz.cell (i:=oz) (by omega)
 have ff:=hz.frozen oz
 have xlt:=hx.lt ox (by omega)
 generalize hx0:cx ox=x0 at *
 have HX0:Hid (cx ox=x0):=hx0
 clear hx0
 have xlt0:=xlt
 have ylt:y<W64:=by unfold W64;omega
 have hc0:((subHi x0 y 0:Int)==0)=true:=by rw [hlow];rfl
 have hz1:=hz.set oz (subLo x0 y 0) (subLo_lt _ _ _)
 have hx1:=hx.setOther (p:=⟨bz,oz,none⟩) (fun e=>hal e.symm) (.int .u64 (subLo x0 y 0:Nat))
 have hk1:Keep (·=bz) w (w.setCell ⟨bz,oz,none⟩ (.int .u64 (subLo x0 y 0:Nat))):=(Keep.refl (·=bz) w).setCell (p:=⟨bz,oz,none⟩) rfl _
 have HL:Hid (subHi x0 y 0=0):=hlow
 clear hlow
 go_enter Tryz.func106,Tryz.ntmps106
 go_wp2_with (go_at_call 127;refine(Sub_any x0 y 0 (by omega) _).mono ?_;rintro e w' ⟨rfl,rfl⟩)
 generalize w.setCell ⟨bz,oz,none⟩ (.int .u64 (subLo x0 y 0:Nat))=w1 at *
 have hne1:=neq_word_other w1.drew (o1:=oz) (o2:=ox) hz1.drew hx1.drew (.inl fun e=>hal e.symm)
 have hn1:(1:Int)≤(n:Int):=by omega
 obtain⟨az,ifz,haz⟩:=slice_from bz oz kz 1
 obtain⟨ax,ifx,hax⟩:=slice_from bx ox kx 1
 have HZ:Hid (az=oz+1∨kz=1∧az=oz):=haz
 have HX:Hid (ax=ox+1∨kx=1∧ax=ox):=hax
 have laz:az+(n-1)≤Nz:=by omega
 have lax:ax+(n-1)≤Nx:=by omega
 clear haz hax
 obtain⟨w2,c2,hrun,hrow2,hkeep2,hin,hout⟩:=run_copy_u64 82 82 3 Tryz.underlying82 (dL:=n-1) (dK:=kz-1) (sL:=n-1) (sK:=kx-1) hz1.drew.drew hx1.drew.drew (n-1) (by simp) laz lax
 have hk2:=hk1.trans hkeep2.undrew.undrew
 clear hkeep2 hk1
 go_region
 go_wp2_with fail
 go_region
 go_wp2_with fail
 go_ret
 have hL:=HL.out
 have e1:=sub_eq xlt0 ylt (c:=0) (by omega)
 have hZ:=HZ.out
 have hX:=HX.out
 refine⟨0,c2,rfl,hrow2,hk2,by omega,fun i hi=>?_,?_⟩
 ·rw [hout i (by omega),upd_ne _ _ (by omega)]
 ·obtain⟨m,rfl⟩:∃m,n=m+1:=⟨n-1,by omega⟩
  rw [val_cons,val_cons,HX0.out,hout oz (by omega),upd_same]
  rw [val_ext (c:=c2) (d:=cx) (o:=oz+1) (p:=ox+1) (n:=m) (fun i hi=>by
   have:=hin i (by omega)
   rcases hZ with h | h
   ·rcases hX with h' | h'
    ·rw [h,h'] at this;exact this
    ·omega
   ·omega)]
  rw [hL] at e1
  omega
theorem subVW_high (w:World) (bz oz kz Nz:Nat) (cz:Nat→Nat) (bx ox kx Nx:Nat) (cx:Nat→Nat) (y n:Nat)
  (hz:Row w bz Nz cz) (hx:Row w bx Nx cx) (lz:oz+n≤Nz) (lx:ox+n≤Nx) (hn0:0<n) (hn:n<1000000) (hy:y≤1)
  (hal:bx≠bz) (lkz:n≤kz) (lkx:n≤kx) (hhigh:subHi (cx ox) y 0=1) :
  Calls Tryz.prog 106 #[.slice (some ⟨bz,oz,none⟩) n kz,.slice (some ⟨bx,ox,none⟩) n kx,.int .u64 (y:Int)] w fun e w'=>
   ∃r c',e = .returned (.int .u64 (r:Nat))∧Row w' bz Nz c'∧Keep (·=bz) w w'∧r≤1∧(∀i,i<oz∨oz+n≤i→c' i=cz i)∧val c' oz n+y=val cx ox n+r*W64^n:=by
 have fx:=hx.cell (i:=ox) (by omega)
 have fz:=hz.cell (i:=oz) (by omega)
 have ff:=hz.frozen oz
 have xlt:=hx.lt ox (by omega)
 generalize hx0:cx ox=x0 at *
 have HX0:Hid (cx ox=x0):=hx0
 clear hx0
 have xlt0:=xlt
 have ylt:y<W64:=by unfold W64;omega
 have hc0:((subHi x0 y 0:Int)==0)=false:=by rw [hhigh];rfl
 have hz1:=hz.set oz (subLo x0 y 0) (subLo_lt _ _ _)
 have hx1:=hx.setOther (p:=⟨bz,oz,none⟩) (fun e=>hal e.symm) (.int .u64 (subLo x0 y 0:Nat))
 have hk1:Keep (·=bz) w (w.setCell ⟨bz,oz,none⟩ (.int .u64 (subLo x0 y 0:Nat))):=(Keep.refl (·=bz) w).setCell (p:=⟨bz,oz,none⟩) rfl _
 have HL:Hid (subHi x0 y 0=1):=hhigh
 clear hhigh
 go_enter Tryz.func106,Tryz.ntmps106
 go_wp2_with (go_at_call 127;refine(Sub_any x0 y 0 (by omega) _).mono ?_;rintro e w' ⟨rfl,rfl⟩)
 generalize w.setCell ⟨bz,oz,none⟩ (.int .u64 (subLo x0 y 0:Nat))=w1 at *
 go_loopw [9] (fun i wr=>∃(k:Nat) (c':Nat→Nat),1≤k∧k≤n∧i = .int .i64 (k:Int)∧Row wr bz Nz c'∧Keep (·=bz) w wr ∧
  (∀i,i<oz∨oz+k≤i→c' i=cz i)∧val c' oz k+y=val cx ox k+W64^k) (fun i _=>n-(intOf i).toNat)
 case atStart=>
  refine⟨1,upd cz oz (subLo x0 y 0),by omega,by omega,rfl,hz1,hk1,fun i hi=>upd_ne _ _ (by omega),?_⟩
  have e1:=sub_eq xlt0 ylt (c:=0) (by omega)
  rw [HL.out] at e1
  simp only [val,Nat.add_zero,upd_same,HX0.out,Nat.pow_zero,Nat.pow_one]
  omega
 case round=>
  obtain⟨k,c',hk1',hk,rfl,hrow,hkeep,hout,hval⟩:=hrel
  have HO:Hid (∀i,i<oz∨oz+k≤i→c' i=cz i):=hout
  have HV:Hid (val c' oz k+y=val cx ox k+W64^k):=hval
  clear hval hout hc0
  by_cases hlt:k<n
  ·have fx:=(hx.keep hkeep hal).cell (i:=ox+k) (by omega)
   have fz:=hrow.cell (i:=oz+k) (by omega)
   have ff:=hrow.frozen (oz+k)
   have xlt:=hx.lt (ox+k) (by omega)
   have hx':Hid (val cx ox (k+1)=val cx ox k+cx (ox+k)*W64^k):=rfl
   have hxr:=hx.keep hkeep hal
   generalize hxk:cx (ox+k)=xk at *
   have HXK:Hid (cx (ox+k)=xk):=hxk
   clear hxk
   by_cases hm:xk=0
   ·have ht:((xk:Int) != 0)=false:=by rw [hm];rfl
    have HM:=hm
    have HM:Hid (xk=0):=hm
    clear hm
    go_wp2_with fail
    go_roundw
    case rel=>
     refine⟨k+1,upd c' (oz+k) (W64-1),by omega,by omega,by go_num,hrow.set _ (W64-1) (by decide),hkeep.setCell rfl _,?_,?_⟩
     ·intro i hi
      rw [upd_ne _ _ (by omega)]
      exact HO.out i (by omega)
     ·have e2:val (upd c' (oz+k) (W64-1)) oz (k+1)=val c' oz k+(W64-1)*W64^k:=by
       simp only [val,upd_same];rw [val_upd _ _ _ _ _ (by omega)]
      rw [e2,hx'.out,Nat.pow_succ,HM.out]
      have e3:=HV.out
      have e4:(W64-1)*W64^k+W64^k=W64*W64^k:=by rw [← Nat.succ_mul];rfl
      rw [Nat.mul_comm (W64^k) W64]
      omega
    case measure=>simp [intOf];omega
   ·have ht:((xk:Int) != 0)=true:=by
     rw [bne_iff_ne];intro h;apply hm;omega
    obtain⟨xs,hxs⟩:∃v,xk=v+1:=⟨xk-1,by omega⟩
    have hxs':xs<W64:=by omega
    have hw:IntKind.u64.wrap ((xk:Int)-1)=(xs:Int):=by
     unfold W64 at xlt
     rw [show ((xk:Int)-1)=(xs:Int) from by omega]
     exact IntWalk.u64_in _ (by omega)
    have HS:Hid (xk=xs+1):=hxs
    clear hxs hm
    have hrow2:=hrow.set (oz+k) xs hxs'
    have hxr2:=hxr.setOther (p:=⟨bz,oz+k,none⟩) (fun e=>hal e.symm) (.int .u64 (xs:Nat))
    have hk2:=hkeep.setCell (p:=⟨bz,oz+k,none⟩) rfl (.int .u64 (xs:Nat))
    go_wp2_with fail
    generalize wr.setCell ⟨bz,oz+k,none⟩ (.int .u64 (xs:Nat))=w2 at *
    have hne1:=neq_word_other w2.drew (o1:=oz) (o2:=ox) hrow2.drew hxr2.drew (.inl fun e=>hal e.symm)
    have hn1:((k:Int)+1)≤(n:Int):=by omega
    obtain⟨az,ifz,haz⟩:=slice_from bz oz kz (k+1)
    obtain⟨ax,ifx,hax⟩:=slice_from bx ox kx (k+1)
    have HZ:Hid (az=oz+(k+1)∨kz=k+1∧az=oz):=haz
    have HX:Hid (ax=ox+(k+1)∨kx=k+1∧ax=ox):=hax
    have laz:az+(n-(k+1))≤Nz:=by omega
    have lax:ax+(n-(k+1))≤Nx:=by omega
    clear haz hax
    obtain⟨w3,c3,hrun,hrow3,hkeep3,hin,hout⟩:=run_copy_u64 82 82 3 Tryz.underlying82 (dL:=n-(k+1)) (dK:=kz-(k+1)) (sL:=n-(k+1)) (sK:=kx-(k+1)) hrow2.drew.drew hxr2.drew.drew (n-(k+1)) (by simp) laz lax
    have hk3:=hk2.trans hkeep3.undrew.undrew
    clear hkeep3 hk2
    go_region
    go_wp2_with fail
    go_region
    go_wp2_with fail
    go_ret
    have e3:=HV.out
    have hZ:=HZ.out
    have hX:=HX.out
    refine⟨0,c3,rfl,hrow3,hk3,by omega,fun i hi=>?_,?_⟩
    ·rw [hout i (by omega),upd_ne _ _ (by omega)]
     exact HO.out i (by omega)
    ·obtain⟨m,rfl⟩:∃m,n=k+1+m:=⟨n-(k+1),by omega⟩
     rw [val_add c3 oz (k+1) m,val_add cx ox (k+1) m,hx'.out]
     have e2:val c3 oz (k+1)=val c' oz k+xs*W64^k:=by
      simp only [val]
      rw [hout (oz+k) (by omega),upd_same,val_ext (c:=c3) (d:=c') (o:=oz) (p:=oz) (n:=k) (fun i hi=>by
       rw [hout _ (by omega),upd_ne _ _ (by omega)])]
     rw [e2,val_ext (c:=c3) (d:=cx) (o:=oz+(k+1)) (p:=ox+(k+1)) (n:=m) (fun i hi=>by
      have:=hin i (by omega)
      rcases hZ with h | h
      ·rcases hX with h' | h'
       ·rw [h,h'] at this;exact this
       ·omega
      ·omega),HS.out,Nat.succ_mul]
     omega
  ·go_wp2_with fail
   obtain rfl:k=n:=by omega
   go_ret
   exact⟨1,c',rfl,hrow,hkeep,by omega,HO.out,by have:=HV.out;omega⟩
theorem subVW_same (w:World) (bz oz kz Nz:Nat) (cz:Nat→Nat) (kx y n:Nat)
  (hz:Row w bz Nz cz) (lz:oz+n≤Nz) (hn0:0<n) (hn:n<1000000) (hy:y≤1) :
  Calls Tryz.prog 106 #[.slice (some ⟨bz,oz,none⟩) n kz,.slice (some ⟨bz,oz,none⟩) n kx,.int .u64 (y:Int)] w fun e w'=>
   ∃r c',e = .returned (.int .u64 (r:Nat))∧Row w' bz Nz c'∧Keep (·=bz) w w'∧r≤1∧(∀i,i<oz∨oz+n≤i→c' i=cz i)∧val c' oz n+y=val cz oz n+r*W64^n:=by
 have fz:=hz.cell (i:=oz) (by omega)
 have ff:=hz.frozen oz
 have xlt:=hz.lt oz (by omega)
 generalize hx0:cz oz=x0 at *
 have HX0:Hid (cz oz=x0):=hx0
 clear hx0
 have xlt0:=xlt
 have ylt:y<W64:=by unfold W64;omega
 have hz1:=hz.set oz (subLo x0 y 0) (subLo_lt _ _ _)
 have hk1:Keep (·=bz) w (w.setCell ⟨bz,oz,none⟩ (.int .u64 (subLo x0 y 0:Nat))):=(Keep.refl (·=bz) w).setCell (p:=⟨bz,oz,none⟩) rfl _
 rcases(show subHi x0 y 0=0∨subHi x0 y 0=1 from by have:=subHi_le x0 y 0;omega) with hlow | hhigh
 ·have hc0:((subHi x0 y 0:Int)==0)=true:=by rw [hlow];rfl
  have HL:Hid (subHi x0 y 0=0):=hlow
  clear hlow
  go_enter Tryz.func106,Tryz.ntmps106
  go_wp2_with (go_at_call 127;refine(Sub_any x0 y 0 (by omega) _).mono ?_;rintro e w' ⟨rfl,rfl⟩)
  generalize w.setCell ⟨bz,oz,none⟩ (.int .u64 (subLo x0 y 0:Nat))=w1 at *
  have hne1:=neq_word_same w1.drew ⟨bz,oz,none⟩
  go_region
  go_wp2_with fail
  go_ret
  have hL:=HL.out
  have e1:=sub_eq xlt0 ylt (c:=0) (by omega)
  refine⟨0,_,rfl,hz1.drew,hk1.drew,by omega,fun i hi=>?_,?_⟩
  ·rw [upd_ne _ _ (by omega)]
  ·obtain⟨m,rfl⟩:∃m,n=m+1:=⟨n-1,by omega⟩
   rw [val_cons,val_cons,HX0.out,upd_same,val_upd _ _ _ _ _ (by omega)]
   rw [hL] at e1
   omega
 ·have hc0:((subHi x0 y 0:Int)==0)=false:=by rw [hhigh];rfl
  have HL:Hid (subHi x0 y 0=1):=hhigh
  clear hhigh
  go_enter Tryz.func106,Tryz.ntmps106
  go_wp2_with (go_at_call 127;refine(Sub_any x0 y 0 (by omega) _).mono ?_;rintro e w' ⟨rfl,rfl⟩)
  generalize w.setCell ⟨bz,oz,none⟩ (.int .u64 (subLo x0 y 0:Nat))=w1 at *
  go_loopw [9] (fun i wr=>∃(k:Nat) (c':Nat→Nat),1≤k∧k≤n∧i = .int .i64 (k:Int)∧Row wr bz Nz c'∧Keep (·=bz) w wr ∧
   (∀i,i<oz∨oz+k≤i→c' i=cz i)∧val c' oz k+y=val cz oz k+W64^k) (fun i _=>n-(intOf i).toNat)
  case atStart=>
   refine⟨1,upd cz oz (subLo x0 y 0),by omega,by omega,rfl,hz1,hk1,fun i hi=>upd_ne _ _ (by omega),?_⟩
   have e1:=sub_eq xlt0 ylt (c:=0) (by omega)
   rw [HL.out] at e1
   simp only [val,Nat.add_zero,upd_same,HX0.out,Nat.pow_zero,Nat.pow_one]
   omega
  case round=>
   obtain⟨k,c',hk1',hk,rfl,hrow,hkeep,hout,hval⟩:=hrel
   have HO:Hid (∀i,i<oz∨oz+k≤i→c' i=cz i):=hout
   have HV:Hid (val c' oz k+y=val cz oz k+W64^k):=hval
   clear hval hc0
   by_cases hlt:k<n
   ·have fx:=hrow.cell (i:=oz+k) (by omega)
    rw [hout (oz+k) (by omega)] at fx
    have ff:=hrow.frozen (oz+k)
    have xlt:=hz.lt (oz+k) (by omega)
    have hx':Hid (val cz oz (k+1)=val cz oz k+cz (oz+k)*W64^k):=rfl
    clear hout
    generalize hxk:cz (oz+k)=xk at *
    have HXK:Hid (cz (oz+k)=xk):=hxk
    clear hxk
    by_cases hm:xk=0
    ·have ht:((xk:Int) != 0)=false:=by rw [hm];rfl
     have HM:Hid (xk=0):=hm
     clear hm
     go_wp2_with fail
     go_roundw
     case rel=>
      refine⟨k+1,upd c' (oz+k) (W64-1),by omega,by omega,by go_num,hrow.set _ (W64-1) (by decide),hkeep.setCell rfl _,?_,?_⟩
      ·intro i hi
       rw [upd_ne _ _ (by omega)]
       exact HO.out i (by omega)
      ·have e2:val (upd c' (oz+k) (W64-1)) oz (k+1)=val c' oz k+(W64-1)*W64^k:=by
        simp only [val,upd_same];rw [val_upd _ _ _ _ _ (by omega)]
       rw [e2,hx'.out,Nat.pow_succ,HM.out]
       have e3:=HV.out
       have e4:(W64-1)*W64^k+W64^k=W64*W64^k:=by rw [← Nat.succ_mul];rfl
       rw [Nat.mul_comm (W64^k) W64]
       omega
     case measure=>simp [intOf];omega
    ·have ht:((xk:Int) != 0)=true:=by
      rw [bne_iff_ne];intro h;apply hm;omega
     obtain⟨xs,hxs⟩:∃v,xk=v+1:=⟨xk-1,by omega⟩
     have hxs':xs<W64:=by omega
     have hw:IntKind.u64.wrap ((xk:Int)-1)=(xs:Int):=by
      unfold W64 at xlt
      rw [show ((xk:Int)-1)=(xs:Int) from by omega]
      exact IntWalk.u64_in _ (by omega)
     have HS:Hid (xk=xs+1):=hxs
     clear hxs hm
     have hrow2:=hrow.set (oz+k) xs hxs'
     have hk2:=hkeep.setCell (p:=⟨bz,oz+k,none⟩) rfl (.int .u64 (xs:Nat))
     go_wp2_with fail
     generalize wr.setCell ⟨bz,oz+k,none⟩ (.int .u64 (xs:Nat))=w2 at *
     have hne1:=neq_word_same w2.drew ⟨bz,oz,none⟩
     go_region
     go_wp2_with fail
     go_ret
     have e3:=HV.out
     refine⟨0,_,rfl,hrow2.drew,hk2.drew,by omega,fun i hi=>?_,?_⟩
     ·rw [upd_ne _ _ (by omega)]
      exact HO.out i (by omega)
     ·obtain⟨m,rfl⟩:∃m,n=k+1+m:=⟨n-(k+1),by omega⟩
      rw [val_add (upd c' (oz+k) xs) oz (k+1) m,val_add cz oz (k+1) m,hx'.out]
      have e2:val (upd c' (oz+k) xs) oz (k+1)=val c' oz k+xs*W64^k:=by
       simp only [val,upd_same];rw [val_upd _ _ _ _ _ (by omega)]
      rw [e2,val_ext (c:=upd c' (oz+k) xs) (d:=cz) (o:=oz+(k+1)) (p:=oz+(k+1)) (n:=m) (fun i hi=>by
       rw [upd_ne _ _ (by omega)];exact HO.out _ (by omega)),HS.out,Nat.succ_mul]
      omega
   ·go_wp2_with fail
    obtain rfl:k=n:=by omega
    go_ret
    exact⟨1,c',rfl,hrow,hkeep,by omega,HO.out,by have:=HV.out;omega⟩
theorem subVW_any (w:World) (bz oz kz Nz:Nat) (cz:Nat→Nat) (bx ox kx Nx:Nat) (cx:Nat→Nat) (y n:Nat)
  (hz:Row w bz Nz cz) (hx:Row w bx Nx cx) (lz:oz+n≤Nz) (lx:ox+n≤Nx) (hn0:0<n) (hn:n<1000000) (hy:y≤1)
  (lkz:n≤kz) (lkx:n≤kx) (hal:bx=bz→ox=oz) :
  Calls Tryz.prog 106 #[.slice (some ⟨bz,oz,none⟩) n kz,.slice (some ⟨bx,ox,none⟩) n kx,.int .u64 (y:Int)] w fun e w'=>
   ∃r c',e = .returned (.int .u64 (r:Nat))∧Row w' bz Nz c'∧Keep (·=bz) w w'∧r≤1∧(∀i,i<oz∨oz+n≤i→c' i=cz i)∧val c' oz n+y=val cx ox n+r*W64^n:=by
 by_cases hb:bx=bz
 ·subst hb
  obtain rfl:=hal rfl
  obtain⟨rfl,hs⟩:=hx.same hz
  have:=subVW_same w bx ox kz Nx cz kx y n hz lz hn0 hn hy
  rw [val_ext (c:=cx) (d:=cz) (o:=ox) (p:=ox) (n:=n) (fun i hi=>hs _ (by omega))]
  exact this
 ·rcases(show subHi (cx ox) y 0=0∨subHi (cx ox) y 0=1 from by have:=subHi_le (cx ox) y 0;omega) with h | h
  ·exact subVW_low w bz oz kz Nz cz bx ox kx Nx cx y n hz hx lz lx hn0 hn hy hb lkz lkx h
  ·exact subVW_high w bz oz kz Nz cz bx ox kx Nx cx y n hz hx lz lx hn0 hn hy hb lkz lkx h
def LaterD (bz oz bx ox n:Nat):Prop:=bx=bz→ox≤oz∨oz+n≤ox
theorem Row.laterD {w wr:World} {bz oz Nz bx ox Nx n k:Nat} {cz c' cx:Nat→Nat} (hz:Row w bz Nz cz) (hx:Row w bx Nx cx) (hxz:LaterD bz oz bx ox n)
  (hk:Keep (·=bz) w wr) (hr:Row wr bz Nz c') (hout:∀i,i≤oz+k∨oz+n≤i→c' i=cz i) (hkn:k<n) (lx:ox+n≤Nx) {j:Nat} (hj:j≤k) :
  wr.cell? ⟨bx,ox+j,none⟩=some (.int .u64 (cx (ox+j):Nat)):=by
 by_cases hb:bx=bz
 ·subst hb
  obtain⟨rfl,hs⟩:=hz.same hx
  rw [hr.cell (by omega),hout _ (by have:=hxz rfl;omega),hs _ (by omega)]
 ·exact(hx.keep hk hb).cell (by omega)
theorem lshVU_g_any (w:World) (bz oz kz Nz:Nat) (cz:Nat→Nat) (bx ox kx Nx:Nat) (cx:Nat→Nat) (s n:Nat)
  (hz:Row w bz Nz cz) (hx:Row w bx Nx cx) (lz:oz+n≤Nz) (lx:ox+n≤Nx) (hn0:0<n) (hn:n<1000000) (hs0:0<s) (hs:s<64)
  (hxz:LaterD bz oz bx ox n) :
  Calls Tryz.prog 170 #[.slice (some ⟨bz,oz,none⟩) n kz,.slice (some ⟨bx,ox,none⟩) n kx,.int .u64 (s:Int)] w fun e w'=>
   ∃r c',e = .returned (.int .u64 (r:Nat))∧Row w' bz Nz c'∧Keep (·=bz) w w'∧r<2^s∧(∀i,i<oz∨oz+n≤i→c' i=cz i)∧val c' oz n+r*W64^n=val cx ox n*2^s:=by
 obtain⟨m,rfl⟩:∃m,n=m+1:=⟨n-1,by omega⟩
 have fx:=hx.cell (i:=ox+m) (by omega)
 have fx0:=hx.lt (ox+m) (by omega)
 have hs1:((s:Int)==0)=false:=beq_eq_false_iff_ne.2 (by omega)
 obtain⟨t,hst⟩:∃t,s+t=64:=⟨64-s,by omega⟩
 have HST:Hid (s+t=64):=hst
 have hb1:=and63 s hs
 have hb2:bits .and .u64 (64-(s:Int)) 63=(t:Int):=by
  rw [show (64-(s:Int))=(t:Int) from by omega];exact and63 t (by omega)
 have hr1:=shr_form t (by omega)
 have hr2:=shl_form s hs
 have hr3:=shl_form' s
 have hor:=fun(x y:Nat) (hy:y<W64)=>bits_or_shl hst x hy
 clear hst
 go_enter Tryz.func170,Tryz.ntmps170
 go_wp2_with fail
 go_loopw [8] (fun i wr=>∃(k:Nat) (c':Nat→Nat),k≤m∧i = .int .i64 (k:Int)∧Row wr bz Nz c'∧Keep (·=bz) w wr ∧
  (∀i,i≤oz+k∨oz+(m+1)≤i→c' i=cz i)∧(∀i,k<i→i≤m→c' (oz+i)=orN (cx (ox+i)) s (cx (ox+i-1)) t)) (fun i _=>(intOf i).toNat)
 case atStart=>exact⟨m,cz,by omega,rfl,hz,Keep.refl _ _,fun _ _=>rfl,fun i h1 h2=>by omega⟩
 case round=>
  obtain⟨k,c',hk,rfl,hrow,hkeep,hout,hin⟩:=hrel
  by_cases hlt:0<k
  ·have fx:=Row.laterD hz hx hxz hkeep hrow hout (by omega) lx (j:=k) (by omega)
   have fx':=Row.laterD hz hx hxz hkeep hrow hout (by omega) lx (j:=k-1) (by omega)
   obtain⟨k,rfl⟩:∃j,k=j+1:=⟨k-1,by omega⟩
   simp only [Nat.add_sub_cancel] at fx'
   have fz:=hrow.cell (i:=oz+(k+1)) (by omega)
   have ff:=hrow.frozen (oz+(k+1))
   have xlt:=hx.lt (ox+(k+1)) (by omega)
   have ylt:=hx.lt (ox+k) (by omega)
   generalize hxk:cx (ox+(k+1))=xk at *
   generalize hyk:cx (ox+k)=yk at *
   have HX:Hid (cx (ox+(k+1))=xk):=hxk
   have HY:Hid (cx (ox+k)=yk):=hyk
   have hor1:=hor xk yk ylt
   have hidx:((k:Int)+1-1).toNat=k:=by omega
   have HO:Hid (∀i,i≤oz+(k+1)∨oz+(m+1)≤i→c' i=cz i):=hout
   have HI:Hid (∀i,k+1<i→i≤m→c' (oz+i)=orN (cx (ox+i)) s (cx (ox+i-1)) t):=hin
   have hlt':=or_lt HST.out xk ylt
   clear hout hin hxk hyk hor
   go_wp2_with fail
   go_region
   go_wp2_with fail
   go_roundw
   case rel=>
    refine⟨k,upd c' (oz+(k+1)) (orN xk s yk t),by omega,by go_num,(hrow.set _ _ hlt').drew,(hkeep.setCell rfl _).drew,?_,?_⟩
    ·intro i hi
     rw [upd_ne _ _ (by omega)]
     exact HO.out i (by omega)
    ·intro i h1 h2
     by_cases e:i=k+1
     ·subst e
      rw [upd_same,HX.out,show ox+(k+1)-1=ox+k from rfl,HY.out]
     ·rw [upd_ne _ _ (by omega)]
      exact HI.out i (by omega) h2
   case measure=>simp [intOf]
  ·obtain rfl:k=0:=by omega
   have fx:=Row.laterD hz hx hxz hkeep hrow hout (by omega) lx (j:=0) (by omega)
   have fz:=hrow.cell (i:=oz) (by omega)
   have ff:=hrow.frozen oz
   simp only [Nat.add_zero] at fx
   generalize hxk:cx ox=xk at *
   have HX:Hid (cx ox=xk):=hxk
   have HO:Hid (∀i,i≤oz+0∨oz+(m+1)≤i→c' i=cz i):=hout
   have HI:Hid (∀i,0<i→i≤m→c' (oz+i)=orN (cx (ox+i)) s (cx (ox+i-1)) t):=hin
   clear hout hin hxk hor
   go_wp2_with fail
   go_ret
   refine⟨shrN (cx (ox+m)) t,upd c' oz (shlN xk s),rfl,hrow.set _ _ (shlN_lt _ _),hkeep.setCell rfl _,shrN_lt HST.out fx0,fun i hi=>?_,?_⟩
   ·rw [upd_ne _ _ (by omega)]
    exact HO.out i (by omega)
   ·refine val_shl HST.out cx _ ox oz (by rw [upd_same,HX.out]) m fun i h1 h2=>?_
    rw [upd_ne _ _ (by omega)]
    exact HI.out i h1 h2
theorem rshVU_g_any (w:World) (bz oz kz Nz:Nat) (cz:Nat→Nat) (bx ox kx Nx:Nat) (cx:Nat→Nat) (s n:Nat)
  (hz:Row w bz Nz cz) (hx:Row w bx Nx cx) (lz:oz+n≤Nz) (lx:ox+n≤Nx) (hn0:0<n) (hn:n<1000000) (hs0:0<s) (hs:s<64)
  (hxz:Later bz oz bx ox n) :
  Calls Tryz.prog 147 #[.slice (some ⟨bz,oz,none⟩) n kz,.slice (some ⟨bx,ox,none⟩) n kx,.int .u64 (s:Int)] w fun e w'=>
   ∃r c',e = .returned (.int .u64 (r:Nat))∧Row w' bz Nz c'∧Keep (·=bz) w w'∧(∀i,i<oz∨oz+n≤i→c' i=cz i)∧val c' oz n=val cx ox n / 2^s:=by
 obtain⟨m,rfl⟩:∃m,n=m+1:=⟨n-1,by omega⟩
 have fx:=hx.cell (i:=ox) (by omega)
 have hs1:((s:Int)==0)=false:=beq_eq_false_iff_ne.2 (by omega)
 obtain⟨t,hst⟩:∃t,t+s=64:=⟨64-s,by omega⟩
 have HST:Hid (t+s=64):=hst
 have hb1:=and63 s hs
 have hb2:bits .and .u64 (64-(s:Int)) 63=(t:Int):=by
  rw [show (64-(s:Int))=(t:Int) from by omega];exact and63 t (by omega)
 have hr1:=shr_form s hs
 have hr3:=shr_form' s
 have hr2:=shl_form t (by omega)
 have hor:=fun(x y:Nat) (hy:y<W64)=>bits_or_shr hst x hy
 clear hst
 go_enter Tryz.func147,Tryz.ntmps147
 go_wp2_with fail
 go_loopw [8] (fun i wr=>∃(k:Nat) (c':Nat→Nat),k≤m∧i = .int .i64 ((k+1:Nat):Int)∧Row wr bz Nz c'∧Keep (·=bz) w wr ∧
  (∀i,i<oz∨oz+k≤i→c' i=cz i)∧(∀i,i<k→c' (oz+i)=orN (cx (ox+i+1)) t (cx (ox+i)) s)) (fun i _=>m+1-(intOf i).toNat)
 case atStart=>exact⟨0,cz,by omega,rfl,hz,Keep.refl _ _,fun _ _=>rfl,fun i h1=>by omega⟩
 case round=>
  obtain⟨k,c',hk,rfl,hrow,hkeep,hout,hin⟩:=hrel
  by_cases hlt:k<m
  ·have fx:=Row.later hz hx hxz hkeep hrow hout (by omega) lx
   have fx':wr.cell? ⟨bx,ox+(k+1),none⟩=some (.int .u64 (cx (ox+(k+1)):Nat)):=by
    by_cases hb:bx=bz
    ·subst hb
     obtain⟨rfl,hs⟩:=hz.same hx
     rw [hrow.cell (by omega),hout _ (by have:=hxz rfl;omega),hs _ (by omega)]
    ·exact(hx.keep hkeep hb).cell (by omega)
   have fz:=hrow.cell (i:=oz+k) (by omega)
   have ff:=hrow.frozen (oz+k)
   have xlt:=hx.lt (ox+(k+1)) (by omega)
   have ylt:=hx.lt (ox+k) (by omega)
   generalize hxk:cx (ox+(k+1))=xk at *
   generalize hyk:cx (ox+k)=yk at *
   have HX:Hid (cx (ox+(k+1))=xk):=hxk
   have HY:Hid (cx (ox+k)=yk):=hyk
   have hor1:=hor xk yk ylt
   have hidx:((k:Int)+1-1).toNat=k:=by omega
   have HO:Hid (∀i,i<oz∨oz+k≤i→c' i=cz i):=hout
   have HI:Hid (∀i,i<k→c' (oz+i)=orN (cx (ox+i+1)) t (cx (ox+i)) s):=hin
   have hlt':=or_lt HST.out xk ylt
   clear hout hin hxk hyk hor
   go_wp2_with fail
   go_region
   go_wp2_with fail
   go_roundw
   case rel=>
    refine⟨k+1,upd c' (oz+k) (orN xk t yk s),by omega,by go_num,(hrow.set _ _ hlt').drew,(hkeep.setCell rfl _).drew,?_,?_⟩
    ·intro i hi
     rw [upd_ne _ _ (by omega)]
     exact HO.out i (by omega)
    ·intro i h1
     by_cases e:i=k
     ·subst e
      rw [upd_same,Nat.add_assoc,HX.out,HY.out]
     ·rw [upd_ne _ _ (by omega)]
      exact HI.out i (by omega)
   case measure=>simp [intOf];omega
  ·obtain rfl:k=m:=by omega
   have fx:wr.cell? ⟨bx,ox+k,none⟩=some (.int .u64 (cx (ox+k):Nat)):=Row.later hz hx hxz hkeep hrow hout (by omega) lx
   have fz:=hrow.cell (i:=oz+k) (by omega)
   have ff:=hrow.frozen (oz+k)
   have xlt:=hx.lt (ox+k) (by omega)
   generalize hxk:cx (ox+k)=xk at *
   have HX:Hid (cx (ox+k)=xk):=hxk
   have HO:Hid (∀i,i<oz∨oz+k≤i→c' i=cz i):=hout
   have HI:Hid (∀i,i<k→c' (oz+i)=orN (cx (ox+i+1)) t (cx (ox+i)) s):=hin
   have hsl:shrN xk s<W64:=Nat.lt_of_le_of_lt (shrN_le _ _) xlt
   clear hout hin hxk hor
   go_wp2_with fail
   go_ret
   refine⟨_,upd c' (oz+k) (shrN xk s),rfl,hrow.set _ _ hsl,hkeep.setCell rfl _,fun i hi=>?_,?_⟩
   ·rw [upd_ne _ _ (by omega)]
    exact HO.out i (by omega)
   ·refine val_shr (by have:=HST.out;omega:s+t=64) cx _ ox oz k (fun i h1=>?_) (by rw [upd_same,HX.out])
    rw [upd_ne _ _ (by omega)]
    exact HI.out i h1
theorem addVV_any (w:World) (bz oz kz Nz:Nat) (cz:Nat→Nat) (bx ox kx Nx:Nat) (cx:Nat→Nat) (by' oy ky Ny:Nat) (cy:Nat→Nat) (n:Nat)
  (hz:Row w bz Nz cz) (hx:Row w bx Nx cx) (hy:Row w by' Ny cy) (lz:oz+n≤Nz) (lx:ox+n≤Nx) (ly:oy+n≤Ny) (hn:n<1000000)
  (hxz:Later bz oz bx ox n) (hyz:Later bz oz by' oy n) :
  Calls Tryz.prog 103 #[.slice (some ⟨bz,oz,none⟩) n kz,.slice (some ⟨bx,ox,none⟩) n kx,.slice (some ⟨by',oy,none⟩) n ky] w fun e w'=>
   ∃r c',e = .returned (.int .u64 (r:Nat))∧Row w' bz Nz c'∧Keep (·=bz) w w'∧r≤1∧(∀i,i<oz∨oz+n≤i→c' i=cz i)∧val c' oz n+r*W64^n=val cx ox n+val cy oy n:=by
 go_enter Tryz.func103,Tryz.ntmps103
 go_wp2_with fail
 refine(addVV_g_any w bz oz kz Nz cz bx ox kx Nx cx by' oy ky Ny cy n hz hx hy lz lx ly hn hxz hyz).mono ?_
 rintro e w' ⟨r,c',rfl,h1,h2,h3,h4,h5⟩
 go_wp2_with fail
 go_ret
 exact⟨r,c',rfl,h1,h2,h3,h4,h5⟩
theorem subVV_any (w:World) (bz oz kz Nz:Nat) (cz:Nat→Nat) (bx ox kx Nx:Nat) (cx:Nat→Nat) (by' oy ky Ny:Nat) (cy:Nat→Nat) (n:Nat)
  (hz:Row w bz Nz cz) (hx:Row w bx Nx cx) (hy:Row w by' Ny cy) (lz:oz+n≤Nz) (lx:ox+n≤Nx) (ly:oy+n≤Ny) (hn:n<1000000)
  (hxz:Later bz oz bx ox n) (hyz:Later bz oz by' oy n) :
  Calls Tryz.prog 105 #[.slice (some ⟨bz,oz,none⟩) n kz,.slice (some ⟨bx,ox,none⟩) n kx,.slice (some ⟨by',oy,none⟩) n ky] w fun e w'=>
   ∃r c',e = .returned (.int .u64 (r:Nat))∧Row w' bz Nz c'∧Keep (·=bz) w w'∧r≤1∧(∀i,i<oz∨oz+n≤i→c' i=cz i)∧val c' oz n+val cy oy n=val cx ox n+r*W64^n:=by
 go_enter Tryz.func105,Tryz.ntmps105
 go_wp2_with fail
 refine(subVV_g_any w bz oz kz Nz cz bx ox kx Nx cx by' oy ky Ny cy n hz hx hy lz lx ly hn hxz hyz).mono ?_
 rintro e w' ⟨r,c',rfl,h1,h2,h3,h4,h5⟩
 go_wp2_with fail
 go_ret
 exact⟨r,c',rfl,h1,h2,h3,h4,h5⟩
theorem mulAddVWW_any (w:World) (bz oz kz Nz:Nat) (cz:Nat→Nat) (bx ox kx Nx:Nat) (cx:Nat→Nat) (y r0 n:Nat)
  (hz:Row w bz Nz cz) (hx:Row w bx Nx cx) (lz:oz+n≤Nz) (lx:ox+n≤Nx) (hn:n<1000000) (hy:y<W64) (hr0:r0<W64)
  (hxz:Later bz oz bx ox n) :
  Calls Tryz.prog 118 #[.slice (some ⟨bz,oz,none⟩) n kz,.slice (some ⟨bx,ox,none⟩) n kx,.int .u64 (y:Int),.int .u64 (r0:Int)] w fun e w'=>
   ∃r c',e = .returned (.int .u64 (r:Nat))∧Row w' bz Nz c'∧Keep (·=bz) w w'∧r<W64∧(∀i,i<oz∨oz+n≤i→c' i=cz i)∧val c' oz n+r*W64^n=val cx ox n*y+r0:=by
 go_enter Tryz.func118,Tryz.ntmps118
 go_wp2_with fail
 refine(mulAddVWW_g_any w bz oz kz Nz cz bx ox kx Nx cx y r0 n hz hx lz lx hn hy hr0 hxz).mono ?_
 rintro e w' ⟨r,c',rfl,h1,h2,h3,h4,h5⟩
 go_wp2_with fail
 go_ret
 exact⟨r,c',rfl,h1,h2,h3,h4,h5⟩
theorem addMulVVWW_any (w:World) (bz oz kz Nz:Nat) (cz:Nat→Nat) (bx ox kx Nx:Nat) (cx:Nat→Nat) (by' oy ky Ny:Nat) (cy:Nat→Nat) (m r0 n:Nat)
  (hz:Row w bz Nz cz) (hx:Row w bx Nx cx) (hy:Row w by' Ny cy) (lz:oz+n≤Nz) (lx:ox+n≤Nx) (ly:oy+n≤Ny) (hn:n<1000000) (hm:m<W64) (hr0:r0<W64)
  (hxz:Later bz oz bx ox n) (hyz:Later bz oz by' oy n) :
  Calls Tryz.prog 160 #[.slice (some ⟨bz,oz,none⟩) n kz,.slice (some ⟨bx,ox,none⟩) n kx,.slice (some ⟨by',oy,none⟩) n ky,.int .u64 (m:Int),.int .u64 (r0:Int)] w fun e w'=>
   ∃r c',e = .returned (.int .u64 (r:Nat))∧Row w' bz Nz c'∧Keep (·=bz) w w'∧r<W64∧(∀i,i<oz∨oz+n≤i→c' i=cz i)∧val c' oz n+r*W64^n=val cx ox n+val cy oy n*m+r0:=by
 go_enter Tryz.func160,Tryz.ntmps160
 go_wp2_with fail
 refine(addMulVVWW_g_any w bz oz kz Nz cz bx ox kx Nx cx by' oy ky Ny cy m r0 n hz hx hy lz lx ly hn hm hr0 hxz hyz).mono ?_
 rintro e w' ⟨r,c',rfl,h1,h2,h3,h4,h5⟩
 go_wp2_with fail
 go_ret
 exact⟨r,c',rfl,h1,h2,h3,h4,h5⟩
theorem lshVU_any (w:World) (bz oz kz Nz:Nat) (cz:Nat→Nat) (bx ox kx Nx:Nat) (cx:Nat→Nat) (s n:Nat)
  (hz:Row w bz Nz cz) (hx:Row w bx Nx cx) (lz:oz+n≤Nz) (lx:ox+n≤Nx) (hn0:0<n) (hn:n<1000000) (hs0:0<s) (hs:s<64)
  (hxz:LaterD bz oz bx ox n) :
  Calls Tryz.prog 149 #[.slice (some ⟨bz,oz,none⟩) n kz,.slice (some ⟨bx,ox,none⟩) n kx,.int .u64 (s:Int)] w fun e w'=>
   ∃r c',e = .returned (.int .u64 (r:Nat))∧Row w' bz Nz c'∧Keep (·=bz) w w'∧r<2^s∧(∀i,i<oz∨oz+n≤i→c' i=cz i)∧val c' oz n+r*W64^n=val cx ox n*2^s:=by
 go_enter Tryz.func149,Tryz.ntmps149
 go_wp2_with fail
 refine(lshVU_g_any w bz oz kz Nz cz bx ox kx Nx cx s n hz hx lz lx hn0 hn hs0 hs hxz).mono ?_
 rintro e w' ⟨r,c',rfl,h1,h2,h3,h4,h5⟩
 go_wp2_with fail
 go_ret
 exact⟨r,c',rfl,h1,h2,h3,h4,h5⟩
theorem rshVU_any (w:World) (bz oz kz Nz:Nat) (cz:Nat→Nat) (bx ox kx Nx:Nat) (cx:Nat→Nat) (s n:Nat)
  (hz:Row w bz Nz cz) (hx:Row w bx Nx cx) (lz:oz+n≤Nz) (lx:ox+n≤Nx) (hn0:0<n) (hn:n<1000000) (hs0:0<s) (hs:s<64)
  (hxz:Later bz oz bx ox n) :
  Calls Tryz.prog 120 #[.slice (some ⟨bz,oz,none⟩) n kz,.slice (some ⟨bx,ox,none⟩) n kx,.int .u64 (s:Int)] w fun e w'=>
   ∃r c',e = .returned (.int .u64 (r:Nat))∧Row w' bz Nz c'∧Keep (·=bz) w w'∧(∀i,i<oz∨oz+n≤i→c' i=cz i)∧val c' oz n=val cx ox n / 2^s:=by
 go_enter Tryz.func120,Tryz.ntmps120
 go_wp2_with fail
 refine(rshVU_g_any w bz oz kz Nz cz bx ox kx Nx cx s n hz hx lz lx hn0 hn hs0 hs hxz).mono ?_
 rintro e w' ⟨r,c',rfl,h1,h2,h3,h4⟩
 go_wp2_with fail
 go_ret
 exact⟨r,c',rfl,h1,h2,h3,h4⟩
def IsBuf (w:World) (a:Option Addr) (len cap:Nat):Prop:=
 (a=none∧len=0∧cap=0)∨∃b c,a=some ⟨b,0,none⟩∧len≤cap∧(0<cap∧cap≤9223372036854775807)∧Row w b cap c
def IsNat (w:World) (a:Option Addr) (len cap N:Nat):Prop:=
 (a=none∧len=0∧cap=0∧N=0)∨∃b c,a=some ⟨b,0,none⟩∧len≤cap∧(0<cap∧cap≤9223372036854775807)∧Row w b cap c∧val c 0 len=N∧(len=0∨c (len-1)≠0)
def Own (w:World) (a a':Option Addr):Prop:=a'=a∨∃k,a'=some ⟨k,0,none⟩∧w.heap.size≤k
def At (a:Option Addr) (k:Nat):Prop:=a=some ⟨k,0,none⟩
theorem IsNat.buf {w:World} {a:Option Addr} {len cap N:Nat} (h:IsNat w a len cap N):IsBuf w a len cap:=by
 rcases h with⟨h1,h2,h3,_⟩ | ⟨b,c,h1,h2,h3,h4,_⟩
 ·exact .inl ⟨h1,h2,h3⟩
 ·exact .inr ⟨b,c,h1,h2,h3,h4⟩
theorem IsBuf.keep {S:Nat→Prop} {w w':World} {a:Option Addr} {len cap:Nat} (h:IsBuf w a len cap) (k:Keep S w w') (hs:∀b,a=some ⟨b,0,none⟩→¬S b):IsBuf w' a len cap:=by
 rcases h with h | ⟨b,c,h1,h2,h3,h4⟩
 ·exact .inl h
 ·exact .inr ⟨b,c,h1,h2,h3,h4.keep k (hs b h1)⟩
theorem IsNat.keep {S:Nat→Prop} {w w':World} {a:Option Addr} {len cap N:Nat} (h:IsNat w a len cap N) (k:Keep S w w') (hs:∀b,a=some ⟨b,0,none⟩→¬S b):IsNat w' a len cap N:=by
 rcases h with h | ⟨b,c,h1,h2,h3,h4,h5⟩
 ·exact .inl h
 ·exact .inr ⟨b,c,h1,h2,h3,h4.keep k (hs b h1),h5⟩
theorem IsBuf.take {w:World} {a:Option Addr} {len cap n:Nat} (h:IsBuf w a len cap) (hn:n≤cap):IsBuf w a n cap:=by
 rcases h with⟨h1,h2,h3⟩ | ⟨b,c,h1,h2,h3,h4⟩
 ·exact .inl ⟨h1,by omega,h3⟩
 ·exact .inr ⟨b,c,h1,hn,h3,h4⟩
theorem make_any (w:World) (az:Option Addr) (lz kz n:Nat) (hz:IsBuf w az lz kz) (hn:n<1000000) :
  Calls Tryz.prog 102 #[.slice az lz kz,.int .i64 (n:Int)] w fun e w'=>
   ∃a' k',e = .returned (.slice a' n k')∧IsBuf w' a' n k'∧Own w az a'∧Keep Nope w w':=by
 by_cases h:n≤kz
 ·go_enter Tryz.func102,Tryz.ntmps102
  go_wp2_with fail
  go_ret
  exact⟨az,kz,rfl,hz.take h,.inl rfl,Keep.refl _ _⟩
 ·by_cases h1:n=1
  ·subst h1
   obtain⟨b,w1,hrun,hb,hrow,hkeep⟩:=run_make_u64 83 Tryz.underlying83 w 1 1 (Nat.le_refl _) (by omega) .i64 .i64
   simp only [Int.natCast_one] at hrun
   go_enter Tryz.func102,Tryz.ntmps102
   go_wp2_with fail
   go_ret
   exact⟨_,_,rfl,.inr ⟨b,_,rfl,Nat.le_refl _,by omega,hrow⟩,.inr ⟨b,rfl,hb⟩,hkeep⟩
  ·have h1':((n:Int)==1)=false:=beq_eq_false_iff_ne.2 (by omega)
   obtain⟨b,w1,hrun,hb,hrow,hkeep⟩:=run_make_u64 83 Tryz.underlying83 w n (n+4) (by omega) (by omega) .i64 .i64
   rw [show ((n+4:Nat):Int)=(n:Int)+4 from by omega] at hrun
   clear h1
   go_enter Tryz.func102,Tryz.ntmps102
   go_wp2_with fail
   go_ret
   exact⟨_,_,rfl,.inr ⟨b,_,rfl,by omega,by omega,hrow⟩,.inr ⟨b,rfl,hb⟩,hkeep⟩
theorem norm_row (w:World) (b len cap N:Nat) (c:Nat→Nat) (hr:Row w b cap c) (hl:len≤cap) (hc:0<cap∧cap≤9223372036854775807) (hN:val c 0 len=N) (hlen:len<1000000) :
  Calls Tryz.prog 91 #[.slice (some ⟨b,0,none⟩) len cap] w fun e w'=>
   ∃m,e = .returned (.slice (some ⟨b,0,none⟩) m cap)∧IsNat w' (some ⟨b,0,none⟩) m cap N∧m≤len∧Keep Nope w w':=by
 go_enter Tryz.func91,Tryz.ntmps91
 go_wp2_with fail
 go_loop [3] (fun i=>∃k:Nat,k≤len∧i = .int .i64 (k:Int)∧val c 0 k=N) (fun i=>(intOf i).toNat)
 case atStart=>exact⟨len,Nat.le_refl _,rfl,hN⟩
 case round=>
  obtain⟨k,hk,rfl,hv⟩:=hrel
  have HV:Hid (val c 0 k=N):=hv
  clear hv hN
  by_cases hk0:k=0
  ·subst hk0
   go_wp2_with fail
   go_ret
   exact⟨0,rfl,.inr ⟨b,c,rfl,by omega,hc,hr,HV.out,.inl rfl⟩,by omega,Keep.refl _ _⟩
  ·obtain⟨k,rfl⟩:∃j,k=j+1:=⟨k-1,by omega⟩
   have fc:=hr.cell (i:=k) (by omega)
   have hidx:((k:Int)+1-1).toNat=k:=by omega
   generalize hck:c k=x at *
   have HC:Hid (c k=x):=hck
   clear hck
   by_cases hx:x=0
   ·subst hx
    go_wp2_with fail
    go_round
    case rel=>
     refine⟨k,by omega,by go_num,?_⟩
     have:=HV.out
     simp only [val,Nat.zero_add,HC.out,Nat.zero_mul,Nat.add_zero] at this
     exact this
    case measure=>simp [intOf]
   ·have hx0:((x:Int)==0)=false:=beq_eq_false_iff_ne.2 (by omega)
    have HX:Hid (x≠0):=hx
    clear hx
    go_wp2_with fail
    go_ret
    refine⟨k+1,rfl,.inr ⟨b,c,rfl,by omega,hc,hr,HV.out,.inr ?_⟩,hk,Keep.refl _ _⟩
    rw [Nat.add_sub_cancel,HC.out];exact HX.out
def IsVal (w:World) (a:Option Addr) (len cap N:Nat):Prop:=
 (a=none∧len=0∧cap=0∧N=0)∨∃b c,a=some ⟨b,0,none⟩∧len≤cap∧(0<cap∧cap≤9223372036854775807)∧Row w b cap c∧val c 0 len=N
theorem IsNat.val {w:World} {a:Option Addr} {len cap N:Nat} (h:IsNat w a len cap N):IsVal w a len cap N:=by
 rcases h with h | ⟨b,c,h1,h2,h3,h4,h5,_⟩
 ·exact .inl h
 ·exact .inr ⟨b,c,h1,h2,h3,h4,h5⟩
theorem norm_any (w:World) (a:Option Addr) (len cap N:Nat) (h:IsVal w a len cap N) (hlen:len<1000000) :
  Calls Tryz.prog 91 #[.slice a len cap] w fun e w'=>
   ∃m,e = .returned (.slice a m cap)∧IsNat w' a m cap N∧m≤len∧Keep Nope w w':=by
 rcases h with⟨rfl,rfl,rfl,rfl⟩ | ⟨b,c,rfl,h2,h3,h4,h5⟩
 ·go_enter Tryz.func91,Tryz.ntmps91
  go_wp2_with fail
  go_loop [3] (fun i=>i = .int .i64 0) (fun i=>(intOf i).toNat)
  case atStart=>exact rfl
  case round=>
   subst hrel
   go_wp2_with fail
   go_ret
   exact⟨0,rfl,.inl ⟨rfl,rfl,rfl,rfl⟩,by omega,Keep.refl _ _⟩
 ·exact norm_row w b len cap N c h4 h2 h3 h5 hlen
theorem run_copy_none (dT sT ty:TypeId) (hu:Tryz.prog.underlying dT=some (.slice 102)) (w:World) (d:Option Addr) (dL dK:Nat) :
  (Builtin.copy_ #[dT,sT] ty #[.slice d dL dK,.slice none 0 0]).run Tryz.prog w = .ok (goInt 0) w:=by
 have hs:=size102
 cases hq:Tryz.prog.info? 102 with
 | none=>simp [hq] at hs
 | some i=>cases d<;>simp [Builtin.copy_,run_underlying hu,Builtin.lenOf,Builtin.firstCells,sizeOf,typeInfo,hq,storeCells]
theorem run_copy_val (dT sT ty:TypeId) (hu:Tryz.prog.underlying dT=some (.slice 102)) {w:World} {ad ax:Option Addr} {n kd kx X:Nat} (hd:IsBuf w ad n kd) (hx:IsVal w ax n kx X) :
  ∃w',(Builtin.copy_ #[dT,sT] ty #[.slice ad n kd,.slice ax n kx]).run Tryz.prog w = .ok (goInt n) w'∧IsVal w' ad n kd X∧Keep (At ad) w w':=by
 rcases hx with⟨rfl,rfl,rfl,rfl⟩ | ⟨b,c,rfl,h2,h3,h4,h5⟩
 ·refine⟨w,run_copy_none _ _ _ hu _ _ _ _,?_,Keep.refl _ _⟩
  rcases hd with⟨rfl,_,rfl⟩ | ⟨b',c',rfl,g2,g3,g4⟩
  ·exact .inl ⟨rfl,rfl,rfl,rfl⟩
  ·exact .inr ⟨b',c',rfl,g2,g3,g4,rfl⟩
 ·rcases hd with⟨rfl,rfl,rfl⟩ | ⟨b',c',rfl,g2,g3,g4⟩
  ·refine⟨w,?_,.inl ⟨rfl,rfl,rfl,?_⟩,Keep.refl _ _⟩
   ·have hs:=size102
    cases hq:Tryz.prog.info? 102 with
    | none=>simp [hq] at hs
    | some i=>simp [Builtin.copy_,run_underlying hu,Builtin.lenOf,Builtin.firstCells,sizeOf,typeInfo,hq,loadCells,loadCellsFrom]
   ·rw [← h5];rfl
  ·obtain⟨w',c2,hrun,hrow,hkeep,hin,hout⟩:=run_copy_u64 dT sT ty hu g4 h4 n (Nat.min_self n).symm (oz:=0) (ox:=0) (dL:=n) (dK:=kd) (sL:=n) (sK:=kx) (by omega) (by omega)
   refine⟨w',hrun,.inr ⟨b',c2,rfl,g2,g3,hrow,?_⟩,hkeep.mono (fun k _ e=>by subst e;rfl)⟩
   rw [← h5]
   exact val_ext fun i hi=>hin i hi
theorem IsVal.keep {S:Nat→Prop} {w w':World} {a:Option Addr} {len cap N:Nat} (h:IsVal w a len cap N) (k:Keep S w w') (hs:∀b,a=some ⟨b,0,none⟩→¬S b):IsVal w' a len cap N:=by
 rcases h with h | ⟨b,c,h1,h2,h3,h4,h5⟩
 ·exact .inl h
 ·exact .inr ⟨b,c,h1,h2,h3,h4.keep k (hs b h1),h5⟩
theorem Keep.own {w w1 w2:World} {az a1:Option Addr} (h1:Keep Nope w w1) (ho:Own w az a1) (h2:Keep (At a1) w1 w2):Keep (At az) w w2:=by
 refine⟨h2.os.trans h1.os,h2.tape.trans h1.tape,h2.output.trans h1.output,Nat.le_trans h1.size h2.size,fun k hk hs=>?_⟩
 refine(h2.block k (Nat.lt_of_lt_of_le hk h1.size) (fun hA=>?_)).trans (h1.block k hk id)
 rcases ho with e | ⟨j,e,hj⟩
 ·exact hs (e▸hA)
 ·rw [e] at hA
  simp [At] at hA
theorem Own.mono {w w':World} {a a':Option Addr} (h:Own w' a a') (hs:w.heap.size≤w'.heap.size):Own w a a':=by
 rcases h with h | ⟨k,h1,h2⟩
 ·exact .inl h
 ·exact .inr ⟨k,h1,by omega⟩
theorem Own.trans {w w':World} {a b c:Option Addr} (h:Own w a b) (h':Own w' b c) (hs:w.heap.size≤w'.heap.size):Own w a c:=by
 rcases h' with rfl | ⟨k,h1,h2⟩
 ·exact h
 ·exact .inr ⟨k,h1,by omega⟩
theorem IsNat.big {w:World} {a:Option Addr} {len cap N:Nat} (h:IsNat w a len cap N):len=0∨W64^(len-1)≤N:=by
 rcases h with⟨_,h,_,_⟩ | ⟨b,c,h1,h2,h3,h4,h5,h6⟩
 ·exact .inl h
 ·rcases h6 with h6 | h6
  ·exact .inl h6
  ·by_cases h0:len=0
   ·exact .inl h0
   ·obtain⟨m,rfl⟩:∃m,len=m+1:=⟨len-1,by omega⟩
    right
    rw [← h5]
    simp only [Nat.add_sub_cancel,_root_.Go.Proofs.YtofkehhflkdabaaGreatDoor.val,Nat.zero_add] at *
    have:=Nat.mul_le_mul_right (W64^m) (show 1≤c m from by omega)
    omega
theorem IsVal.nat {w:World} {a:Option Addr} {len cap N:Nat} (h:IsVal w a len cap N) (hb:len=0∨W64^(len-1)≤N):IsNat w a len cap N:=by
 rcases h with h | ⟨b,c,h1,h2,h3,h4,h5⟩
 ·exact .inl h
 ·refine .inr ⟨b,c,h1,h2,h3,h4,h5,?_⟩
  rcases hb with hb | hb
  ·exact .inl hb
  ·by_cases h0:len=0
   ·exact .inl h0
   ·obtain⟨m,rfl⟩:∃m,len=m+1:=⟨len-1,by omega⟩
    right
    intro hc
    simp only [Nat.add_sub_cancel] at hc hb
    rw [← h5] at hb
    simp only [_root_.Go.Proofs.YtofkehhflkdabaaGreatDoor.val,Nat.zero_add,hc,Nat.zero_mul,Nat.add_zero] at hb
    have:=val_lt (c:=c) (o:=0) (n:=m) (fun i hi=>by rw [Nat.zero_add];exact h4.lt _ (by omega))
    omega
theorem IsVal.lt {w:World} {a:Option Addr} {len cap N:Nat} (h:IsVal w a len cap N):N<W64^len:=by
 rcases h with⟨_,rfl,_,rfl⟩ | ⟨b,c,h1,h2,h3,h4,h5⟩
 ·simp
 ·rw [← h5];exact val_lt fun i hi=>by rw [Nat.zero_add];exact h4.lt _ (by omega)
theorem set_any (w:World) (az ax:Option Addr) (lz kz lx kx X:Nat) (hz:IsBuf w az lz kz) (hx:IsNat w ax lx kx X) (hl:lx<1000000) :
  Calls Tryz.prog 84 #[.slice az lz kz,.slice ax lx kx] w fun e w'=>
   ∃a' l' k',e = .returned (.slice a' l' k')∧IsNat w' a' l' k' X∧l'=lx∧Own w az a'∧Keep (At az) w w':=by
 have hbig:Hid (lx=0∨W64^(lx-1)≤X):=hx.big
 go_enter Tryz.func84,Tryz.ntmps84
 go_wp2_with fail
 refine(make_any w az lz kz lx hz hl).mono ?_
 rintro e w1 ⟨a1,k1,rfl,hb,ho,hk⟩
 obtain⟨w2,hrun,hv,hk2⟩:=run_copy_val 83 83 3 Tryz.underlying83 hb (hx.val.keep hk (fun _ _=>id))
 go_wp2_with fail
 go_ret
 exact⟨a1,lx,k1,rfl,hv.nat hbig.out,rfl,ho,hk.own ho hk2⟩
theorem row_word {w:World} {b cap x:Nat} {c:Nat→Nat} (h:Row w b cap c) (hc:0<cap∧cap≤9223372036854775807) (hx:x<W64) (h0:x≠0) :
  IsNat (w.setCell ⟨b,0,none⟩ (.int .u64 (x:Int))) (some ⟨b,0,none⟩) 1 cap x:=
 .inr ⟨b,upd c 0 x,rfl,hc.1,hc,h.set 0 x hx,by simp [val,upd],.inr (by simpa [upd] using h0)⟩
theorem setWord_any (w:World) (az:Option Addr) (lz kz x:Nat) (hz:IsBuf w az lz kz) (hx:x<W64) :
  Calls Tryz.prog 107 #[.slice az lz kz,.int .u64 (x:Int)] w fun e w'=>
   ∃a' l' k',e = .returned (.slice a' l' k')∧IsNat w' a' l' k' x∧Own w az a'∧Keep (At az) w w':=by
 by_cases h0:x=0
 ·subst h0
  go_enter Tryz.func107,Tryz.ntmps107
  go_wp2_with fail
  go_ret
  refine⟨az,0,kz,rfl,?_,.inl rfl,Keep.refl _ _⟩
  rcases hz with⟨rfl,_,rfl⟩ | ⟨b,c,rfl,h2,h3,h4⟩
  ·exact .inl ⟨rfl,rfl,rfl,rfl⟩
  ·exact .inr ⟨b,c,rfl,Nat.zero_le _,h3,h4,rfl,.inl rfl⟩
 ·have hx0:((x:Int)==0)=false:=beq_eq_false_iff_ne.2 (by omega)
  go_enter Tryz.func107,Tryz.ntmps107
  go_wp2_with fail
  refine(make_any w az lz kz 1 hz (by omega)).mono ?_
  rintro e w1 ⟨a1,k1,rfl,hb,ho,hk⟩
  rcases hb with⟨_,h,_⟩ | ⟨b,c,rfl,h2,h3,h4⟩
  ·exact absurd h (by omega)
  have fz:=h4.cell h3.1
  have ff:=h4.frozen 0
  go_wp2_with fail
  go_ret
  exact⟨_,1,k1,rfl,row_word h4 h3 hx h0,ho,hk.own ho ((Keep.refl (At (some ⟨b,0,none⟩)) w1).setCell (p:=⟨b,0,none⟩) rfl _)⟩
theorem setUint64_any (w:World) (az:Option Addr) (lz kz x:Nat) (hz:IsBuf w az lz kz) (hx:x<W64) :
  Calls Tryz.prog 94 #[.slice az lz kz,.int .u64 (x:Int)] w fun e w'=>
   ∃a' l' k',e = .returned (.slice a' l' k')∧IsNat w' a' l' k' x∧Own w az a'∧Keep (At az) w w':=by
 have hx':(x:Int)≤18446744073709551615:=by unfold W64 at hx;omega
 go_enter Tryz.func94,Tryz.ntmps94
 go_wp2_with fail
 refine(setWord_any w az lz kz x hz hx).mono ?_
 rintro e w1 ⟨a1,l1,k1,rfl,hn,ho,hk⟩
 go_wp2_with fail
 go_ret
 exact⟨a1,l1,k1,rfl,hn,ho,hk⟩
end Go.Proofs.YtofkehhflkdabaaGreatDoor
