/- A part of the proof of FnCurveOf. -/
import Derived.Test.YtofkehhflkdabaaGreatDoorP04
import Derived.Test.YtofkehhflkdabaaGreatDoorP07
import Derived.Lib.AppendZerosOnto
set_option maxRecDepth 100000
set_option maxHeartbeats 8000000
namespace Go.Proofs.YtofkehhflkdabaaGreatDoor
open Go Go.RowKit
theorem divWW_any (x1 x0 y:Nat) (hy0:0<y) (hy:y<W64) (hx1:x1<y) (hx0:x0<W64) (w:World) :
  Calls Tryz.prog 169 #[.int .u64 (x1:Int),.int .u64 (x0:Int),.int .u64 (y:Int),.int .u64 (recN (y*2^nlzN y):Nat)] w fun e w'=>
   e = .returned (.tuple #[.int .u64 (qW x1 x0 y:Nat),.int .u64 (rW x1 x0 y:Nat)])∧Keep Nope w w':=by
 by_cases h:9223372036854775808≤y
 ·rw [nlz_top hy h,Nat.pow_zero,Nat.mul_one]
  exact divWW_top x1 x0 y h hy hx1 hx0 w
 ·exact divWW_low x1 x0 y hy0 (by omega) hx1 hx0 w
theorem qr_eq (x1 x0 y:Nat) (hy0:0<y):qW x1 x0 y*y+rW x1 x0 y=x1*W64+x0∧rW x1 x0 y<y:=by
 unfold qW rW
 have:=Nat.div_add_mod (x1*W64+x0) y
 rw [Nat.mul_comm] at this
 exact⟨this,Nat.mod_lt _ hy0⟩
theorem qW_lt {x1 x0 y:Nat} (hx1:x1<y) (hx0:x0<W64):qW x1 x0 y<W64:=by
 unfold qW
 rw [Nat.div_lt_iff_lt_mul (by omega)]
 have h1:x1*W64+W64≤y*W64:=by rw [← Nat.succ_mul];exact Nat.mul_le_mul_right _ hx1
 have h2:=Nat.mul_comm y W64
 omega
theorem divWVW_one (w:World) (bz kz Nz:Nat) (cz:Nat→Nat) (bx kx Nx:Nat) (cx:Nat→Nat) (y:Nat)
  (hz:Row w bz Nz cz) (hx:Row w bx Nx cx) (lz:1≤Nz) (lx:1≤Nx) (hy0:0<y) (hy:y<W64) :
  Calls Tryz.prog 148 #[.slice (some ⟨bz,0,none⟩) 1 kz,.int .u64 0,.slice (some ⟨bx,0,none⟩) 1 kx,.int .u64 (y:Int)] w fun e w'=>
   ∃r c',e = .returned (.int .u64 (r:Nat))∧Row w' bz Nz c'∧Keep (·=bz) w w'∧r<y∧(∀i,1≤i→c' i=cz i)∧val c' 0 1*y+r=val cx 0 1:=by
 have fx:=hx.cell (i:=0) (by omega)
 have fz:=hz.cell (i:=0) (by omega)
 have ff:=hz.frozen 0
 have xlt:=hx.lt 0 (by omega)
 generalize hx0:cx 0=x0 at *
 have HX0:Hid (cx 0=x0):=hx0
 clear hx0
 have hb:=fun w=>bitsDiv_any 0 x0 y hy0 xlt hy (.inl rfl) w
 have hq:=qW_lt hy0 xlt
 have hqr:=qr_eq 0 x0 y hy0
 generalize qW 0 x0 y=q at *
 generalize rW 0 x0 y=r at *
 have HQ:Hid (q*y+r=0*W64+x0∧r<y):=hqr
 clear hqr
 go_enter Tryz.func148,Tryz.ntmps148
 go_wp2_with fail
 have HB:Hid _:=hb
 clear hb
 refine Calls.mono (oo HB _) ?_
 rintro e w1 ⟨rfl,hk⟩
 have hz1:=hz.keep hk (by simp [Nope])
 have fz1:=hz1.cell (i:=0) (by omega)
 have ff1:=hz1.frozen 0
 go_wp2_with fail
 go_ret
 have hk':Keep (·=bz) w w1:=hk.mono fun _ _ h=>absurd h (by simp [Nope])
 refine⟨r,upd cz 0 q,rfl,hz1.set _ _ hq,hk'.setCell rfl _,HQ.out.2,fun i hi=>upd_ne _ _ (by omega),?_⟩
 have:=HQ.out.1
 simp only [val,Nat.zero_add,Nat.pow_zero,Nat.mul_one,upd_same,HX0.out]
 omega
theorem divWVW_more (w:World) (bz kz Nz:Nat) (cz:Nat→Nat) (bx kx Nx:Nat) (cx:Nat→Nat) (y n:Nat)
  (hz:Row w bz Nz cz) (hx:Row w bx Nx cx) (lz:n≤Nz) (lx:n≤Nx) (hn1:1<n) (hn:n<1000000) (hy0:0<y) (hy:y<W64) :
  Calls Tryz.prog 148 #[.slice (some ⟨bz,0,none⟩) n kz,.int .u64 0,.slice (some ⟨bx,0,none⟩) n kx,.int .u64 (y:Int)] w fun e w'=>
   ∃r c',e = .returned (.int .u64 (r:Nat))∧Row w' bz Nz c'∧Keep (·=bz) w w'∧r<y∧(∀i,n≤i→c' i=cz i)∧val c' 0 n*y+r=val cx 0 n:=by
 have t1:((n:Int)==1)=false:=beq_eq_false_iff_ne.2 (by omega)
 go_enter Tryz.func148,Tryz.ntmps148
 go_wp2_with fail
 refine(reciprocalWord_any y hy hy0 _).mono ?_
 rintro e w1 ⟨rfl,hk1⟩
 have hz1:=hz.keep hk1 (by simp [Nope])
 have hx1:=hx.keep hk1 (by simp [Nope])
 have hk1':Keep (·=bz) w w1:=hk1.mono fun _ _ h=>absurd h (by simp [Nope])
 have hdv:=fun x1 x0 (hx1:x1<y) (hx0:x0<W64) w=>divWW_any x1 x0 y hy0 hy hx1 hx0 w
 generalize recN (y*2^nlzN y)=rec at *
 have HDV:Hid _:=hdv
 clear hdv
 go_wp2_with fail
 go_loopw [8,12] (fun r i wr=>∃(k m:Nat) (c':Nat→Nat) (r0:Nat),k+m=n∧r = .int .u64 (r0:Int)∧i = .int .i64 ((k:Int)-1)∧Row wr bz Nz c'∧Keep (·=bz) w1 wr ∧
  r0<y∧(∀i,n≤i∨i<k→c' i=cz i)∧val c' k m*y+r0=val cx k m) (fun _ i _=>(intOf i+1).toNat)
 case atStart=>
  exact⟨n,0,cz,0,rfl,rfl,rfl,hz1,Keep.refl _ _,hy0,fun _ _=>rfl,by simp [val]⟩
 case round=>
  obtain⟨k,m,c',r0,hkm,rfl,hi,hrow,hkeep,hr0,hout,hval⟩:=hrel
  have HO:Hid (∀i,n≤i∨i<k→c' i=cz i):=hout
  have HV:Hid (val c' k m*y+r0=val cx k m):=hval
  clear hval hout
  rcases k with _ | k
  ·subst hi
   go_wp2_with fail
   go_ret
   obtain rfl:m=n:=by omega
   exact⟨r0,c',rfl,hrow,hk1'.trans hkeep,hr0,fun i hi=>HO.out i (.inl hi),HV.out⟩
  ·have hi2:=hi.trans (show Value.int .i64 (((k+1:Nat):Int)-1) = .int .i64 (k:Int) from by congr 1;omega)
   clear hi
   subst hi2
   have fx:wr.cell? ⟨bx,k,none⟩=some (.int .u64 (cx k:Nat)):=by
    by_cases hb:bx=bz
    ·subst hb
     obtain⟨rfl,hs⟩:=hz.same hx
     rw [hrow.cell (by omega),HO.out _ (by omega),hs _ (by omega)]
    ·exact(hx1.keep hkeep hb).cell (by omega)
   have hkn:k<n:=by omega
   have xlt:=hx.lt k (by omega)
   generalize hxk:cx k=xk at *
   have HXK:Hid (cx k=xk):=hxk
   clear hxk
   have HQ:Hid _:=qr_eq r0 xk y hy0
   have hq:=qW_lt hr0 xlt
   have hd:=HDV.out r0 xk hr0 xlt
   generalize qW r0 xk y=q at *
   generalize rW r0 xk y=r at *
   have HD:Hid _:=hd
   clear hd
   go_wp2_with fail
   refine Calls.mono (oo HD _) ?_
   rintro e w2 ⟨rfl,hk2⟩
   have hr2:=hrow.keep hk2 (by simp [Nope])
   have fz:=hr2.cell (i:=k) (by omega)
   have ff:=hr2.frozen k
   go_wp2_with fail
   go_roundw
   case rel=>
    refine⟨k,m+1,upd c' k q,r,by omega,rfl,by congr 1,hr2.set _ _ hq,(hkeep.trans (hk2.mono fun _ _ h=>absurd h (by simp [Nope]))).setCell rfl _,(oo HQ).2,?_,?_⟩
    ·intro i hi
     rw [upd_ne _ _ (by omega)]
     exact HO.out i (by omega)
    ·rw [val_cons,val_cons,upd_same,val_upd _ _ _ _ _ (by omega),HXK.out]
     have h1:=(oo HQ).1
     have h2:=HV.out
     have h3:W64*(val c' (k+1) m*y+r0)=W64*val cx (k+1) m:=by rw [h2]
     grind
   case measure=>simp [intOf]
def IsRow (w:World) (a:Option Addr) (len cap:Nat) (c:Nat→Nat):Prop:=
 (a=none∧len=0∧cap=0)∨∃b,a=some ⟨b,0,none⟩∧len≤cap∧0<cap∧cap≤9223372036854775807∧Row w b cap c
theorem infoW:∃i,Tryz.prog.info? 102=some i∧i.zero=some (.int .u64 0)∧i.size=1∧i.bytes=8:=by
 have h:=(by kernel_rfl:(Tryz.prog.info? 102).map (fun i=>(i.zero,i.size,i.bytes))=some (some (.int .u64 0),1,8))
 cases e:Tryz.prog.info? 102 with
 | none=>rw [e] at h;simp at h
 | some i=>
  rw [e] at h
  simp only [Option.map_some,Option.some.injEq,Prod.mk.injEq] at h
  exact⟨i,rfl,h.1,h.2.1,h.2.2⟩
theorem row_grown (w:World) (cap m g:Nat) (c:Nat→Nat) (T:TypeId) (hlt:∀i,i<cap→c i<W64) :
  ∃c',Row (w.alloc (.cells ((Array.ofFn fun i:Fin cap=>Value.int .u64 (c i:Nat))++Builtin.zeroCells (Value.int .u64 0).cells m++Builtin.zeroCells (Value.int .u64 0).cells g) T (0,0))) w.heap.size (cap+m+g) c'∧∀i,i<cap→c' i=c i:=by
 refine⟨fun i=>if i<cap then c i else 0,⟨⟨T,?_⟩,?_⟩,fun i hi=>if_pos hi⟩
 ·show (w.heap.push _)[w.heap.size]?=_
  simp only [Array.getElem?_push_size,Option.some.injEq,Obj.cells.injEq,and_true]
  apply Array.ext
  ·simp [Builtin.zeroCells,Value.cells,Nat.add_assoc]
  ·intro i h1 h2
   simp only [Array.getElem_ofFn]
   simp only [Array.getElem_append]
   split
   ·split
    ·rename_i h
     simp at h
     simp [h]
    ·rename_i h h'
     simp at h h'
     rw [if_neg (by omega)]
     simp [Builtin.zeroCells,Value.cells,Nat.mod_one]
   ·rename_i h
    simp [Builtin.zeroCells,Value.cells] at h
    rw [if_neg (by omega)]
    simp [Builtin.zeroCells,Value.cells,Nat.mod_one]
 ·intro i hi
  show (if i<cap then c i else 0)<W64
  split
  ·exact hlt i (by assumption)
  ·exact W64_pos
theorem growN_room (w:World) (a:Option Addr) (l c n:Nat) (hlc:l≤c) (hc63:c≤9223372036854775807) (hn63:n<1000000) (hroom:l+n≤c) :
  Calls Tryz.prog 158 #[.slice a l c,.int .i64 (n:Int)] w fun e w'=>e = .returned (.slice a l c)∧w'=w:=by
 have h2:IntKind.i64.wrap ((c:Int)-(l:Int))=(c:Int)-(l:Int):=IntWalk.i64_in _ (by omega)
 have h3:IntKind.i64.wrap ((n:Int)-((c:Int)-(l:Int)))=(n:Int)-((c:Int)-(l:Int)):=IntWalk.i64_in _ (by omega)
 have h4:¬(0<(n:Int)-((c:Int)-(l:Int))):=by omega
 go_enter Tryz.func158,Tryz.ntmps158
 go_wp2_with fail
 go_ret
 exact⟨rfl,rfl⟩
theorem growN_more (w:World) (a:Option Addr) (l k n:Nat) (c:Nat→Nat) (hr:IsRow w a l k c) (hn:n<1000000) (hl:l<1000000) (hroom:k<l+n) :
  Calls Tryz.prog 158 #[.slice a l k,.int .i64 (n:Int)] w fun e w'=>
   ∃k' c',e = .returned (.slice (some ⟨w.heap.size,0,none⟩) l k')∧l+n≤k'∧k'≤9223372036854775807∧Row w' w.heap.size k' c'∧(∀i,i<k→c' i=c i)∧Keep Nope w w':=by
 obtain⟨i0,hi0,hz0,hs0,hb0⟩:=infoW
 have hlc:l≤k:=by rcases hr with⟨_,h,_⟩ | ⟨b,_,h,_⟩<;>omega
 have h2:IntKind.i64.wrap ((k:Int)-(l:Int))=(k:Int)-(l:Int):=IntWalk.i64_in _ (by omega)
 have h3:IntKind.i64.wrap ((n:Int)-((k:Int)-(l:Int)))=(n:Int)-((k:Int)-(l:Int)):=IntWalk.i64_in _ (by omega)
 have h4:0<(n:Int)-((k:Int)-(l:Int)):=by omega
 have hck:k+(l+n-k)=l+n:=by omega
 have hlt:∀i,i<k→c i<W64:=by
  rcases hr with⟨_,_,h⟩ | ⟨b,_,_,_,_,h⟩
  ·intro i hi;omega
  ·exact h.lt
 have hold:(Builtin.firstCells i0.size k (.slice a k k)).run Tryz.prog w.drew = .ok (Array.ofFn fun i:Fin k=>Value.int .u64 (c i:Nat)) w.drew:=by
  rcases hr with⟨rfl,_,rfl⟩ | ⟨b,rfl,_,_,_,h⟩
  ·rw [hs0]
   exact run_firstCells_none w.drew 1 0 0 0
  ·have:=run_firstCells_some (P:=Tryz.prog) w.drew i0.size k ⟨b,0,none⟩ k k (List.ofFn fun i:Fin k=>Value.int .u64 (c i:Nat)) (by simp [hs0]) (fun j v hj=>by
    obtain⟨hj1,hj2⟩:=List.getElem?_eq_some_iff.1 hj
    simp at hj1
    rw [← hj2,List.getElem_ofFn,Addr.add_lit]
    show w.cell? _=_
    rw [Nat.zero_add]
    exact h.cell hj1)
   rw [this]
   simp
 have hrz:∀ty,(Builtin.append_ #[83,3] ty #[.slice a k k,.int .i64 ((n:Int)-((k:Int)-(l:Int)))]).run Tryz.prog w = .ok (.slice (some ⟨w.heap.size,0,none⟩) (l+n) (grownCap w (l+n) k 102)) (w.drew.alloc (.cells ((Array.ofFn fun i:Fin k=>Value.int .u64 (c i:Nat))++Builtin.zeroCells (Value.int .u64 0).cells (l+n-k)++Builtin.zeroCells (Value.int .u64 0).cells (grownCap w (l+n) k 102-(l+n))) 102 (0,0))):=fun ty=>by
  have h:=Lib.run_append_grow_zeros w 83 3 ty 102 i0 _ .i64 .i64 Tryz.underlying83 Tryz.underlying3 hi0 hz0 a k k _ hold (l+n-k) (by omega) (by omega) (by omega) (by omega)
   (by rw [hb0];omega)
   (by rw [hck,hb0];exact growslice_fits hroom (by omega))
  rw [hck] at h
  rw [show (n:Int)-((k:Int)-(l:Int))=((l+n-k:Nat):Int) by omega]
  exact h
 have hGn:l+n≤grownCap w (l+n) k 102:=grownCap_ge w _ _ _
 obtain⟨G,hG⟩:∃G,G=grownCap w (l+n) k 102:=⟨_,rfl⟩
 rw [← hG] at hrz hGn
 have hG63:G≤9223372036854775807:=by
  have:=grownCap_le_maxLen w (l+n) k 102 (by unfold maxLen;omega)
  rw [← hG] at this
  unfold maxLen at this
  omega
 obtain⟨c',hrow,hin⟩:=row_grown w.drew k (l+n-k) (G-(l+n)) c 102 hlt
 rw [show k+(l+n-k)+(G-(l+n))=G from by omega] at hrow
 have hkeep:Keep Nope w (w.drew.alloc (.cells ((Array.ofFn fun i:Fin k=>Value.int .u64 (c i:Nat))++Builtin.zeroCells (Value.int .u64 0).cells (l+n-k)++Builtin.zeroCells (Value.int .u64 0).cells (G-(l+n))) 102 (0,0))):=((Keep.refl _ w).drew).alloc _
 generalize (w.drew.alloc (.cells ((Array.ofFn fun i:Fin k=>Value.int .u64 (c i:Nat))++Builtin.zeroCells (Value.int .u64 0).cells (l+n-k)++Builtin.zeroCells (Value.int .u64 0).cells (G-(l+n))) 102 (0,0)))=w1 at *
 have HR:Hid (Row w1 w.heap.size G c'):=hrow
 have HI:Hid (∀i,i<k→c' i=c i):=hin
 have HK:Hid (Keep Nope w w1):=hkeep
 have HGn:Hid (l+n≤G):=hGn
 have HG63:Hid (G≤9223372036854775807):=hG63
 have hlG:l≤G:=by omega
 clear hold hck hG hrow hin hkeep hlt hr hGn hG63 hi0 hz0
 go_enter Tryz.func158,Tryz.ntmps158
 cases a with
 | none=>
  go_wp2_with (at_builtin;refine Lib.wpList_append_run _ rfl _ _ _ _ rfl _ _ rfl rfl _ _ (hrz _) ?_)
  all_goals (go_ret;exact⟨G,c',rfl,HGn.out,HG63.out,HR.out,HI.out,HK.out⟩)
 | some a=>
  obtain⟨ab,ao,asp⟩:=a
  go_wp2_with (at_builtin;refine Lib.wpList_append_run _ rfl _ _ _ _ rfl _ _ rfl rfl _ _ (hrz _) ?_)
  all_goals (go_ret;exact⟨G,c',rfl,HGn.out,HG63.out,HR.out,HI.out,HK.out⟩)
theorem growW_room (w:World) (a:Option Addr) (l c n:Nat) (hlc:l≤c) (hc63:c≤9223372036854775807) (hn63:n<1000000) (hroom:l+n≤c) :
  Calls Tryz.prog 173 #[.slice a l c,.int .i64 (n:Int)] w fun e w'=>e = .returned (.slice a l c)∧w'=w:=by
 have h2:IntKind.i64.wrap ((c:Int)-(l:Int))=(c:Int)-(l:Int):=IntWalk.i64_in _ (by omega)
 have h3:IntKind.i64.wrap ((n:Int)-((c:Int)-(l:Int)))=(n:Int)-((c:Int)-(l:Int)):=IntWalk.i64_in _ (by omega)
 have h4:¬(0<(n:Int)-((c:Int)-(l:Int))):=by omega
 go_enter Tryz.func173,Tryz.ntmps173
 go_wp2_with fail
 go_ret
 exact⟨rfl,rfl⟩
theorem growW_more (w:World) (a:Option Addr) (l k n:Nat) (c:Nat→Nat) (hr:IsRow w a l k c) (hn:n<1000000) (hl:l<1000000) (hroom:k<l+n) :
  Calls Tryz.prog 173 #[.slice a l k,.int .i64 (n:Int)] w fun e w'=>
   ∃k' c',e = .returned (.slice (some ⟨w.heap.size,0,none⟩) l k')∧l+n≤k'∧k'≤9223372036854775807∧Row w' w.heap.size k' c'∧(∀i,i<k→c' i=c i)∧Keep Nope w w':=by
 obtain⟨i0,hi0,hz0,hs0,hb0⟩:=infoW
 have hlc:l≤k:=by rcases hr with⟨_,h,_⟩ | ⟨b,_,h,_⟩<;>omega
 have h2:IntKind.i64.wrap ((k:Int)-(l:Int))=(k:Int)-(l:Int):=IntWalk.i64_in _ (by omega)
 have h3:IntKind.i64.wrap ((n:Int)-((k:Int)-(l:Int)))=(n:Int)-((k:Int)-(l:Int)):=IntWalk.i64_in _ (by omega)
 have h4:0<(n:Int)-((k:Int)-(l:Int)):=by omega
 have hck:k+(l+n-k)=l+n:=by omega
 have hlt:∀i,i<k→c i<W64:=by
  rcases hr with⟨_,_,h⟩ | ⟨b,_,_,_,_,h⟩
  ·intro i hi;omega
  ·exact h.lt
 have hold:(Builtin.firstCells i0.size k (.slice a k k)).run Tryz.prog w.drew = .ok (Array.ofFn fun i:Fin k=>Value.int .u64 (c i:Nat)) w.drew:=by
  rcases hr with⟨rfl,_,rfl⟩ | ⟨b,rfl,_,_,_,h⟩
  ·rw [hs0]
   exact run_firstCells_none w.drew 1 0 0 0
  ·have:=run_firstCells_some (P:=Tryz.prog) w.drew i0.size k ⟨b,0,none⟩ k k (List.ofFn fun i:Fin k=>Value.int .u64 (c i:Nat)) (by simp [hs0]) (fun j v hj=>by
    obtain⟨hj1,hj2⟩:=List.getElem?_eq_some_iff.1 hj
    simp at hj1
    rw [← hj2,List.getElem_ofFn,Addr.add_lit]
    show w.cell? _=_
    rw [Nat.zero_add]
    exact h.cell hj1)
   rw [this]
   simp
 have hrz:∀ty,(Builtin.append_ #[82,3] ty #[.slice a k k,.int .i64 ((n:Int)-((k:Int)-(l:Int)))]).run Tryz.prog w = .ok (.slice (some ⟨w.heap.size,0,none⟩) (l+n) (grownCap w (l+n) k 102)) (w.drew.alloc (.cells ((Array.ofFn fun i:Fin k=>Value.int .u64 (c i:Nat))++Builtin.zeroCells (Value.int .u64 0).cells (l+n-k)++Builtin.zeroCells (Value.int .u64 0).cells (grownCap w (l+n) k 102-(l+n))) 102 (0,0))):=fun ty=>by
  have h:=Lib.run_append_grow_zeros w 82 3 ty 102 i0 _ .i64 .i64 Tryz.underlying82 Tryz.underlying3 hi0 hz0 a k k _ hold (l+n-k) (by omega) (by omega) (by omega) (by omega)
   (by rw [hb0];omega)
   (by rw [hck,hb0];exact growslice_fits hroom (by omega))
  rw [hck] at h
  rw [show (n:Int)-((k:Int)-(l:Int))=((l+n-k:Nat):Int) by omega]
  exact h
 have hGn:l+n≤grownCap w (l+n) k 102:=grownCap_ge w _ _ _
 obtain⟨G,hG⟩:∃G,G=grownCap w (l+n) k 102:=⟨_,rfl⟩
 rw [← hG] at hrz hGn
 have hG63:G≤9223372036854775807:=by
  have:=grownCap_le_maxLen w (l+n) k 102 (by unfold maxLen;omega)
  rw [← hG] at this
  unfold maxLen at this
  omega
 obtain⟨c',hrow,hin⟩:=row_grown w.drew k (l+n-k) (G-(l+n)) c 102 hlt
 rw [show k+(l+n-k)+(G-(l+n))=G from by omega] at hrow
 have hkeep:Keep Nope w (w.drew.alloc (.cells ((Array.ofFn fun i:Fin k=>Value.int .u64 (c i:Nat))++Builtin.zeroCells (Value.int .u64 0).cells (l+n-k)++Builtin.zeroCells (Value.int .u64 0).cells (G-(l+n))) 102 (0,0))):=((Keep.refl _ w).drew).alloc _
 generalize (w.drew.alloc (.cells ((Array.ofFn fun i:Fin k=>Value.int .u64 (c i:Nat))++Builtin.zeroCells (Value.int .u64 0).cells (l+n-k)++Builtin.zeroCells (Value.int .u64 0).cells (G-(l+n))) 102 (0,0)))=w1 at *
 have HR:Hid (Row w1 w.heap.size G c'):=hrow
 have HI:Hid (∀i,i<k→c' i=c i):=hin
 have HK:Hid (Keep Nope w w1):=hkeep
 have HGn:Hid (l+n≤G):=hGn
 have HG63:Hid (G≤9223372036854775807):=hG63
 have hlG:l≤G:=by omega
 clear hold hck hG hrow hin hkeep hlt hr hGn hG63 hi0 hz0
 go_enter Tryz.func173,Tryz.ntmps173
 cases a with
 | none=>
  go_wp2_with (at_builtin;refine Lib.wpList_append_run _ rfl _ _ _ _ rfl _ _ rfl rfl _ _ (hrz _) ?_)
  all_goals (go_ret;exact⟨G,c',rfl,HGn.out,HG63.out,HR.out,HI.out,HK.out⟩)
 | some a=>
  obtain⟨ab,ao,asp⟩:=a
  go_wp2_with (at_builtin;refine Lib.wpList_append_run _ rfl _ _ _ _ rfl _ _ rfl rfl _ _ (hrz _) ?_)
  all_goals (go_ret;exact⟨G,c',rfl,HGn.out,HG63.out,HR.out,HI.out,HK.out⟩)
def One (w:World) (b:Nat) (v:Value):Prop:=∃T,w.heap[b]?=some (.cells #[v] T (0,0))
theorem One.cell {w:World} {b:Nat} {v:Value} (h:One w b v):w.cell? ⟨b,0,none⟩=some v:=by
 obtain⟨T,hT⟩:=h
 simp [World.cell?,hT]
theorem One.frozen {w:World} {b:Nat} {v:Value} (h:One w b v):w.frozen? ⟨b,0,none⟩=false:=by
 obtain⟨T,hT⟩:=h
 simp [World.frozen?,hT]
theorem One.inHeap {w:World} {b:Nat} {v:Value} (h:One w b v):b<w.heap.size:=by
 obtain⟨T,hT⟩:=h
 exact(Array.getElem?_eq_some_iff.1 hT).1
theorem One.keep {S:Nat→Prop} {w w':World} {b:Nat} {v:Value} (h:One w b v) (k:Keep S w w') (hs:¬S b):One w' b v:=by
 unfold One
 rw [k.block b h.inHeap hs];exact h
theorem One.set {w:World} {b:Nat} {v:Value} (h:One w b v) (u:Value):One (w.setCell ⟨b,0,none⟩ u) b u:=by
 obtain⟨T,hT⟩:=h
 refine⟨T,?_⟩
 simp only [World.setCell,Array.getElem?_modify,if_true,hT,Option.map_some,Option.some.injEq,Obj.cells.injEq,and_true,Option.isSome_none,Bool.false_eq_true,if_false]
 rfl
theorem One.other {w:World} {b:Nat} {v:Value} (h:One w b v) {p:Addr} (hp:p.block≠b) (u:Value):One (w.setCell p u) b v:=by
 obtain⟨T,hT⟩:=h
 exact⟨T,by rw [Below.heap_setCell _ _ _ _ (fun e=>hp e.symm)];exact hT⟩
theorem One.row {w:World} {b n:Nat} {v:Value} {c:Nat→Nat} (h:One w b v) (k:Row w b n c):∃x:Nat,v = .int .u64 (x:Int):=by
 obtain⟨T,hT⟩:=h
 obtain⟨T',hT'⟩:=k.blk
 rw [hT] at hT'
 simp only [Option.some.injEq,Obj.cells.injEq] at hT'
 have hs:=congrArg Array.size hT'.1
 simp at hs
 subst hs
 have:=congrArg (fun a=>a[0]?) hT'.1
 simp at this
 exact⟨_,this⟩
theorem One.new (w:World) (v:Value) (T:TypeId):One (w.alloc (.cells #[v] T (0,0))) w.heap.size v:=
 ⟨T,by show (w.heap.push _)[w.heap.size]?=_;simp⟩
theorem One.drew {w:World} {b:Nat} {v:Value} (h:One w b v):One w.drew b v:=h
theorem IsRow.keep {S:Nat→Prop} {w w':World} {a:Option Addr} {len cap:Nat} {c:Nat→Nat} (h:IsRow w a len cap c) (k:Keep S w w') (hs:∀b,a=some ⟨b,0,none⟩→¬S b):IsRow w' a len cap c:=by
 rcases h with h | ⟨b,h1,h2,h3,h4,h5⟩
 ·exact .inl h
 ·exact .inr ⟨b,h1,h2,h3,h4,h5.keep k (hs b h1)⟩
theorem IsRow.take {w:World} {a:Option Addr} {len cap n:Nat} {c:Nat→Nat} (h:IsRow w a len cap c) (hn:n≤cap):IsRow w a n cap c:=by
 rcases h with⟨h1,h2,h3⟩ | ⟨b,h1,h2,h3,h4,h5⟩
 ·exact .inl ⟨h1,by omega,h3⟩
 ·exact .inr ⟨b,h1,hn,h3,h4,h5⟩
theorem IsRow.le {w:World} {a:Option Addr} {len cap:Nat} {c:Nat→Nat} (h:IsRow w a len cap c):len≤cap∧cap≤9223372036854775807:=by
 rcases h with⟨h1,h2,h3⟩ | ⟨b,h1,h2,h3,h4,h5⟩<;>omega
def StkI (w:World) (q L:Nat) (B:Nat→Prop):Prop:=
 ∃a K c,One w q (.slice a L K)∧IsRow w a L K c∧(∀k,B k↔k=q∨a=some ⟨k,0,none⟩)
def Stk (w:World) (p L:Nat) (B:Nat→Prop):Prop:=
 (One w p (.pointer none)∧L=0∧∀k,B k↔k=p) ∨
 ∃q B',One w p (.pointer (some ⟨q,0,none⟩))∧StkI w q L B'∧p≠q∧(∀k,B k↔k=p∨B' k)
theorem StkI.keep {S:Nat→Prop} {w w':World} {q L:Nat} {B:Nat→Prop} (h:StkI w q L B) (k:Keep S w w') (hs:∀b,B b→¬S b):StkI w' q L B:=by
 obtain⟨a,K,c,h1,h2,h3⟩:=h
 exact⟨a,K,c,h1.keep k (hs _ ((h3 q).2 (.inl rfl))),h2.keep k (fun b hb=>hs b ((h3 b).2 (.inr hb))),h3⟩
theorem Stk.keep {S:Nat→Prop} {w w':World} {p L:Nat} {B:Nat→Prop} (h:Stk w p L B) (k:Keep S w w') (hs:∀b,B b→¬S b):Stk w' p L B:=by
 rcases h with⟨h1,h2,h3⟩ | ⟨q,B',h1,h2,h3,h4⟩
 ·exact .inl ⟨h1.keep k (hs _ ((h3 p).2 rfl)),h2,h3⟩
 ·exact .inr ⟨q,B',h1.keep k (hs _ ((h4 p).2 (.inl rfl))),h2.keep k (fun b hb=>hs b ((h4 b).2 (.inr hb))),h3,h4⟩
theorem StkI.in {w:World} {q L:Nat} {B:Nat→Prop} (h:StkI w q L B) (b:Nat) (hb:B b):b<w.heap.size:=by
 obtain⟨a,K,c,h1,h2,h3⟩:=h
 rcases(h3 b).1 hb with rfl | h
 ·exact h1.inHeap
 ·rcases h2 with⟨h4,_⟩ | ⟨b',h4,_,_,_,h5⟩
  ·rw [h4] at h;simp at h
  ·rw [h4] at h
   simp only [Option.some.injEq,Addr.mk.injEq,and_true] at h
   exact h▸h5.inHeap
theorem Stk.in {w:World} {p L:Nat} {B:Nat→Prop} (h:Stk w p L B) (b:Nat) (hb:B b):b<w.heap.size:=by
 rcases h with⟨h1,h2,h3⟩ | ⟨q,B',h1,h2,h3,h4⟩
 ·exact(h3 b).1 hb▸h1.inHeap
 ·rcases(h4 b).1 hb with rfl | h
  ·exact h1.inHeap
  ·exact h2.in b h
theorem getStack_any (w:World):Calls Tryz.prog 108 #[] w fun e w'=>
  ∃p,e = .returned (.pointer (some ⟨p,0,none⟩))∧w.heap.size≤p∧Stk w' p 0 (·=p)∧Keep Nope w w':=by
 go_enter Tryz.func108,Tryz.ntmps108
 go_wp2_with fail
 go_ret
 refine⟨_,rfl,Nat.le_refl _,.inl ⟨One.new w _ _,rfl,fun _=>Iff.rfl⟩,(Keep.refl _ w).alloc _⟩
theorem inner_save (w:World) (q L:Nat) (B:Nat→Prop) (h:StkI w q L B):Calls Tryz.prog 157 #[.pointer (some ⟨q,0,none⟩)] w fun e w'=>e = .returned (.int .i64 (L:Int))∧w'=w:=by
 obtain⟨a,K,c,h1,h2,h3⟩:=h
 have hc:=h1.cell
 have hL:=h2.le
 go_enter Tryz.func157,Tryz.ntmps157
 go_wp2_with fail
 go_ret
 exact⟨rfl,rfl⟩
theorem save_any (w:World) (p L:Nat) (B:Nat→Prop) (h:Stk w p L B):Calls Tryz.prog 130 #[.pointer (some ⟨p,0,none⟩)] w fun e w'=>e = .returned (.int .i64 (L:Int))∧w'=w:=by
 rcases h with⟨h1,rfl,h3⟩ | ⟨q,B',h1,h2,h3,h4⟩
 ·have hc:=h1.cell
  go_enter Tryz.func130,Tryz.ntmps130
  go_wp2_with fail
  go_ret
  exact⟨rfl,rfl⟩
 ·have hc:=h1.cell
  go_enter Tryz.func130,Tryz.ntmps130
  go_wp2_with fail
  refine(inner_save _ q L B' h2).mono ?_
  rintro e w1 ⟨rfl,rfl⟩
  go_wp2_with fail
  go_ret
  exact⟨rfl,rfl⟩
theorem inner_restore (w:World) (q L n:Nat) (B:Nat→Prop) (h:StkI w q L B) (hn:n≤L):Calls Tryz.prog 156 #[.pointer (some ⟨q,0,none⟩),.int .i64 (n:Int)] w fun e w'=>
  e = .returned (.tuple #[])∧StkI w' q n B∧Keep B w w':=by
 obtain⟨a,K,c,h1,h2,h3⟩:=h
 have hc:=h1.cell
 have hf:=h1.frozen
 have hL:=h2.le
 have hr:=h2.take (show n≤K by omega)
 have hk:Keep (·=q) w (w.setCell ⟨q,0,none⟩ (.slice a n K)):=(Keep.refl (·=q) w).setCell (p:=⟨q,0,none⟩) rfl _
 have hne:∀b,a=some ⟨b,0,none⟩→¬(b=q):=by
  rintro b rfl rfl
  rcases h2 with⟨h4,_⟩ | ⟨b',h4,_,_,_,h5⟩
  ·simp at h4
  ·simp only [Option.some.injEq,Addr.mk.injEq,and_true] at h4
   subst h4
   obtain⟨x,hx⟩:=h1.row h5
   simp at hx
 have hn2:n≤K:=by omega
 have H:Hid (StkI (w.setCell ⟨q,0,none⟩ (.slice a n K)) q n B):=⟨a,K,c,h1.set _,hr.keep hk hne,h3⟩
 have HK:Hid (Keep B w (w.setCell ⟨q,0,none⟩ (.slice a n K))):=hk.mono fun k _ e=>(h3 k).2 (.inl e)
 clear hr hk hne h2 h3 h1
 cases a with
 | none=>
  go_enter Tryz.func156,Tryz.ntmps156
  go_wp2_with fail
  first | go_end0 | ((try simp only [Exit.inBlock,Exit.then]);refine bodyPost_ret (results_none rfl _ _ _) rfl ?_)
  exact⟨rfl,H.out,HK.out⟩
 | some a=>
  obtain⟨ab,ao,asp⟩:=a
  go_enter Tryz.func156,Tryz.ntmps156
  go_wp2_with fail
  first | go_end0 | ((try simp only [Exit.inBlock,Exit.then]);refine bodyPost_ret (results_none rfl _ _ _) rfl ?_)
  exact⟨rfl,H.out,HK.out⟩
theorem restore_any (w:World) (p L n:Nat) (B:Nat→Prop) (h:Stk w p L B) (hn:n≤L):Calls Tryz.prog 129 #[.pointer (some ⟨p,0,none⟩),.int .i64 (n:Int)] w fun e w'=>
  e = .returned (.tuple #[])∧Stk w' p n B∧Keep B w w':=by
 rcases h with⟨h1,rfl,h3⟩ | ⟨q,B',h1,h2,h3,h4⟩
 ·obtain rfl:n=0:=by omega
  have hc:=h1.cell
  go_enter Tryz.func129,Tryz.ntmps129
  go_wp2_with fail
  first | go_end0 | ((try simp only [Exit.inBlock,Exit.then]);refine bodyPost_ret (results_none rfl _ _ _) rfl ?_)
  exact⟨rfl,.inl ⟨h1,rfl,h3⟩,Keep.refl _ _⟩
 ·have hc:=h1.cell
  go_enter Tryz.func129,Tryz.ntmps129
  go_wp2_with fail
  refine(inner_restore _ q L n B' h2 hn).mono ?_
  rintro e w1 ⟨rfl,hs,hk⟩
  go_wp2_with fail
  first | go_end0 | ((try simp only [Exit.inBlock,Exit.then]);refine bodyPost_ret (results_none rfl _ _ _) rfl ?_)
  have hp:¬B' p:=fun hb=>by
   obtain⟨a,K,c,g1,g2,g3⟩:=h2
   rcases(g3 p).1 hb with e | e
   ·exact h3 e
   ·rcases g2 with⟨h4,_⟩ | ⟨b',h4,_,_,_,h5⟩
    ·rw [h4] at e;simp at e
    ·rw [h4] at e
     simp only [Option.some.injEq,Addr.mk.injEq,and_true] at e
     subst e
     obtain⟨x,hx⟩:=h1.row h5
     simp at hx
  exact⟨rfl,.inr ⟨q,B',h1.keep hk hp,hs,h3,h4⟩,hk.mono fun k _ hb=>(h4 k).2 (.inr hb)⟩
theorem inner_free (w:World) (q L:Nat) (B:Nat→Prop) (h:StkI w q L B):Calls Tryz.prog 128 #[.pointer (some ⟨q,0,none⟩)] w fun e w'=>
  e = .returned (.tuple #[])∧Keep B w w':=by
 obtain⟨a,K,c,h1,h2,h3⟩:=h
 have hc:=h1.cell
 have hf:=h1.frozen
 have hL:=h2.le
 have HK:Hid (Keep B w (w.setCell ⟨q,0,none⟩ (.slice a 0 K))):=((Keep.refl (·=q) w).setCell (p:=⟨q,0,none⟩) rfl _).mono fun k _ e=>(h3 k).2 (.inl e)
 clear h2 h3 h1
 cases a with
 | none=>
  go_enter Tryz.func128,Tryz.ntmps128
  go_wp2_with fail
  first | go_end0 | ((try simp only [Exit.inBlock,Exit.then]);refine bodyPost_ret (results_none rfl _ _ _) rfl ?_)
  exact⟨rfl,HK.out⟩
 | some a=>
  obtain⟨ab,ao,asp⟩:=a
  go_enter Tryz.func128,Tryz.ntmps128
  go_wp2_with fail
  first | go_end0 | ((try simp only [Exit.inBlock,Exit.then]);refine bodyPost_ret (results_none rfl _ _ _) rfl ?_)
  exact⟨rfl,HK.out⟩
theorem free_any (w:World) (p L:Nat) (B:Nat→Prop) (h:Stk w p L B):Calls Tryz.prog 109 #[.pointer (some ⟨p,0,none⟩)] w fun e w'=>
  e = .returned (.tuple #[])∧Keep B w w':=by
 rcases h with⟨h1,rfl,h3⟩ | ⟨q,B',h1,h2,h3,h4⟩
 ·have hc:=h1.cell
  go_enter Tryz.func109,Tryz.ntmps109
  go_wp2_with fail
  first | go_end0 | ((try simp only [Exit.inBlock,Exit.then]);refine bodyPost_ret (results_none rfl _ _ _) rfl ?_)
  exact⟨rfl,Keep.refl _ _⟩
 ·have hc:=h1.cell
  go_enter Tryz.func109,Tryz.ntmps109
  go_wp2_with fail
  refine(inner_free _ q L B' h2).mono ?_
  rintro e w1 ⟨rfl,hk⟩
  go_wp2_with fail
  first | go_end0 | ((try simp only [Exit.inBlock,Exit.then]);refine bodyPost_ret (results_none rfl _ _ _) rfl ?_)
  exact⟨rfl,hk.mono fun k _ hb=>(h4 k).2 (.inr hb)⟩
def Wb (w:World) (g cap:Nat) (c:Nat→Nat):Prop:=w.heap[g]?=some (.cells (Array.ofFn fun i:Fin cap=>Value.int .u64 (c i:Nat)) 102 (0,0))∧∀i,i<cap→c i<W64
theorem Wb.row {w:World} {g cap:Nat} {c:Nat→Nat} (h:Wb w g cap c):Row w g cap c:=⟨⟨102,h.1⟩,h.2⟩
theorem Wb.keep {S:Nat→Prop} {w w':World} {g cap:Nat} {c:Nat→Nat} (h:Wb w g cap c) (k:Keep S w w') (hs:¬S g):Wb w' g cap c:=by
 refine⟨?_,h.2⟩
 rw [k.block g h.row.inHeap hs];exact h.1
def Owd (w0 w:World) (v:Value) (n:Nat) (c:Nat→Nat):Prop:=
 Keep Nope w0 w∧((v = .slice none 0 0∧n=0)∨∃g cap,v = .slice (some ⟨g,0,none⟩) n cap∧w0.heap.size≤g∧n≤cap∧0<cap∧cap≤9223372036854775807∧Wb w g cap c)
theorem Owd.keep {w0 w w':World} {v:Value} {n:Nat} {c:Nat→Nat} (h:Owd w0 w v n c) (k:Keep Nope w w'):Owd w0 w' v n c:=
 ⟨h.1.trans k,h.2.imp id fun⟨g,cap,h1,h2,h3,h4,h5,h6⟩=>⟨g,cap,h1,h2,h3,h4,h5,h6.keep k id⟩⟩
theorem Owd.keep1 {w0 w w':World} {v:Value} {n b:Nat} {c:Nat→Nat} (h:Owd w0 w v n c) (k:Keep (·=b) w w') (hb:w0.heap.size≤b) (hn:∀g cap,v = .slice (some ⟨g,0,none⟩) n cap→g≠b):Owd w0 w' v n c:=by
 refine⟨⟨k.os.trans h.1.os,k.tape.trans h.1.tape,k.output.trans h.1.output,Nat.le_trans h.1.size k.size,fun i h1 h2=>(k.block i (Nat.lt_of_lt_of_le h1 h.1.size) (by omega)).trans (h.1.block i h1 h2)⟩,?_⟩
 exact h.2.imp id fun⟨g,cap,h1,h2,h3,h4,h5,h6⟩=>⟨g,cap,h1,h2,h3,h4,h5,h6.keep k (hn g cap h1)⟩
theorem wb_new (w:World) (n G d:Nat) (c:Nat→Nat) (hc:∀i,i<n→c i<W64) (hd:d<W64) (hG:n+1≤G) :
  ∃c',Wb (w.alloc (.cells ((List.ofFn fun i:Fin n=>Value.int .u64 (c i:Nat)).toArray++[Value.int .u64 (d:Nat)].toArray++Builtin.zeroCells (Value.int .u64 0).cells (G-(n+1))) 102 (0,0))) w.heap.size G c'∧(∀i,i<n→c' i=c i)∧c' n=d:=by
 refine⟨fun i=>if i<n then c i else if i=n then d else 0,⟨?_,?_⟩,fun i hi=>if_pos hi,by simp⟩
 ·show (w.heap.push _)[w.heap.size]?=_
  simp only [Array.getElem?_push_size,Option.some.injEq,Obj.cells.injEq,and_true]
  apply Array.ext
  ·simp [Builtin.zeroCells,Value.cells];omega
  ·intro i h1 h2
   simp only [Array.getElem_ofFn]
   simp only [Array.getElem_append]
   split
   ·split
    ·rename_i h
     simp at h
     simp [h]
    ·rename_i h h'
     simp at h h'
     rw [if_neg (by omega),if_pos (by omega)]
     simp
   ·rename_i h
    simp [] at h
    rw [if_neg (by omega),if_neg (by omega)]
    simp [Builtin.zeroCells,Value.cells,Nat.mod_one]
 ·intro i hi
  show (if i<n then c i else if i=n then d else 0)<W64
  split
  ·exact hc i (by assumption)
  ·split
   ·exact hd
   ·exact W64_pos
theorem app_word {w0 w:World} {v:Value} {n d:Nat} {c:Nat→Nat} (h:Owd w0 w v n c) (q k:Nat) (hc:w.cell? ⟨q,0,none⟩=some (.int .u64 (d:Nat))) (hd:d<W64) (hn:n<1000000) (ty:TypeId) :
  ∃v' w' c',(Builtin.append_ #[83,83] ty #[v,.slice (some ⟨q,0,none⟩) 1 k]).run Tryz.prog w = .ok v' w'∧Owd w0 w' v' (n+1) c'∧(∀i,i<n→c' i=c i)∧c' n=d∧Keep (fun k=>∃cap,v = .slice (some ⟨k,0,none⟩) n cap) w w':=by
 obtain⟨i0,hi0,hz0,hs0,hb0⟩:=infoW
 have hnews:∀j u,[Value.int .u64 (d:Nat)][j]?=some u→w.cell? ((⟨q,0,none⟩:Addr).add j)=some u:=fun j u hj=>by
  obtain⟨hj1,hj2⟩:=List.getElem?_eq_some_iff.1 hj
  simp only [List.length_cons,List.length_nil,Nat.zero_add,Nat.lt_one_iff] at hj1
  subst hj1
  simp only [List.getElem_cons_zero] at hj2
  rw [Addr.add_lit,← hj2];exact hc
 have h1c:∀u∈[Value.int .u64 (d:Nat)],u.oneCell'=true:=fun u hu=>by simp only [List.mem_singleton] at hu;subst hu;rfl
 have hl:[Value.int .u64 (d:Nat)].length=1*i0.size:=by rw [hs0];rfl
 rcases h.2 with⟨rfl,rfl⟩ | ⟨g,cap,rfl,hg0,hnc,hcap,hcm,hwb⟩
 ·have hr:=run_append_nil (P:=Tryz.prog) w 83 ty 102 i0 _ Tryz.underlying83 hi0 hz0 ⟨q,0,none⟩ 1 k _ hl hnews (by omega) (by omega) (by rw [hb0];omega)
  obtain⟨c',h1,h2,h3⟩:=wb_new w.drew 0 (grownCap w 1 0 102) d c (fun i hi=>by omega) hd (grownCap_ge w _ _ _)
  refine⟨_,_,c',hr,⟨(h.1.drew).alloc _,.inr ⟨w.heap.size,_,rfl,h.1.size,grownCap_ge w _ _ _,Nat.lt_of_lt_of_le (by omega) (grownCap_ge w 1 0 102),?_,?_⟩⟩,h2,h3,((Keep.refl _ w).drew).alloc _⟩
  ·have:=grownCap_le_maxLen w 1 0 102 (by unfold maxLen;omega)
   unfold maxLen at this;omega
  ·have e:(List.ofFn fun i:Fin 0=>Value.int .u64 (c i:Nat)).toArray++[Value.int .u64 (d:Nat)].toArray=[Value.int .u64 (d:Nat)].toArray:=by simp
   rw [e] at h1
   exact h1
 ·have hgh:=hwb.row.inHeap
  by_cases hroom:n+1≤cap
  ·have hr:=run_append_room (P:=Tryz.prog) w 83 ty 102 i0 Tryz.underlying83 hi0 g n cap _ hwb.1 ⟨q,0,none⟩ 1 k _ hl hnews h1c hroom (by rw [hs0];simp;omega)
   have hrow:=hwb.row.setRow n 1 (fun _=>d) (by omega) (fun _ _=>hd) 102 hwb.1
   have e1:(List.range 1).map (fun i=>Value.int .u64 (((fun _=>d) i:Nat):Int))=[Value.int .u64 (d:Nat)]:=rfl
   rw [e1] at hrow
   rw [hs0,Nat.mul_one] at hr
   refine⟨_,_,lay c n 1 (fun _=>d),hr,⟨?_,.inr ⟨g,cap,rfl,hg0,hroom,hcap,hcm,?_,hrow.lt⟩⟩,fun i hi=>lay_out _ _ _ _ (.inl hi),lay_in c n 1 (fun _=>d) (i:=0) (by omega),(keep_setRow w g _).mono fun k _ e=>⟨cap,by rw [e]⟩⟩
   ·have k:=keep_setRow w g ((Array.ofFn fun i:Fin cap=>Value.int .u64 (c i:Nat)).toList.take n++[Value.int .u64 (d:Nat)]++(Array.ofFn fun i:Fin cap=>Value.int .u64 (c i:Nat)).toList.drop (n+1)).toArray
    exact⟨k.os.trans h.1.os,k.tape.trans h.1.tape,k.output.trans h.1.output,Nat.le_trans h.1.size k.size,fun i h1 h2=>(k.block i (Nat.lt_of_lt_of_le h1 h.1.size) (by omega)).trans (h.1.block i h1 h2)⟩
   ·obtain⟨T,hT⟩:=hrow.blk
    rw [setRow_heap w g _ _ 102 (0,0) hwb.1] at hT
    simp only [Option.some.injEq,Obj.cells.injEq] at hT
    rw [← hT.1]
    exact setRow_heap w g _ _ 102 (0,0) hwb.1
  ·have hr:=run_append_grow (P:=Tryz.prog) w 83 ty 102 i0 _ Tryz.underlying83 hi0 hz0 ⟨g,0,none⟩ n cap (List.ofFn fun i:Fin n=>Value.int .u64 (c i:Nat)) (by simp [hs0]) (fun j u hj=>by
     obtain⟨hj1,hj2⟩:=List.getElem?_eq_some_iff.1 hj
     simp at hj1
     rw [← hj2,List.getElem_ofFn,Addr.add_lit,Nat.zero_add]
     exact hwb.row.cell (by omega)) ⟨q,0,none⟩ 1 k _ hl hnews (by omega) (by omega) (by rw [hb0];exact growslice_fits (by omega) (by omega))
   obtain⟨c',h1,h2,h3⟩:=wb_new w.drew n (grownCap w (n+1) cap 102) d c (fun i hi=>hwb.2 i (by omega)) hd (grownCap_ge w _ _ _)
   refine⟨_,_,c',hr,⟨(h.1.drew).alloc _,.inr ⟨w.heap.size,_,rfl,h.1.size,grownCap_ge w _ _ _,Nat.lt_of_lt_of_le (by omega) (grownCap_ge w (n+1) cap 102),?_,h1⟩⟩,h2,h3,((Keep.refl _ w).drew).alloc _⟩
   have:=grownCap_le_maxLen w (n+1) cap 102 (by unfold maxLen;omega)
   unfold maxLen at this;omega
def Endz (A:Act) (W:World):Exit→Act→World→Prop
 | .normal,a,w=>a=A∧w=W
 | _,_,_=>False
theorem wp_endz {P:Program} {id:Nat} {ops:Array Oper} {b:Bool} {Q:Exit→Act→World→Prop} {a:Act} {w:World} (A:Act) (W:World) (h:(Code.region id ops b).wp P (Endz A W) a w) (hq:Q .normal A W):(Code.region id ops b).wp P Q a w:=
 Code.wp_mono (fun e a w h=>by cases e<;>first | (obtain⟨rfl,rfl⟩:=h;exact hq) | exact(h:False).elim) h
def Rvd (c c':Nat→Nat) (n i:Nat):Prop:=∀k,k<n→c' k=if k<i∨n-i≤k then c (n-1-k) else c k
theorem reverse_any (w:World) (b cap n:Nat) (c:Nat→Nat) (hr:Row w b cap c) (hn:n≤cap) (hn0:0<n) (hn2:n<1000) :
  Calls Tryz.prog 90 #[.slice (some ⟨b,0,none⟩) n cap] w fun e w'=>∃c',e = .returned (.tuple #[])∧Row w' b cap c'∧Keep (·=b) w w'∧(∀k,k<n→c' k=c (n-1-k)):=by
 have q0:IntKind.i64.wrap ((n:Int)-1)=(n:Int)-1:=IntWalk.i64_in _ (by omega)
 go_enter Tryz.func90,Tryz.ntmps90
 go_wp2_with fail
 go_loopw [2,3] (fun s2 s3 wr=>∃(i:Nat) (v:Int) (c':Nat→Nat),Hid (v=(n:Int)-1-i)∧s2 = .int .i64 (i:Int)∧s3 = .int .i64 v∧2*i≤n+1∧Row wr b cap c'∧Keep (·=b) w wr∧Hid (Rvd c c' n i)) (fun s2 _ _=>n-(intOf s2).toNat)
 case atStart=>
  refine⟨0,(n:Int)-1,c,by show _=_;omega,rfl,rfl,by omega,hr,Keep.refl _ _,fun k hk=>?_⟩
  rw [if_neg (by omega)]
 case round=>
  obtain⟨i,v,c',HV,rfl,rfl,hi,hrr,hk,HR⟩:=hrel
  have hv:=HV.out
  by_cases hlt:(i:Int)<v
  ·obtain⟨j,rfl⟩:∃j:Nat,v=j:=⟨v.toNat,by omega⟩
   have hij:i<j:=by omega
   have fi:=hrr.cell (i:=i) (by omega)
   have fj:=hrr.cell (i:=j) (by omega)
   have di:=hrr.lt i (by omega)
   have dj:=hrr.lt j (by omega)
   obtain⟨x,hx⟩:∃x,c' i=x:=⟨_,rfl⟩
   obtain⟨y,hy⟩:∃y,c' j=y:=⟨_,rfl⟩
   rw [hx] at fi di
   rw [hy] at fj dj
   have HX:Hid _:=hx
   have HY:Hid _:=hy
   clear hx hy
   have fid:wr.drew.cell? ⟨b,i,none⟩=some (.int .u64 (x:Int)):=fi
   have fjd:wr.drew.cell? ⟨b,j,none⟩=some (.int .u64 (y:Int)):=fj
   have ff:=hrr.frozen i
   have hr1:=hrr.set i y dj
   have fj1:=hr1.cell (i:=j) (by omega)
   have ff1:=hr1.frozen j
   have hr2:=hr1.set j x di
   have qi:IntKind.i64.wrap ((i:Int)+1)=(i:Int)+1:=IntWalk.i64_in _ (by omega)
   have qj:IntKind.i64.wrap ((j:Int)-1)=(j:Int)-1:=IntWalk.i64_in _ (by omega)
   have qin:(i:Int)<(n:Int):=by omega
   have qjn:(j:Int)<(n:Int):=by omega
   have HV2:Hid _:=hv
   clear hv
   go_wp2_with fail
   apply wp_endz
   case h=>
    go_region_with fail
    all_goals exact⟨rfl,rfl⟩
   (try simp only [Exit.inBlock,Exit.then])
   have hr3:=hr2.drew
   have hk3:Keep (·=b) w _:=((hk.setCell (p:=⟨b,i,none⟩) rfl (.int .u64 (y:Nat))).setCell (p:=⟨b,j,none⟩) rfl (.int .u64 (x:Nat))).drew
   generalize ((wr.setCell { block:=b,off:=i } (Value.int IntKind.u64 ↑y)).setCell { block:=b,off:=j } (Value.int IntKind.u64 ↑x)).drew=w3 at *
   go_wp2_with fail
   go_roundw
   case rel=>
    refine⟨i+1,(j:Int)-1,_,by show _=_;rw [HV2.out];omega,by go_num,rfl,by have:=HV2.out;omega,hr3,hk3,?_⟩
    intro k hk
    have e:=HV2.out
    have h1:=HR.out i (by omega)
    have h2:=HR.out j (by omega)
    rw [if_neg (by omega),HX.out] at h1
    rw [if_neg (by omega),HY.out] at h2
    by_cases k1:k=j
    ·subst k1
     rw [upd_same,if_pos (by omega),h1];congr 1;omega
    ·rw [upd_ne _ _ k1]
     by_cases k2:k=i
     ·subst k2
      rw [upd_same,if_pos (by omega),h2];congr 1;omega
     ·rw [upd_ne _ _ k2,HR.out k hk]
      by_cases k3:k<i∨n-i≤k
      ·rw [if_pos k3,if_pos (by omega)]
      ·rw [if_neg k3,if_neg (by omega)]
   case measure=>simp [intOf];have:=HV2.out;omega
  ·go_wp2_with fail
   go_end0
   refine⟨rfl,c',hrr,hk,fun k hk=>?_⟩
   rw [HR.out k hk]
   split
   ·rfl
   ·congr 1;omega
theorem round4:∀n:Fin 64,bits .andNot .i64 ((n.val:Int)+3) 3=(((n.val+3) / 4*4:Nat):Int):=by decide
def Lent (w w':World) (B:Nat→Prop) (L b o:Nat):Prop:=
 ∀bv Nv cv,Row w bv Nv cv→∃c1,Row w' bv Nv c1∧(∀i,i<L→c1 i=cv i)∧(bv=b→L≤o∧B b)
theorem inner_nat (w:World) (q L n:Nat) (B:Nat→Prop) (h:StkI w q L B) (hn0:0<n) (hn:n<64) (hL:L<100000) :
  Calls Tryz.prog 159 #[.pointer (some ⟨q,0,none⟩),.int .i64 (n:Int)] w fun e w'=>
   ∃b o N c L' B',e = .returned (.slice (some ⟨b,o,none⟩) n n)∧Row w' b N c∧o+n≤N∧StkI w' q L' B'∧L≤L'∧o+n≤L'∧L'≤L+64∧Keep B w w' ∧
    (∀k,B' k→B k∨w.heap.size≤k)∧(B' b∧b≠q)∧Lent w w' B L b o:=by
 obtain⟨a,K,c,h1,h2,h3⟩:=h
 have hc:=h1.cell
 have hLK:=h2.le
 have hr4:=round4 ⟨n,hn⟩
 obtain⟨nr,hnr⟩:∃nr,nr=(n+3) / 4*4:=⟨_,rfl⟩
 have hn1:n≤nr:=by omega
 have hn2:nr<70:=by omega
 simp only [← hnr] at hr4
 have hL':L+nr≤L+64:=by omega
 clear hnr
 have q1:IntKind.i64.wrap ((L:Int)+(nr:Int))=(L:Int)+(nr:Int):=IntWalk.i64_in _ (by omega)
 have q2:IntKind.i64.wrap ((L:Int)+(n:Int))=(L:Int)+(n:Int):=IntWalk.i64_in _ (by omega)
 have q3:((L:Int)+(nr:Int)).toNat=L+nr:=by omega
 have q4:((L:Int)+(n:Int)).toNat=L+n:=by omega
 have q5:L+n-L=n:=by omega
 have q6:(0:Int)≤(L:Int)+(nr:Int):=by omega
 have q7:(0:Int)≤(L:Int)+(n:Int):=by omega
 have q8:(L:Int)≤(L:Int)+(n:Int):=by omega
 have q9:L≤L+n:=by omega
 by_cases hroom:L+nr≤K
 ·rcases h2 with⟨_,_,h⟩ | ⟨b,rfl,hl,hK0,hK,hr⟩
  ·omega
  have hbq:b≠q:=by
   rintro rfl
   obtain⟨x,hx⟩:=h1.row hr
   simp at hx
  have q10:(L:Int)+(nr:Int)≤(K:Int):=by omega
  have q11:(L:Int)+(n:Int)≤(K:Int):=by omega
  have q12:¬K=L:=by omega
  go_enter Tryz.func159,Tryz.ntmps159
  go_wp2_with fail
  refine(growW_room _ _ L K nr hl (by omega) (by omega) hroom).mono ?_
  rintro e w1 ⟨rfl,rfl⟩
  have hf:=h1.frozen
  have fz:=hr.cell (i:=L) (by omega)
  have ff:=hr.frozen L
  go_wp2_with fail
  go_ret
  have H1:=(h1.set (.slice (some ⟨b,0,none⟩) L K)).set (.slice (some ⟨b,0,none⟩) (L+nr) K)
  have HR:=(hr.setOther (p:=⟨q,0,none⟩) (fun e=>hbq e.symm) (.slice (some ⟨b,0,none⟩) L K)).setOther (p:=⟨q,0,none⟩) (fun e=>hbq e.symm) (.slice (some ⟨b,0,none⟩) (L+nr) K)
  have HK:Keep (fun k=>k=b∨k=q) w1 _:=(((Keep.refl (fun k=>k=b∨k=q) w1).setCell (p:=⟨q,0,none⟩) (.inr rfl) (.slice (some ⟨b,0,none⟩) L K)).setCell (p:=⟨q,0,none⟩) (.inr rfl) (.slice (some ⟨b,0,none⟩) (L+nr) K)).setCell (p:=⟨b,L,none⟩) (.inl rfl) (.int .u64 1043915)
  have HR2:=HR.set L 1043915 (by decide)
  refine⟨b,L,K,_,L+nr,B,rfl,HR2,by omega,⟨_,_,_,H1.other (p:=⟨b,L,none⟩) hbq _,.inr ⟨b,rfl,by omega,hK0,hK,HR2⟩,h3⟩,by omega,by omega,by omega,HK.mono (fun k _ e=>(h3 k).2 (by rcases e with rfl | rfl<;>simp)),fun k hk=>.inl hk,⟨(h3 b).2 (.inr rfl),hbq⟩,?_⟩
  intro bv Nv cv hv
  by_cases e:bv=b
  ·subst e
   obtain⟨rfl,hs⟩:=hr.same hv
   exact⟨_,HR2,fun i hi=>by rw [upd_ne _ _ (by omega)];exact hs i (by omega),fun _=>⟨Nat.le_refl _,(h3 bv).2 (.inr rfl)⟩⟩
  ·refine⟨cv,hv.keep HK ?_,fun _ _=>rfl,fun h=>absurd h e⟩
   rintro (h | rfl)
   ·exact e h
   ·obtain⟨x,hx⟩:=h1.row hv
    simp at hx
 ·go_enter Tryz.func159,Tryz.ntmps159
  go_wp2_with fail
  refine(growW_more _ _ L K nr c h2 (by omega) (by omega) (by omega)).mono ?_
  rintro e w1 ⟨G,c',rfl,hG,hG63,hr,hin,hk⟩
  have hh1:=h1
  have h1w:=h1.inHeap
  have h1:=h1.keep hk id
  have hc1:=h1.cell
  have hf:=h1.frozen
  generalize hb:w.heap.size=b at *
  have HB:Hid (w.heap.size=b):=hb
  have hbq:b≠q:=by rw [← hb];omega
  have fz:=hr.cell (i:=L) (by omega)
  have ff:=hr.frozen L
  have q10:(L:Int)+(nr:Int)≤(G:Int):=by omega
  have q11:(L:Int)+(n:Int)≤(G:Int):=by omega
  have q12:¬G=L:=by omega
  clear hb h2 hc
  go_wp2_with fail
  go_ret
  have H1:=(h1.set (.slice (some ⟨b,0,none⟩) L G)).set (.slice (some ⟨b,0,none⟩) (L+nr) G)
  have HR:=(hr.setOther (p:=⟨q,0,none⟩) (fun e=>hbq e.symm) (.slice (some ⟨b,0,none⟩) L G)).setOther (p:=⟨q,0,none⟩) (fun e=>hbq e.symm) (.slice (some ⟨b,0,none⟩) (L+nr) G)
  have HK:Keep (fun k=>k=b∨k=q) w1 _:=(((Keep.refl (fun k=>k=b∨k=q) w1).setCell (p:=⟨q,0,none⟩) (.inr rfl) (.slice (some ⟨b,0,none⟩) L G)).setCell (p:=⟨q,0,none⟩) (.inr rfl) (.slice (some ⟨b,0,none⟩) (L+nr) G)).setCell (p:=⟨b,L,none⟩) (.inl rfl) (.int .u64 1043915)
  have HR2:=HR.set L 1043915 (by decide)
  have HK2:Keep (fun k=>k=b∨k=q) w _:=(hk.mono fun _ _ h=>h.elim).trans HK
  refine⟨b,L,G,_,L+nr,fun k=>k=q∨some (⟨b,0,none⟩:Addr)=some ⟨k,0,none⟩,rfl,HR2,by omega,⟨_,_,_,H1.other (p:=⟨b,L,none⟩) hbq _,.inr ⟨b,rfl,by omega,by omega,hG63,HR2⟩,fun _=>Iff.rfl⟩,by omega,by omega,by omega,HK2.mono (fun k hlt e=>(h3 k).2 (by rcases e with rfl | rfl;exact absurd hlt (by rw [HB.out];omega);exact .inl rfl)),?_,⟨.inr rfl,hbq⟩,?_⟩
  ·rintro k (rfl | h)
   ·exact .inl ((h3 k).2 (.inl rfl))
   ·simp only [Option.some.injEq,Addr.mk.injEq,and_true] at h
    exact .inr (Nat.le_of_eq (HB.out.trans h))
  ·intro bv Nv cv hv
   have hlt:=hv.inHeap
   rw [HB.out] at hlt
   refine⟨cv,hv.keep HK2 ?_,fun _ _=>rfl,fun h=>by omega⟩
   rintro (h | rfl)
   ·omega
   ·obtain⟨x,hx⟩:=hh1.row hv
    simp at hx
theorem StkI.noPtr {w:World} {q L p:Nat} {B:Nat→Prop} {v:Value} (h:StkI w q L B) (hp:One w p v) (hv:∀x:Int,v≠.int .u64 x) (hpq:p≠q):¬B p:=by
 intro hb
 obtain⟨a,K,c,g1,g2,g3⟩:=h
 rcases(g3 p).1 hb with e | e
 ·exact hpq e
 ·rcases g2 with⟨h4,_⟩ | ⟨b',h4,_,_,_,h5⟩
  ·rw [h4] at e;simp at e
  ·rw [h4] at e
   simp only [Option.some.injEq,Addr.mk.injEq,and_true] at e
   subst e
   obtain⟨x,hx⟩:=hp.row h5
   exact hv _ hx
theorem nat_any (w:World) (p L n:Nat) (B:Nat→Prop) (h:Stk w p L B) (hn0:0<n) (hn:n<64) (hL:L<100000) :
  Calls Tryz.prog 131 #[.pointer (some ⟨p,0,none⟩),.int .i64 (n:Int)] w fun e w'=>
   ∃b o N c k L' B',e = .returned (.slice (some ⟨b,o,none⟩) n k)∧n≤k∧Row w' b N c∧o+n≤N∧Stk w' p L' B'∧L≤L'∧L'≤L+64∧(B' b→o+n≤L')∧Keep B w w' ∧
    (∀k,B' k→B k∨w.heap.size≤k)∧Lent w w' B L b o∧(B b∨w.heap.size≤b):=by
 rcases h with⟨h1,rfl,h3⟩ | ⟨q,B',h1,h2,h3,h4⟩
 ·have hc:=h1.cell
  have hf:=h1.frozen
  have hp:=h1.inHeap
  by_cases h4:n≤4
  ·go_enter Tryz.func131,Tryz.ntmps131
   go_wp2_with fail
   refine(growN_more _ none 0 0 n (fun _=>0) (.inl ⟨rfl,rfl,rfl⟩) (by omega) (by omega) (by omega)).mono ?_
   rintro e w1 ⟨G,c',rfl,hG,hG63,hr,_,hk⟩
   generalize hb:w.heap.size=b at *
   have HB:Hid (w.heap.size=b):=hb
   have fz:=hr.cell (i:=0) (by omega)
   have ff:=hr.frozen 0
   have hG':n≤G:=by omega
   clear hb hG
   go_wp2_with fail
   go_ret
   have HK:=(hk.mono (S':=(·=b)) fun _ _ h=>h.elim).setCell (p:=⟨b,0,none⟩) rfl (.int .u64 11259375)
   have HK2:Keep B w _:=HK.mono (S':=B) fun k hlt e=>absurd e (by rw [HB.out] at hlt;omega)
   have hbp:∀k,B k→¬k=b:=fun k hk e=>by have:=(h3 k).1 hk;omega
   refine⟨b,0,G,_,G,0,B,rfl,hG',hr.set 0 11259375 (by decide),by omega,.inl ⟨h1.keep HK (hbp p ((h3 p).2 rfl)),rfl,h3⟩,by omega,by omega,fun hb=>absurd rfl (hbp b hb),HK2,fun k hk=>.inl hk,?_,.inr (Nat.le_of_eq HB.out)⟩
   intro bv Nv cv hv
   have hlt:=hv.inHeap
   rw [HB.out] at hlt
   exact⟨cv,hv.keep HK (Nat.ne_of_lt hlt),fun _ _=>rfl,fun h=>by omega⟩
  ·go_enter Tryz.func131,Tryz.ntmps131
   go_wp2_with fail
   obtain⟨u,hu⟩:∃u,u=w.setCell ⟨p,0,none⟩ (.pointer (some ⟨w.heap.size,0,none⟩)):=⟨_,rfl⟩
   rw [← hu]
   have hus:u.heap.size=w.heap.size:=by rw [hu];simp [World.setCell]
   have hup:One u p (.pointer (some ⟨w.heap.size,0,none⟩)):=by rw [hu];exact h1.set _
   have huk:Keep (·=p) w u:=by rw [hu];exact(Keep.refl (·=p) w).setCell (p:=⟨p,0,none⟩) rfl _
   have hv0:=One.new u (.slice none 0 0) 204
   have hvk:Keep Nope u (u.alloc (Obj.cells #[.slice none 0 0] 204)):=(Keep.refl _ u).alloc _
   generalize u.alloc (Obj.cells #[.slice none 0 0] 204)=v at *
   rw [hus] at hv0
   generalize hq:w.heap.size=q at *
   have HQ:Hid (w.heap.size=q):=hq
   clear hq hu
   have hpq:p≠q:=by omega
   have hvp:=hup.keep hvk id
   have hwv:Keep (·=p) w v:=huk.trans (hvk.mono fun _ _ h=>h.elim)
   refine(inner_nat v q 0 n (·=q) ⟨none,0,fun _=>0,hv0,.inl ⟨rfl,rfl,rfl⟩,fun k=>by simp⟩ hn0 hn (by omega)).mono ?_
   rintro e w1 ⟨b,o,N,c,L',B2,rfl,hr,hoN,hs,hL1,hL2,hL3,hk,hB,hb,hlent⟩
   have hsz:q≤v.heap.size:=by have:=hwv.size;rw [HQ.out] at this;exact this
   go_wp2_with fail
   go_ret
   have HK:Keep B w w1:=by
    refine⟨hk.os.trans hwv.os,hk.tape.trans hwv.tape,hk.output.trans hwv.output,Nat.le_trans hwv.size hk.size,fun k hlt hs=>?_⟩
    have h5:k≠q:=by rw [HQ.out] at hlt;omega
    have h6:¬k=p:=fun e=>hs ((h3 k).2 e)
    exact(hk.block k (Nat.lt_of_lt_of_le hlt hwv.size) h5).trans (hwv.block k hlt h6)
   refine⟨b,o,N,c,n,L',fun k=>k=p∨B2 k,rfl,Nat.le_refl _,hr,hoN,.inr ⟨q,B2,hvp.keep hk hpq,hs,hpq,fun _=>Iff.rfl⟩,by omega,hL3,fun _=>hL2,HK,?_,?_,?_⟩
   ·rintro k (rfl | h)
    ·exact .inl ((h3 k).2 rfl)
    ·rcases hB k h with h | h
     ·exact .inr (by rw [HQ.out];omega)
     ·exact .inr (by rw [HQ.out];omega)
   ·intro bv Nv cv hv
    have hlt:=hv.inHeap
    have hnp:¬bv=p:=by
     rintro rfl
     obtain⟨x,hx⟩:=h1.row hv
     simp at hx
    obtain⟨c1,g1,g2,g3⟩:=hlent bv Nv cv (hv.keep hwv hnp)
    have hnb:bv≠b:=fun e=>by
     have:=(g3 e).2
     rw [HQ.out] at hlt
     omega
    exact⟨cv,hv.keep HK (fun hb=>hnp ((h3 bv).1 hb)),fun _ _=>rfl,fun e=>absurd e hnb⟩
   ·rcases hB b hb.1 with h | h
    ·exact .inr (by rw [HQ.out];omega)
    ·exact .inr (by rw [HQ.out];omega)
 ·have hc:=h1.cell
  go_enter Tryz.func131,Tryz.ntmps131
  go_wp2_with fail
  refine(inner_nat _ q L n B' h2 hn0 hn hL).mono ?_
  rintro e w1 ⟨b,o,N,c,L',B2,rfl,hr,hoN,hs,hL1,hL2,hL3,hk,hB,hb,hlent⟩
  have hpB:=h2.noPtr h1 (by simp) h3
  go_wp2_with fail
  go_ret
  refine⟨b,o,N,c,n,L',fun k=>k=p∨B2 k,rfl,Nat.le_refl _,hr,hoN,.inr ⟨q,B2,h1.keep hk hpB,hs,h3,fun _=>Iff.rfl⟩,hL1,hL3,fun _=>hL2,hk.mono fun k _ hb=>(h4 k).2 (.inr hb),?_,?_,?_⟩
  ·rintro k (rfl | h)
   ·exact .inl ((h4 k).2 (.inl rfl))
   ·rcases hB k h with h | h
    ·exact .inl ((h4 k).2 (.inr h))
    ·exact .inr h
  ·intro bv Nv cv hv
   obtain⟨c1,g1,g2,g3⟩:=hlent bv Nv cv hv
   exact⟨c1,g1,g2,fun e=>⟨(g3 e).1,(h4 b).2 (.inr (g3 e).2)⟩⟩
  ·rcases hB b hb.1 with h | h
   ·exact .inl ((h4 b).2 (.inr h))
   ·exact .inr h
def Two (w:World) (b:Nat) (u v:Value):Prop:=∃T,w.heap[b]?=some (.cells #[u,v] T (0,0))
theorem Two.cell0 {w:World} {b:Nat} {u v:Value} (h:Two w b u v):w.cell? ⟨b,0,none⟩=some u:=by
 obtain⟨T,hT⟩:=h
 simp [World.cell?,hT]
theorem Two.cell1 {w:World} {b:Nat} {u v:Value} (h:Two w b u v):w.cell? ⟨b,1,none⟩=some v:=by
 obtain⟨T,hT⟩:=h
 simp [World.cell?,hT]
theorem Two.frozen {w:World} {b:Nat} {u v:Value} (h:Two w b u v) (i:Nat):w.frozen? ⟨b,i,none⟩=false:=by
 obtain⟨T,hT⟩:=h
 simp [World.frozen?,hT]
theorem Two.inHeap {w:World} {b:Nat} {u v:Value} (h:Two w b u v):b<w.heap.size:=by
 obtain⟨T,hT⟩:=h
 exact Array.getElem?_eq_some_iff.1 hT |>.1
theorem Two.keep {S:Nat→Prop} {w w':World} {b:Nat} {u v:Value} (h:Two w b u v) (k:Keep S w w') (hs:¬S b):Two w' b u v:=by
 unfold Two
 rw [k.block b h.inHeap hs];exact h
theorem Two.set0 {w:World} {b:Nat} {u v:Value} (h:Two w b u v) (x:Value):Two (w.setCell ⟨b,0,none⟩ x) b x v:=by
 obtain⟨T,hT⟩:=h
 refine⟨T,?_⟩
 simp only [World.setCell,Array.getElem?_modify,if_true,hT,Option.map_some,Option.some.injEq,Obj.cells.injEq,and_true,Option.isSome_none,Bool.false_eq_true,if_false]
 rfl
theorem Two.set1 {w:World} {b:Nat} {u v:Value} (h:Two w b u v) (x:Value):Two (w.setCell ⟨b,1,none⟩ x) b u x:=by
 obtain⟨T,hT⟩:=h
 refine⟨T,?_⟩
 simp only [World.setCell,Array.getElem?_modify,if_true,hT,Option.map_some,Option.some.injEq,Obj.cells.injEq,and_true,Option.isSome_none,Bool.false_eq_true,if_false]
 rfl
theorem Two.other {w:World} {b:Nat} {u v:Value} (h:Two w b u v) {p:Addr} (hp:p.block≠b) (x:Value):Two (w.setCell p x) b u v:=by
 obtain⟨T,hT⟩:=h
 exact⟨T,by rw [Below.heap_setCell _ _ _ _ (fun e=>hp e.symm)];exact hT⟩
theorem Two.new (w:World) (u v:Value) (T:TypeId):Two (w.alloc (.cells #[u,v] T (0,0))) w.heap.size u v:=
 ⟨T,by show (w.heap.push _)[w.heap.size]?=_;simp⟩
theorem Two.row {w:World} {b n:Nat} {u v:Value} {c:Nat→Nat} (h:Two w b u v) (k:Row w b n c):∃x:Nat,u = .int .u64 (x:Int):=by
 obtain⟨T,hT⟩:=h
 obtain⟨T',hT'⟩:=k.blk
 rw [hT] at hT'
 simp only [Option.some.injEq,Obj.cells.injEq] at hT'
 have hs:=congrArg Array.size hT'.1
 simp at hs
 subst hs
 have:=congrArg (fun a=>a[0]?) hT'.1
 simp at this
 exact⟨_,this⟩
theorem Two.noRow {w:World} {b n:Nat} {g:Bool} {v:Value} {c:Nat→Nat} (h:Two w b (.bool g) v) (k:Row w b n c):False:=by
 obtain⟨x,hx⟩:=h.row k
 simp at hx
abbrev E:=Bool×Nat
def ofI (v:Int):E:=(decide (v<0),v.natAbs)
theorem ofI_inj {x y:Int} (h:ofI x=ofI y):x=y:=by
 simp only [ofI,Prod.mk.injEq,decide_eq_decide] at h
 omega
structure ICell where
 p:Nat
 v:E
 a:Option Addr
 l:Nat
 k:Nat
def ICell.Owns (c:ICell) (b:Nat):Prop:=b=c.p∨At c.a b
structure ICell.Good (F:Nat→Prop) (w:World) (c:ICell):Prop where
 two:Two w c.p (.bool c.v.1) (.slice c.a c.l c.k)
 nat:IsNat w c.a c.l c.k c.v.2
 out:∀b,c.Owns b→¬F b
structure Base (F:Nat→Prop) (w:World):Prop where
 lt:∀b,F b→b<w.heap.size
 three:F 3
 four:F 4
 five:F 5
 six:F 6
 c3:w.cell? ⟨3,0,none⟩=some (.int .i64 12)
 c4:w.cell? ⟨4,0,none⟩=some (.int .i64 80)
 c5:w.cell? ⟨5,0,none⟩=some (.int .i64 40)
 c6:w.cell? ⟨6,0,none⟩=some (.int .i64 40)
theorem Base.keep {F:Nat→Prop} {w w':World} (h:Base F w) (k:Keep (fun b=>¬F b) w w'):Base F w':=
 ⟨fun b hb=>Nat.lt_of_lt_of_le (h.lt b hb) k.size,h.three,h.four,h.five,h.six,k.cell h.c3 (fun h'=>h' h.three),k.cell h.c4 (fun h'=>h' h.four),k.cell h.c5 (fun h'=>h' h.five),k.cell h.c6 (fun h'=>h' h.six)⟩
theorem Base.drew {F:Nat→Prop} {w:World} (h:Base F w):Base F w.drew:=⟨h.lt,h.three,h.four,h.five,h.six,h.c3,h.c4,h.c5,h.c6⟩
theorem ICell.Good.keep {F S:Nat→Prop} {w w':World} {c:ICell} (h:c.Good F w) (k:Keep S w w') (hs:∀b,c.Owns b→¬S b):c.Good F w':=
 ⟨h.two.keep k (hs _ (.inl rfl)),h.nat.keep k (fun b e=>hs b (.inr e)),h.out⟩
theorem IsNat.has {w:World} {a:Option Addr} {len cap N:Nat} (h:IsNat w a len cap N) (b:Nat) (e:a=some ⟨b,0,none⟩):b<w.heap.size:=by
 rcases h with⟨h1,_⟩ | ⟨b',c,h1,_,_,h4,_⟩
 ·rw [h1] at e;simp at e
 ·rw [h1] at e
  simp only [Option.some.injEq,Addr.mk.injEq,and_true] at e
  exact e▸h4.inHeap
theorem IsNat.row {w:World} {a:Option Addr} {len cap N:Nat} (h:IsNat w a len cap N) (b:Nat) (e:a=some ⟨b,0,none⟩):∃n c,Row w b n c:=by
 rcases h with⟨h1,_⟩ | ⟨b',c,h1,_,_,h4,_⟩
 ·rw [h1] at e;simp at e
 ·rw [h1] at e
  simp only [Option.some.injEq,Addr.mk.injEq,and_true] at e
  exact⟨_,_,e▸h4⟩
theorem ICell.Good.has {F:Nat→Prop} {w:World} {c:ICell} (h:c.Good F w) (b:Nat) (hb:c.Owns b):b<w.heap.size:=by
 rcases hb with rfl | hb
 ·exact h.two.inHeap
 ·exact h.nat.has b hb
theorem ICell.Good.noAt {F:Nat→Prop} {w:World} {c d:ICell} (h:c.Good F w) (h':d.Good F w):¬At d.a c.p:=fun e=>by
 obtain⟨n,x,hr⟩:=h'.nat.row _ e
 exact h.two.noRow hr
def St (F:Nat→Prop) (w:World) (L:List (Nat×E)):Prop:=
 Base F w∧∃C:List ICell,L=C.map (fun c=>(c.p,c.v))∧(∀c∈C,c.Good F w) ∧
  ∀(i j:Nat) (ci cj:ICell),C[i]?=some ci→C[j]?=some cj→i≠j→∀b,ci.Owns b→¬cj.Owns b
theorem St.base {F:Nat→Prop} {w:World} {L:List (Nat×E)} (h:St F w L):Base F w:=h.1
theorem St.get {F:Nat→Prop} {w:World} {L:List (Nat×E)} (h:St F w L) {p:Nat} {v:E} (hm:(p,v)∈L) :
  ∃a l k,(ICell.mk p v a l k).Good F w:=by
 obtain⟨_,C,rfl,hg,_⟩:=h
 obtain⟨c,hc,e⟩:=List.mem_map.1 hm
 simp only [Prod.mk.injEq] at e
 obtain⟨rfl,rfl⟩:=e
 exact⟨c.a,c.l,c.k,hg c hc⟩
theorem St.getI {F:Nat→Prop} {w:World} {L:List (Nat×E)} (h:St F w L) {p:Nat} {v:Int} (hm:(p,ofI v)∈L) :
  ∃a l k,Two w p (.bool (decide (v<0))) (.slice a l k)∧IsNat w a l k v.natAbs∧(∀b,b=p∨At a b→¬F b):=by
 obtain⟨a,l,k,hg⟩:=h.get hm
 exact⟨a,l,k,hg.two,hg.nat,hg.out⟩
theorem St.in {F:Nat→Prop} {w:World} {L:List (Nat×E)} (h:St F w L) {p:Nat} {v:E} (hm:(p,v)∈L):p<w.heap.size:=by
 obtain⟨a,l,k,hg⟩:=h.get hm
 exact hg.two.inHeap
theorem St.same {F:Nat→Prop} {w:World} {L:List (Nat×E)} (h:St F w L) {p:Nat} {u v:E} (hu:(p,u)∈L) (hv:(p,v)∈L):u=v:=by
 obtain⟨_,C,rfl,hg,hd⟩:=h
 obtain⟨c,hc,e⟩:=List.mem_map.1 hu
 obtain⟨d,hd',e'⟩:=List.mem_map.1 hv
 simp only [Prod.mk.injEq] at e e'
 obtain⟨rfl,rfl⟩:=e
 obtain⟨e1,rfl⟩:=e'
 obtain⟨i,hi⟩:=List.mem_iff_getElem?.1 hc
 obtain⟨j,hj⟩:=List.mem_iff_getElem?.1 hd'
 by_cases h:i=j
 ·subst h
  rw [hi] at hj
  rw [Option.some.inj hj]
 ·exact absurd (.inl e1.symm) (hd i j c d hi hj h c.p (.inl rfl))
theorem St.put {F:Nat→Prop} {w:World} {L:List (Nat×E)} (h:St F w L) {i p:Nat} {v:E} (hi:L[i]?=some (p,v)) :
  ∃a l k,(ICell.mk p v a l k).Good F w∧(∀q u,(q,u)∈L→q=p∨∃a' l' k',(ICell.mk q u a' l' k').Good F w∧∀b,(ICell.mk q u a' l' k').Owns b→¬(ICell.mk p v a l k).Owns b) ∧
   ∀w' v' a' l' k',Keep (fun b=>b=p∨At a b) w w'→Two w' p (.bool v'.1) (.slice a' l' k')→IsNat w' a' l' k' v'.2→Own w a a' →
    St F w' (L.set i (p,v'))∧Keep (fun b=>¬F b) w w':=by
 obtain⟨hb,C,rfl,hg,hd⟩:=h
 rw [List.getElem?_map] at hi
 obtain⟨c,hc,e⟩:=Option.map_eq_some_iff.1 hi
 simp only [Prod.mk.injEq] at e
 obtain⟨rfl,rfl⟩:=e
 have hcg:=hg c (List.mem_of_getElem? hc)
 refine⟨c.a,c.l,c.k,hcg,?_,?_⟩
 ·intro q u hq
  obtain⟨d,hd',e⟩:=List.mem_map.1 hq
  simp only [Prod.mk.injEq] at e
  obtain⟨rfl,rfl⟩:=e
  obtain⟨j,hj⟩:=List.mem_iff_getElem?.1 hd'
  by_cases e:j=i
  ·subst e
   rw [hc] at hj
   rw [Option.some.inj hj]
   exact .inl rfl
  ·exact .inr ⟨d.a,d.l,d.k,hg d hd',fun b h1 h2=>hd j i d c hj hc e b h1 h2⟩
 ·intro w' v' a' l' k' hk ht hn ho
  have hk2:Keep (fun b=>¬F b) w w':=hk.mono fun b _ hS hF=>by
   rcases hS with rfl | hS
   ·exact hcg.out _ (.inl rfl) hF
   ·exact hcg.out _ (.inr hS) hF
  refine⟨⟨hb.keep hk2,C.set i ⟨c.p,v',a',l',k'⟩,?_,?_,?_⟩,hk2⟩
  ·rw [List.map_set]
  ·intro d hd'
   rcases List.mem_or_eq_of_mem_set hd' with h | rfl
   ·obtain⟨j,hj⟩:=List.mem_iff_getElem?.1 hd'
    by_cases e:j=i
    ·subst e
     have hlt:j<C.length:=(List.getElem?_eq_some_iff.1 hc).1
     rw [List.getElem?_set_self hlt] at hj
     have:=Option.some.inj hj
     subst this
     refine⟨ht,hn,?_⟩
     rintro b (rfl | hb')
     ·exact hcg.out _ (.inl rfl)
     ·rcases ho with ho | ⟨k,ho,hk'⟩
      ·exact hcg.out _ (.inr (ho▸hb'))
      ·simp only [At,ho,Option.some.injEq,Addr.mk.injEq,and_true] at hb'
       intro hF
       have:=hb.lt _ hF
       omega
    ·rw [List.getElem?_set_ne (fun x=>e x.symm)] at hj
     exact(hg d (List.mem_of_getElem? hj)).keep hk fun b h1 h2=>hd j i d c hj hc e b h1 h2
   ·refine⟨ht,hn,?_⟩
    rintro b (rfl | hb')
    ·exact hcg.out _ (.inl rfl)
    ·rcases ho with ho | ⟨k,ho,hk'⟩
     ·exact hcg.out _ (.inr (ho▸hb'))
     ·simp only [At,ho,Option.some.injEq,Addr.mk.injEq,and_true] at hb'
      intro hF
      have:=hb.lt _ hF
      omega
  ·have key:∀(j:Nat) (dj:ICell),C[j]?=some dj→j≠i→∀b,dj.Owns b→¬(ICell.mk c.p v' a' l' k').Owns b:=by
    rintro j dj hj hji b h1 (h2 | h2)
    ·exact hd j i dj c hj hc hji b h1 (.inl h2)
    ·rcases ho with ho | ⟨k,ho,hk'⟩
     ·exact hd j i dj c hj hc hji b h1 (.inr (ho▸h2))
     ·have:=(hg dj (List.mem_of_getElem? hj)).has b h1
      simp only [At,ho,Option.some.injEq,Addr.mk.injEq,and_true] at h2
      omega
   have hlt:i<C.length:=(List.getElem?_eq_some_iff.1 hc).1
   intro j m dj dm hj hm hne b h1 h2
   by_cases e:j=i
   ·subst e
    rw [List.getElem?_set_self hlt] at hj
    rw [List.getElem?_set_ne hne] at hm
    have:=Option.some.inj hj
    subst this
    exact key m dm hm (fun x=>hne x.symm) b h2 h1
   ·rw [List.getElem?_set_ne (fun x=>e x.symm)] at hj
    by_cases e':m=i
    ·subst e'
     rw [List.getElem?_set_self hlt] at hm
     have:=Option.some.inj hm
     subst this
     exact key j dj hj e b h1 h2
    ·rw [List.getElem?_set_ne (fun x=>e' x.symm)] at hm
     exact hd j m dj dm hj hm hne b h1 h2
theorem St.new {F:Nat→Prop} {w w':World} {L:List (Nat×E)} (h:St F w L) {p:Nat} {v:E} {a:Option Addr} {l k:Nat} (hk:Keep Nope w w') (hp:w.heap.size≤p) (ha:∀b,At a b→w.heap.size≤b)
  (ht:Two w' p (.bool v.1) (.slice a l k)) (hn:IsNat w' a l k v.2):St F w' ((p,v)::L):=by
 obtain⟨hb,C,rfl,hg,hd⟩:=h
 have ho:∀b,(ICell.mk p v a l k).Owns b→w.heap.size≤b:=by
  rintro b (rfl | h)
  ·exact hp
  ·exact ha b h
 refine⟨hb.keep (hk.mono fun _ _ h=>h.elim),⟨p,v,a,l,k⟩::C,rfl,?_,?_⟩
 ·intro c hc
  rcases List.mem_cons.1 hc with rfl | hc
  ·exact⟨ht,hn,fun b h1 hF=>by have:=hb.lt b hF;have:=ho b h1;omega⟩
  ·exact(hg c hc).keep hk (fun _ _=>id)
 ·intro i j ci cj hi hj hne b h1 h2
  rcases i with _ | i<;>rcases j with _ | j
  ·exact hne rfl
  ·simp only [Ls4,Option.some.injEq,Ls3] at hi hj
   subst hi
   have:=(hg cj (List.mem_of_getElem? hj)).has b h2
   have:=ho b h1
   omega
  ·simp only [Ls4,Option.some.injEq,Ls3] at hi hj
   subst hj
   have:=(hg ci (List.mem_of_getElem? hi)).has b h1
   have:=ho b h2
   omega
  ·simp only [Ls3] at hi hj
   exact hd i j ci cj hi hj (by omega) b h1 h2
theorem St.tail {F:Nat→Prop} {w:World} {L:List (Nat×E)} {x:Nat×E} (h:St F w (x::L)):St F w L:=by
 obtain⟨hb,C,e,hg,hd⟩:=h
 rcases C with _ | ⟨c,C⟩
 ·simp at e
 ·simp only [List.map_cons,List.cons.injEq] at e
  refine⟨hb,C,e.2,fun d hd'=>hg d (List.mem_cons_of_mem _ hd'),fun i j ci cj hi hj hne=>hd (i+1) (j+1) ci cj (by simpa using hi) (by simpa using hj) (by omega)⟩
theorem St.drop {F:Nat→Prop} {w:World} {L:List (Nat×E)} (h:St F w L) (n:Nat):St F w (L.drop n):=by
 induction n generalizing L with
 | zero=>exact h
 | succ n ih=>
  cases L with
  | nil=>exact h
  | cons x L=>exact ih h.tail
theorem St.sub {F:Nat→Prop} {w:World} {L:List (Nat×E)} (h:St F w L) (ix:List Nat) (hn:ix.Nodup) (L':List (Nat×E)) (e:L'.map some=ix.map fun i=>L[i]?):St F w L':=by
 obtain⟨hb,C,rfl,hg,hd⟩:=h
 refine⟨hb,ix.filterMap (fun i=>C[i]?),?_,?_,?_⟩
 ·have e2:∀(ix:List Nat) (L':List (Nat×E)),L'.map some=(ix.map fun i=>(C.map (fun c=>(c.p,c.v)))[i]?)→L'=(ix.filterMap (fun i=>C[i]?)).map (fun c=>(c.p,c.v)):=by
   intro ix
   induction ix with
   | nil=>intro L' h;cases L'<;>simp_all
   | cons i ix ih=>
    intro L' h
    cases L' with
    | nil=>simp at h
    | cons x L'=>
     simp only [List.map_cons,List.cons.injEq,List.getElem?_map] at h
     obtain⟨c,hc,e⟩:=Option.map_eq_some_iff.1 h.1.symm
     simp only [List.filterMap_cons,hc,List.map_cons,e,List.cons.injEq,true_and]
     exact ih L' (by simpa only [List.getElem?_map] using h.2)
  exact e2 ix L' e
 ·intro c hc
  obtain⟨i,_,hi⟩:=List.mem_filterMap.1 hc
  exact hg c (List.mem_of_getElem? hi)
 ·have hall:∀i∈ix,∃c,C[i]?=some c:=by
   intro i hi
   obtain⟨j,hj⟩:=List.mem_iff_getElem?.1 hi
   have:=congrArg (fun l=>l[j]?) e
   simp only [List.getElem?_map,hj,Option.map_some] at this
   rcases hc:C[i]? with _ | c
   ·rw [hc] at this
    cases h:L'[j]?<;>simp [h] at this
   ·exact⟨c,rfl⟩
  have main:∀(ix:List Nat),ix.Nodup→(∀i∈ix,∃c,C[i]?=some c)→∀(i j:Nat) (ci cj:ICell),(ix.filterMap (fun i=>C[i]?))[i]?=some ci→(ix.filterMap (fun i=>C[i]?))[j]?=some cj→i≠j→∀b,ci.Owns b→¬cj.Owns b:=by
   intro ix hn hall
   have hfm:∀(ix:List Nat),(∀i∈ix,∃c,C[i]?=some c)→∀(i:Nat) (ci:ICell),(ix.filterMap (fun i=>C[i]?))[i]?=some ci→∃m,ix[i]?=some m∧C[m]?=some ci:=by
    intro ix
    induction ix with
    | nil=>intro _ i ci h;simp at h
    | cons m ix ih=>
     intro hall i ci h
     obtain⟨c,hc⟩:=hall m (by simp)
     simp only [List.filterMap_cons,hc] at h
     cases i with
     | zero=>simp at h;exact⟨m,by simp,by rw [hc,h]⟩
     | succ i=>
      simp only [Ls3] at h ⊢
      exact ih (fun i hi=>hall i (by simp [hi])) i ci h
   intro i j ci cj hi hj hne
   obtain⟨m,hm,hcm⟩:=hfm ix hall i ci hi
   obtain⟨n,hn',hcn⟩:=hfm ix hall j cj hj
   refine hd m n ci cj hcm hcn ?_
   intro e
   subst e
   obtain⟨h1,h1'⟩:=List.getElem?_eq_some_iff.1 hm
   obtain⟨h2,h2'⟩:=List.getElem?_eq_some_iff.1 hn'
   exact hne ((List.getElem_inj hn).1 (h1'.trans h2'.symm))
  exact main ix hn hall
theorem St.keep {F:Nat→Prop} {w w':World} {L:List (Nat×E)} (h:St F w L) (k:Keep Nope w w'):St F w' L:=by
 obtain⟨hb,C,e,hg,hd⟩:=h
 exact⟨hb.keep (k.mono fun _ _ h=>h.elim),C,e,fun c hc=>(hg c hc).keep k (fun _ _=>id),hd⟩
theorem St.keepF {F:Nat→Prop} {w w':World} {L:List (Nat×E)} (h:St F w L) (hb:Base F w') (k:Keep F w w'):St F w' L:=by
 obtain⟨_,C,e,hg,hd⟩:=h
 exact⟨hb,C,e,fun c hc=>(hg c hc).keep k (fun b h1 h2=>(hg c hc).out b h1 h2),hd⟩
theorem St.drew {F:Nat→Prop} {w:World} {L:List (Nat×E)} (h:St F w L):St F w.drew L:=h.keep ((Keep.refl _ w).drew)
theorem isNat_len {w:World} {a:Option Addr} {len cap N m:Nat} (h:IsNat w a len cap N) (hN:N<2^(64*m)):len≤m:=by
 rcases h with⟨_,h,_⟩ | ⟨b,c,h1,h2,h3,h4,h5,h6⟩
 ·omega
 ·rcases h6 with h | h
  ·omega
  ·rcases Nat.lt_or_ge m len with hlt | hle
   ·exfalso
    obtain⟨t,rfl⟩:∃t,len=t+1:=⟨len-1,by omega⟩
    simp only [Nat.add_sub_cancel] at h
    have e:val c 0 (t+1)=val c 0 t+c (0+t)*W64^t:=rfl
    rw [Nat.zero_add] at e
    have h7:W64^t≤c t*W64^t:=Nat.le_mul_of_pos_left _ (by omega)
    have h8:(2:Nat)^(64*m)≤W64^t:=by
     rw [W64_eq,← Nat.pow_mul]
     exact Nat.pow_le_pow_right (by decide) (by omega)
    omega
   ·exact hle
class Sz (n:outParam Nat) (v:Int):Prop where
 lt:v.natAbs<2^n
theorem Sz.mono {m n:Nat} {v:Int} (h:Sz m v) (hmn:m≤n):Sz n v:=⟨Nat.lt_of_lt_of_le h.lt (Nat.pow_le_pow_right (by decide) hmn)⟩
theorem Sz.mul {m n:Nat} {u v:Int} (h:Sz m u) (k:Sz n v):Sz (m+n) (u*v):=⟨by
 rw [Int.natAbs_mul,Nat.pow_add]
 exact Nat.mul_lt_mul_of_lt_of_lt h.lt k.lt⟩
theorem Sz.add {m n:Nat} {u v:Int} (h:Sz m u) (k:Sz n v):Sz (max m n+1) (u+v):=⟨by
 have h1:=(h.mono (Nat.le_max_left m n)).lt
 have h2:=(k.mono (Nat.le_max_right m n)).lt
 rw [Nat.pow_succ]
 omega⟩
theorem Sz.sub {m n:Nat} {u v:Int} (h:Sz m u) (k:Sz n v):Sz (max m n+1) (u-v):=⟨by
 have h1:=(h.mono (Nat.le_max_left m n)).lt
 have h2:=(k.mono (Nat.le_max_right m n)).lt
 rw [Nat.pow_succ]
 omega⟩
theorem Sz.shl {m s:Nat} {u:Int} (h:Sz m u):Sz (m+s) (u*2^s):=⟨by
 rw [Int.natAbs_mul,Nat.pow_add,Int.natAbs_pow]
 exact Nat.mul_lt_mul_of_pos_right h.lt (Nat.two_pow_pos s)⟩
theorem Sz.mod {n:Nat} {u v:Int} (h:Sz n v) (hv:0<v):Sz n (u%v):=⟨by
 have h1:=Int.emod_nonneg u (show v≠0 by omega)
 have h2:=Int.emod_lt_of_pos u hv
 have:=h.lt
 omega⟩
theorem Sz.len {w:World} {a:Option Addr} {len cap n m:Nat} {v:Int} (h:Sz n v) (k:IsNat w a len cap v.natAbs) (hm:n≤64*m):len≤m:=isNat_len k (h.mono hm).lt
theorem Sz.eq {n:Nat} {u v:Int} (h:Sz n u) (e:u=v):Sz n v:=e▸h
theorem St.opE {F:Nat→Prop} {w:World} {L:List (Nat×E)} (h:St F w L) {i p:Nat} {v:E} (hi:L[i]?=some (p,v)) :
  ∃a l k,w.cell? ⟨p,0,none⟩=some (.bool v.1)∧w.cell? ⟨p,1,none⟩=some (.slice a l k)∧IsNat w a l k v.2 ∧
   ∀w1 a1 l1 k1 N,Keep (At a) w w1→IsNat w1 a1 l1 k1 N→Own w a a1 →
    w1.frozen? ⟨p,1,none⟩=false∧w1.frozen? ⟨p,0,none⟩=false∧w1.cell? ⟨p,1,none⟩=some (.slice a l k) ∧
    (∀q u,(q,u)∈L→w1.cell? ⟨q,0,none⟩=some (.bool u.1)∧w1.cell? ⟨q,1,none⟩=w.cell? ⟨q,1,none⟩) ∧
    ∀(b:Bool),
     St F ((w1.setCell ⟨p,1,none⟩ (.slice a1 l1 k1)).setCell ⟨p,0,none⟩ (.bool b)) (L.set i (p,(b,N)))∧Keep (fun b=>¬F b) w ((w1.setCell ⟨p,1,none⟩ (.slice a1 l1 k1)).setCell ⟨p,0,none⟩ (.bool b)):=by
 obtain⟨a,l,k,hg,hall,hput⟩:=h.put hi
 refine⟨a,l,k,hg.two.cell0,hg.two.cell1,hg.nat,?_⟩
 intro w1 a1 l1 k1 N hk hn ho
 have hna:¬At a p:=hg.noAt hg
 have t1:=hg.two.keep hk hna
 have t2:=t1.set1 (.slice a1 l1 k1)
 refine⟨t1.frozen 1,t1.frozen 0,t1.cell1,?_,?_⟩
 ·intro q u hq
  rcases hall q u hq with rfl | ⟨a',l',k',hg',hap⟩
  ·have:=h.same (List.mem_of_getElem? hi) hq
   subst this
   exact⟨t1.cell0,by rw [t1.cell1,hg.two.cell1]⟩
  ·have d1:=hg'.two.keep hk (fun e=>hap q (.inl rfl) (.inr e))
   exact⟨d1.cell0,by rw [d1.cell1,hg'.two.cell1]⟩
 ·intro b
  have hap:¬At a1 p:=fun e=>by
   obtain⟨n,c,hr⟩:=hn.row p e
   exact t1.noRow hr
  have hk2:Keep (fun b=>b=p∨At a b) w ((w1.setCell ⟨p,1,none⟩ (.slice a1 l1 k1)).setCell ⟨p,0,none⟩ (.bool b)):=
   ((hk.mono fun _ _ h=>.inr h).setCell (p:=⟨p,1,none⟩) (.inl rfl) _).setCell (p:=⟨p,0,none⟩) (.inl rfl) _
  have hk3:Keep (·=p) w1 ((w1.setCell ⟨p,1,none⟩ (.slice a1 l1 k1)).setCell ⟨p,0,none⟩ (.bool b)):=
   ((Keep.refl (·=p) w1).setCell (p:=⟨p,1,none⟩) rfl _).setCell (p:=⟨p,0,none⟩) rfl _
  refine hput _ (b,N) a1 l1 k1 hk2 (t2.set0 _) ?_ ho
  exact hn.keep hk3 (fun b e e'=>hap (by rw [← e'];exact e))
theorem St.op {F:Nat→Prop} {w:World} {L:List (Nat×E)} (h:St F w L) {i p:Nat} {v:E} (hi:L[i]?=some (p,v)) :
  ∃a l k,w.cell? ⟨p,0,none⟩=some (.bool v.1)∧w.cell? ⟨p,1,none⟩=some (.slice a l k)∧IsNat w a l k v.2 ∧
   ∀w1 a1 l1 k1 N,Keep (At a) w w1→IsNat w1 a1 l1 k1 N→Own w a a1 →
    w1.frozen? ⟨p,1,none⟩=false∧w1.frozen? ⟨p,0,none⟩=false∧(w1.cell? ⟨p,0,none⟩=some (.bool v.1)∧w1.cell? ⟨p,1,none⟩=some (.slice a l k)) ∧
    (∀q (u:Int),(q,ofI u)∈L→w1.cell? ⟨q,0,none⟩=some (.bool (decide (u<0)))∧w1.cell? ⟨q,1,none⟩=w.cell? ⟨q,1,none⟩) ∧
    ∀(b:Bool) (v':Int),v'.natAbs=N→b=decide (v'<0) →
     St F ((w1.setCell ⟨p,1,none⟩ (.slice a1 l1 k1)).setCell ⟨p,0,none⟩ (.bool b)) (L.set i (p,ofI v'))∧Keep (fun b=>¬F b) w ((w1.setCell ⟨p,1,none⟩ (.slice a1 l1 k1)).setCell ⟨p,0,none⟩ (.bool b)):=by
 obtain⟨a,l,k,h0,h1,h2,h3⟩:=h.opE hi
 refine⟨a,l,k,h0,h1,h2,fun w1 a1 l1 k1 N g1 g2 g3=>?_⟩
 obtain⟨f1,f2,x1,x0,hend⟩:=h3 w1 a1 l1 k1 N g1 g2 g3
 refine⟨f1,f2,⟨(x0 p v (List.mem_of_getElem? hi)).1,x1⟩,fun q u hq=>x0 q (ofI u) hq,fun b v' e1 e2=>?_⟩
 subst e1 e2
 exact hend _
theorem neg_of {N:Nat} {g:Bool} {v:Int} (h:v=if g then -(N:Int) else (N:Int)):v.natAbs=N∧(decide (0<N)&&g)=decide (v<0):=by
 subst h
 cases g
 ·simp
 ·simp only [if_true,Int.natAbs_neg,Int.natAbs_natCast,Bool.and_true,true_and,decide_eq_decide]
  omega
end Go.Proofs.YtofkehhflkdabaaGreatDoor
