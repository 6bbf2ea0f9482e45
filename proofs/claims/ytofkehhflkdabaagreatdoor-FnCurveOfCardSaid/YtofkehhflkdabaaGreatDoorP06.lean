/- A part of the proof of FnCurveOf. -/
import Derived.Test.YtofkehhflkdabaaGreatDoorP05
set_option maxRecDepth 100000
set_option maxHeartbeats 8000000
namespace Go.Proofs.YtofkehhflkdabaaGreatDoor
open Go Go.RowKit
theorem takeAway_any (w:World) (br nr:Nat) (c:Nat→Nat) (hr:Rwi w br nr c) (a:Option Addr) (lm km:Nat) (cm:Nat→Nat) (hm:Dg w a lm km cm) (hne:∀b,a=some ⟨b,0,none⟩→b≠br) (q:Nat) (hq:q≤4294967296) (hnr:nr<500000) (hlm:lm≤nr) (hle:q*vb cm 0 lm≤vb c 0 nr) :
  Calls Tryz.prog 49 #[.slice (some ⟨br,0,none⟩) nr nr,.slice a lm km,.int .i64 (q:Int)] w fun e w'=>∃c',e = .returned (.tuple #[])∧Rwi w' br nr c'∧vb c' 0 nr+q*vb cm 0 lm=vb c 0 nr∧Keep (·=br) w w':=by
 have HLE:Hid (q*vb cm 0 lm≤vb c 0 nr):=hle
 clear hle
 go_enter Tryz.func49,Tryz.ntmps49
 go_wp2_with fail
 go_loopw [6,11] (fun s6 s11 wr=>∃(i cy:Nat) (c':Nat→Nat),s6 = .int .i64 (cy:Int)∧s11 = .int .i64 (i:Int)∧i≤nr∧cy≤q+1∧Rwi wr br nr c'∧Keep (·=br) w wr∧Hid (vb c' 0 i+q*vb (ext cm lm) 0 i=vb c 0 i+cy*W16^i)∧Hid (∀j,i≤j→c' j=c j)) (fun _ s11 _=>nr-(intOf s11).toNat)
 case atStart=>exact⟨0,0,c,rfl,rfl,by omega,by omega,hr,Keep.refl _ _,by simp [vb,Hid],fun _ _=>rfl⟩
 case round=>
  obtain⟨i,cy,c',rfl,rfl,hi,hcy,hr2,hk,hv,ho⟩:=hrel
  have HV:Hid _:=hv
  have HO:Hid _:=ho
  clear hv ho
  have q9:IntKind.i64.wrap ((i:Int)+1)=(i:Int)+1:=IntWalk.i64_in _ (by omega)
  by_cases h0:i=nr
  ·subst h0
   have hend:Hid (vb c' 0 i+q*vb cm 0 lm=vb c 0 i):=by
    have h1:=HV.out
    rw [vb_ext0 _ _ _ hlm] at h1
    have h2:=vb_lt0 hr2.lt
    have h3:=HLE.out
    rcases Nat.eq_zero_or_pos cy with e | e
    ·subst e;show _=_;omega
    ·have:=Nat.mul_le_mul_right (W16^i) (show 1≤cy by omega)
     omega
   clear HV HO
   go_wp2_with fail
   go_end0
   exact⟨c',rfl,hr2,hend.out,hk⟩
  ·have h1:i<nr:=by omega
   have fz:=hr2.cell h1
   have ff:=hr2.frozen i
   have hxl:=hr2.lt i h1
   obtain⟨x,hx⟩:∃x,c' i=x:=⟨_,rfl⟩
   rw [hx] at fz hxl
   obtain⟨y,hy⟩:∃y,ext cm lm i=y:=⟨_,rfl⟩
   have hyl:y<W16:=by rw [← hy,ext];split;exact hm.lt i (by assumption);exact W16_pos
   obtain⟨d,c2,hd,hc2,ht,e1,e2⟩:=take_digit x q y cy hxl hcy hyl
   have hstep:Hid (vb (upd c' i d) 0 (i+1)+q*vb (ext cm lm) 0 (i+1)=vb c 0 (i+1)+c2*W16^(i+1)):=by
    have e0:c i=x:=by rw [← hx];exact(HO.out i (Nat.le_refl _)).symm
    rw [vb_one,vb_one,vb_one,Nat.zero_add,upd_same,vb_upd _ _ _ _ _ (by omega),hy,e0,Nat.pow_succ]
    exact take_step HV.out ht
   have hk2:Keep (·=br) w (wr.setCell ⟨br,i,none⟩ (.int .i64 (d:Int))):=hk.setCell rfl _
   have hr3:=hr2.set i d hd
   have HO2:Hid (∀j,i+1≤j→upd c' i d j=c j):=fun j hj=>by rw [upd_ne _ _ (by omega)];exact HO.out j (by omega)
   have b1:bits .and .i64 ((x:Int)-(cy:Int)-(q:Int)*(y:Int)) 65535=(d:Int):=by rw [and16];exact e1
   have b2:((x:Int)-(cy:Int)-(q:Int)*(y:Int)) / 65536 = -(c2:Int):=by omega
   have w1:IntKind.i64.wrap ((x:Int)-(cy:Int))=(x:Int)-(cy:Int):=IntWalk.i64_in _ (by rw [W16] at hxl;omega)
   have w4:IntKind.i64.wrap (c2:Int)=(c2:Int):=IntWalk.i64_in _ (by omega)
   rw [W16] at hxl hyl
   clear e1 e2 ht hx HO HV hd
   by_cases h2:i<lm
   ·obtain⟨bm,rfl,fb,-⟩:=hm.get i h2
    have hbm:=hne bm rfl
    rw [ext,if_pos h2] at hy
    rw [hy] at fb
    have fb:=hk.cel fb hbm
    have hqy:q*y≤4294967296*65535:=Nat.mul_le_mul hq (by omega)
    have eqy:(q:Int)*(y:Int)=((q*y:Nat):Int):=by push_cast;rfl
    have w2:IntKind.i64.wrap ((q:Int)*(y:Int))=(q:Int)*(y:Int):=by rw [eqy,IntWalk.i64_in _ (by omega)]
    have w3:IntKind.i64.wrap ((x:Int)-(cy:Int)-(q:Int)*(y:Int))=(x:Int)-(cy:Int)-(q:Int)*(y:Int):=by rw [eqy,IntWalk.i64_in _ (by omega)]
    clear eqy hqy hy
    go_wp2_with fail
    go_roundw
    case rel=>exact⟨i+1,c2,_,by go_num,by go_num,by omega,hc2,hr3,hk2,hstep,HO2⟩
    case measure=>simp [intOf]<;>omega
   ·rw [ext,if_neg h2] at hy
    subst hy
    simp only [Int.natCast_zero,Int.mul_zero,Int.sub_zero] at b1 b2
    go_wp2_with fail
    go_roundw
    case rel=>exact⟨i+1,c2,_,by go_num,by go_num,by omega,hc2,hr3,hk2,hstep,HO2⟩
    case measure=>simp [intOf]<;>omega
def cmpB (x y:Nat):Int:=if x<y then -1 else if y<x then 1 else 0
theorem cmpB_ge {x y:Nat}:(0≤cmpB x y)↔y≤x:=by
 unfold cmpB
 split
 ·omega
 ·split<;>omega
theorem vb_top {c d:Nat→Nat} {m k:Nat} (hk:k<m) (hc:∀i,i<m→c i<W16) (heq:∀j,k<j→j<m→c j=d j) (hlt:c k<d k):vb c 0 m<vb d 0 m:=by
 obtain⟨t,rfl⟩:∃t,m=k+1+t:=⟨m-k-1,by omega⟩
 rw [vb_add,vb_add d,vb_one,vb_one,Nat.zero_add,Nat.zero_add,vb_ext (c:=c) (d:=d) (o:=k+1) (p:=k+1) (n:=t) (fun i hi=>heq _ (by omega) (by omega))]
 have h1:vb c 0 k<W16^k:=vb_lt0 fun i hi=>hc i (by omega)
 have h2:=Nat.mul_le_mul_right (W16^k) (show c k+1≤d k from hlt)
 rw [Nat.succ_mul] at h2
 omega
theorem ret_int {a b:Int} (h:a=b):Ending.returned (.int .i64 a) = .returned (.int .i64 b):=by rw [h]
theorem compare_any (w:World) (a b:Option Addr) (la ka lb kb A B:Nat) (ha:IsB w a la ka A) (hb:IsB w b lb kb B) (hla:la<500000) (hlb:lb<500000) :
  Calls Tryz.prog 48 #[.slice a la ka,.slice b lb kb] w fun e w'=>e = .returned (.int .i64 (cmpB A B))∧Keep Nope w w':=by
 by_cases h0:la=lb
 ·subst h0
  obtain⟨ca,da,va,-⟩:=ha
  obtain⟨cb,db,vb',-⟩:=hb
  have VA:Hid (vb ca 0 la=A):=va
  have VB:Hid (vb cb 0 la=B):=vb'
  clear va vb'
  have q1:IntKind.i64.wrap ((la:Int)-1)=(la:Int)-1:=IntWalk.i64_in _ (by omega)
  go_enter Tryz.func48,Tryz.ntmps48
  go_wp2_with fail
  go_loopw [5] (fun s5 wr=>∃i:Nat,s5 = .int .i64 ((i:Int)-1)∧i≤la∧Keep Nope w wr∧Hid (∀j,i≤j→j<la→ca j=cb j)) (fun s5 _=>(intOf s5+1).toNat)
  case atStart=>exact⟨la,rfl,by omega,Keep.refl _ _,fun j h1 h2=>by omega⟩
  case round=>
   obtain⟨i,rfl,hi,hkeep,hv⟩:=hrel
   have HV:Hid _:=hv
   clear hv
   rcases Nat.eq_zero_or_pos i with h1 | h1
   ·subst h1
    have hend:Hid (cmpB A B=0):=by
     show _=_
     rw [← VA.out,← VB.out,vb_ext (c:=ca) (d:=cb) (o:=0) (p:=0) (n:=la) (fun j hj=>by rw [Nat.zero_add];exact HV.out j (by omega) hj)]
     simp [cmpB]
    go_wp2_with fail
    go_ret
    exact⟨ret_int hend.out.symm,hkeep⟩
   ·obtain⟨t,rfl⟩:∃t,i=t+1:=⟨i-1,by omega⟩
    have et:((t+1:Nat):Int)-1=(t:Int):=by omega
    rw [et]
    obtain⟨ba,rfl,fa,hxl⟩:=da.get t (by omega)
    obtain⟨bb,rfl,fb,hyl⟩:=db.get t (by omega)
    obtain⟨x,hx⟩:∃x,ca t=x:=⟨_,rfl⟩
    obtain⟨y,hy⟩:∃y,cb t=y:=⟨_,rfl⟩
    have HX:Hid (ca t=x):=hx
    have HY:Hid (cb t=y):=hy
    rw [hx] at fa
    rw [hy] at fb
    have fa:=hkeep.cel fa id
    have fb:=hkeep.cel fb id
    have q2:IntKind.i64.wrap ((t:Int)-1)=(t:Int)-1:=IntWalk.i64_in _ (by omega)
    have tl:t<la:=by omega
    clear et hx hy
    by_cases h2:x=y
    ·subst h2
     clear hxl hyl
     go_wp2_with fail
     go_quiet (fail)
     go_wp2_with fail
     go_roundw
     case rel=>
      refine⟨t,by go_num,by omega,by repeat (first | exact hkeep | apply Keep.drewN),fun j h3 h4=>?_⟩
      rcases Nat.eq_or_lt_of_le h3 with e | e
      ·rw [← e,HX.out,HY.out]
      ·exact HV.out j (by omega) h4
     case measure=>simp [intOf]<;>omega
    ·have t1:((x:Int) != (y:Int))=true:=by rw [bne_iff_ne];omega
     by_cases h3:x<y
     ·have hend:Hid (cmpB A B = -1):=by
       show _=_
       rw [← VA.out,← VB.out,cmpB,if_pos (vb_top tl da.lt (fun j hj h4=>HV.out j (by omega) h4) (by rw [HX.out,HY.out];exact h3))]
      go_wp2_with fail
      go_quiet (fail)
      go_wp2_with fail
      go_quiet (fail)
      go_wp2_with fail
      go_ret
      exact⟨ret_int hend.out.symm,by repeat (first | exact hkeep | apply Keep.drewN)⟩
     ·have h5:y<x:=by omega
      have hend:Hid (cmpB A B=1):=by
       have:=vb_top tl db.lt (c:=cb) (d:=ca) (fun j hj h4=>(HV.out j (by omega) h4).symm) (by rw [HX.out,HY.out];exact h5)
       show _=_
       rw [← VA.out,← VB.out,cmpB,if_neg (by omega),if_pos this]
      go_wp2_with fail
      go_quiet (fail)
      go_wp2_with fail
      go_quiet (fail)
      go_wp2_with fail
      go_ret
      exact⟨ret_int hend.out.symm,by repeat (first | exact hkeep | apply Keep.drewN)⟩
 ·have t1:((la:Int) != (lb:Int))=true:=by rw [bne_iff_ne];omega
  by_cases h1:la<lb
  ·have hend:Hid (cmpB A B = -1):=by
    have:A<B:=by
     refine Nat.lt_of_not_le fun h=>?_
     have:=hb.len_le (Nat.lt_of_le_of_lt h ha.lt)
     omega
    show _=_
    rw [cmpB,if_pos this]
   go_enter Tryz.func48,Tryz.ntmps48
   go_wp2_with fail
   go_ret
   exact⟨ret_int hend.out.symm,Keep.refl _ _⟩
  ·have hend:Hid (cmpB A B=1):=by
    have:B<A:=by
     refine Nat.lt_of_not_le fun h=>?_
     have:=ha.len_le (Nat.lt_of_le_of_lt h hb.lt)
     omega
    show _=_
    rw [cmpB,if_neg (by omega),if_pos this]
   go_enter Tryz.func48,Tryz.ntmps48
   go_wp2_with fail
   go_ret
   exact⟨ret_int hend.out.symm,Keep.refl _ _⟩
structure Db (w:World) (a:Option Addr) (len cap:Nat) (c:Nat→Nat):Prop where
 le:len≤cap∧cap≤9223372036854775807
 get:∀i,i<len→∃b,a=some ⟨b,0,none⟩∧w.cell? ⟨b,i,none⟩=some (.int .u8 (c i:Nat))∧c i<256
theorem Db.lt {w:World} {a:Option Addr} {len cap:Nat} {c:Nat→Nat} (h:Db w a len cap c):∀i,i<len→c i<256:=fun i hi=>by
 obtain⟨_,_,_,h⟩:=h.get i hi;exact h
theorem Db.keep {S:Nat→Prop} {w w':World} {a:Option Addr} {len cap:Nat} {c:Nat→Nat} (h:Db w a len cap c) (k:Keep S w w') (hs:∀b,a=some ⟨b,0,none⟩→¬S b):Db w' a len cap c:=
 ⟨h.le,fun i hi=>by
  obtain⟨b,rfl,h1,h2⟩:=h.get i hi
  exact⟨b,rfl,k.cel h1 (hs b rfl),h2⟩⟩
theorem Db.kept {w w':World} {a:Option Addr} {len cap:Nat} {c:Nat→Nat} (h:Db w a len cap c) (k:Keep (Fresh w.heap.size) w w'):Db w' a len cap c:=
 ⟨h.le,fun i hi=>by
  obtain⟨b,rfl,h1,h2⟩:=h.get i hi
  have:=World.block_lt_of_cell? w _ h1
  exact⟨b,rfl,k.cel h1 (fun h=>by simp only [Fresh] at *;omega),h2⟩⟩
theorem Db.take {w:World} {a:Option Addr} {len cap n:Nat} {c:Nat→Nat} (h:Db w a len cap c) (hn:n≤len):Db w a n cap c:=
 ⟨⟨by have:=h.le;omega,h.le.2⟩,fun i hi=>h.get i (by omega)⟩
def lsb (c:Nat→Nat) (n:Nat):List Value:=(List.range n).map fun i=>.int .u8 (c i:Nat)
theorem lsb_len (c:Nat→Nat) (n:Nat):(lsb c n).length=n:=by simp [lsb]
theorem lsb_get (c:Nat→Nat) {n i:Nat} (h:i<n):(lsb c n)[i]?=some (.int .u8 (c i:Nat)):=by simp [lsb,h]
theorem lsb_snoc (c:Nat→Nat) (n d:Nat):lsb c n++[.int .u8 (d:Nat)]=lsb (upd c n d) (n+1):=by
 rw [lsb,lsb,List.range_succ,List.map_append]
 simp only [List.map_cons,List.map_nil,upd_same]
 congr 1
 apply List.map_congr_left
 intro i hi
 rw [upd_ne _ _ (by have:=List.mem_range.1 hi;omega)]
structure Ob (w0 w:World) (T:TypeId) (v:Value) (n:Nat) (c:Nat→Nat):Prop where
 owns:w.ownsRow w0.heap.size T 1 v n (lsb c n)
 keep:Keep Nope w0 w
 lt:∀i,i<n→c i<256
theorem Ob.nil (w:World) (T:TypeId) (c:Nat→Nat):Ob w w T (.slice none 0 0) 0 c:=
 ⟨by have:=World.ownsRow_nil w w.heap.size T 1;exact this,Keep.refl _ _,fun i hi=>by omega⟩
theorem Ob.alloc {w0 w:World} {T:TypeId} {v:Value} {n:Nat} {c:Nat→Nat} (h:Ob w0 w T v n c) (o:Obj):Ob w0 (w.alloc o) T v n c:=⟨h.owns.alloc o,h.keep.alloc o,h.lt⟩
theorem Ob.drew {w0 w:World} {T:TypeId} {v:Value} {n:Nat} {c:Nat→Nat} (h:Ob w0 w T v n c):Ob w0 w.drew T v n c:=⟨h.owns,h.keep.drew,h.lt⟩
theorem Ob.nope {w0 w w':World} {T:TypeId} {v:Value} {n:Nat} {c:Nat→Nat} (h:Ob w0 w T v n c) (k:Keep Nope w w'):Ob w0 w' T v n c:=
 ⟨h.owns.kept (row:=none) ⟨k.os,k.tape,k.output,k.size,fun i hi _=>k.block i hi id⟩ (by cases hv:v.ownBlock<;>simp),h.keep.trans k,h.lt⟩
theorem Ob.db {w0 w:World} {T:TypeId} {v:Value} {n:Nat} {c:Nat→Nat} (h:Ob w0 w T v n c):∃a cap,v = .slice a n cap∧Db w a n cap c:=by
 rcases h.owns.2 with⟨rfl,rfl⟩ | ⟨g,cap,cur,rfl,_,_,h1,h2,_⟩
 ·exact⟨none,0,rfl,⟨by omega,fun i hi=>by omega⟩⟩
 ·refine⟨some ⟨g,0,none⟩,cap,rfl,⟨h1,by unfold maxLen at h2;omega⟩,fun i hi=>⟨g,rfl,?_,h.lt i hi⟩⟩
  have:=h.owns.cells (g:=g) rfl i _ (lsb_get c hi)
  rwa [Addr.add_lit,Nat.zero_add] at this
theorem Ob.append {w0 w:World} {T t:TypeId} {v:Value} {n d:Nat} {c:Nat→Nat} (h:Ob w0 w T v n c) (ht:Tryz.prog.underlying t=some (.slice T)) {i:TypeInfo} (hi:Tryz.prog.info? T=some i) (hz:i.zero=some (.int .u8 0)) (hs:i.size=1) (hb:i.bytes=1)
  (q k:Nat) (hc:w.cell? ⟨q,0,none⟩=some (.int .u8 (d:Nat))) (hd:d<256) (hn:n<1000000000) (ty:TypeId) :
  ∃v' w',(Builtin.append_ #[t,t] ty #[v,.slice (some ⟨q,0,none⟩) 1 k]).run Tryz.prog w = .ok v' w'∧Ob w0 w' T v' (n+1) (upd c n d):=by
 obtain⟨v',w',hr,ho,hg,_⟩:=run_append_own (P:=Tryz.prog) w w0.heap.size t ty T i (.int .u8 0) 1 1 ht hi hz hs hb rfl (by decide) v n (lsb c n) h.owns ⟨q,0,none⟩ 1 k [.int .u8 (d:Nat)] rfl
  (fun j u hj=>by
   obtain⟨hj1,hj2⟩:=List.getElem?_eq_some_iff.1 hj
   simp only [List.length_cons,List.length_nil,Nat.zero_add,Nat.lt_one_iff] at hj1
   subst hj1
   simp only [List.getElem_cons_zero] at hj2
   rw [Addr.add_lit,← hj2];exact hc)
  (fun u hu=>by simp only [List.mem_singleton] at hu;subst hu;rfl) (by unfold maxLen;omega) (by omega) h.keep.size
 refine⟨v',w',hr,⟨by rw [← lsb_snoc];exact ho,keep_grown h.keep hg (fun k e=>(h.owns.lt k e).1),?_⟩⟩
 intro j hj
 simp only [upd]
 split
 ·exact hd
 ·exact h.lt j (by omega)
theorem infoB:∃i,Tryz.prog.info? 5=some i∧i.zero=some (.int .u8 0)∧i.size=1∧i.bytes=1:=by
 have h:=(by kernel_rfl:(Tryz.prog.info? 5).map (fun i=>(i.zero,i.size,i.bytes))=some (some (.int .u8 0),1,1))
 cases e:Tryz.prog.info? 5 with
 | none=>rw [e] at h;simp at h
 | some i=>
  rw [e] at h
  simp only [Option.map_some,Option.some.injEq,Prod.mk.injEq] at h
  exact⟨i,rfl,h.1,h.2.1,h.2.2⟩
theorem Ob.app {w0 w:World} {v:Value} {n d:Nat} {c:Nat→Nat} (h:Ob w0 w 5 v n c) (q k:Nat) (hc:w.cell? ⟨q,0,none⟩=some (.int .u8 (d:Nat))) (hd:d<256) (hn:n<1000000000) (ty:TypeId) :
  ∃v' w',(Builtin.append_ #[23,23] ty #[v,.slice (some ⟨q,0,none⟩) 1 k]).run Tryz.prog w = .ok v' w'∧Ob w0 w' 5 v' (n+1) (upd c n d):=by
 obtain⟨i,h1,h2,h3,h4⟩:=infoB
 exact h.append Tryz.underlying23 h1 h2 h3 h4 q k hc hd hn ty
theorem fromBytes_any (w:World) (a:Option Addr) (n k:Nat) (c:Nat→Nat) (h:Db w a n k c) (hn:n<1000000) :
  Calls Tryz.prog 12 #[.slice a n k] w fun e w'=>∃a' l' k',e = .returned (.slice a' l' k')∧IsB w' a' l' k' (preN c n)∧Keep Nope w w':=by
 have q1:IntKind.i64.wrap ((n:Int)-1)=(n:Int)-1:=IntWalk.i64_in _ (by omega)
 go_enter Tryz.func12,Tryz.ntmps12
 go_wp2_with fail
 go_loopw [3,4] (fun s3 s4 wr=>∃(m j:Nat) (z:Int) (c':Nat→Nat),s4 = .int .i64 z∧(z=(m:Int)-1∨m=0∧z = -2)∧m+j≤n∧Ow w wr 3 s3 j c'∧Hid (preN c m*W16^j+vb c' 0 j=preN c n)) (fun _ s4 _=>(intOf s4+1).toNat)
 case atStart=>exact⟨n,0,_,fun _=>0,rfl,.inl rfl,by omega,Ow.nil _ _ _,by simp [vb,Hid]⟩
 case round=>
  obtain⟨m,j,z,c',rfl,hs4,hm,ho,hv⟩:=hrel
  have HV:Hid _:=hv
  have HO:Hid _:=ho
  clear hv
  rcases Nat.eq_zero_or_pos m with h0 | h0
  ·subst h0
   have hend:Hid (vb c' 0 j=preN c n):=by
    have:=HV.out
    simp only [preN,Nat.zero_mul,Nat.zero_add] at this
    exact this
   have hz':¬(0≤z):=by omega
   clear hs4 HV
   go_wp2_with fail
   obtain⟨a1,k1,rfl,dg⟩:=(oo HO).dg
   refine(trim_any _ a1 j k1 c' dg).mono ?_
   rintro e w5 ⟨l,rfl,-,hn',hw⟩
   subst hw
   go_wp2_with fail
   go_ret
   refine⟨_,_,_,rfl,?_,(oo HO).keep⟩
   rw [← oo hend]
   exact hn'
  ·obtain⟨t,rfl⟩:∃t,m=t+1:=⟨m-1,by omega⟩
   obtain rfl:z=(t:Int):=by omega
   clear hs4
   obtain⟨ba,rfl,fa,hxl⟩:=h.get t (by omega)
   obtain⟨x,hx⟩:∃x,c t=x:=⟨_,rfl⟩
   rw [hx] at fa hxl
   have fa:=(oo HO).keep.cel fa id
   have q9:IntKind.i64.wrap ((t:Int)-2)=(t:Int)-2:=IntWalk.i64_in _ (by omega)
   rcases Nat.eq_zero_or_pos t with h1 | h1
   ·subst h1
    have hstep:Hid (preN c 0*W16^(j+1)+vb (upd c' j x) 0 (j+1)=preN c n):=by
     have:=HV.out
     rw [vb_one,vb_upd _ _ _ _ _ (by omega),Nat.zero_add,upd_same]
     simp only [preN,hx,Nat.zero_mul,Nat.zero_add] at this ⊢
     show _=_
     omega
    clear hx HV
    go_wp2_with (at_builtin;obtain⟨v',w',hr,ho'⟩:=((oo HO).alloc (.cells #[.int .i64 (x:Int)] 3 (0,0))).app wr.heap.size 1 (d:=x) (cell_new1 _ _ _) (by rw [W16];omega) (by omega) 25;refine Lib.wpList_append_run _ rfl _ _ _ _ rfl _ _ rfl rfl _ _ hr ?_)
    go_roundw
    case rel=>exact⟨0,j+1,-2,_,by go_num,.inr ⟨rfl,rfl⟩,by omega,ho',hstep⟩
    case measure=>simp [intOf]
   ·obtain⟨u,rfl⟩:∃u,t=u+1:=⟨t-1,by omega⟩
    have q2:IntKind.i64.wrap (((u:Int)+1)-1)=(u:Int):=by rw [IntWalk.i64_in _ (by omega)];omega
    rw [show ((u+1:Nat):Int)=(u:Int)+1 from by omega] at *
    obtain⟨b2,e2,fb,hyl⟩:=h.get u (by omega)
    simp only [Option.some.injEq,Addr.mk.injEq,and_true] at e2
    subst e2
    obtain⟨y,hy⟩:∃y,c u=y:=⟨_,rfl⟩
    rw [hy] at fb hyl
    have fb:=(oo HO).keep.cel fb id
    obtain⟨d,hd⟩:∃d,d=y*256+x:=⟨_,rfl⟩
    have b0:bits .or .i64 (x:Int) ((y:Int)*256)=(d:Int):=by
     have:=or_shl x y 8 (by omega) (by omega) (by omega)
     rw [hd,← this];push_cast;rfl
    have hstep:Hid (preN c u*W16^(j+1)+vb (upd c' j d) 0 (j+1)=preN c n):=by
     have:=HV.out
     rw [vb_one,vb_upd _ _ _ _ _ (by omega),Nat.zero_add,upd_same,Nat.pow_succ]
     simp only [preN,hx,hy,W16] at this ⊢
     show _=_
     rw [← this,hd]
     generalize 65536^j=P at *
     clear this b0
     grind
    have hd2:d<65536:=by omega
    clear hx hy HV hd
    go_wp2_with (at_builtin;obtain⟨v',w',hr,ho'⟩:=((oo HO).alloc (.cells #[.int .i64 (d:Int)] 3 (0,0))).app wr.heap.size 1 (d:=d) (cell_new1 _ _ _) (by rw [W16];omega) (by omega) 25;refine Lib.wpList_append_run _ rfl _ _ _ _ rfl _ _ rfl rfl _ _ hr ?_)
    go_roundw
    case rel=>exact⟨u,j+1,(u:Int)-1,_,by go_num,.inl rfl,by omega,ho',hstep⟩
    case measure=>simp [intOf]<;>omega
end Go.Proofs.YtofkehhflkdabaaGreatDoor
