/- A part of the proof of FnCurveOf. -/
import Derived.Test.YtofkehhflkdabaaGreatDoorP16
set_option maxRecDepth 100000
set_option maxHeartbeats 8000000
namespace Go.Proofs.YtofkehhflkdabaaGreatDoor
open Go Go.RowKit
theorem blk_new {w w':World} {o:Obj} (k:Keep Nope (w.alloc o) w'):w'.heap[w.heap.size]?=some o:=by
 rw [k.block _ (by rw [alloc_size];omega) id];exact heap_alloc_new w o
theorem one_val {p:Nat} [NeZero p] (h:65536<p):(1:Fin p).val=1:=by
 show 1%p=1
 exact Nat.mod_eq_of_lt (by omega)
theorem one_new {p:Nat} [NeZero p] {w w':World} (h:65536<p) (k:Keep Nope (w.alloc (.cells #[.int .i64 1] 3 (0,0))) w'):IsB w' (some ⟨w.heap.size,0,none⟩) 1 1 (1:Fin p).val:=by
 rw [one_val h]
 exact(isB_one w 1 (by omega) (by omega)).nope k
theorem zero_new {p:Nat} [NeZero p] (w:World):IsB w none 0 0 (0:Fin p).val:=by
 show IsB w none 0 0 (0%p)
 rw [Nat.zero_mod];exact IsB.nil w none
theorem Bs.infty {p:Nat} [NeZero p] {w w':World} {am:Option Addr} {lm km:Nat} {L:List (Dv p)} (h:Bs p w' am lm km L) (k1:Keep Nope (w.alloc (.cells #[.int .i64 1] 3 (0,0))) w') {w2:World} (k2:Keep Nope (w2.alloc (.cells #[.int .i64 1] 3 (0,0))) w') :
  Bs p w' am lm km (⟨some ⟨w.heap.size,0,none⟩,1,1,1⟩::⟨some ⟨w2.heap.size,0,none⟩,1,1,1⟩::⟨none,0,0,0⟩::L):=
 ((h.cons (Keep.refl _ _) (zero_new w')).cons (Keep.refl _ _) (one_new h.two k2)).cons (Keep.refl _ _) (one_new h.two k1)
theorem twice_any {p:Nat} [NeZero p] (w:World) (am:Option Addr) (lm km:Nat) (L:List (Dv p)) (aA aB ax ay az:Option Addr) (lA kA lB kB lx kx ly ky lz kz:Nat) (A x y z:Fin p) (h:Bs p w am lm km (⟨aA,lA,kA,A⟩::⟨ax,lx,kx,x⟩::⟨ay,ly,ky,y⟩::⟨az,lz,kz,z⟩::L)) :
  Calls Tryz.prog 18 #[.agg #[.slice am lm km,.slice aA lA kA,.slice aB lB kB],.agg #[.slice ax lx kx,.slice ay ly ky,.slice az lz kz]] w (TriPost p w am lm km (⟨aA,lA,kA,A⟩::⟨ax,lx,kx,x⟩::⟨ay,ly,ky,y⟩::⟨az,lz,kz,z⟩::L) (Ec.jdbl A ⟨x,y,z⟩)):=by
 by_cases hz:z=0
 ·have hj:Ec.jdbl A ⟨x,y,z⟩=⟨1,1,0⟩:=by rw [Ec.jdbl,if_pos (.inl hz)]
  obtain rfl:=h.len_eq (tl3 (.head _)) hz
  rw [hj]
  have H:Hid (Bs p w am lm km _):=h
  clear h
  go_enter Tryz.func18,Tryz.ntmps18
  go_wp2_with fail
  try simp only [Exit.inBlock,Exit.then]
  refine bodyPost_ret (results_cell_row rfl _ _ (w.heap.size+1+1) 49 #[.slice (some ⟨w.heap.size+1+1+1+1,0,none⟩) 1 1,.slice (some ⟨w.heap.size+1+1+1+1+1,0,none⟩) 1 1,.slice none 0 0] (0,0) _ rfl ?_ Tryz.underlying49 rfl (by kernel_rfl)) rfl ?_
  ·rw [← alloc_size w (.cells #[.slice am lm km,.slice aA lA kA,.slice aB lB kB] 29 (0,0)),← alloc_size (w.alloc (.cells #[.slice am lm km,.slice aA lA kA,.slice aB lB kB] 29 (0,0))) (.cells #[.slice ax lx kx,.slice ay ly ky,.slice az 0 kz] 49 (0,0))]
   exact blk_new ((((Keep.refl Nope _).alloc _).alloc _).alloc _)
  have k:=((((((Keep.refl Nope w).alloc (.cells #[.slice am lm km,.slice aA lA kA,.slice aB lB kB] 29 (0,0))).alloc (.cells #[.slice ax lx kx,.slice ay ly ky,.slice az 0 kz] 49 (0,0))).alloc (.cells #[.slice (some ⟨w.heap.size+1+1+1+1,0,none⟩) 1 1,.slice (some ⟨w.heap.size+1+1+1+1+1,0,none⟩) 1 1,.slice none 0 0] 49 (0,0))).alloc (.cells #[.slice am lm km] 27 (0,0))).alloc (.cells #[.int .i64 1] 3 (0,0))).alloc (.cells #[.int .i64 1] 3 (0,0))
  have hb:=((oo H).nope k).infty ((Keep.refl Nope _).alloc _) (Keep.refl Nope _)
  simp only [alloc_size] at hb
  exact⟨_,_,_,_,_,_,_,_,_,rfl,hb,k⟩
 ·by_cases hy:y=0
  ·have hj:Ec.jdbl A ⟨x,y,z⟩=⟨1,1,0⟩:=by rw [Ec.jdbl,if_pos (.inr hy)]
   have t1:((lz:Int)==0)=false:=h.len_ne (tl3 (.head _)) hz
   obtain rfl:=h.len_eq (tl2 (.head _)) hy
   rw [hj]
   have H:Hid (Bs p w am lm km _):=h
   clear h
   go_enter Tryz.func18,Tryz.ntmps18
   go_wp2_with fail
   try simp only [Exit.inBlock,Exit.then]
   refine bodyPost_ret (results_cell_row rfl _ _ (w.heap.size+1+1) 49 #[.slice (some ⟨w.heap.size+1+1+1+1,0,none⟩) 1 1,.slice (some ⟨w.heap.size+1+1+1+1+1,0,none⟩) 1 1,.slice none 0 0] (0,0) _ rfl ?_ Tryz.underlying49 rfl (by kernel_rfl)) rfl ?_
   ·rw [← alloc_size w (.cells #[.slice am lm km,.slice aA lA kA,.slice aB lB kB] 29 (0,0)),← alloc_size (w.alloc (.cells #[.slice am lm km,.slice aA lA kA,.slice aB lB kB] 29 (0,0))) (.cells #[.slice ax lx kx,.slice ay 0 ky,.slice az lz kz] 49 (0,0))]
    exact blk_new ((((Keep.refl Nope _).alloc _).alloc _).alloc _)
   have k:=((((((Keep.refl Nope w).alloc (.cells #[.slice am lm km,.slice aA lA kA,.slice aB lB kB] 29 (0,0))).alloc (.cells #[.slice ax lx kx,.slice ay 0 ky,.slice az lz kz] 49 (0,0))).alloc (.cells #[.slice (some ⟨w.heap.size+1+1+1+1,0,none⟩) 1 1,.slice (some ⟨w.heap.size+1+1+1+1+1,0,none⟩) 1 1,.slice none 0 0] 49 (0,0))).alloc (.cells #[.slice am lm km] 27 (0,0))).alloc (.cells #[.int .i64 1] 3 (0,0))).alloc (.cells #[.int .i64 1] 3 (0,0))
   have hb:=((oo H).nope k).infty ((Keep.refl Nope _).alloc _) (Keep.refl Nope _)
   simp only [alloc_size] at hb
   exact⟨_,_,_,_,_,_,_,_,_,rfl,hb,k⟩
  ·exact twice_ne w am lm km L aA aB ax ay az lA kA lB kB lx kx ly ky lz kz A x y z h hz hy
theorem coord_any {p:Nat} [NeZero p] (w:World) (am:Option Addr) (lm km:Nat) (L:List (Dv p)) (ax ay:Option Addr) (lx kx ly ky:Nat) (x y:Fin p) (h:Bs p w am lm km (⟨ax,lx,kx,x⟩::⟨ay,ly,ky,y⟩::L)) :
  Calls Tryz.prog 17 #[.agg #[.slice ax lx kx,.slice ay ly ky,.bool false]] w (TriPost p w am lm km (⟨ax,lx,kx,x⟩::⟨ay,ly,ky,y⟩::L) ⟨x,y,1⟩):=by
 have H:Hid (Bs p w am lm km _):=h
 clear h
 go_enter Tryz.func17,Tryz.ntmps17
 go_wp2_with fail
 try simp only [Exit.inBlock,Exit.then]
 have e1:(((w.alloc (.cells #[.slice ax lx kx,.slice ay ly ky,.bool false] 31 (0,0))).alloc (.cells #[.slice ax lx kx,.slice ay ly ky,.slice (some ⟨w.heap.size+1+1,0,none⟩) 1 1] 49 (0,0))).heap.size)=w.heap.size+1+1:=by rw [alloc_size,alloc_size]
 refine bodyPost_ret (results_cell_row rfl _ _ (w.heap.size+1) 49 #[.slice ax lx kx,.slice ay ly ky,.slice (some ⟨w.heap.size+1+1,0,none⟩) 1 1] (0,0) _ rfl ?_ Tryz.underlying49 rfl (by kernel_rfl)) rfl ?_
 ·rw [← alloc_size w (.cells #[.slice ax lx kx,.slice ay ly ky,.bool false] 31 (0,0))]
  exact blk_new ((Keep.refl Nope _).alloc _)
 have k:=((((Keep.refl Nope w).alloc (.cells #[.slice ax lx kx,.slice ay ly ky,.bool false] 31 (0,0))).alloc (.cells #[.slice ax lx kx,.slice ay ly ky,.slice (some ⟨w.heap.size+1+1,0,none⟩) 1 1] 49 (0,0))).alloc (.cells #[.int .i64 1] 3 (0,0)))
 have hb:=(oo H).nope k
 have h1:=one_new (p:=p) hb.two (Keep.refl Nope ((((w.alloc (.cells #[.slice ax lx kx,.slice ay ly ky,.bool false] 31 (0,0))).alloc (.cells #[.slice ax lx kx,.slice ay ly ky,.slice (some ⟨w.heap.size+1+1,0,none⟩) 1 1] 49 (0,0))).alloc (.cells #[.int .i64 1] 3 (0,0)))))
 rw [e1] at h1
 refine⟨_,_,_,_,_,_,_,_,_,rfl,(hb.cons (Keep.refl _ _) h1).sub ?_,k⟩
 intro d hd
 rcases List.mem_cons.1 hd with rfl | hd
 ·exact .tail _ (.head _)
 rcases List.mem_cons.1 hd with rfl | hd
 ·exact .tail _ (.tail _ (.head _))
 rcases List.mem_cons.1 hd with rfl | hd
 ·exact .head _
 exact .tail _ hd
theorem infty_any {p:Nat} [NeZero p] (w:World) (am:Option Addr) (lm km:Nat) (L:List (Dv p)) (vx vy:Value) (h:Bs p w am lm km L) :
  Calls Tryz.prog 17 #[.agg #[vx,vy,.bool true]] w (TriPost p w am lm km L ⟨1,1,0⟩):=by
 have H:Hid (Bs p w am lm km _):=h
 clear h
 go_enter Tryz.func17,Tryz.ntmps17
 go_wp2_with fail
 try simp only [Exit.inBlock,Exit.then]
 refine bodyPost_ret (results_cell_row rfl _ _ (w.heap.size+1) 49 #[.slice (some ⟨w.heap.size+1+1,0,none⟩) 1 1,.slice (some ⟨w.heap.size+1+1+1,0,none⟩) 1 1,.slice none 0 0] (0,0) _ rfl ?_ Tryz.underlying49 rfl (by kernel_rfl)) rfl ?_
 ·rw [← alloc_size w (.cells #[vx,vy,.bool true] 31 (0,0))]
  exact blk_new (((Keep.refl Nope _).alloc _).alloc _)
 have k:=((((Keep.refl Nope w).alloc (.cells #[vx,vy,.bool true] 31 (0,0))).alloc (.cells #[.slice (some ⟨w.heap.size+1+1,0,none⟩) 1 1,.slice (some ⟨w.heap.size+1+1+1,0,none⟩) 1 1,.slice none 0 0] 49 (0,0))).alloc (.cells #[.int .i64 1] 3 (0,0))).alloc (.cells #[.int .i64 1] 3 (0,0))
 have hb:=((oo H).nope k).infty ((Keep.refl Nope _).alloc _) (Keep.refl Nope _)
 simp only [alloc_size] at hb
 exact⟨_,_,_,_,_,_,_,_,_,rfl,hb,k⟩
theorem Thr.noInt2 {w:World} {b i:Nat} {a1 a2:Option Addr} {l1 k1 l2 k2:Nat} {g:Bool} {n:Int} (h:Thr w b (.slice a1 l1 k1) (.slice a2 l2 k2) (.bool g)) (hc:w.cell? ⟨b,i,none⟩=some (.int .i64 n)):False:=by
 obtain⟨T,hT⟩:=h
 simp only [World.cell?,hT] at hc
 rcases i with _ | _ | _ | i<;>simp at hc
theorem IsB.other2 {w w':World} {a:Option Addr} {len cap N b:Nat} {a1 a2:Option Addr} {l1 k1 l2 k2:Nat} {g:Bool} (hb:IsB w a len cap N) (h:Thr w b (.slice a1 l1 k1) (.slice a2 l2 k2) (.bool g)) (k:Keep (·=b) w w'):IsB w' a len cap N:=by
 obtain⟨c,d,e⟩:=hb
 refine⟨c,⟨d.le,fun i hi=>?_⟩,e⟩
 obtain⟨b',rfl,f,g⟩:=d.get i hi
 exact⟨b',rfl,k.cel f (fun e=>by subst e;exact h.noInt2 f),g⟩
theorem Bs.other2 {p:Nat} {w w':World} {am:Option Addr} {lm km b:Nat} {L:List (Dv p)} {a1 a2:Option Addr} {l1 k1 l2 k2:Nat} {g:Bool} (hb:Bs p w am lm km L) (h:Thr w b (.slice a1 l1 k1) (.slice a2 l2 k2) (.bool g)) (k:Keep (·=b) w w'):Bs p w' am lm km L:=
 ⟨hb.mod.other2 h k,hb.ml,hb.two,fun d hd=>⟨(hb.all d hd).1.other2 h k,(hb.all d hd).2⟩⟩
theorem point_any {p:Nat} [NeZero p] (w:World) (am:Option Addr) (lm km:Nat) (L:List (Dv p)) (aA aB ax ay az:Option Addr) (lA kA lB kB lx kx ly ky lz kz:Nat) (x y z:Fin p) (h:Bs p w am lm km (⟨ax,lx,kx,x⟩::⟨ay,ly,ky,y⟩::⟨az,lz,kz,z⟩::L)) (hz0:z≠0) :
  Calls Tryz.prog 20 #[.agg #[.slice am lm km,.slice aA lA kA,.slice aB lB kB],.agg #[.slice ax lx kx,.slice ay ly ky,.slice az lz kz]] w fun e w'=>∃a1 l1 k1 a2 l2 k2,e = .returned (.agg #[.slice a1 l1 k1,.slice a2 l2 k2,.bool false]) ∧
   Bs p w' am lm km (⟨a1,l1,k1,x*(Ec.inv z*Ec.inv z)⟩::⟨a2,l2,k2,y*(Ec.inv z*Ec.inv z*Ec.inv z)⟩::⟨ax,lx,kx,x⟩::⟨ay,ly,ky,y⟩::⟨az,lz,kz,z⟩::L)∧Keep Nope w w':=by
 have t1:((lz:Int)==0)=false:=h.len_ne (tl2 (.head _)) hz0
 have k1:Keep Nope w ((((w.alloc (.cells #[.slice am lm km,.slice aA lA kA,.slice aB lB kB] 29 (0,0))).alloc (.cells #[.slice ax lx kx,.slice ay ly ky,.slice az lz kz] 49 (0,0))).alloc (.cells #[.slice none 0 0,.slice none 0 0,.bool false] 31 (0,0))).alloc (.cells #[.slice am lm km] 27 (0,0))):=((((Keep.refl Nope w).alloc _).alloc _).alloc _).alloc _
 have c3_00:((((w.alloc (.cells #[.slice am lm km,.slice aA lA kA,.slice aB lB kB] 29 (0,0))).alloc (.cells #[.slice ax lx kx,.slice ay ly ky,.slice az lz kz] 49 (0,0))).alloc (.cells #[.slice none 0 0,.slice none 0 0,.bool false] 31 (0,0))).alloc (.cells #[.slice am lm km] 27 (0,0))).cell? ⟨(w.alloc (.cells #[.slice am lm km,.slice aA lA kA,.slice aB lB kB] 29 (0,0))).heap.size,0,none⟩=some _:=(((Keep.refl Nope _).alloc _).alloc _).cel (cell_newI (w.alloc (.cells #[.slice am lm km,.slice aA lA kA,.slice aB lB kB] 29 (0,0))) #[.slice ax lx kx,.slice ay ly ky,.slice az lz kz] 49 0 _ rfl) id
 have c3_10:((((w.alloc (.cells #[.slice am lm km,.slice aA lA kA,.slice aB lB kB] 29 (0,0))).alloc (.cells #[.slice ax lx kx,.slice ay ly ky,.slice az lz kz] 49 (0,0))).alloc (.cells #[.slice none 0 0,.slice none 0 0,.bool false] 31 (0,0))).alloc (.cells #[.slice am lm km] 27 (0,0))).cell? ⟨(w.alloc (.cells #[.slice am lm km,.slice aA lA kA,.slice aB lB kB] 29 (0,0))).heap.size,1,none⟩=some _:=(((Keep.refl Nope _).alloc _).alloc _).cel (cell_newI (w.alloc (.cells #[.slice am lm km,.slice aA lA kA,.slice aB lB kB] 29 (0,0))) #[.slice ax lx kx,.slice ay ly ky,.slice az lz kz] 49 1 _ rfl) id
 have c3_20:((((w.alloc (.cells #[.slice am lm km,.slice aA lA kA,.slice aB lB kB] 29 (0,0))).alloc (.cells #[.slice ax lx kx,.slice ay ly ky,.slice az lz kz] 49 (0,0))).alloc (.cells #[.slice none 0 0,.slice none 0 0,.bool false] 31 (0,0))).alloc (.cells #[.slice am lm km] 27 (0,0))).cell? ⟨(w.alloc (.cells #[.slice am lm km,.slice aA lA kA,.slice aB lB kB] 29 (0,0))).heap.size,2,none⟩=some _:=(((Keep.refl Nope _).alloc _).alloc _).cel (cell_newI (w.alloc (.cells #[.slice am lm km,.slice aA lA kA,.slice aB lB kB] 29 (0,0))) #[.slice ax lx kx,.slice ay ly ky,.slice az lz kz] 49 2 _ rfl) id
 have c5_00:((((w.alloc (.cells #[.slice am lm km,.slice aA lA kA,.slice aB lB kB] 29 (0,0))).alloc (.cells #[.slice ax lx kx,.slice ay ly ky,.slice az lz kz] 49 (0,0))).alloc (.cells #[.slice none 0 0,.slice none 0 0,.bool false] 31 (0,0))).alloc (.cells #[.slice am lm km] 27 (0,0))).cell? ⟨(((w.alloc (.cells #[.slice am lm km,.slice aA lA kA,.slice aB lB kB] 29 (0,0))).alloc (.cells #[.slice ax lx kx,.slice ay ly ky,.slice az lz kz] 49 (0,0))).alloc (.cells #[.slice none 0 0,.slice none 0 0,.bool false] 31 (0,0))).heap.size,0,none⟩=some _:=(Keep.refl Nope _).cel (cell_newI (((w.alloc (.cells #[.slice am lm km,.slice aA lA kA,.slice aB lB kB] 29 (0,0))).alloc (.cells #[.slice ax lx kx,.slice ay ly ky,.slice az lz kz] 49 (0,0))).alloc (.cells #[.slice none 0 0,.slice none 0 0,.bool false] 31 (0,0))) #[.slice am lm km] 27 0 _ rfl) id
 have h4:Thr ((((w.alloc (.cells #[.slice am lm km,.slice aA lA kA,.slice aB lB kB] 29 (0,0))).alloc (.cells #[.slice ax lx kx,.slice ay ly ky,.slice az lz kz] 49 (0,0))).alloc (.cells #[.slice none 0 0,.slice none 0 0,.bool false] 31 (0,0))).alloc (.cells #[.slice am lm km] 27 (0,0))) ((w.alloc (.cells #[.slice am lm km,.slice aA lA kA,.slice aB lB kB] 29 (0,0))).alloc (.cells #[.slice ax lx kx,.slice ay ly ky,.slice az lz kz] 49 (0,0))).heap.size (.slice none 0 0) (.slice none 0 0) (.bool false):=(Thr.new ((w.alloc (.cells #[.slice am lm km,.slice aA lA kA,.slice aB lB kB] 29 (0,0))).alloc (.cells #[.slice ax lx kx,.slice ay ly ky,.slice az lz kz] 49 (0,0))) _ _ _ 31).nope ((Keep.refl Nope _).alloc _)
 simp only [alloc_size] at c3_00 c3_10 c3_20 c5_00 h4
 have B1:Hid (Bs p ((((w.alloc (.cells #[.slice am lm km,.slice aA lA kA,.slice aB lB kB] 29 (0,0))).alloc (.cells #[.slice ax lx kx,.slice ay ly ky,.slice az lz kz] 49 (0,0))).alloc (.cells #[.slice none 0 0,.slice none 0 0,.bool false] 31 (0,0))).alloc (.cells #[.slice am lm km] 27 (0,0))) am lm km _):=h.nope k1
 have K1:Hid (Keep _ _ _):=k1
 have H4:Hid (Thr _ _ _ _ _):=h4
 clear k1 h h4
 go_enter Tryz.func20,Tryz.ntmps20
 go_wp2_with fail
 generalize hw1:((((w.alloc (.cells #[.slice am lm km,.slice aA lA kA,.slice aB lB kB] 29 (0,0))).alloc (.cells #[.slice ax lx kx,.slice ay ly ky,.slice az lz kz] 49 (0,0))).alloc (.cells #[.slice none 0 0,.slice none 0 0,.bool false] 31 (0,0))).alloc (.cells #[.slice am lm km] 27 (0,0)))=w1 at *
 generalize hq2:w.heap.size=q2 at *
 generalize hq3:q2+1=q3 at *
 generalize hq4:q3+1=q4 at *
 generalize hq5:q4+1=q5 at *
 have HQ:Hid (w.heap.size≤q4):=by show _≤_;omega
 clear hw1 hq2 hq3 hq4 hq5
 have K0:Hid (Keep Nope w1 w1):=Keep.refl _ _
 refine(invF (p:=p) (oo B1) (tl2 (.head _))).mono ?_
 rintro e w11 ⟨a11,l11,k11,rfl,hb,kk⟩
 obtain⟨x11,ex⟩:∃xx,Ec.inv z=xx:=⟨_,rfl⟩
 rw [ex] at hb
 have B11:Hid (Bs p w11 am lm km _):=hb
 have K11:Hid (Keep Nope w1 w11):=(oo K0).trans kk
 have E11:Hid _:=ex
 clear hb kk ex
 have c3_0:=(oo K11).cel c3_00 id
 have c3_1:=(oo K11).cel c3_10 id
 have c3_2:=(oo K11).cel c3_20 id
 have c5_0:=(oo K11).cel c5_00 id
 go_wp2_with fail
 refine(mulF (p:=p) (oo B11) (.head _) (.head _)).mono ?_
 rintro e w12 ⟨a12,l12,k12,rfl,hb,kk⟩
 obtain⟨x12,ex⟩:∃xx,x11*x11=xx:=⟨_,rfl⟩
 rw [ex] at hb
 have B12:Hid (Bs p w12 am lm km _):=hb
 have K12:Hid (Keep Nope w1 w12):=(oo K11).trans kk
 have E12:Hid _:=ex
 clear hb kk ex
 clear c3_0 c3_1 c3_2 c5_0
 go_wp2_with fail
 refine RS (fun w'=>Keep Nope w1 w') [0,2,5,7,8] ?_
 have HS:(fun w':World=>Keep Nope w1 w') w12.drew:=(oo K12).drew
 refine AL 0 HS ?_ (hy:=fun w2 hw2=>by have c5_0:=Keep.cel hw2 c5_00 id;go_simp;all_goals (with_reducible rfl))
 refine AP 1 ?_
 refine AL 2 HS ?_ (hy:=fun w2 hw2=>by have c3_0:=Keep.cel hw2 c3_00 id;go_simp;all_goals (with_reducible rfl))
 refine AP 3 ?_
 refine AL 5 HS ?_ (hy:=fun w2 hw2=>by have c5_0:=Keep.cel hw2 c5_00 id;go_simp;all_goals (with_reducible rfl))
 refine AP 6 ?_
 refine AL 7 HS ?_ (hy:=fun w2 hw2=>by have c3_1:=Keep.cel hw2 c3_10 id;go_simp;all_goals (with_reducible rfl))
 refine AL 8 HS ?_ (hy:=fun w2 hw2=>by have c5_0:=Keep.cel hw2 c5_00 id;go_simp;all_goals (with_reducible rfl))
 refine AP 9 ?_
 refine AP 10 ?_
 refine RO 4 (fun K hK=>?_)
 go_simp
 refine(mulF (p:=p) ((oo B12).nope ((Keep.refl _ _).drew)) (tl2 (.head _)) (.head _)).mono ?_
 rintro e w13 ⟨a13,l13,k13,rfl,hb,kk⟩
 have kk:=kk.undrew
 obtain⟨x13,ex⟩:∃xx,x*x12=xx:=⟨_,rfl⟩
 rw [ex] at hb
 have B13:Hid (Bs p w13 am lm km _):=hb
 have K13:Hid (Keep Nope w1 w13):=(oo K12).trans kk
 have E13:Hid _:=ex
 clear hb kk ex
 refine hK.out _ _ (.inr (oo K13)) ?_
 clear hK K HS
 try simp only [Act.put,Ls2,Ls0,Ls1]
 refine RO 11 (fun K hK=>?_)
 go_simp
 refine(mulF (p:=p) (oo B13) (.tail _ (.head _)) (tl2 (.head _))).mono ?_
 rintro e w14 ⟨a14,l14,k14,rfl,hb,kk⟩
 obtain⟨x14,ex⟩:∃xx,x12*x11=xx:=⟨_,rfl⟩
 rw [ex] at hb
 have B14:Hid (Bs p w14 am lm km _):=hb
 have K14:Hid (Keep Nope w1 w14):=(oo K13).trans kk
 have E14:Hid _:=ex
 clear hb kk ex
 refine hK.out _ _ (.inr (oo K14)) ?_
 clear hK K
 try simp only [Act.put,Ls2,Ls0,Ls1]
 refine RO 12 (fun K hK=>?_)
 go_simp
 refine(mulF (p:=p) (oo B14) (tl5 (.head _)) (.head _)).mono ?_
 rintro e w15 ⟨a15,l15,k15,rfl,hb,kk⟩
 obtain⟨x15,ex⟩:∃xx,y*x14=xx:=⟨_,rfl⟩
 rw [ex] at hb
 have B15:Hid (Bs p w15 am lm km _):=hb
 have K15:Hid (Keep Nope w1 w15):=(oo K14).trans kk
 have E15:Hid _:=ex
 clear hb kk ex
 refine hK.out _ _ (.inr (oo K15)) ?_
 clear hK K
 refine AP 13 ?_
 obtain⟨d0,d1,d2,df⟩:=((oo H4).nope (oo K15)).cells
 have df0:=df 0
 have df1:=df 1
 have df2:=df 2
 clear df
 try simp only [Act.put,Ls2,Ls0,Ls1]
 refine RO 14 (fun K hK=>?_)
 go_simp
 refine hK.out _ _ (.inl (by kernel_rfl)) ?_
 clear hK K d0 d1 d2 df0 df1 df2
 try simp only [Act.put,Ls2,Ls0,Ls1,List.getElem_toArray,List.getElem_cons_succ,List.getElem_cons_zero]
 refine AnyL_done (by kernel_rfl) ?_
 have hT:=((oo H4).nope (oo K15)).set3 (.slice a13 l13 k13) (.slice a15 l15 k15) (.bool false)
 have hkk:Keep (·=q4) w15 (((w15.setCell ⟨q4,0,none⟩ (.slice a13 l13 k13)).setCell ⟨q4,1,none⟩ (.slice a15 l15 k15)).setCell ⟨q4,2,none⟩ (.bool false)):=(((Keep.refl (·=q4) w15).setCell (p:=⟨q4,0,none⟩) rfl _).setCell (p:=⟨q4,1,none⟩) rfl _).setCell (p:=⟨q4,2,none⟩) rfl _
 generalize (((w15.setCell ⟨q4,0,none⟩ (.slice a13 l13 k13)).setCell ⟨q4,1,none⟩ (.slice a15 l15 k15)).setCell ⟨q4,2,none⟩ (.bool false))=wz at *
 obtain⟨TT,hTT⟩:=hT
 go_wp2_with fail
 (try simp only [Exit.inBlock,Exit.then])
 refine bodyPost_ret (results_cell_row rfl _ _ q4 TT #[.slice a13 l13 k13,.slice a15 l15 k15,.bool false] (0,0) _ rfl hTT Tryz.underlying31 rfl (by kernel_rfl)) rfl ?_
 have hB:=(oo B15).other2 ((oo H4).nope (oo K15)) hkk
 obtain rfl:=oo E11
 obtain rfl:=oo E12
 obtain rfl:=oo E13
 obtain rfl:=oo E14
 obtain rfl:=oo E15
 refine⟨_,_,_,_,_,_,rfl,hB.sub ?_,((oo K1).trans (oo K15)).fresh hkk HQ.out⟩
 intro d hd
 rcases List.mem_cons.1 hd with rfl | hd
 ·exact(tl2 (.head _))
 rcases List.mem_cons.1 hd with rfl | hd
 ·exact(.head _)
 exact .tail _ (tl4 (hd))
end Go.Proofs.YtofkehhflkdabaaGreatDoor
