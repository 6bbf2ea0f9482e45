/- A part of the proof of FnCurveOf. -/
import Derived.Test.YtofkehhflkdabaaGreatDoorP23
set_option maxRecDepth 100000
set_option maxHeartbeats 8000000
namespace Go.Proofs.YtofkehhflkdabaaGreatDoor
open Go Go.RowKit
theorem add3_any {p:Nat} [NeZero p] (w:World) (am:Option Addr) (lm km:Nat) (L:List (Dv p)) (aA aB ax ay az au av aw:Option Addr) (lA kA lB kB lx kx ly ky lz kz lu ku lv kv lw kw:Nat) (A x y z u v t:Fin p) (h:Bs p w am lm km (⟨aA,lA,kA,A⟩::⟨ax,lx,kx,x⟩::⟨ay,ly,ky,y⟩::⟨az,lz,kz,z⟩::⟨au,lu,ku,u⟩::⟨av,lv,kv,v⟩::⟨aw,lw,kw,t⟩::L)) :
  Calls Tryz.prog 19 #[.agg #[.slice am lm km,.slice aA lA kA,.slice aB lB kB],.agg #[.slice ax lx kx,.slice ay ly ky,.slice az lz kz],.agg #[.slice au lu ku,.slice av lv kv,.slice aw lw kw]] w (TriPost p w am lm km (⟨aA,lA,kA,A⟩::⟨ax,lx,kx,x⟩::⟨ay,ly,ky,y⟩::⟨az,lz,kz,z⟩::⟨au,lu,ku,u⟩::⟨av,lv,kv,v⟩::⟨aw,lw,kw,t⟩::L) (Ec.jadd A ⟨x,y,z⟩ ⟨u,v,t⟩)):=by
 by_cases hz:z=0
 ·have hj:Ec.jadd A ⟨x,y,z⟩ ⟨u,v,t⟩=⟨u,v,t⟩:=by rw [Ec.jadd,if_pos hz]
  obtain rfl:=h.len_eq (tl3 (.head _)) hz
  rw [hj]
  have H:Hid (Bs p w am lm km _):=h
  clear h
  go_enter Tryz.func19,Tryz.ntmps19
  go_wp2_with fail
  try simp only [Exit.inBlock,Exit.then]
  refine bodyPost_ret (results_cell_row rfl _ _ (w.heap.size+1+1+1) 49 #[.slice au lu ku,.slice av lv kv,.slice aw lw kw] (0,0) _ rfl ?_ Tryz.underlying49 rfl (by kernel_rfl)) rfl ?_
  ·rw [← alloc_size w (.cells #[.slice am lm km,.slice aA lA kA,.slice aB lB kB] 29 (0,0)),← alloc_size (w.alloc (.cells #[.slice am lm km,.slice aA lA kA,.slice aB lB kB] 29 (0,0))) (.cells #[.slice ax lx kx,.slice ay ly ky,.slice az 0 kz] 49 (0,0)),← alloc_size ((w.alloc (.cells #[.slice am lm km,.slice aA lA kA,.slice aB lB kB] 29 (0,0))).alloc (.cells #[.slice ax lx kx,.slice ay ly ky,.slice az 0 kz] 49 (0,0))) (.cells #[.slice au lu ku,.slice av lv kv,.slice aw lw kw] 49 (0,0))]
   exact blk_new ((Keep.refl Nope _).alloc _)
  have k:=(((((Keep.refl Nope w).alloc (.cells #[.slice am lm km,.slice aA lA kA,.slice aB lB kB] 29 (0,0))).alloc (.cells #[.slice ax lx kx,.slice ay ly ky,.slice az 0 kz] 49 (0,0))).alloc (.cells #[.slice au lu ku,.slice av lv kv,.slice aw lw kw] 49 (0,0))).alloc (.cells #[.slice au lu ku,.slice av lv kv,.slice aw lw kw] 49 (0,0))).alloc (.cells #[.slice am lm km] 27 (0,0))
  have hb:=(oo H).nope k
  refine⟨_,_,_,_,_,_,_,_,_,rfl,hb.sub ?_,k⟩
  intro d hd
  rcases List.mem_cons.1 hd with rfl | hd
  ·exact(tl4 (.head _))
  rcases List.mem_cons.1 hd with rfl | hd
  ·exact(tl5 (.head _))
  rcases List.mem_cons.1 hd with rfl | hd
  ·exact(tl6 (.head _))
  exact hd
 ·by_cases ht:t=0
  ·have hj:Ec.jadd A ⟨x,y,z⟩ ⟨u,v,t⟩=⟨x,y,z⟩:=by rw [Ec.jadd,if_neg hz,if_pos ht]
   have t1:((lz:Int)==0)=false:=h.len_ne (tl3 (.head _)) hz
   obtain rfl:=h.len_eq (tl6 (.head _)) ht
   rw [hj]
   have H:Hid (Bs p w am lm km _):=h
   clear h
   go_enter Tryz.func19,Tryz.ntmps19
   go_wp2_with fail
   try simp only [Exit.inBlock,Exit.then]
   refine bodyPost_ret (results_cell_row rfl _ _ (w.heap.size+1+1+1) 49 #[.slice ax lx kx,.slice ay ly ky,.slice az lz kz] (0,0) _ rfl ?_ Tryz.underlying49 rfl (by kernel_rfl)) rfl ?_
   ·rw [← alloc_size w (.cells #[.slice am lm km,.slice aA lA kA,.slice aB lB kB] 29 (0,0)),← alloc_size (w.alloc (.cells #[.slice am lm km,.slice aA lA kA,.slice aB lB kB] 29 (0,0))) (.cells #[.slice ax lx kx,.slice ay ly ky,.slice az lz kz] 49 (0,0)),← alloc_size ((w.alloc (.cells #[.slice am lm km,.slice aA lA kA,.slice aB lB kB] 29 (0,0))).alloc (.cells #[.slice ax lx kx,.slice ay ly ky,.slice az lz kz] 49 (0,0))) (.cells #[.slice au lu ku,.slice av lv kv,.slice aw 0 kw] 49 (0,0))]
    exact blk_new ((Keep.refl Nope _).alloc _)
   have k:=(((((Keep.refl Nope w).alloc (.cells #[.slice am lm km,.slice aA lA kA,.slice aB lB kB] 29 (0,0))).alloc (.cells #[.slice ax lx kx,.slice ay ly ky,.slice az lz kz] 49 (0,0))).alloc (.cells #[.slice au lu ku,.slice av lv kv,.slice aw 0 kw] 49 (0,0))).alloc (.cells #[.slice ax lx kx,.slice ay ly ky,.slice az lz kz] 49 (0,0))).alloc (.cells #[.slice am lm km] 27 (0,0))
   have hb:=(oo H).nope k
   refine⟨_,_,_,_,_,_,_,_,_,rfl,hb.sub ?_,k⟩
   intro d hd
   rcases List.mem_cons.1 hd with rfl | hd
   ·exact(.tail _ (.head _))
   rcases List.mem_cons.1 hd with rfl | hd
   ·exact(tl2 (.head _))
   rcases List.mem_cons.1 hd with rfl | hd
   ·exact(tl3 (.head _))
   exact hd
  ·exact add_ne w am lm km L aA aB ax ay az au av aw lA kA lB kB lx kx ly ky lz kz lu ku lv kv lw kw A x y z u v t h hz ht
section
variable {P:Program} {md:Region.Mode} {ops:Array Oper} {Q:Exit→Act→World→Prop} {S:World→Prop}
theorem two_alloc {ls:List Nat} {f:Nat} (call:Nat→Nat) (i4 i5:Nat) (L:Nat→Bool→Bool→Array Bool) (J:Nat→Bool→Bool→Act→World→Prop)
  (hr:∀c x y,c≤2→¬(c=2∧x=true∧y=true)→∀i∈Region.ready md ops (L c x y),(c<2∧i=call c)∨(x=false∧i=i4)∨(y=false∧i=i5))
  (hn:∀c x y,c≤2→(c=2∧x=true∧y=true)∨Region.ready md ops (L c x y)≠[])
  (lC:∀c x y,c<2→(L c x y).setIfInBounds (call c) true=L (c+1) x y) (lA:∀c y,c≤2→(L c false y).setIfInBounds i4 true=L c true y) (lB:∀c x,c≤2→(L c x false).setIfInBounds i5 true=L c x true)
  (sC:∀c x y a v,c<2→J c x y a v→wpOp P ops Q (call c) (fun a' v'=>S v'∧J (c+1) x y a' v') a v)
  (sA:∀c y a v,c≤2→J c false y a v→wpOp P ops Q i4 (fun a' v'=>S v'∧J c true y a' v') a v)
  (sB:∀c x a v,c≤2→J c x false a v→wpOp P ops Q i5 (fun a' v'=>S v'∧J c x true a' v') a v)
  (fin:∀a v,J 2 true true a v→AnyL P md ops Q S ls f (L 2 true true) a v) :
  ∀n c x y a v,c≤2→(2-c)+(if x then 0 else 1)+(if y then 0 else 1)=n→J c x y a v→AnyL P md ops Q S ls (f+n) (L c x y) a v:=by
 intro n
 induction n with
 | zero=>
  intro c x y a v hc h0 h
  have hc2:c=2:=by omega
  subst hc2
  cases x<;>cases y<;>simp at h0
  exact fin a v h
 | succ n ih=>
  intro c x y a v hc h0 h
  refine⟨fun he=>?_,fun i hi=>?_⟩
  ·rcases hn c x y hc with⟨rfl,rfl,rfl⟩ | h'
   ·simp at h0
   ·exact absurd he h'
  ·rcases hr c x y hc (by rintro ⟨rfl,rfl,rfl⟩;simp at h0) i hi with⟨h1,rfl⟩ | ⟨rfl,rfl⟩ | ⟨rfl,rfl⟩
   ·refine wpOp_mono (fun a' v' h'=>⟨.inr (.inr h'.1),?_⟩) (sC c x y a v h1 h)
    rw [lC c x y h1]
    exact ih (c+1) x y a' v' (by omega) (by omega) h'.2
   ·refine wpOp_mono (fun a' v' h'=>⟨.inr (.inr h'.1),?_⟩) (sA c y a v hc h)
    rw [lA c y hc]
    exact ih c true y a' v' hc (by simp at h0 ⊢;omega) h'.2
   ·refine wpOp_mono (fun a' v' h'=>⟨.inr (.inr h'.1),?_⟩) (sB c x a v hc h)
    rw [lB c x hc]
    exact ih c x true a' v' hc (by simp at h0 ⊢;omega) h'.2
end
def TV (p:Nat) (w:World) (s:Value) (T:Ec.Tri p):Prop:=
 ∃a1 l1 k1 a2 l2 k2 a3 l3 k3,s = .agg #[.slice a1 l1 k1,.slice a2 l2 k2,.slice a3 l3 k3]∧(IsB w a1 l1 k1 T.x.val∧l1<1000)∧(IsB w a2 l2 k2 T.y.val∧l2<1000)∧(IsB w a3 l3 k3 T.z.val∧l3<1000)
theorem TV.nope {p:Nat} {w w':World} {s:Value} {T:Ec.Tri p} (h:TV p w s T) (k:Keep Nope w w'):TV p w' s T:=by
 obtain⟨a1,l1,k1,a2,l2,k2,a3,l3,k3,rfl,h1,h2,h3⟩:=h
 exact⟨a1,l1,k1,a2,l2,k2,a3,l3,k3,rfl,⟨h1.1.nope k,h1.2⟩,⟨h2.1.nope k,h2.2⟩,⟨h3.1.nope k,h3.2⟩⟩
theorem Bs.tv {p:Nat} {w:World} {am a1 a2 a3:Option Addr} {lm km l1 k1 l2 k2 l3 k3:Nat} {L:List (Dv p)} {T:Ec.Tri p} (h:Bs p w am lm km (⟨a1,l1,k1,T.x⟩::⟨a2,l2,k2,T.y⟩::⟨a3,l3,k3,T.z⟩::L)):TV p w (.agg #[.slice a1 l1 k1,.slice a2 l2 k2,.slice a3 l3 k3]) T:=
 ⟨a1,l1,k1,a2,l2,k2,a3,l3,k3,rfl,h.all _ (.head _),h.all _ (.tail _ (.head _)),h.all _ (tl2 (.head _))⟩
theorem Bs.addT {p:Nat} {w:World} {am a1 a2 a3:Option Addr} {lm km l1 k1 l2 k2 l3 k3:Nat} {L:List (Dv p)} {x1 x2 x3:Fin p} (h:Bs p w am lm km L) (h1:IsB w a1 l1 k1 x1.val∧l1<1000) (h2:IsB w a2 l2 k2 x2.val∧l2<1000) (h3:IsB w a3 l3 k3 x3.val∧l3<1000) :
  Bs p w am lm km (⟨a1,l1,k1,x1⟩::⟨a2,l2,k2,x2⟩::⟨a3,l3,k3,x3⟩::L):=
 ⟨h.mod,h.ml,h.two,fun d hd=>by
  rcases List.mem_cons.1 hd with rfl | hd
  ·exact h1
  rcases List.mem_cons.1 hd with rfl | hd
  ·exact h2
  rcases List.mem_cons.1 hd with rfl | hd
  ·exact h3
  exact h.all d hd⟩
def TB (p:Nat) (w:World) (q:Nat) (T:Ec.Tri p):Prop:=
 ∃a1 l1 k1 a2 l2 k2 a3 l3 k3,Thr w q (.slice a1 l1 k1) (.slice a2 l2 k2) (.slice a3 l3 k3)∧(IsB w a1 l1 k1 T.x.val∧l1<1000)∧(IsB w a2 l2 k2 T.y.val∧l2<1000)∧(IsB w a3 l3 k3 T.z.val∧l3<1000)
def SB (w:World) (q:Nat):Prop:=∃a1 l1 k1 a2 l2 k2 a3 l3 k3,Thr w q (.slice a1 l1 k1) (.slice a2 l2 k2) (.slice a3 l3 k3)
theorem TB.sb {p:Nat} {w:World} {q:Nat} {T:Ec.Tri p} (h:TB p w q T):SB w q:=by
 obtain⟨a1,l1,k1,a2,l2,k2,a3,l3,k3,h,_⟩:=h
 exact⟨a1,l1,k1,a2,l2,k2,a3,l3,k3,h⟩
theorem SB.nope {w w':World} {q:Nat} (h:SB w q) (k:Keep Nope w w'):SB w' q:=by
 obtain⟨a1,l1,k1,a2,l2,k2,a3,l3,k3,h⟩:=h
 exact⟨a1,l1,k1,a2,l2,k2,a3,l3,k3,h.nope k⟩
theorem SB.in {w:World} {q:Nat} (h:SB w q):q<w.heap.size:=by
 obtain⟨a1,l1,k1,a2,l2,k2,a3,l3,k3,h⟩:=h
 exact h.inHeap
theorem SB.keep {w w':World} {q b:Nat} (h:SB w q) (k:Keep (·=b) w w') (hne:q≠b):SB w' q:=by
 obtain⟨a1,l1,k1,a2,l2,k2,a3,l3,k3,h⟩:=h
 exact⟨a1,l1,k1,a2,l2,k2,a3,l3,k3,h.keep k hne⟩
theorem IsB.sb {w w':World} {a:Option Addr} {len cap N b:Nat} (hb:IsB w a len cap N) (h:SB w b) (k:Keep (·=b) w w'):IsB w' a len cap N:=by
 obtain⟨a1,l1,k1,a2,l2,k2,a3,l3,k3,h⟩:=h
 exact hb.other h k
theorem Bs.sb {p:Nat} {w w':World} {am:Option Addr} {lm km b:Nat} {L:List (Dv p)} (hb:Bs p w am lm km L) (h:SB w b) (k:Keep (·=b) w w'):Bs p w' am lm km L:=
 ⟨hb.mod.sb h k,hb.ml,hb.two,fun d hd=>⟨(hb.all d hd).1.sb h k,(hb.all d hd).2⟩⟩
theorem TV.sb {p:Nat} {w w':World} {s:Value} {T:Ec.Tri p} {b:Nat} (h:TV p w s T) (hb:SB w b) (k:Keep (·=b) w w'):TV p w' s T:=by
 obtain⟨a1,l1,k1,a2,l2,k2,a3,l3,k3,rfl,h1,h2,h3⟩:=h
 exact⟨a1,l1,k1,a2,l2,k2,a3,l3,k3,rfl,⟨h1.1.sb hb k,h1.2⟩,⟨h2.1.sb hb k,h2.2⟩,⟨h3.1.sb hb k,h3.2⟩⟩
theorem TB.nope {p:Nat} {w w':World} {q:Nat} {T:Ec.Tri p} (h:TB p w q T) (k:Keep Nope w w'):TB p w' q T:=by
 obtain⟨a1,l1,k1,a2,l2,k2,a3,l3,k3,h,h1,h2,h3⟩:=h
 exact⟨a1,l1,k1,a2,l2,k2,a3,l3,k3,h.nope k,⟨h1.1.nope k,h1.2⟩,⟨h2.1.nope k,h2.2⟩,⟨h3.1.nope k,h3.2⟩⟩
theorem TB.keep {p:Nat} {w w':World} {q b:Nat} {T:Ec.Tri p} (h:TB p w q T) (hb:SB w b) (k:Keep (·=b) w w') (hne:q≠b):TB p w' q T:=by
 obtain⟨a1,l1,k1,a2,l2,k2,a3,l3,k3,h,h1,h2,h3⟩:=h
 exact⟨a1,l1,k1,a2,l2,k2,a3,l3,k3,h.keep k hne,⟨h1.1.sb hb k,h1.2⟩,⟨h2.1.sb hb k,h2.2⟩,⟨h3.1.sb hb k,h3.2⟩⟩
theorem keep_set3 (w:World) (q:Nat) (u v x:Value):Keep (·=q) w (((w.setCell ⟨q,0,none⟩ u).setCell ⟨q,1,none⟩ v).setCell ⟨q,2,none⟩ x):=
 (((Keep.refl (·=q) w).setCell (p:=⟨q,0,none⟩) rfl _).setCell (p:=⟨q,1,none⟩) rfl _).setCell (p:=⟨q,2,none⟩) rfl _
theorem SB.set3 {p:Nat} {w:World} {q:Nat} {T:Ec.Tri p} {u v x:Value} (h:SB w q) (ht:TV p w (.agg #[u,v,x]) T):TB p (((w.setCell ⟨q,0,none⟩ u).setCell ⟨q,1,none⟩ v).setCell ⟨q,2,none⟩ x) q T:=by
 have h0:=h
 obtain⟨b1,m1,n1,b2,m2,n2,b3,m3,n3,h⟩:=h
 obtain⟨a1,l1,k1,a2,l2,k2,a3,l3,k3,e,h1,h2,h3⟩:=ht.sb h0 (keep_set3 w q u v x)
 simp only [Value.agg.injEq,Array.mk.injEq,List.cons.injEq,and_true] at e
 obtain⟨rfl,rfl,rfl⟩:=e
 exact⟨a1,l1,k1,a2,l2,k2,a3,l3,k3,h.set3 _ _ _,h1,h2,h3⟩
theorem SB.cells {w:World} {q:Nat} (h:SB w q):∃u v x,w.cell? ⟨q,0,none⟩=some u∧w.cell? ⟨q,1,none⟩=some v∧w.cell? ⟨q,2,none⟩=some x∧w.frozen? ⟨q,0,none⟩=false∧w.frozen? ⟨q,1,none⟩=false∧w.frozen? ⟨q,2,none⟩=false:=by
 obtain⟨a1,l1,k1,a2,l2,k2,a3,l3,k3,h⟩:=h
 obtain⟨d0,d1,d2,df⟩:=h.cells
 exact⟨_,_,_,d0,d1,d2,df 0,df 1,df 2⟩
theorem timesG {p:Nat} [NeZero p] (w:World) (am:Option Addr) (lm km:Nat) (L:List (Dv p)) (aA aB ax ay an:Option Addr) (lA kA lB kB lx kx ly ky ln kn:Nat) (A x y:Fin p) (E:Nat) (h:Bs p w am lm km (⟨ax,lx,kx,x⟩::⟨ay,ly,ky,y⟩::⟨aA,lA,kA,A⟩::L)) (hE:IsB w an ln kn E) (hln:ln<1000)
  (hz:(Ec.jdad A ⟨x,y,1⟩ (16*ln) E).z≠0) :
  Calls Tryz.prog 10 #[.agg #[.slice am lm km,.slice aA lA kA,.slice aB lB kB],.agg #[.slice ax lx kx,.slice ay ly ky,.bool false],.slice an ln kn] w fun e w'=>∃a1 l1 k1 a2 l2 k2,e = .returned (.agg #[.slice a1 l1 k1,.slice a2 l2 k2,.bool false]) ∧
   Bs p w' am lm km (⟨a1,l1,k1,(Ec.jdad A ⟨x,y,1⟩ (16*ln) E).x*(Ec.inv (Ec.jdad A ⟨x,y,1⟩ (16*ln) E).z*Ec.inv (Ec.jdad A ⟨x,y,1⟩ (16*ln) E).z)⟩::⟨a2,l2,k2,(Ec.jdad A ⟨x,y,1⟩ (16*ln) E).y*(Ec.inv (Ec.jdad A ⟨x,y,1⟩ (16*ln) E).z*Ec.inv (Ec.jdad A ⟨x,y,1⟩ (16*ln) E).z*Ec.inv (Ec.jdad A ⟨x,y,1⟩ (16*ln) E).z)⟩::⟨ax,lx,kx,x⟩::⟨ay,ly,ky,y⟩::⟨aA,lA,kA,A⟩::L)∧Keep Nope w w':=by
 have k1:Keep Nope w (((w.alloc (.cells #[.slice am lm km,.slice aA lA kA,.slice aB lB kB] 29 (0,0))).alloc (.cells #[.slice ax lx kx,.slice ay ly ky,.bool false] 31 (0,0))).alloc (.cells #[.slice none 0 0,.slice none 0 0,.bool false] 31 (0,0))):=(((Keep.refl Nope w).alloc _).alloc _).alloc _
 have c3_00:(((w.alloc (.cells #[.slice am lm km,.slice aA lA kA,.slice aB lB kB] 29 (0,0))).alloc (.cells #[.slice ax lx kx,.slice ay ly ky,.bool false] 31 (0,0))).alloc (.cells #[.slice none 0 0,.slice none 0 0,.bool false] 31 (0,0))).cell? ⟨w.heap.size,0,none⟩=some _:=(((Keep.refl Nope _).alloc _).alloc _).cel (cell_newI w #[.slice am lm km,.slice aA lA kA,.slice aB lB kB] 29 0 _ rfl) id
 have c3_10:(((w.alloc (.cells #[.slice am lm km,.slice aA lA kA,.slice aB lB kB] 29 (0,0))).alloc (.cells #[.slice ax lx kx,.slice ay ly ky,.bool false] 31 (0,0))).alloc (.cells #[.slice none 0 0,.slice none 0 0,.bool false] 31 (0,0))).cell? ⟨w.heap.size,1,none⟩=some _:=(((Keep.refl Nope _).alloc _).alloc _).cel (cell_newI w #[.slice am lm km,.slice aA lA kA,.slice aB lB kB] 29 1 _ rfl) id
 have c3_20:(((w.alloc (.cells #[.slice am lm km,.slice aA lA kA,.slice aB lB kB] 29 (0,0))).alloc (.cells #[.slice ax lx kx,.slice ay ly ky,.bool false] 31 (0,0))).alloc (.cells #[.slice none 0 0,.slice none 0 0,.bool false] 31 (0,0))).cell? ⟨w.heap.size,2,none⟩=some _:=(((Keep.refl Nope _).alloc _).alloc _).cel (cell_newI w #[.slice am lm km,.slice aA lA kA,.slice aB lB kB] 29 2 _ rfl) id
 have c4_00:(((w.alloc (.cells #[.slice am lm km,.slice aA lA kA,.slice aB lB kB] 29 (0,0))).alloc (.cells #[.slice ax lx kx,.slice ay ly ky,.bool false] 31 (0,0))).alloc (.cells #[.slice none 0 0,.slice none 0 0,.bool false] 31 (0,0))).cell? ⟨(w.alloc (.cells #[.slice am lm km,.slice aA lA kA,.slice aB lB kB] 29 (0,0))).heap.size,0,none⟩=some _:=((Keep.refl Nope _).alloc _).cel (cell_newI (w.alloc (.cells #[.slice am lm km,.slice aA lA kA,.slice aB lB kB] 29 (0,0))) #[.slice ax lx kx,.slice ay ly ky,.bool false] 31 0 _ rfl) id
 have c4_10:(((w.alloc (.cells #[.slice am lm km,.slice aA lA kA,.slice aB lB kB] 29 (0,0))).alloc (.cells #[.slice ax lx kx,.slice ay ly ky,.bool false] 31 (0,0))).alloc (.cells #[.slice none 0 0,.slice none 0 0,.bool false] 31 (0,0))).cell? ⟨(w.alloc (.cells #[.slice am lm km,.slice aA lA kA,.slice aB lB kB] 29 (0,0))).heap.size,1,none⟩=some _:=((Keep.refl Nope _).alloc _).cel (cell_newI (w.alloc (.cells #[.slice am lm km,.slice aA lA kA,.slice aB lB kB] 29 (0,0))) #[.slice ax lx kx,.slice ay ly ky,.bool false] 31 1 _ rfl) id
 have c4_20:(((w.alloc (.cells #[.slice am lm km,.slice aA lA kA,.slice aB lB kB] 29 (0,0))).alloc (.cells #[.slice ax lx kx,.slice ay ly ky,.bool false] 31 (0,0))).alloc (.cells #[.slice none 0 0,.slice none 0 0,.bool false] 31 (0,0))).cell? ⟨(w.alloc (.cells #[.slice am lm km,.slice aA lA kA,.slice aB lB kB] 29 (0,0))).heap.size,2,none⟩=some _:=((Keep.refl Nope _).alloc _).cel (cell_newI (w.alloc (.cells #[.slice am lm km,.slice aA lA kA,.slice aB lB kB] 29 (0,0))) #[.slice ax lx kx,.slice ay ly ky,.bool false] 31 2 _ rfl) id
 have h6:Thr (((w.alloc (.cells #[.slice am lm km,.slice aA lA kA,.slice aB lB kB] 29 (0,0))).alloc (.cells #[.slice ax lx kx,.slice ay ly ky,.bool false] 31 (0,0))).alloc (.cells #[.slice none 0 0,.slice none 0 0,.bool false] 31 (0,0))) ((w.alloc (.cells #[.slice am lm km,.slice aA lA kA,.slice aB lB kB] 29 (0,0))).alloc (.cells #[.slice ax lx kx,.slice ay ly ky,.bool false] 31 (0,0))).heap.size (.slice none 0 0) (.slice none 0 0) (.bool false):=Thr.new ((w.alloc (.cells #[.slice am lm km,.slice aA lA kA,.slice aB lB kB] 29 (0,0))).alloc (.cells #[.slice ax lx kx,.slice ay ly ky,.bool false] 31 (0,0))) _ _ _ 31
 simp only [alloc_size] at c3_00 c3_10 c3_20 c4_00 c4_10 c4_20 h6
 have H6:Hid (Thr _ _ _ _ _):=h6
 have HE:Hid (IsB w an ln kn E):=hE
 have HZ:Hid (Ec.Tri.z (Ec.jdad A ⟨x,y,1⟩ (16*ln) E)≠0):=hz
 have B1:Hid (Bs p (((w.alloc (.cells #[.slice am lm km,.slice aA lA kA,.slice aB lB kB] 29 (0,0))).alloc (.cells #[.slice ax lx kx,.slice ay ly ky,.bool false] 31 (0,0))).alloc (.cells #[.slice none 0 0,.slice none 0 0,.bool false] 31 (0,0))) am lm km _):=h.nope k1
 have K1:Hid (Keep _ _ _):=k1
 clear k1 h h6 hE hz
 go_enter Tryz.func10,Tryz.ntmps10
 go_wp2_with fail
 generalize hw1:(((w.alloc (.cells #[.slice am lm km,.slice aA lA kA,.slice aB lB kB] 29 (0,0))).alloc (.cells #[.slice ax lx kx,.slice ay ly ky,.bool false] 31 (0,0))).alloc (.cells #[.slice none 0 0,.slice none 0 0,.bool false] 31 (0,0)))=w1 at *
 generalize hq2:w.heap.size=q3 at *
 generalize hq3:q3+1=q4 at *
 generalize hq4:q4+1=q6 at *
 have HQ6:Hid (w.heap.size≤q6):=by show _≤_;omega
 clear hw1 hq2 hq3 hq4
 go_upto_region 1 with fail
 go_cut [7,8] (fun s7 s8 wz=>∃(q7 q8:Nat),s7 = .pointer (some ⟨q7,0,none⟩)∧s8 = .pointer (some ⟨q8,0,none⟩)∧w1.heap.size≤q7∧w1.heap.size≤q8∧q7≠q8∧Keep Nope w1 wz∧TB p wz q7 (⟨1,1,0⟩:Ec.Tri p)∧TB p wz q8 (⟨x,y,1⟩:Ec.Tri p))
 case first=>
  refine RS (fun w'=>Keep Nope w1 w') [2] ?_
  have HS:(fun w':World=>Keep Nope w1 w') w1.drew:=(Keep.refl Nope w1).drew
  refine AP 0 ?_
  refine AL 2 HS ?_ (hy:=fun w2 hw2=>by have c4_0:=Keep.cel hw2 c4_00 id;have c4_1:=Keep.cel hw2 c4_10 id;have c4_2:=Keep.cel hw2 c4_20 id;go_simp;all_goals (with_reducible rfl))
  change AnyL _ _ _ _ (fun w'=>Keep Nope w1 w') [2] (2+4) ((fun c x y=>#[true,decide (1≤c),true,decide (2≤c),x,y,false,false]:Nat→Bool→Bool→Array Bool) 0 false false) ((fun s7 s8 s12 s14=>{ tmps:=#[.agg #[.slice am lm km,.slice aA lA kA,.slice aB lB kB],.agg #[.slice ax lx kx,.slice ay ly ky,.bool false],.slice an ln kn,.pointer (some ⟨q3,0,none⟩),.pointer (some ⟨q4,0,none⟩),undef,.pointer (some ⟨q6,0,none⟩),s7,s8,undef,undef,.agg #[.slice none 0 0,.slice none 0 0,.bool true],s12,.agg #[.slice ax lx kx,.slice ay ly ky,.bool false],s14,undef,undef,undef,undef,undef,undef,undef,undef,undef,undef,undef,undef,undef,undef,undef,undef,undef,undef,undef,undef,undef,undef,undef,undef,undef,undef,undef,undef,undef],defers:=[] }:Value→Value→Value→Value→Act) undef undef undef undef) w1.drew
  obtain⟨A0,hA0⟩:∃A0:Value→Value→Value→Value→Act,A0=(fun s7 s8 s12 s14=>{ tmps:=#[.agg #[.slice am lm km,.slice aA lA kA,.slice aB lB kB],.agg #[.slice ax lx kx,.slice ay ly ky,.bool false],.slice an ln kn,.pointer (some ⟨q3,0,none⟩),.pointer (some ⟨q4,0,none⟩),undef,.pointer (some ⟨q6,0,none⟩),s7,s8,undef,undef,.agg #[.slice none 0 0,.slice none 0 0,.bool true],s12,.agg #[.slice ax lx kx,.slice ay ly ky,.bool false],s14,undef,undef,undef,undef,undef,undef,undef,undef,undef,undef,undef,undef,undef,undef,undef,undef,undef,undef,undef,undef,undef,undef,undef,undef,undef,undef,undef,undef,undef],defers:=[] }):=⟨_,rfl⟩
  rw [← hA0]
  refine two_alloc (fun c=>if c=0 then 1 else 3) 4 5 (fun c x y=>#[true,decide (1≤c),true,decide (2≤c),x,y,false,false])
   (fun c xf yf a v=>∃s7 s8 s12 s14,a=A0 s7 s8 s12 s14∧Keep Nope w1 v∧(1≤c→TV p v s12 (⟨1,1,0⟩:Ec.Tri p))∧(2≤c→TV p v s14 (⟨x,y,1⟩:Ec.Tri p))∧(xf=true→∃q,s7 = .pointer (some ⟨q,0,none⟩)∧SB v q∧w1.heap.size≤q)∧(yf=true→∃q,s8 = .pointer (some ⟨q,0,none⟩)∧SB v q∧w1.heap.size≤q)∧(xf=true→yf=true→s7≠s8))
   ?_ ?_ ?_ ?_ ?_ ?_ ?_ ?_ ?_ 4 0 false false _ _ (by omega) rfl ?_
  ·intro c xf yf hc hno
   rcases(by omega:c=0∨c=1∨c=2) with rfl | rfl | rfl<;>cases xf<;>cases yf<;>first | exact absurd ⟨rfl,rfl,rfl⟩ hno | decide +kernel
  ·intro c xf yf hc
   rcases(by omega:c=0∨c=1∨c=2) with rfl | rfl | rfl<;>cases xf<;>cases yf<;>first | exact .inl ⟨rfl,rfl,rfl⟩ | (right;decide +kernel)
  ·intro c x y hc
   rcases(by omega:c=0∨c=1) with rfl | rfl<;>rfl
  ·intro c y hc;rfl
  ·intro c x hc;rfl
  ·intro c xf yf a v hc hJ
   obtain⟨s7,s8,s12,s14,rfl,hk,h1,h2,h3,h4,h5⟩:=hJ
   have HJ:∀w',Keep Nope v w'→(xf=true→∃q,s7 = .pointer (some ⟨q,0,none⟩)∧SB w' q∧w1.heap.size≤q)∧(yf=true→∃q,s8 = .pointer (some ⟨q,0,none⟩)∧SB w' q∧w1.heap.size≤q):=fun w' kk=>⟨fun hx=>(h3 hx).imp fun q hq=>⟨hq.1,hq.2.1.nope kk,hq.2.2⟩,fun hy=>(h4 hy).imp fun q hq=>⟨hq.1,hq.2.1.nope kk,hq.2.2⟩⟩
   have HJ':Hid _:=HJ
   have H1:Hid _:=h1
   have H5:Hid _:=h5
   clear HJ h1 h2 h3 h4 h5
   subst hA0
   rcases(by omega:c=0∨c=1) with rfl | rfl
   ·refine wpOp_step (i:=1) rfl (fun K' hK'=>?_)
    have hK:Shut _:=hK'
    clear hK'
    go_simp
    refine(infty_any v am lm km _ _ _ ((oo B1).nope hk)).mono ?_
    rintro e w2 ⟨a1,l1,k1,a2,l2,k2,a3,l3,k3,rfl,hb,kk⟩
    refine hK.out _ _ ⟨hk.trans kk,s7,s8,_,s14,rfl,hk.trans kk,fun _=>hb.tv,fun h=>by omega,((oo HJ') w2 kk).1,((oo HJ') w2 kk).2,oo H5⟩
   ·refine wpOp_step (i:=3) rfl (fun K' hK'=>?_)
    have hK:Shut _:=hK'
    clear hK'
    go_simp
    refine(coord_any v am lm km _ ax ay lx kx ly ky x y ((oo B1).nope hk)).mono ?_
    rintro e w2 ⟨a1,l1,k1,a2,l2,k2,a3,l3,k3,rfl,hb,kk⟩
    refine hK.out _ _ ⟨hk.trans kk,s7,s8,s12,_,rfl,hk.trans kk,fun _=>((oo H1) (by omega)).nope kk,fun _=>hb.tv,((oo HJ') w2 kk).1,((oo HJ') w2 kk).2,oo H5⟩
  ·intro c yf a v hc hJ
   obtain⟨s7,s8,s12,s14,rfl,hk,h1,h2,h3,h4,h5⟩:=hJ
   have H1:Hid _:=h1
   have H2:Hid _:=h2
   have H4:Hid _:=h4
   clear h1 h2 h3 h4 h5
   subst hA0
   refine wpOp_step (i:=4) rfl (fun K' hK'=>?_)
   have hK:Shut _:=hK'
   clear hK'
   go_simp
   have kk:Keep Nope v (v.alloc (.cells #[.slice none 0 0,.slice none 0 0,.slice none 0 0] 49 (0,0))):=(Keep.refl Nope v).alloc _
   refine hK.out _ _ ⟨hk.trans kk,_,s8,s12,s14,rfl,hk.trans kk,fun h=>((oo H1) h).nope kk,fun h=>((oo H2) h).nope kk,fun _=>⟨_,rfl,⟨_,_,_,_,_,_,_,_,_,Thr.new v _ _ _ 49⟩,hk.size⟩,fun hy=>((oo H4) hy).imp fun q hq=>⟨hq.1,hq.2.1.nope kk,hq.2.2⟩,?_⟩
   intro _ hy e
   obtain⟨q,hq,hs,_⟩:=(oo H4) hy
   rw [hq] at e
   have:=hs.in
   simp only [Value.pointer.injEq,Option.some.injEq,Addr.mk.injEq,and_true] at e
   omega
  ·intro c xf a v hc hJ
   obtain⟨s7,s8,s12,s14,rfl,hk,h1,h2,h3,h4,h5⟩:=hJ
   have H1:Hid _:=h1
   have H2:Hid _:=h2
   have H3:Hid _:=h3
   clear h1 h2 h3 h4 h5
   subst hA0
   refine wpOp_step (i:=5) rfl (fun K' hK'=>?_)
   have hK:Shut _:=hK'
   clear hK'
   go_simp
   have kk:Keep Nope v (v.alloc (.cells #[.slice none 0 0,.slice none 0 0,.slice none 0 0] 49 (0,0))):=(Keep.refl Nope v).alloc _
   refine hK.out _ _ ⟨hk.trans kk,s7,_,s12,s14,rfl,hk.trans kk,fun h=>((oo H1) h).nope kk,fun h=>((oo H2) h).nope kk,fun hx=>((oo H3) hx).imp fun q hq=>⟨hq.1,hq.2.1.nope kk,hq.2.2⟩,fun _=>⟨_,rfl,⟨_,_,_,_,_,_,_,_,_,Thr.new v _ _ _ 49⟩,hk.size⟩,?_⟩
   intro hx _ e
   obtain⟨q,hq,hs,_⟩:=(oo H3) hx
   rw [hq] at e
   have:=hs.in
   simp only [Value.pointer.injEq,Option.some.injEq,Addr.mk.injEq,and_true] at e
   omega
  ·intro a v hJ
   obtain⟨s7,s8,s12,s14,rfl,hk,h1,h2,h3,h4,h5⟩:=hJ
   have h1:=h1 (by omega)
   have h2:=h2 (by omega)
   obtain⟨q7,rfl,hs7,hq7⟩:=h3 rfl
   obtain⟨q8,rfl,hs8,hq8⟩:=h4 rfl
   have hne:q7≠q8:=fun e=>h5 rfl rfl (by rw [e])
   have T1:Hid (TV p v _ _):=h1
   have T2:Hid (TV p v _ _):=h2
   obtain⟨a1,l1,k1,a2,l2,k2,a3,l3,k3,rfl,-⟩:=h1
   obtain⟨b1,m1,n1,b2,m2,n2,b3,m3,n3,rfl,-⟩:=h2
   subst hA0
   clear h3 h4 h5
   obtain⟨_,_,_,d0,d1,d2,e0,e1,e2⟩:=hs7.cells
   refine RO 6 (fun K hK=>?_)
   go_simp
   clear d0 d1 d2 e0 e1 e2
   have t7:=hs7.set3 (oo T1)
   have kk:=keep_set3 v q7 (.slice a1 l1 k1) (.slice a2 l2 k2) (.slice a3 l3 k3)
   have hs8':=hs8.keep kk (fun e=>hne e.symm)
   have T2':Hid (TV p _ _ _):=(oo T2).sb hs7 kk
   have hk':Keep Nope w1 _:=hk.fresh kk hq7
   generalize ((v.setCell ⟨q7,0,none⟩ (.slice a1 l1 k1)).setCell ⟨q7,1,none⟩ (.slice a2 l2 k2)).setCell ⟨q7,2,none⟩ (.slice a3 l3 k3)=v2 at *
   refine hK.out _ _ (.inr hk') ?_
   clear hK K hs7 hs8 T1 T2
   obtain⟨_,_,_,d0,d1,d2,e0,e1,e2⟩:=hs8'.cells
   refine RO 7 (fun K hK=>?_)
   go_simp
   clear d0 d1 d2 e0 e1 e2
   have t8:=hs8'.set3 (oo T2')
   have kk2:=keep_set3 v2 q8 (.slice b1 m1 n1) (.slice b2 m2 n2) (.slice b3 m3 n3)
   have t7':=t7.keep hs8' kk2 hne
   have hk2:Keep Nope w1 _:=hk'.fresh kk2 hq8
   generalize ((v2.setCell ⟨q8,0,none⟩ (.slice b1 m1 n1)).setCell ⟨q8,1,none⟩ (.slice b2 m2 n2)).setCell ⟨q8,2,none⟩ (.slice b3 m3 n3)=v3 at *
   refine hK.out _ _ (.inr hk2) ?_
   clear hK K
   try simp only [Ls2,Ls0,Ls1]
   refine AnyL_done (by kernel_rfl) ?_
   go_wp2_with fail
   go_meet
   exact⟨q7,q8,rfl,rfl,hq7,hq8,hne,hk2,t7',t8⟩
  ·exact⟨undef,undef,undef,undef,rfl,(Keep.refl Nope w1).drew,fun h=>by omega,fun h=>by omega,fun h=>(by cases h),fun h=>(by cases h),fun h=>(by cases h)⟩
 case rest=>
  obtain⟨q7,q8,rfl,rfl,hq7,hq8,hne,hk,t7,t8⟩:=hcut
  have K2:Hid (Keep Nope w wc):=(oo K1).trans hk
  have h37:q3≠q7:=by have:=World.block_lt_of_cell? w1 _ c3_00;simp only at this;omega
  have h67:q6≠q7:=by have:=(oo H6).inHeap;omega
  have hw7:w.heap.size≤q7:=Nat.le_trans (oo K1).size hq7
  have g30:=hk.cel c3_00 id
  have g31:=hk.cel c3_10 id
  have g32:=hk.cel c3_20 id
  have H6c:Hid (Thr wc q6 (.slice none 0 0) (.slice none 0 0) (.bool false)):=(oo H6).nope hk
  have BC:Hid (Bs p wc am lm km _):=(oo B1).nope hk
  have T8:Hid (TB p wc q8 (⟨x,y,1⟩:Ec.Tri p)):=t8
  have T7:Hid (TB p wc q7 (⟨1,1,0⟩:Ec.Tri p)):=t7
  have hsb:=t7.sb
  have HE2:=(oo HE).nope (oo K2)
  obtain⟨ce,de,ve,-⟩:=HE2
  have HVE:Hid (vb ce 0 ln=E):=ve
  have hdn:∀t b,t<ln→an=some ⟨b,0,none⟩→b≠q7:=by
   rintro t b ht rfl rfl
   obtain⟨b',e,f,_⟩:=de.get t ht
   simp only [Option.some.injEq,Addr.mk.injEq,and_true] at e
   subst e
   obtain⟨a1,l1,k1,a2,l2,k2,a3,l3,k3,hT⟩:=hsb
   exact hT.noInt f
  have HDN:Hid _:=hdn
  have q1:IntKind.i64.wrap ((ln:Int)-1)=(ln:Int)-1:=IntWalk.i64_in _ (by omega)
  clear c3_00 c3_10 c3_20 c4_00 c4_10 c4_20 hk t7 t8 ve H6 B1 hdn hsb
  go_wp2_with fail
  go_loopw [9] (fun s9 wr=>∃i:Nat,s9 = .int .i64 ((i:Int)-1)∧i≤ln∧Keep (·=q7) wc wr∧Hid (TB p wr q7 (Ec.jdad A ⟨x,y,1⟩ (16*ln-16*i) (E / 2^(16*i))))) (fun s9 _=>(intOf s9+1).toNat)
  case atStart=>
   refine⟨ln,rfl,by omega,Keep.refl _ _,?_⟩
   rw [Nat.sub_self]
   exact oo T7
  case round=>
   obtain⟨i,rfl,hi,hk,htb⟩:=hrel
   have HTB:Hid _:=htb
   clear htb
   have f0:=hk.cel g30 h37
   have f1:=hk.cel g31 h37
   have f2:=hk.cel g32 h37
   rcases Nat.eq_zero_or_pos i with h0 | h0
   ·subst h0
    have tb:=oo (oo HTB)
    rw [Nat.mul_zero,Nat.sub_zero,Nat.pow_zero,Nat.div_one] at tb
    have hzz:=HZ.out
    obtain⟨T,hTT⟩:∃T,Ec.jdad A ⟨x,y,1⟩ (16*ln) E=T:=⟨_,rfl⟩
    rw [hTT] at tb hzz
    have HTT:Hid (Ec.jdad A ⟨x,y,1⟩ (16*ln) E=T):=hTT
    have hBs:=((oo BC).sb (oo T7).sb hk)
    obtain⟨a1,l1,k1,a2,l2,k2,a3,l3,k3,hT,i1,i2,i3⟩:=tb
    obtain⟨d0,d1,d2,df⟩:=hT.cells
    have HBS:Hid (Bs p wr am lm km _):=hBs.addT i1 i2 i3
    have HZZ:Hid (T.z≠0):=hzz
    clear hTT hBs i1 i2 i3 df HTB hzz
    go_wp2_with fail
    refine(point_any wr am lm km _ aA aB a1 a2 a3 lA kA lB kB l1 k1 l2 k2 l3 k3 T.x T.y T.z (oo HBS) HZZ.out).mono ?_
    rintro e w5 ⟨b1,m1,n1,b2,m2,n2,rfl,hb,kk⟩
    have h65:=((oo H6c).keep hk h67).nope kk
    have H65:Hid (Thr w5 q6 (.slice none 0 0) (.slice none 0 0) (.bool false)):=h65
    have HB5:Hid (Bs p w5 am lm km _):=hb
    have K5:Hid (Keep Nope w w5):=((oo K2).fresh hk hw7).trans kk
    obtain⟨d0,d1,d2,df⟩:=h65.cells
    have df0:=df 0
    have df1:=df 1
    have df2:=df 2
    clear hb kk h65 df f0 f1 f2 hk
    go_wp2_with fail
    clear d0 d1 d2 df0 df1 df2
    have hT':=(oo H65).set3 (.slice b1 m1 n1) (.slice b2 m2 n2) (.bool false)
    have hkk:=keep_set3 w5 q6 (.slice b1 m1 n1) (.slice b2 m2 n2) (.bool false)
    have hB:=(oo HB5).other2 (oo H65) hkk
    generalize (((w5.setCell ⟨q6,0,none⟩ (.slice b1 m1 n1)).setCell ⟨q6,1,none⟩ (.slice b2 m2 n2)).setCell ⟨q6,2,none⟩ (.bool false))=wz at *
    obtain⟨TT,hTT⟩:=hT'
    (try simp only [Exit.inBlock,Exit.then])
    refine bodyPost_ret (results_cell_row rfl _ _ q6 TT #[.slice b1 m1 n1,.slice b2 m2 n2,.bool false] (0,0) _ rfl hTT Tryz.underlying31 rfl (by kernel_rfl)) rfl ?_
    refine⟨b1,m1,n1,b2,m2,n2,rfl,?_,(oo K5).fresh hkk HQ6.out⟩
    rw [HTT.out]
    refine hB.sub ?_
    intro d hd
    rcases List.mem_cons.1 hd with rfl | hd
    ·exact .head _
    rcases List.mem_cons.1 hd with rfl | hd
    ·exact .tail _ (.head _)
    exact .tail _ (tl4 hd)
   ·obtain⟨t,rfl⟩:∃t,i=t+1:=⟨i-1,by omega⟩
    have et:((t+1:Nat):Int)-1=(t:Int):=by omega
    rw [et]
    have q2:IntKind.i64.wrap ((t:Int)-1)=(t:Int)-1:=IntWalk.i64_in _ (by omega)
    obtain⟨be,rfl,fe,hdl⟩:=de.get t (by omega)
    have hbe:=(oo HDN) t be (by omega) rfl
    obtain⟨d,hd⟩:∃v,ce t=v:=⟨_,rfl⟩
    rw [hd] at fe hdl
    have HD:Hid (ce t=d):=hd
    have tl:t<ln:=by omega
    rw [W16] at hdl
    clear et hd f0 f1 f2
    go_wp2_with fail
    go_loopw [10] (fun s10 wx=>∃j:Nat,s10 = .int .i64 ((j:Int)-1)∧j≤16∧Keep (·=q7) wc wx∧Hid (TB p wx q7 (Ec.jdad A ⟨x,y,1⟩ (16*ln-(16*t+j)) (E / 2^(16*t+j))))) (fun s10 _=>(intOf s10+1).toNat)
    case atStart=>exact⟨16,rfl,by omega,hk,oo HTB⟩
    case round=>
     obtain⟨j,rfl,hj,hk,htb⟩:=hrel
     have HTB2:Hid _:=htb
     clear htb HTB
     rcases Nat.eq_zero_or_pos j with h1 | h1
     ·subst h1
      go_wp2_with fail
      go_roundw
      case rel=>exact⟨t,by go_num,by omega,hk,oo HTB2⟩
      case measure=>simp [intOf]<;>omega
     ·obtain⟨u,rfl⟩:∃u,j=u+1:=⟨j-1,by omega⟩
      have eu:((u+1:Nat):Int)-1=(u:Int):=by omega
      rw [eu]
      have f0:=hk.cel g30 h37
      have f1:=hk.cel g31 h37
      have f2:=hk.cel g32 h37
      have q3':IntKind.i64.wrap ((u:Int)-1)=(u:Int)-1:=IntWalk.i64_in _ (by omega)
      have hbit:=bit_at (j:=u) de.lt tl (by omega)
      rw [HVE.out,HD.out] at hbit
      have hu64:(u:Int)<64:=by omega
      obtain⟨v,hv⟩:∃v,v=d / 2^u:=⟨_,rfl⟩
      have b0:(d:Int) / 2^u=(v:Int):=by rw [hv,Int.natCast_ediv,Int.natCast_pow];rfl
      rw [← hv] at hbit
      obtain⟨T,hTT⟩:∃T,Ec.jdad A ⟨x,y,1⟩ (16*ln-(16*t+(u+1))) (E / 2^(16*t+(u+1)))=T:=⟨_,rfl⟩
      have hstep:Ec.jdad A ⟨x,y,1⟩ (16*ln-(16*t+u)) (E / 2^(16*t+u))=if v%2=1 then Ec.jadd A (Ec.jdbl A T) ⟨x,y,1⟩ else Ec.jdbl A T:=by
       rw [show 16*ln-(16*t+u)=(16*ln-(16*t+(u+1)))+1 from by omega,Ec.jdad,hbit]
       have e1:(2*(E / 2^(16*t+(u+1)))+v%2) / 2=E / 2^(16*t+(u+1)):=by omega
       have e2:(2*(E / 2^(16*t+(u+1)))+v%2)%2=v%2:=by omega
       rw [e1,e2,hTT]
      have HSTEP:Hid _:=hstep
      have tb:=oo (oo HTB2)
      rw [hTT] at tb
      have hBs:=((oo BC).sb (oo T7).sb hk)
      obtain⟨a1,l1,k1,a2,l2,k2,a3,l3,k3,hT,i1,i2,i3⟩:=tb
      have HT:Hid (SB wr q7):=⟨a1,l1,k1,a2,l2,k2,a3,l3,k3,hT⟩
      obtain⟨d0,d1,d2,df⟩:=hT.cells
      have HBS:Hid (Bs p wr am lm km (⟨aA,lA,kA,A⟩::⟨a1,l1,k1,T.x⟩::⟨a2,l2,k2,T.y⟩::⟨a3,l3,k3,T.z⟩::_)):=(hBs.addT i1 i2 i3).sub (L':=⟨aA,lA,kA,A⟩::⟨a1,l1,k1,T.x⟩::⟨a2,l2,k2,T.y⟩::⟨a3,l3,k3,T.z⟩::[]) (by
       intro d hd
       simp only [List.mem_cons,List.not_mem_nil,or_false] at hd
       rcases hd with rfl | rfl | rfl | rfl
       ·exact .tail _ (tl4 (.head _))
       ·exact .head _
       ·exact .tail _ (.head _)
       ·exact .tail _ (.tail _ (.head _)))
      clear hTT hBs i1 i2 i3 df HTB2 hstep hT eu hv
      go_wp2_with fail
      refine(twice_any wr am lm km _ aA aB a1 a2 a3 lA kA lB kB l1 k1 l2 k2 l3 k3 A T.x T.y T.z (oo HBS)).mono ?_
      rintro e w5 ⟨b1,m1,n1,b2,m2,n2,b3,m3,n3,rfl,hb,kk⟩
      have hs5:=(oo HT).nope kk
      have HS5:Hid (SB w5 q7):=hs5
      have HTV:Hid (TV p w5 _ (Ec.jdbl A T)):=hb.tv
      have K5:Hid (Keep (fun k=>k=q7) wc w5):=hk.trans (kk.mono fun _ _ h=>h.elim)
      obtain⟨_,_,_,d0,d1,d2,df0,df1,df2⟩:=hs5.cells
      clear hb kk hs5 f0 f1 f2 hk
      go_upto_region 9 with fail
      clear d0 d1 d2 df0 df1 df2
      have htb6:=(oo HS5).set3 (oo HTV)
      have hkk:=keep_set3 w5 q7 (.slice b1 m1 n1) (.slice b2 m2 n2) (.slice b3 m3 n3)
      generalize (((w5.setCell ⟨q7,0,none⟩ (.slice b1 m1 n1)).setCell ⟨q7,1,none⟩ (.slice b2 m2 n2)).setCell ⟨q7,2,none⟩ (.slice b3 m3 n3))=w6 at *
      have hk6:=(oo K5).trans hkk
      have HTB6:Hid (TB p w6 q7 (Ec.jdbl A T)):=htb6
      have K6:Hid (Keep (fun k=>k=q7) wc w6):=hk6
      have fe6:=hk6.cel fe hbe
      have f0:=hk6.cel g30 h37
      have f1:=hk6.cel g31 h37
      have f2:=hk6.cel g32 h37
      clear htb6 hkk hk6 HS5 HTV
      rcases Nat.mod_two_eq_zero_or_one v with hb | hb
      ·have b1':bits .and .i64 (v:Int) 1=0:=by rw [and1];omega
       have HSS:=HSTEP.out
       rw [if_neg (by omega)] at HSS
       have HS6:Hid _:=HSS
       clear hb HSS HSTEP
       go_wp2_with fail
       go_roundw
       case rel=>
        refine⟨u,by go_num,by omega,oo K6,?_⟩
        rw [HS6.out]
        exact oo HTB6
       case measure=>simp [intOf]<;>omega
      ·have b1':bits .and .i64 (v:Int) 1=1:=by rw [and1];omega
       have HSS:=HSTEP.out
       rw [if_pos hb] at HSS
       have HS6:Hid _:=HSS
       obtain⟨T2,hT2⟩:∃T2,Ec.jdbl A T=T2:=⟨_,rfl⟩
       have tb6:=oo HTB6
       rw [hT2] at tb6
       have HT2:Hid (Ec.jdbl A T=T2):=hT2
       have tb8:=(oo T8).keep (oo T7).sb (oo K6) (fun e=>hne e.symm)
       have hBs:=((oo BC).sb (oo T7).sb (oo K6))
       obtain⟨c1,o1,r1,c2,o2,r2,c3,o3,r3,hT,i1,i2,i3⟩:=tb6
       obtain⟨c4,o4,r4,c5,o5,r5,c6,o6,r6,hT8,i4,i5,i6⟩:=tb8
       have HT:Hid (SB w6 q7):=⟨c1,o1,r1,c2,o2,r2,c3,o3,r3,hT⟩
       obtain⟨d0,d1,d2,-⟩:=hT.cells
       obtain⟨e0,e1,e2,-⟩:=hT8.cells
       have HBS2:Hid (Bs p w6 am lm km (⟨aA,lA,kA,A⟩::⟨c1,o1,r1,T2.x⟩::⟨c2,o2,r2,T2.y⟩::⟨c3,o3,r3,T2.z⟩::⟨c4,o4,r4,x⟩::⟨c5,o5,r5,y⟩::⟨c6,o6,r6,1⟩::[])):=((hBs.addT i4 i5 i6).addT i1 i2 i3).sub (by
        intro d hd
        simp only [List.mem_cons,List.not_mem_nil,or_false] at hd
        rcases hd with rfl | rfl | rfl | rfl | rfl | rfl | rfl
        ·exact .tail _ (tl7 (.head _))
        ·exact .head _
        ·exact .tail _ (.head _)
        ·exact .tail _ (.tail _ (.head _))
        ·exact .tail _ (tl2 (.head _))
        ·exact .tail _ (tl3 (.head _))
        ·exact .tail _ (tl4 (.head _)))
       clear hb HSS HSTEP hBs i1 i2 i3 i4 i5 i6 hT hT8 hT2
       go_wp2_with fail
       refine(add3_any w6 am lm km _ aA aB c1 c2 c3 c4 c5 c6 lA kA lB kB o1 r1 o2 r2 o3 r3 o4 r4 o5 r5 o6 r6 A T2.x T2.y T2.z x y 1 (oo HBS2)).mono ?_
       rintro e w7 ⟨g1,s1,t1,g2,s2,t2,g3,s3,t3,rfl,hb,kk⟩
       have hs7:=(oo HT).nope kk
       have HS7:Hid (SB w7 q7):=hs7
       have HTV:Hid (TV p w7 _ (Ec.jadd A T2 ⟨x,y,1⟩)):=hb.tv
       have K7:Hid (Keep (fun k=>k=q7) wc w7):=(oo K6).trans (kk.mono fun _ _ h=>h.elim)
       clear d0 d1 d2 e0 e1 e2
       obtain⟨_,_,_,d0,d1,d2,df0,df1,df2⟩:=hs7.cells
       clear hb kk hs7 f0 f1 f2 fe6
       go_wp2_with fail
       clear d0 d1 d2 df0 df1 df2
       have htb8:=(oo HS7).set3 (oo HTV)
       have hkk:=keep_set3 w7 q7 (.slice g1 s1 t1) (.slice g2 s2 t2) (.slice g3 s3 t3)
       generalize (((w7.setCell ⟨q7,0,none⟩ (.slice g1 s1 t1)).setCell ⟨q7,1,none⟩ (.slice g2 s2 t2)).setCell ⟨q7,2,none⟩ (.slice g3 s3 t3))=w8 at *
       go_roundw
       case rel=>
        refine⟨u,by go_num,by omega,(oo K7).trans hkk,?_⟩
        rw [HS6.out,HT2.out]
        exact htb8
       case measure=>simp [intOf]<;>omega
structure Dbo (w:World) (a:Option Addr) (len cap:Nat) (c:Nat→Nat):Prop where
 le:len≤cap∧cap≤9223372036854775807
 get:∀i,i<len→∃b o,a=some ⟨b,o,none⟩∧w.cell? ⟨b,o+i,none⟩=some (.int .u8 (c i:Nat))∧c i<256
theorem Db.dbo {w:World} {a:Option Addr} {len cap:Nat} {c:Nat→Nat} (h:Db w a len cap c):Dbo w a len cap c:=
 ⟨h.le,fun i hi=>by obtain⟨b,rfl,h1,h2⟩:=h.get i hi;exact⟨b,0,rfl,by rw [Nat.zero_add];exact h1,h2⟩⟩
theorem Dbo.nope {w w':World} {a:Option Addr} {len cap:Nat} {c:Nat→Nat} (h:Dbo w a len cap c) (k:Keep Nope w w'):Dbo w' a len cap c:=
 ⟨h.le,fun i hi=>by obtain⟨b,o,e,h1,h2⟩:=h.get i hi;exact⟨b,o,e,k.cel h1 id,h2⟩⟩
theorem Dbo.lt {w:World} {a:Option Addr} {len cap:Nat} {c:Nat→Nat} (h:Dbo w a len cap c):∀i,i<len→c i<256:=fun i hi=>by
 obtain⟨_,_,_,_,h⟩:=h.get i hi;exact h
theorem lsb_app (c d:Nat→Nat) (n m:Nat):lsb c n++lsb d m=lsb (fun i=>if i<n then c i else d (i-n)) (n+m):=by
 apply List.ext_getElem?
 intro i
 rcases Nat.lt_or_ge i n with h | h
 ·rw [List.getElem?_append_left (by rw [lsb_len];exact h),lsb_get _ h,lsb_get _ (by omega),if_pos h]
 ·rw [List.getElem?_append_right (by rw [lsb_len];exact h),lsb_len]
  rcases Nat.lt_or_ge (i-n) m with h' | h'
  ·rw [lsb_get _ h',lsb_get _ (by omega),if_neg (by omega)]
  ·rw [List.getElem?_eq_none (by rw [lsb_len];exact h'),List.getElem?_eq_none (by rw [lsb_len];omega)]
theorem Ob.apps {w0 w:World} {v:Value} {n m k:Nat} {c d:Nat→Nat} {b o:Nat} (h:Ob w0 w 5 v n c) (hd:Dbo w (some ⟨b,o,none⟩) m k d) (hn:n<1000000000) (hm:m<1000000000) (ty:TypeId) :
  ∃v' w',(Builtin.append_ #[23,23] ty #[v,.slice (some ⟨b,o,none⟩) m k]).run Tryz.prog w = .ok v' w'∧Ob w0 w' 5 v' (n+m) (fun i=>if i<n then c i else d (i-n))∧w.grownBy w' v.ownBlock:=by
 obtain⟨i,h1,h2,h3,h4⟩:=infoB
 obtain⟨v',w',hr,ho,hg,_⟩:=run_append_own (P:=Tryz.prog) w w0.heap.size 23 ty 5 i (.int .u8 0) 1 1 Tryz.underlying23 h1 h2 h3 h4 rfl (by decide) v n (lsb c n) h.owns ⟨b,o,none⟩ m k (lsb d m) (by rw [lsb_len,Nat.mul_one])
  (fun j u hj=>by
   obtain⟨hj1,hj2⟩:=List.getElem?_eq_some_iff.1 hj
   rw [lsb_len] at hj1
   rw [lsb_get _ hj1] at hj
   obtain⟨b',o',e,hc,_⟩:=hd.get j hj1
   simp only [Option.some.injEq,Addr.mk.injEq,and_true] at e
   obtain⟨rfl,rfl⟩:=e
   rw [Addr.add_lit,← hj];exact hc)
  (fun u hu=>by
   simp only [lsb,List.mem_map] at hu
   obtain⟨_,_,rfl⟩:=hu;rfl) (by unfold maxLen;omega) (by omega) h.keep.size
 refine⟨v',w',hr,⟨by rw [← lsb_app];exact ho,keep_grown h.keep hg (fun k e=>(h.owns.lt k e).1),?_⟩,hg⟩
 intro j hj
 show (if j<n then c j else d (j-n))<256
 split
 ·exact h.lt j (by assumption)
 ·exact hd.lt (j-n) (by omega)
theorem preN_ext {c d:Nat→Nat}:∀n,(∀i,i<n→c i=d i)→preN c n=preN d n
 | 0,_=>rfl
 | n+1,h=>by simp only [preN];rw [preN_ext n (fun i hi=>h i (by omega)),h n (by omega)]
theorem preN_cons (c:Nat→Nat):∀n,preN c (n+1)=c 0*256^n+preN (fun i=>c (i+1)) n
 | 0=>by simp [preN]
 | n+1=>by
  have:=preN_cons c n
  show preN c (n+1)*256+c (n+1)=_
  rw [this]
  simp only [preN,Nat.pow_succ]
  grind
theorem preN_lt {c:Nat→Nat}:∀n,(∀i,i<n→c i<256)→preN c n<256^n
 | 0,_=>by simp [preN]
 | n+1,h=>by
  have h1:=preN_lt n (fun i hi=>h i (by omega))
  have h2:=h n (by omega)
  simp only [preN,Nat.pow_succ]
  omega
theorem preN2 (c:Nat→Nat) (n h l:Nat):preN (fun i=>if i<n then c i else (fun j=>if j=0 then h else l) (i-n)) (n+2)=preN c n*65536+h*256+l:=by
 have e1:preN (fun i=>if i<n then c i else (fun j=>if j=0 then h else l) (i-n)) n=preN c n:=preN_ext n (fun i hi=>if_pos hi)
 show (preN _ n*256+(if n<n then c n else if n-n=0 then h else l))*256+(if n+1<n then c (n+1) else if n+1-n=0 then h else l)=_
 rw [e1,if_neg (by omega),if_pos (by omega),if_neg (by omega),if_neg (by omega)]
 omega
theorem wp_append_run {P:Program} {o:Oper} {a:Act} {w w':World} {K:Act→World→Prop} {Q:Exit→Act→World→Prop} (s x:Operand) (t:TypeId)
  (ho:o.op = .call { callee:=.builtin .append,args:=#[s,x],argTypes:=#[t,t] }) {v u v':Value} (hs:a.eval s=v) (hx:a.eval x=u) (hr:(Builtin.append_ #[t,t] o.type #[v,u]).run P w = .ok v' w') (h:K (a.put o.dst v') w'):o.wp P a w K Q:=by
 unfold Oper.wp execOp
 simp only [ho,resolve,invoke,builtin,Sem.run_bind,Sem.run_pure,Result.andThen_ok,List.map_toArray,List.map_cons,List.map_nil,hs,hx,hr]
 exact h
theorem and255u (n:Int) (_h0:0≤n) (_h1:n<65536):IntKind.u8.wrap n=n%256:=by
 rw [IntKind.wrap_u8]<;>omega
theorem bytesBig_any (w:World) (a:Option Addr) (l k N:Nat) (h:IsB w a l k N) (hl:l<100000) :
  Calls Tryz.prog 7 #[.slice a l k] w fun e w'=>∃a' n k' c,e = .returned (.slice a' n k')∧Dbo w' a' n k' c∧preN c n=N∧(n=0∨c 0≠0)∧n≤2*l∧Keep Nope w w':=by
 obtain⟨ca,da,va,-⟩:=h
 have VA:Hid (vb ca 0 l=N):=va
 clear va
 have q1:IntKind.i64.wrap ((l:Int)-1)=(l:Int)-1:=IntWalk.i64_in _ (by omega)
 go_enter Tryz.func7,Tryz.ntmps7
 go_wp2_with fail
 go_loopw [3,4] (fun s3 s4 wr=>∃(i:Nat) (c:Nat→Nat),s4 = .int .i64 ((i:Int)-1)∧i≤l∧Ob w wr 5 s3 (2*(l-i)) c∧Hid (preN c (2*(l-i))=vb ca i (l-i))) (fun _ s4 _=>(intOf s4+1).toNat)
 case atStart=>
  refine⟨l,fun _=>0,rfl,by omega,?_,?_⟩
  ·rw [Nat.sub_self];exact Ob.nil _ _ _
  ·rw [Nat.sub_self];rfl
 case round=>
  obtain⟨i,c,rfl,hi,ho,hv⟩:=hrel
  have HV:Hid _:=hv
  have HO:Hid _:=ho
  clear hv
  rcases Nat.eq_zero_or_pos i with h0 | h0
  ·subst h0
   have hend:Hid (preN c (2*l)=N):=by
    have:=HV.out
    rw [Nat.sub_zero,VA.out] at this
    exact this
   have ho':=oo HO
   rw [Nat.sub_zero] at ho'
   obtain⟨a1,k1,rfl,db⟩:=ho'.db
   have HDB:Hid (Dbo wr a1 (2*l) k1 c):=db.dbo
   have HK:Hid (Keep Nope w wr):=ho'.keep
   clear ho' db HV HO ho
   go_wp2_with fail
   go_loopw [3] (fun s3 wx=>∃(m:Nat) (a2:Option Addr) (k2:Nat) (c':Nat→Nat),s3 = .slice a2 m k2∧m≤2*l∧wx=wr∧Hid (Dbo wr a2 m k2 c')∧Hid (preN c' m=N)) (fun s3 _=>lenOf s3)
   case atStart=>exact⟨2*l,a1,k1,c,rfl,by omega,rfl,oo HDB,hend.out⟩
   case round=>
    obtain⟨m,a2,k2,c',rfl,hm,rfl,hdb,hN⟩:=hrel
    have HDB2:Hid _:=hdb
    have HN:Hid _:=hN
    have hle:=(oo (oo HDB2)).le
    clear hdb hN HDB
    rcases Nat.eq_zero_or_pos m with h1 | h1
    ·subst h1
     go_wp2_with fail
     go_ret
     exact⟨a2,0,k2,c',rfl,oo (oo HDB2),oo (oo HN),.inl rfl,by omega,oo HK⟩
    ·obtain⟨b,o,rfl,hc,hd⟩:=(oo (oo HDB2)).get 0 h1
     rw [Nat.add_zero] at hc
     have p1:(0:Int)<(m:Int):=by omega
     have p2:1≤m:=by omega
     have p3:1≤k2:=by omega
     have p4:(1:Int)≤(m:Int):=by omega
     by_cases hz:c' 0=0
     ·rw [hz] at hc
      have HZ:Hid (c' 0=0):=hz
      obtain⟨a3,e3,h3⟩:=slice_from b o k2 1
      clear hz
      go_wp2_with fail
      go_roundw
      case rel=>
       refine⟨m-1,some ⟨b,a3,none⟩,k2-1,fun i=>c' (i+1),rfl,by omega,by first | trivial | rfl,?_,?_⟩
       ·refine⟨by omega,fun i hi=>?_⟩
        obtain⟨b',o',e,f,g⟩:=(oo (oo HDB2)).get (i+1) (by omega)
        simp only [Option.some.injEq,Addr.mk.injEq,and_true] at e
        obtain⟨rfl,rfl⟩:=e
        refine⟨b,a3,rfl,?_,g⟩
        rw [show a3+i=o+(i+1) from by omega];exact f
       ·have:=oo (oo HN)
        obtain⟨t,rfl⟩:∃t,m=t+1:=⟨m-1,by omega⟩
        rw [preN_cons,HZ.out,Nat.zero_mul,Nat.zero_add] at this
        exact this
      case measure=>simp only [lenOf];omega
     ·have t1:(((c' 0:Nat):Int)==0)=false:=beq_eq_false_iff_ne.2 (by omega)
      have HZ:Hid (c' 0≠0):=hz
      obtain⟨d,he⟩:∃d,c' 0=d:=⟨_,rfl⟩
      rw [he] at hc t1
      clear hz he
      go_wp2_with fail
      go_ret
      exact⟨_,m,k2,c',rfl,oo (oo HDB2),oo (oo HN),.inr HZ.out,hm,oo HK⟩
  ·obtain⟨t,rfl⟩:∃t,i=t+1:=⟨i-1,by omega⟩
   have et:((t+1:Nat):Int)-1=(t:Int):=by omega
   rw [et]
   obtain⟨ba,rfl,fa0,hxl⟩:=da.get t (by omega)
   obtain⟨x,hx⟩:∃x,ca t=x:=⟨_,rfl⟩
   rw [hx] at fa0 hxl
   have fa:=(oo HO).keep.cel fa0 id
   rw [W16] at hxl
   have q9:IntKind.i64.wrap ((t:Int)-1)=(t:Int)-1:=IntWalk.i64_in _ (by omega)
   obtain⟨hi8,lo8,hd,hh,hlo⟩:∃hi8 lo8,x=hi8*256+lo8∧hi8<256∧lo8<256:=⟨x / 256,x%256,by omega,by omega,by omega⟩
   have z1:(x:Int) / 256=(hi8:Int):=by omega
   have z2:IntKind.u8.wrap (hi8:Int)=(hi8:Int):=by rw [and255u _ (by omega) (by omega)];omega
   have z3:IntKind.u8.wrap (x:Int)=(lo8:Int):=by rw [and255u _ (by omega) (by omega)];omega
   have tl:t<l:=by omega
   have hstep:Hid (preN (fun i=>if i<2*(l-(t+1)) then c i else (fun j=>if j=0 then hi8 else lo8) (i-2*(l-(t+1)))) (2*(l-(t+1))+2)=vb ca t (l-t)):=by
    show _=_
    rw [preN2,HV.out,show l-t=(l-(t+1))+1 from by omega,vb_cons,hx,W16]
    omega
   clear hd hx HV et
   go_wp2_with fail
   refine RS (fun w'=>w'.cell? ⟨ba,t,none⟩=some (.int .i64 (x:Int))) [4,10] ?_
   have HS:(fun w':World=>w'.cell? ⟨ba,t,none⟩=some (.int .i64 (x:Int))) wr.drew:=fa
   refine AP 0 ?_
   refine AP 1 ?_
   refine AP 2 ?_
   refine AP 3 ?_
   refine AL 4 HS ?_
   refine AP 5 ?_
   refine AP 6 ?_
   refine AP 7 ?_
   refine AP 8 ?_
   refine AP 9 ?_
   refine AL 10 HS ?_
   refine AP 11 ?_
   refine RO 12 (fun K hK=>?_)
   go_simp
   have hO2:=((oo HO).drew).alloc (.cells #[.int .u8 (hi8:Int),.int .u8 (lo8:Int)] 5 (0,0))
   have hD2:Dbo (wr.drew.alloc (.cells #[.int .u8 (hi8:Int),.int .u8 (lo8:Int)] 5 (0,0))) (some ⟨wr.drew.heap.size,0,none⟩) 2 2 (fun j=>if j=0 then hi8 else lo8):=by
    refine⟨by omega,fun i hi=>⟨_,0,rfl,?_,?_⟩⟩
    ·rw [Nat.zero_add]
     refine cell_newI wr.drew _ 5 i _ ?_
     rcases(by omega:i=0∨i=1) with rfl | rfl<;>rfl
    ·show (if i=0 then hi8 else lo8)<256
     split<;>assumption
   obtain⟨v',w',hr,ho',-⟩:=hO2.apps hD2 (by omega) (by omega) 23
   have HR:Hid _:=hr
   have HO':Hid (Ob w w' 5 v' _ _):=ho'
   clear hr ho' hO2 hD2
   refine hK.out _ _ (.inr ((((Keep.refl Nope wr).drew).alloc _).cel fa id)) ?_
   clear hK K
   refine RO 13 (fun K hK=>?_)
   rw [if_pos (by kernel_rfl)]
   refine wp_append_run _ _ 23 rfl rfl rfl (oo HR) ?_
   refine hK.out _ _ (.inr ((oo HO').keep.cel fa0 id)) ?_
   clear hK K
   refine AP 14 ?_
   try simp only [Ls2,Ls0,Ls1,List.getElem_toArray,List.getElem_cons_succ,List.getElem_cons_zero]
   refine AnyL_done (by kernel_rfl) ?_
   go_wp2_with fail
   go_roundw
   case rel=>
    have h1:=oo HO'
    have h2:=hstep.out
    rw [show 2*(l-(t+1))+2=2*(l-t) from by omega] at h1 h2
    exact⟨t,_,by go_num,by omega,h1,h2⟩
   case measure=>simp [intOf]<;>omega
def byteAt (bs:ByteArray) (i:Nat):Nat:=if h:i<bs.size then (bs[i]'h).toNat else 0
theorem byteAt_eq {bs:ByteArray} {i:Nat} (h:i<bs.size):(bs[i]'h).toNat=byteAt bs i:=by rw [byteAt,dif_pos h]
def hexD (x:Nat):Nat:=if 97≤x then x-87 else x-48
def hexOk (x:Nat):Bool:=(48≤x&&x≤57)||(97≤x&&x≤102)
def hexP (bs:ByteArray) (j:Nat):Nat→Nat
 | 0=>0
 | k+1=>hexP bs j k*16+hexD (byteAt bs (2*j+k))
def hexB (bs:ByteArray) (j:Nat):Nat:=hexP bs j 2
theorem hexD_lt {x:Nat} (h:hexOk x=true):hexD x<16:=by
 simp only [hexOk,Bool.or_eq_true,Bool.and_eq_true,decide_eq_true_eq] at h
 unfold hexD;split<;>omega
theorem hexP_lt {bs:ByteArray} (h:∀i,i<bs.size→hexOk (byteAt bs i)=true) {j:Nat}:∀k,2*j+k≤bs.size→hexP bs j k<16^k
 | 0,_=>by simp [hexP]
 | k+1,hk=>by
  have h1:=hexP_lt h (j:=j) k (by omega)
  have h2:=hexD_lt (h (2*j+k) (by omega))
  simp only [hexP,Nat.pow_succ]
  omega
theorem hexed_any (w:World) (bs:ByteArray) (n:Nat) (hs:bs.size=2*n) (hn:n<1000) (hok:∀i,i<bs.size→hexOk (byteAt bs i)=true) :
  Calls Tryz.prog 11 #[.string bs] w fun e w'=>∃a l k,e = .returned (.slice a l k)∧IsB w' a l k (preN (hexB bs) n)∧Keep Nope w w':=by
 have HOK:Hid (∀i,i<bs.size→hexOk (byteAt bs i)=true):=hok
 clear hok
 go_enter Tryz.func11,Tryz.ntmps11
 go_wp2_with fail
 go_loopw [3,4] (fun s3 s4 wr=>∃(j:Nat) (c:Nat→Nat),s4 = .int .i64 (2*(j:Int))∧j≤n∧Ob w wr 5 s3 j c∧Hid (∀i,i<j→c i=hexB bs i)) (fun _ s4 _=>2*n-(intOf s4).toNat)
 case atStart=>exact⟨0,fun _=>0,rfl,by omega,Ob.nil _ _ _,fun i hi=>by omega⟩
 case round=>
  obtain⟨j,c,rfl,hj,ho,hv⟩:=hrel
  have HV:Hid _:=hv
  have HO:Hid (Ob w wr 5 u3 j c):=ho
  clear hv
  by_cases h0:j=n
  ·subst h0
   have hend:Hid (preN c j=preN (hexB bs) j):=preN_ext j HV.out
   have p1:¬(2*(j:Int)<(bs.size:Int)):=by omega
   obtain⟨a1,k1,rfl,db⟩:=(oo HO).db
   have HK:Hid (Keep Nope w wr):=(oo HO).keep
   clear HO ho HV
   go_wp2_with fail
   refine(fromBytes_any _ a1 j k1 c db (by omega)).mono ?_
   rintro e w5 ⟨a',l',k',rfl,h5,kk⟩
   rw [hend.out] at h5
   have H5:Hid (IsB w5 a' l' k' _):=h5
   clear h5
   go_wp2_with fail
   go_ret
   exact⟨a',l',k',rfl,oo H5,(oo HK).trans kk⟩
  ·have p1:2*(j:Int)<(bs.size:Int):=by omega
   have jl:j<n:=by omega
   clear h0
   go_wp2_with fail
   go_loopw [5,14] (fun s5 s14 wx=>∃(k m:Nat),s5 = .int .i64 (m:Int)∧s14 = .int .i64 (k:Int)∧k≤2∧wx=wr∧Hid (m=hexP bs j k)) (fun _ s14 _=>2-(intOf s14).toNat)
   case atStart=>exact⟨0,0,rfl,rfl,by omega,rfl,rfl⟩
   case round=>
    obtain⟨k,m,rfl,rfl,hk,rfl,hm⟩:=hrel
    have HM:Hid _:=hm
    have hml:m<16^k:=by rw [oo (oo HM)];exact hexP_lt HOK.out k (by omega)
    clear hm
    by_cases h1:k=2
    ·subst h1
     have hm8:m<256:=by omega
     have z1:IntKind.u8.wrap (m:Int)=(m:Int):=by rw [and255u _ (by omega) (by omega)];omega
     have z2:IntKind.i64.wrap (2*(j:Int)+2)=2*(j:Int)+2:=IntWalk.i64_in _ (by omega)
     have HMM:Hid (m=hexB bs j):=oo (oo HM)
     clear HM hml
     go_wp2_with (at_builtin;obtain⟨v',w',hr,ho'⟩:=((oo HO).alloc (.cells #[.int .u8 (m:Int)] 5 (0,0))).app wr.heap.size 1 (d:=m) (cell_new1 _ _ _) hm8 (by omega) 23;refine Lib.wpList_append_run _ rfl _ _ _ _ rfl _ _ rfl rfl _ _ hr ?_)
     go_roundw
     case rel=>
      refine⟨j+1,_,by go_num,by omega,ho',fun i hi=>?_⟩
      simp only [upd]
      split
      ·subst i;exact HMM.out
      ·exact HV.out i (by omega)
     case measure=>simp [intOf]<;>omega
    ·have k2:k<2:=by omega
     have p2:(k:Int)<2:=by omega
     have p3:IntKind.i64.wrap (2*(j:Int)+(k:Int))=2*(j:Int)+(k:Int):=IntWalk.i64_in _ (by omega)
     have p4:(2*(j:Int)+(k:Int)).toNat=2*j+k:=by omega
     have p5:(0:Int)≤2*(j:Int)+(k:Int):=by omega
     have p6:2*(j:Int)+(k:Int)<(bs.size:Int):=by omega
     have p7:2*j+k<bs.size:=by omega
     obtain⟨x,hx⟩:∃x,byteAt bs (2*j+k)=x:=⟨_,rfl⟩
     have hb:(bs[2*j+k]'p7).toNat=x:=by rw [byteAt_eq p7,hx]
     have hxo:=HOK.out _ p7
     rw [hx] at hxo
     simp only [hexOk,Bool.or_eq_true,Bool.and_eq_true,decide_eq_true_eq] at hxo
     have hm16:m<16:=by
      have:16^k≤16^1:=Nat.pow_le_pow_right (by decide) (by omega)
      omega
     have z0:IntKind.i64.wrap ((m:Int)*16)=(m:Int)*16:=IntWalk.i64_in _ (by omega)
     have z9:IntKind.i64.wrap ((k:Int)+1)=(k:Int)+1:=IntWalk.i64_in _ (by omega)
     have hdl:hexD x<16:=hexD_lt (by simp only [hexOk,Bool.or_eq_true,Bool.and_eq_true,decide_eq_true_eq];exact hxo)
     obtain⟨d,hd⟩:∃d,hexD x=d:=⟨_,rfl⟩
     rw [hd] at hdl
     have HD:Hid (m*16+d=hexP bs j (k+1)):=by
      show _=_
      rw [hexP,← oo (oo HM),hx,hd]
     have z1:bits .or .i64 ((m:Int)*16) (d:Int)=(m:Int)*16+(d:Int):=by
      have:=or_shl' d m 4 (by omega) (by omega) (by omega)
      rw [show ((m*2^4:Nat):Int)=(m:Int)*16 from by omega,show ((m*2^4+d:Nat):Int)=(m:Int)*16+(d:Int) from by omega] at this
      exact this
     clear HM hml hx h1
     by_cases hc:97≤x
     ·have hc':(97:Int)≤(x:Int):=by omega
      obtain⟨y,hy⟩:∃y,y+97=x:=⟨x-97,by omega⟩
      have hyd:y+10=d:=by rw [← hd,hexD,if_pos hc];omega
      have z2:IntKind.u8.wrap ((x:Int)-97)=(y:Int):=by rw [and255u _ (by omega) (by omega)];omega
      have z3:IntKind.u8.wrap ((y:Int)+10)=(d:Int):=by rw [and255u _ (by omega) (by omega)];omega
      clear hd hc hxo hy hyd
      go_wp2_with fail
      go_roundw
      case rel=>exact⟨k+1,m*16+d,by go_num,by go_num,by omega,by first | trivial | rfl,HD.out⟩
      case measure=>simp [intOf]<;>omega
     ·have hc':¬((97:Int)≤(x:Int)):=by omega
      have hyd:x=d+48:=by rw [← hd,hexD,if_neg hc];omega
      have z2:IntKind.u8.wrap ((x:Int)-48)=(d:Int):=by rw [and255u _ (by omega) (by omega)];omega
      clear hd hc hxo hyd
      go_wp2_with fail
      go_roundw
      case rel=>exact⟨k+1,m*16+d,by go_num,by go_num,by omega,by first | trivial | rfl,HD.out⟩
      case measure=>simp [intOf]<;>omega
def Rdr (w:World) (q:Nat) (s:ByteArray) (i:Nat):Prop:=∃pr T,w.heap[q]?=some (.cells #[.string s,.int .i64 (i:Int),.int .i64 pr] T (0,0))
theorem Rdr.keep {S:Nat→Prop} {w w':World} {q i:Nat} {s:ByteArray} (h:Rdr w q s i) (k:Keep S w w') (hs:¬S q):Rdr w' q s i:=by
 obtain⟨pr,T,h⟩:=h
 exact⟨pr,T,by rw [k.block q (Array.getElem?_eq_some_iff.1 h).1 hs];exact h⟩
theorem Rdr.drewN {w:World} {q i:Nat} {s:ByteArray} (h:Rdr w q s i) (m:Nat):Rdr (w.drewN m) q s i:=h
theorem Rdr.inHeap {w:World} {q i:Nat} {s:ByteArray} (h:Rdr w q s i):q<w.heap.size:=by
 obtain⟨pr,T,h⟩:=h;exact(Array.getElem?_eq_some_iff.1 h).1
theorem Rdr.frozen {w:World} {q i:Nat} {s:ByteArray} (h:Rdr w q s i) (j:Nat):w.frozen? ⟨q,j,none⟩=false:=by
 obtain⟨pr,T,h⟩:=h
 unfold World.frozen?;rw [h];simp
theorem Rdr.c0 {w:World} {q i:Nat} {s:ByteArray} (h:Rdr w q s i):w.cell? ⟨q,0,none⟩=some (.string s):=by
 obtain⟨pr,T,h⟩:=h
 unfold World.cell?;rw [h];rfl
theorem Rdr.c1 {w:World} {q i:Nat} {s:ByteArray} (h:Rdr w q s i):w.cell? ⟨q,1,none⟩=some (.int .i64 (i:Int)):=by
 obtain⟨pr,T,h⟩:=h
 unfold World.cell?;rw [h];rfl
theorem Rdr.c2 {w:World} {q i:Nat} {s:ByteArray} (h:Rdr w q s i):∃pr:Int,w.cell? ⟨q,2,none⟩=some (.int .i64 pr):=by
 obtain⟨pr,T,h⟩:=h
 exact⟨pr,by unfold World.cell?;rw [h];rfl⟩
theorem Rdr.set1 {w:World} {q i:Nat} {s:ByteArray} (h:Rdr w q s i) (j:Nat):Rdr (w.setCell ⟨q,1,none⟩ (.int .i64 (j:Int))) q s j:=by
 obtain⟨pr,T,h⟩:=h
 refine⟨pr,T,?_⟩
 simp only [World.setCell,Array.getElem?_modify,if_true,h,Option.map_some,Option.isSome_none,Bool.false_eq_true,if_false]
 rfl
theorem Rdr.set2 {w:World} {q i:Nat} {s:ByteArray} (h:Rdr w q s i) (j:Int):Rdr (w.setCell ⟨q,2,none⟩ (.int .i64 j)) q s i:=by
 obtain⟨pr,T,h⟩:=h
 refine⟨j,T,?_⟩
 simp only [World.setCell,Array.getElem?_modify,if_true,h,Option.map_some,Option.isSome_none,Bool.false_eq_true,if_false]
 rfl
theorem newReader_any (w:World) (s:ByteArray):Calls Tryz.prog 60 #[.string s] w fun e w'=>∃q,e = .returned (.pointer (some ⟨q,0,none⟩))∧w.heap.size≤q∧Rdr w' q s 0∧Keep Nope w w':=by
 go_enter Tryz.func60,Tryz.ntmps60
 go_wp2_with fail
 go_ret
 exact⟨w.heap.size,rfl,Nat.le_refl _,⟨-1,_,heap_alloc_new w _⟩,(Keep.refl Nope w).alloc _⟩
theorem readByte_some (w:World) (q i:Nat) (s:ByteArray) (h:Rdr w q s i) (hi:i<s.size) (hs:s.size<100000) :
  Calls Tryz.prog 231 #[.pointer (some ⟨q,0,none⟩)] w fun e w'=>e = .returned (.tuple #[.int .u8 (byteAt s i:Nat),.nilIface])∧Rdr w' q s (i+1)∧Keep (·=q) w w':=by
 obtain⟨pr,f2⟩:=h.c2
 have ff2:=h.frozen 2
 have h1:=h.set2 (-1)
 have k1:Keep (·=q) w _:=(Keep.refl (·=q) w).setCell (p:=⟨q,2,none⟩) rfl (.int .i64 (-1))
 go_enter Tryz.func231,Tryz.ntmps231
 go_wp2_with fail
 generalize w.setCell { block:=q,off:=2 } (Value.int IntKind.i64 (-1))=w1 at *
 have d0:=h1.c0
 have d1:=h1.c1
 have f1:=h1.frozen 1
 have t0:(i:Int)<(s.size:Int):=by omega
 have qi:IntKind.i64.wrap ((i:Int)+1)=(i:Int)+1:=IntWalk.i64_in _ (by omega)
 go_quiet (fail)
 go_wp2_with fail
 go_quiet (fail)
 rw [byteAt_eq hi]
 obtain⟨x,hx⟩:∃x,byteAt s i=x:=⟨_,rfl⟩
 rw [hx]
 have HX:Hid (byteAt s i=x):=hx
 clear hx
 go_wp2_with fail
 go_ret2
 exact⟨by rw [HX.out];rfl,Rdr.set1 (w:=w1.drewN _) (h1.drewN _) (i+1),(k1.drewN _).setCell (p:=⟨q,1,none⟩) rfl _⟩
theorem readByte_end (w:World) (q i:Nat) (s:ByteArray) (E:Value) (h:Rdr w q s i) (hi:s.size≤i) (_hi2:i<100000) (hE:w.cell? ⟨0,0,none⟩=some E) (hq:q≠0) :
  Calls Tryz.prog 231 #[.pointer (some ⟨q,0,none⟩)] w fun e w'=>e = .returned (.tuple #[.int .u8 0,E])∧Rdr w' q s i∧Keep (·=q) w w':=by
 obtain⟨pr,f2⟩:=h.c2
 have ff2:=h.frozen 2
 have h1:=h.set2 (-1)
 have k1:Keep (·=q) w _:=(Keep.refl (·=q) w).setCell (p:=⟨q,2,none⟩) rfl (.int .i64 (-1))
 have hE1:=k1.cell hE (fun e=>hq e.symm)
 go_enter Tryz.func231,Tryz.ntmps231
 go_wp2_with fail
 generalize w.setCell { block:=q,off:=2 } (Value.int IntKind.i64 (-1))=w1 at *
 have d0:=h1.c0
 have d1:=h1.c1
 have f1:=h1.frozen 1
 have t0:(s.size:Int)≤(i:Int):=by omega
 go_quiet (fail)
 go_wp2_with fail
 go_quiet (fail)
 go_wp2_with fail
 go_ret2
 exact⟨rfl,(h1.drewN _).drewN _,(k1.drewN _).drewN _⟩
theorem unreadByte_any (w:World) (q i:Nat) (s:ByteArray) (h:Rdr w q s (i+1)) (hi:i<100000) :
  Calls Tryz.prog 232 #[.pointer (some ⟨q,0,none⟩)] w fun e w'=>e = .returned .nilIface∧Rdr w' q s i∧Keep (·=q) w w':=by
 obtain⟨pr,f2⟩:=h.c2
 have ff2:=h.frozen 2
 have f1:=h.c1
 have ff1:=h.frozen 1
 have h1:=h.set2 (-1)
 have g1:=h1.c1
 have gg1:=h1.frozen 1
 have h2:=h1.set1 i
 have k1:Keep (·=q) w _:=((Keep.refl (·=q) w).setCell (p:=⟨q,2,none⟩) rfl (.int .i64 (-1))).setCell (p:=⟨q,1,none⟩) rfl (.int .i64 (i:Int))
 have t0:¬((((i+1:Nat)):Int)≤0):=by omega
 have qi:IntKind.i64.wrap ((((i+1:Nat)):Int)-1)=(i:Int):=by rw [IntWalk.i64_in _ (by omega)];omega
 go_enter Tryz.func232,Tryz.ntmps232
 go_wp2_with fail
 go_ret
 exact⟨rfl,h2,k1⟩
theorem or1:∀x:Fin 256,bits .or .u8 (x.val:Int) 1=((x.val / 2*2+1:Nat):Int):=by decide +kernel
theorem secret_any (w:World) (vs:Array Value) (c:Nat→Nat) (hsz:vs.size=16) (hv:∀i,i<16→vs[i]?=some (.int .u8 (c i:Nat))∧c i<256) :
  Calls Tryz.prog 5 #[.agg vs] w fun e w'=>∃a l k,e = .returned (.slice a l k)∧IsB w' a l k (preN (upd c 15 (c 15 / 2*2+1)) 16)∧Keep Nope w w':=by
 have f:=cell_newI w vs 22 15 _ (hv 15 (by omega)).1
 have ff:(w.alloc (.cells vs 22 (0,0))).frozen? ⟨w.heap.size,15,none⟩=false:=by
  have:(w.alloc (.cells vs 22 (0,0))).heap[w.heap.size]?=some (.cells vs 22 (0,0)):=heap_alloc_new w _
  unfold World.frozen?;rw [this];rfl
 have hb:=or1 ⟨c 15,(hv 15 (by omega)).2⟩
 simp only at hb
 have h15:=(hv 15 (by omega)).2
 obtain⟨y,hy⟩:∃y,c 15 / 2*2+1=y:=⟨_,rfl⟩
 have hyl:y<256:=by omega
 rw [hy] at hb ⊢
 have db:Db (w.alloc (.cells (vs.setIfInBounds 15 (.int .u8 (y:Int))) 22 (0,0))) (some ⟨w.heap.size,0,none⟩) 16 16 (upd c 15 y):=by
  refine⟨by omega,fun i hi=>⟨_,rfl,cell_newI w _ 22 i _ ?_,?_⟩⟩
  ·by_cases e:i=15
   ·subst e
    rw [upd_same,Array.getElem?_setIfInBounds_self_of_lt (by omega)]
   ·rw [upd_ne _ _ e,Array.getElem?_setIfInBounds_ne (by omega)]
    exact(hv i hi).1
  ·simp only [upd];split
   ·exact hyl
   ·exact(hv i hi).2
 obtain⟨x,hx⟩:∃x,c 15=x:=⟨_,rfl⟩
 rw [hx] at f hb
 have DB:Hid (Db _ (some ⟨w.heap.size,0,none⟩) 16 16 (upd c 15 y)):=db
 clear hv hy hx hsz h15 db
 go_enter Tryz.func5,Tryz.ntmps5
 go_wp2_with fail
 refine(fromBytes_any _ _ 16 16 _ (oo DB) (by omega)).mono ?_
 rintro e w5 ⟨a,l,k,rfl,h,kk⟩
 have H:Hid (IsB w5 a l k _):=h
 have K:Hid (Keep Nope w w5):=((Keep.refl Nope w).alloc _).trans kk
 clear h kk
 go_wp2_with fail
 go_ret
 exact⟨a,l,k,rfl,oo H,oo K⟩
def Zb (w:World) (b n:Nat):Prop:=w.heap[b]?=some (.cells (Array.ofFn fun _:Fin n=>Value.int .u8 0) 5 (0,0))
theorem zb_alloc (w:World) (n:Nat):Zb (w.alloc (.cells (Array.ofFn fun _:Fin n=>Value.int .u8 0) 5 (0,0))) w.heap.size n:=heap_alloc_new w _
theorem run_make_u8 (T:TypeId) (hT:Tryz.prog.underlying T=some (.slice 5)) (w:World) (l c:Nat) (hlc:l≤c) (hc:c<2000000) (kl kc:IntKind) :
  ∃b w',(Instr.makeSlice T (.int kl (l:Int)) (.int kc (c:Int))).run Tryz.prog w = .ok (.slice (some ⟨b,0,none⟩) l c) w'∧w.heap.size≤b∧Zb w' b c∧Keep Nope w w':=by
 have h:=(by kernel_rfl:(Tryz.prog.info? 5).map (fun i=>(i.zero,i.size,i.bytes))=some (some (.int .u8 0),1,1))
 cases e:Tryz.prog.info? 5 with
 | none=>rw [e] at h;simp at h
 | some i=>
  rw [e] at h
  simp only [Option.map_some,Option.some.injEq,Prod.mk.injEq] at h
  have hr:=run_make (P:=Tryz.prog) w T 5 i (.int .u8 0) hT e h.1 kl kc l c (by omega) (by omega) (by rw [h.2.2];omega) (by omega)
  rw [h.2.1] at hr
  simp only [Int.toNat_natCast,Nat.mul_one] at hr
  have e1:madeCells (Value.int .u8 0).cells c=Array.ofFn fun _:Fin c=>Value.int .u8 0:=by
   have e3:(Value.int .u8 0).cells=#[Value.int .u8 0]:=rfl
   rw [e3]
   apply Array.ext
   ·simp [madeCells]
   ·intro i h1 h2
    simp [madeCells,Nat.mod_one]
  rw [e1] at hr
  exact⟨_,_,hr,Nat.le_refl _,zb_alloc w c,(Keep.refl _ _).alloc _⟩
theorem Zb.ob {w w':World} {b n:Nat} (h:Zb w' b n) (hk:Keep Nope w w') (hb:w.heap.size≤b) (hn:n<1000000000):Ob w w' 5 (.slice (some ⟨b,0,none⟩) n n) n (fun _=>0):=by
 refine⟨⟨by rw [lsb_len,Nat.mul_one],.inr ⟨b,n,_,rfl,hb,h,Nat.le_refl _,by unfold maxLen;omega,by simp,?_⟩⟩,hk,fun _ _=>by omega⟩
 apply List.ext_getElem?
 intro i
 rw [Nat.mul_one,List.getElem?_take]
 split
 ·rw [lsb_get _ (by assumption)]
  simp [*]
 ·rw [List.getElem?_eq_none (by rw [lsb_len];omega)]
theorem append_none (w:World) (ty:TypeId) (v:Value) (n:Nat) {w0:World} {c:Nat→Nat} (h:Ob w0 w 5 v n c) (a:Option Addr) (k:Nat) :
  (Builtin.append_ #[23,23] ty #[v,.slice a 0 k]).run Tryz.prog w = .ok v w:=by
 obtain⟨i,h1,h2,h3,h4⟩:=infoB
 obtain⟨a1,k1,rfl,db⟩:=h.db
 have hle:=db.le.1
 have hf:(Builtin.firstCells i.size 0 (.slice a 0 k)).run Tryz.prog w = .ok #[] w:=by
  rw [h3]
  rcases a with _ | a
  ·exact run_firstCells_none w 1 0 0 k
  ·have:=run_firstCells_some (P:=Tryz.prog) w 1 0 a 0 k [] rfl (fun j u hj=>by simp at hj)
   exact this
 cases a1<;>simp [Builtin.append_,run_underlying Tryz.underlying23,sizeOf,typeInfo,h1,Builtin.lenOf,hle,hf,storeCells]
theorem Ob.appd {w0 w:World} {v:Value} {n m k:Nat} {c d:Nat→Nat} {a:Option Addr} (h:Ob w0 w 5 v n c) (hd:Dbo w a m k d) (hn:n<1000000000) (hm:m<1000000000) (ty:TypeId) :
  ∃v' w',(Builtin.append_ #[23,23] ty #[v,.slice a m k]).run Tryz.prog w = .ok v' w'∧Ob w0 w' 5 v' (n+m) (fun i=>if i<n then c i else d (i-n))∧w.grownBy w' v.ownBlock:=by
 rcases Nat.eq_zero_or_pos m with h0 | h0
 ·subst h0
  refine⟨v,w,append_none w ty v n h a k,⟨?_,h.keep,fun i hi=>?_⟩,⟨rfl,rfl,rfl,Nat.le_refl _,fun _ _ _=>rfl⟩⟩
  ·have e:lsb (fun i=>if i<n then c i else d (i-n)) (n+0)=lsb c n:=by
    rw [lsb,lsb]
    apply List.map_congr_left
    intro i hi
    have hi':i<n:=List.mem_range.1 hi
    rw [if_pos hi']
   rw [e];exact h.owns
  ·show (if i<n then c i else d (i-n))<256
   have hi':i<n:=hi
   rw [if_pos hi'];exact h.lt i hi'
 ·obtain⟨b,o,rfl,_⟩:=hd.get 0 h0
  exact h.apps hd hn hm ty
theorem preN_zeros (n m:Nat) (d:Nat→Nat):preN (fun i=>if i<n then 0 else d (i-n)) (n+m)=preN d m:=by
 induction m with
 | zero=>
  show preN _ n=0
  have:∀k,k≤n→preN (fun i=>if i<n then 0 else d (i-n)) k=0:=by
   intro k hk
   induction k with
   | zero=>rfl
   | succ k ih=>simp only [preN];rw [ih (by omega),if_pos (by omega)]
  exact this n (Nat.le_refl _)
 | succ m ih=>
  show preN _ (n+m)*256+(if n+m<n then 0 else d (n+m-n))=_
  rw [ih,if_neg (by omega),Nat.add_sub_cancel_left]
  rfl
theorem fixedBig_any (w:World) (a:Option Addr) (l k N s:Nat) (h:IsB w a l k N) (hl:l<1000) (hs:s<1000) (hN:N<256^s) :
  Calls Tryz.prog 16 #[.slice a l k,.int .i64 (s:Int)] w fun e w'=>∃a' k' c,e = .returned (.slice a' s k')∧Dbo w' a' s k' c∧preN c s=N∧Keep Nope w w':=by
 go_enter Tryz.func16,Tryz.ntmps16
 go_wp2_with fail
 refine(bytesBig_any w a l k N h (by omega)).mono ?_
 rintro e w1 ⟨a1,n,k1,c,rfl,hd,hv,htop,hn,kk⟩
 have hns:n≤s:=by
  rcases htop with h0 | h0
  ·omega
  ·refine Nat.le_of_not_lt fun hlt=>?_
   obtain⟨t,rfl⟩:∃t,n=t+1:=⟨n-1,by omega⟩
   rw [preN_cons] at hv
   have h1:=Nat.mul_le_mul_right (256^t) (show 1≤c 0 by omega)
   have h2:256^s≤256^t:=Nat.pow_le_pow_right (by decide) (by omega)
   omega
 obtain⟨b,w2,hrun,hb,hz,hk2⟩:=run_make_u8 23 Tryz.underlying23 w1 (s-n) (s-n) (Nat.le_refl _) (by omega) .i64 .i64
 rw [show ((s-n:Nat):Int)=(s:Int)-(n:Int) from by omega] at hrun
 have q1:IntKind.i64.wrap ((s:Int)-(n:Int))=(s:Int)-(n:Int):=IntWalk.i64_in _ (by omega)
 have hob:=hz.ob (w:=w) (kk.trans hk2) (Nat.le_trans kk.size hb) (by omega)
 have hd2:=hd.nope hk2
 obtain⟨v',w',hr,ho',-⟩:=hob.appd hd2 (by omega) (by omega) 23
 obtain⟨a3,k3,rfl,db⟩:=ho'.db
 have hval:preN (fun i=>if i<s-n then 0 else c (i-(s-n))) (s-n+n)=N:=by rw [preN_zeros,hv]
 rw [show s-n+n=s from by omega] at hr db hval
 have HR:Hid _:=hr
 have DB:Hid (Dbo w' a3 s k3 _):=db.dbo
 have HV:Hid _:=hval
 have HK:Hid (Keep Nope w w'):=ho'.keep
 clear hr db hval ho' hob hd2 hd hv htop hz hk2 kk
 go_wp2_with (at_builtin;refine Lib.wpList_append_run _ rfl _ _ _ _ rfl _ _ rfl rfl _ _ (oo HR) ?_)
 go_ret
 exact⟨a3,k3,_,rfl,oo DB,oo HV,oo HK⟩
theorem scanSign_any (w:World) (q:Nat) (s:ByteArray) (h:Rdr w q s 0) (hi:0<s.size) (hs:s.size<100000) (h1:byteAt s 0≠45) (h2:byteAt s 0≠43) :
  Calls Tryz.prog 73 #[.iface 109 (.pointer (some ⟨q,0,none⟩))] w fun e w'=>e = .returned (.tuple #[.bool false,.nilIface])∧Rdr w' q s 0∧Keep (·=q) w w':=by
 go_enter Tryz.func73,Tryz.ntmps73
 go_wp2_with fail
 refine(readByte_some _ q 0 s h hi hs).mono ?_
 rintro e w1 ⟨rfl,hr1,hk1⟩
 have t1:(((byteAt s 0:Nat):Int)==45)=false:=beq_eq_false_iff_ne.2 (by omega)
 have t2:(((byteAt s 0:Nat):Int)==43)=false:=beq_eq_false_iff_ne.2 (by omega)
 generalize byteAt s 0=x at *
 clear h1 h2
 go_wp2_with fail
 refine(unreadByte_any _ q 0 s hr1 (by omega)).mono ?_
 rintro e w2 ⟨rfl,hr2,hk2⟩
 go_wp2_with fail
 go_ret2
 exact⟨rfl,hr2,hk1.trans hk2⟩
end Go.Proofs.YtofkehhflkdabaaGreatDoor
