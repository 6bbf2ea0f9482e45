/- A part of the proof of FnCurveOf. -/
import Derived.Test.YtofkehhflkdabaaGreatDoorP12
import Derived.Laws.Rows
set_option maxRecDepth 100000
set_option maxHeartbeats 8000000
namespace Go.Proofs.YtofkehhflkdabaaGreatDoor
open Go Go.RowKit
theorem Bs.len_ne {p:Nat} [NeZero p] {w:World} {am a:Option Addr} {lm km l k:Nat} {L:List (Dv p)} {x:Fin p} (h:Bs p w am lm km L) (hx:⟨a,l,k,x⟩∈L) (h0:x≠0):((l:Int)==0)=false:=
 beq_eq_false_iff_ne.2 fun e=>h0 ((h.zero hx).1 (by omega))
theorem Bs.len_eq {p:Nat} [NeZero p] {w:World} {am a:Option Addr} {lm km l k:Nat} {L:List (Dv p)} {x:Fin p} (h:Bs p w am lm km L) (hx:⟨a,l,k,x⟩∈L) (h0:x=0):l=0:=(h.zero hx).2 h0
theorem cell_newI (w:World) (cs:Array Value) (T:TypeId) (i:Nat) (v:Value) (h:cs[i]?=some v):(w.alloc (.cells cs T (0,0))).cell? ⟨w.heap.size,i,none⟩=some v:=by
 have:(w.alloc (.cells cs T (0,0))).heap[w.heap.size]?=some (.cells cs T (0,0)):=by show (w.heap.push _)[w.heap.size]?=_;simp
 unfold World.cell?;rw [this];exact h
def Thr (w:World) (b:Nat) (u v x:Value):Prop:=∃T,w.heap[b]?=some (.cells #[u,v,x] T (0,0))
theorem Thr.new (w:World) (u v x:Value) (T:TypeId):Thr (w.alloc (.cells #[u,v,x] T (0,0))) w.heap.size u v x:=
 ⟨T,by show (w.heap.push _)[w.heap.size]?=_;simp⟩
theorem Thr.inHeap {w:World} {b:Nat} {u v x:Value} (h:Thr w b u v x):b<w.heap.size:=by
 obtain⟨T,hT⟩:=h
 exact(Array.getElem?_eq_some_iff.1 hT).1
theorem Thr.keep {S:Nat→Prop} {w w':World} {b:Nat} {u v x:Value} (h:Thr w b u v x) (k:Keep S w w') (hs:¬S b):Thr w' b u v x:=by
 unfold Thr
 rw [k.block b h.inHeap hs];exact h
theorem Thr.nope {w w':World} {b:Nat} {u v x:Value} (h:Thr w b u v x) (k:Keep Nope w w'):Thr w' b u v x:=h.keep k id
theorem Thr.cells {w:World} {b:Nat} {u v x:Value} (h:Thr w b u v x):w.cell? ⟨b,0,none⟩=some u∧w.cell? ⟨b,1,none⟩=some v∧w.cell? ⟨b,2,none⟩=some x∧∀i,w.frozen? ⟨b,i,none⟩=false:=by
 obtain⟨T,hT⟩:=h
 refine⟨?_,?_,?_,fun i=>?_⟩<;>simp [World.cell?,World.frozen?,hT]
theorem Thr.set3 {w:World} {b:Nat} {u v x:Value} (h:Thr w b u v x) (u' v' x':Value):Thr (((w.setCell ⟨b,0,none⟩ u').setCell ⟨b,1,none⟩ v').setCell ⟨b,2,none⟩ x') b u' v' x':=by
 obtain⟨T,hT⟩:=h
 refine⟨T,?_⟩
 simp [World.setCell,Array.getElem?_modify,hT]
theorem Thr.noInt {w:World} {b i:Nat} {a1 a2 a3:Option Addr} {l1 k1 l2 k2 l3 k3:Nat} {n:Int} (h:Thr w b (.slice a1 l1 k1) (.slice a2 l2 k2) (.slice a3 l3 k3)) (hc:w.cell? ⟨b,i,none⟩=some (.int .i64 n)):False:=by
 obtain⟨T,hT⟩:=h
 simp only [World.cell?,hT] at hc
 rcases i with _ | _ | _ | i<;>simp at hc
theorem IsB.other {w w':World} {a:Option Addr} {len cap N b:Nat} {a1 a2 a3:Option Addr} {l1 k1 l2 k2 l3 k3:Nat} (hb:IsB w a len cap N) (h:Thr w b (.slice a1 l1 k1) (.slice a2 l2 k2) (.slice a3 l3 k3)) (k:Keep (·=b) w w'):IsB w' a len cap N:=by
 obtain⟨c,d,e⟩:=hb
 refine⟨c,⟨d.le,fun i hi=>?_⟩,e⟩
 obtain⟨b',rfl,f,g⟩:=d.get i hi
 exact⟨b',rfl,k.cel f (fun e=>by subst e;exact h.noInt f),g⟩
theorem Bs.other {p:Nat} {w w':World} {am:Option Addr} {lm km b:Nat} {L:List (Dv p)} {a1 a2 a3:Option Addr} {l1 k1 l2 k2 l3 k3:Nat} (hb:Bs p w am lm km L) (h:Thr w b (.slice a1 l1 k1) (.slice a2 l2 k2) (.slice a3 l3 k3)) (k:Keep (·=b) w w'):Bs p w' am lm km L:=
 ⟨hb.mod.other h k,hb.ml,hb.two,fun d hd=>⟨(hb.all d hd).1.other h k,(hb.all d hd).2⟩⟩
def TriPost (p:Nat) (w:World) (am:Option Addr) (lm km:Nat) (L:List (Dv p)) (T:Ec.Tri p) (e:Ending) (w':World):Prop:=
 ∃a1 l1 k1 a2 l2 k2 a3 l3 k3,e = .returned (.agg #[.slice a1 l1 k1,.slice a2 l2 k2,.slice a3 l3 k3])∧Bs p w' am lm km (⟨a1,l1,k1,T.x⟩::⟨a2,l2,k2,T.y⟩::⟨a3,l3,k3,T.z⟩::L)∧Keep Nope w w'
theorem twice_ne {p:Nat} [NeZero p] (w:World) (am:Option Addr) (lm km:Nat) (L:List (Dv p)) (aA aB ax ay az:Option Addr) (lA kA lB kB lx kx ly ky lz kz:Nat) (A x y z:Fin p) (h:Bs p w am lm km (⟨aA,lA,kA,A⟩::⟨ax,lx,kx,x⟩::⟨ay,ly,ky,y⟩::⟨az,lz,kz,z⟩::L)) (hz0:z≠0) (hy0:y≠0) :
  Calls Tryz.prog 18 #[.agg #[.slice am lm km,.slice aA lA kA,.slice aB lB kB],.agg #[.slice ax lx kx,.slice ay ly ky,.slice az lz kz]] w (TriPost p w am lm km (⟨aA,lA,kA,A⟩::⟨ax,lx,kx,x⟩::⟨ay,ly,ky,y⟩::⟨az,lz,kz,z⟩::L) (Ec.jdbl A ⟨x,y,z⟩)):=by
 have t1:((lz:Int)==0)=false:=h.len_ne (tl3 (.head _)) hz0
 have t2:((ly:Int)==0)=false:=h.len_ne (tl2 (.head _)) hy0
 have k1:Keep Nope w ((((w.alloc (.cells #[.slice am lm km,.slice aA lA kA,.slice aB lB kB] 29 (0,0))).alloc (.cells #[.slice ax lx kx,.slice ay ly ky,.slice az lz kz] 49 (0,0))).alloc (.cells #[.slice none 0 0,.slice none 0 0,.slice none 0 0] 49 (0,0))).alloc (.cells #[.slice am lm km] 27 (0,0))):=((((Keep.refl Nope w).alloc _).alloc _).alloc _).alloc _
 have c2_10:((((w.alloc (.cells #[.slice am lm km,.slice aA lA kA,.slice aB lB kB] 29 (0,0))).alloc (.cells #[.slice ax lx kx,.slice ay ly ky,.slice az lz kz] 49 (0,0))).alloc (.cells #[.slice none 0 0,.slice none 0 0,.slice none 0 0] 49 (0,0))).alloc (.cells #[.slice am lm km] 27 (0,0))).cell? ⟨w.heap.size,1,none⟩=some _:=((((Keep.refl Nope _).alloc _).alloc _).alloc _).cel (cell_newI w #[.slice am lm km,.slice aA lA kA,.slice aB lB kB] 29 1 _ rfl) id
 have c3_00:((((w.alloc (.cells #[.slice am lm km,.slice aA lA kA,.slice aB lB kB] 29 (0,0))).alloc (.cells #[.slice ax lx kx,.slice ay ly ky,.slice az lz kz] 49 (0,0))).alloc (.cells #[.slice none 0 0,.slice none 0 0,.slice none 0 0] 49 (0,0))).alloc (.cells #[.slice am lm km] 27 (0,0))).cell? ⟨(w.alloc (.cells #[.slice am lm km,.slice aA lA kA,.slice aB lB kB] 29 (0,0))).heap.size,0,none⟩=some _:=(((Keep.refl Nope _).alloc _).alloc _).cel (cell_newI (w.alloc (.cells #[.slice am lm km,.slice aA lA kA,.slice aB lB kB] 29 (0,0))) #[.slice ax lx kx,.slice ay ly ky,.slice az lz kz] 49 0 _ rfl) id
 have c3_10:((((w.alloc (.cells #[.slice am lm km,.slice aA lA kA,.slice aB lB kB] 29 (0,0))).alloc (.cells #[.slice ax lx kx,.slice ay ly ky,.slice az lz kz] 49 (0,0))).alloc (.cells #[.slice none 0 0,.slice none 0 0,.slice none 0 0] 49 (0,0))).alloc (.cells #[.slice am lm km] 27 (0,0))).cell? ⟨(w.alloc (.cells #[.slice am lm km,.slice aA lA kA,.slice aB lB kB] 29 (0,0))).heap.size,1,none⟩=some _:=(((Keep.refl Nope _).alloc _).alloc _).cel (cell_newI (w.alloc (.cells #[.slice am lm km,.slice aA lA kA,.slice aB lB kB] 29 (0,0))) #[.slice ax lx kx,.slice ay ly ky,.slice az lz kz] 49 1 _ rfl) id
 have c3_20:((((w.alloc (.cells #[.slice am lm km,.slice aA lA kA,.slice aB lB kB] 29 (0,0))).alloc (.cells #[.slice ax lx kx,.slice ay ly ky,.slice az lz kz] 49 (0,0))).alloc (.cells #[.slice none 0 0,.slice none 0 0,.slice none 0 0] 49 (0,0))).alloc (.cells #[.slice am lm km] 27 (0,0))).cell? ⟨(w.alloc (.cells #[.slice am lm km,.slice aA lA kA,.slice aB lB kB] 29 (0,0))).heap.size,2,none⟩=some _:=(((Keep.refl Nope _).alloc _).alloc _).cel (cell_newI (w.alloc (.cells #[.slice am lm km,.slice aA lA kA,.slice aB lB kB] 29 (0,0))) #[.slice ax lx kx,.slice ay ly ky,.slice az lz kz] 49 2 _ rfl) id
 have c5_00:((((w.alloc (.cells #[.slice am lm km,.slice aA lA kA,.slice aB lB kB] 29 (0,0))).alloc (.cells #[.slice ax lx kx,.slice ay ly ky,.slice az lz kz] 49 (0,0))).alloc (.cells #[.slice none 0 0,.slice none 0 0,.slice none 0 0] 49 (0,0))).alloc (.cells #[.slice am lm km] 27 (0,0))).cell? ⟨(((w.alloc (.cells #[.slice am lm km,.slice aA lA kA,.slice aB lB kB] 29 (0,0))).alloc (.cells #[.slice ax lx kx,.slice ay ly ky,.slice az lz kz] 49 (0,0))).alloc (.cells #[.slice none 0 0,.slice none 0 0,.slice none 0 0] 49 (0,0))).heap.size,0,none⟩=some _:=(Keep.refl Nope _).cel (cell_newI (((w.alloc (.cells #[.slice am lm km,.slice aA lA kA,.slice aB lB kB] 29 (0,0))).alloc (.cells #[.slice ax lx kx,.slice ay ly ky,.slice az lz kz] 49 (0,0))).alloc (.cells #[.slice none 0 0,.slice none 0 0,.slice none 0 0] 49 (0,0))) #[.slice am lm km] 27 0 _ rfl) id
 have h4:Thr ((((w.alloc (.cells #[.slice am lm km,.slice aA lA kA,.slice aB lB kB] 29 (0,0))).alloc (.cells #[.slice ax lx kx,.slice ay ly ky,.slice az lz kz] 49 (0,0))).alloc (.cells #[.slice none 0 0,.slice none 0 0,.slice none 0 0] 49 (0,0))).alloc (.cells #[.slice am lm km] 27 (0,0))) ((w.alloc (.cells #[.slice am lm km,.slice aA lA kA,.slice aB lB kB] 29 (0,0))).alloc (.cells #[.slice ax lx kx,.slice ay ly ky,.slice az lz kz] 49 (0,0))).heap.size (.slice none 0 0) (.slice none 0 0) (.slice none 0 0):=(Thr.new ((w.alloc (.cells #[.slice am lm km,.slice aA lA kA,.slice aB lB kB] 29 (0,0))).alloc (.cells #[.slice ax lx kx,.slice ay ly ky,.slice az lz kz] 49 (0,0))) _ _ _ 49).nope ((Keep.refl Nope _).alloc _)
 simp only [alloc_size] at c2_10 c3_00 c3_10 c3_20 c5_00 h4
 have B1:Hid (Bs p ((((w.alloc (.cells #[.slice am lm km,.slice aA lA kA,.slice aB lB kB] 29 (0,0))).alloc (.cells #[.slice ax lx kx,.slice ay ly ky,.slice az lz kz] 49 (0,0))).alloc (.cells #[.slice none 0 0,.slice none 0 0,.slice none 0 0] 49 (0,0))).alloc (.cells #[.slice am lm km] 27 (0,0))) am lm km _):=h.nope k1
 have K1:Hid (Keep _ _ _):=k1
 have H4:Hid (Thr _ _ _ _ _):=h4
 clear k1 h h4
 go_enter Tryz.func18,Tryz.ntmps18
 go_wp2_with fail
 generalize hw1:((((w.alloc (.cells #[.slice am lm km,.slice aA lA kA,.slice aB lB kB] 29 (0,0))).alloc (.cells #[.slice ax lx kx,.slice ay ly ky,.slice az lz kz] 49 (0,0))).alloc (.cells #[.slice none 0 0,.slice none 0 0,.slice none 0 0] 49 (0,0))).alloc (.cells #[.slice am lm km] 27 (0,0)))=w1 at *
 generalize hq2:w.heap.size=q2 at *
 generalize hq3:q2+1=q3 at *
 generalize hq4:q3+1=q4 at *
 generalize hq5:q4+1=q5 at *
 have HQ:Hid (w.heap.size≤q4):=by show _≤_;omega
 clear hw1 hq2 hq3 hq4 hq5
 have K0:Hid (Keep Nope w1 w1):=Keep.refl _ _
 refine(mulF (p:=p) (oo B1) (tl2 (.head _)) (tl2 (.head _))).mono ?_
 rintro e w11 ⟨a11,l11,k11,rfl,hb,kk⟩
 obtain⟨x11,ex⟩:∃xx,y*y=xx:=⟨_,rfl⟩
 rw [ex] at hb
 have B11:Hid (Bs p w11 am lm km _):=hb
 have K11:Hid (Keep Nope w1 w11):=(oo K0).trans kk
 have E11:Hid _:=ex
 clear hb kk ex
 go_wp2_with fail
 refine RS (fun w'=>Keep Nope w1 w') [0,1,3] ?_
 have HS:(fun w':World=>Keep Nope w1 w') w11.drew:=(oo K11).drew
 refine AL 0 HS ?_ (hy:=fun w2 hw2=>by have c5_0:=Keep.cel hw2 c5_00 id;go_simp;all_goals (with_reducible rfl))
 refine AL 1 HS ?_ (hy:=fun w2 hw2=>by have c5_0:=Keep.cel hw2 c5_00 id;go_simp;all_goals (with_reducible rfl))
 refine AP 2 ?_
 refine AL 3 HS ?_ (hy:=fun w2 hw2=>by have c3_0:=Keep.cel hw2 c3_00 id;go_simp;all_goals (with_reducible rfl))
 refine AP 4 ?_
 refine RO 5 (fun K hK=>?_)
 go_simp
 refine(mulF (p:=p) ((oo B11).nope ((Keep.refl _ _).drew)) (tl2 (.head _)) (.head _)).mono ?_
 rintro e w12 ⟨a12,l12,k12,rfl,hb,kk⟩
 have kk:=kk.undrew
 obtain⟨x12,ex⟩:∃xx,x*x11=xx:=⟨_,rfl⟩
 rw [ex] at hb
 have B12:Hid (Bs p w12 am lm km _):=hb
 have K12:Hid (Keep Nope w1 w12):=(oo K11).trans kk
 have E12:Hid _:=ex
 clear hb kk ex
 refine hK.out _ _ (.inr (oo K12)) ?_
 clear hK K HS
 try simp only [Act.put,Ls2,Ls0,Ls1]
 refine RO 6 (fun K hK=>?_)
 go_simp
 refine(timesF 4 (by omega) (by omega) (p:=p) (oo B12) (.head _)).mono ?_
 rintro e w13 ⟨a13,l13,k13,rfl,hb,kk⟩
 obtain⟨x13,ex⟩:∃xx,Fin.ofNat p 4*x12=xx:=⟨_,rfl⟩
 rw [ex] at hb
 have B13:Hid (Bs p w13 am lm km _):=hb
 have K13:Hid (Keep Nope w1 w13):=(oo K12).trans kk
 have E13:Hid _:=ex
 clear hb kk ex
 refine hK.out _ _ (.inr (oo K13)) ?_
 clear hK K
 refine AP 7 ?_
 try simp only [Ls0,Ls1,List.getElem_toArray,List.getElem_cons_succ,List.getElem_cons_zero]
 refine AnyL_done (by kernel_rfl) ?_
 have c2_1:=(oo K13).cel c2_10 id
 have c3_0:=(oo K13).cel c3_00 id
 have c3_1:=(oo K13).cel c3_10 id
 have c3_2:=(oo K13).cel c3_20 id
 have c5_0:=(oo K13).cel c5_00 id
 go_wp2_with fail
 refine(mulF (p:=p) (oo B13) (tl6 (.head _)) (tl6 (.head _))).mono ?_
 rintro e w14 ⟨a14,l14,k14,rfl,hb,kk⟩
 obtain⟨x14,ex⟩:∃xx,z*z=xx:=⟨_,rfl⟩
 rw [ex] at hb
 have B14:Hid (Bs p w14 am lm km _):=hb
 have K14:Hid (Keep Nope w1 w14):=(oo K13).trans kk
 have E14:Hid _:=ex
 clear hb kk ex
 clear c2_1 c3_0 c3_1 c3_2 c5_0
 go_wp2_with fail
 refine RS (fun w'=>Keep Nope w1 w') [0,1,2,4,6,9,11,12] ?_
 have HS:(fun w':World=>Keep Nope w1 w') w14.drew:=(oo K14).drew
 refine AL 0 HS ?_ (hy:=fun w2 hw2=>by have c5_0:=Keep.cel hw2 c5_00 id;go_simp;all_goals (with_reducible rfl))
 refine AL 1 HS ?_ (hy:=fun w2 hw2=>by have c5_0:=Keep.cel hw2 c5_00 id;go_simp;all_goals (with_reducible rfl))
 refine AL 2 HS ?_ (hy:=fun w2 hw2=>by have c5_0:=Keep.cel hw2 c5_00 id;go_simp;all_goals (with_reducible rfl))
 refine AP 3 ?_
 refine AL 4 HS ?_ (hy:=fun w2 hw2=>by have c3_0:=Keep.cel hw2 c3_00 id;go_simp;all_goals (with_reducible rfl))
 refine AP 5 ?_
 refine AL 6 HS ?_ (hy:=fun w2 hw2=>by have c3_0:=Keep.cel hw2 c3_00 id;go_simp;all_goals (with_reducible rfl))
 refine AL 9 HS ?_ (hy:=fun w2 hw2=>by have c5_0:=Keep.cel hw2 c5_00 id;go_simp;all_goals (with_reducible rfl))
 refine AP 10 ?_
 refine AL 11 HS ?_ (hy:=fun w2 hw2=>by have c2_1:=Keep.cel hw2 c2_10 id;go_simp;all_goals (with_reducible rfl))
 refine AL 12 HS ?_ (hy:=fun w2 hw2=>by have c5_0:=Keep.cel hw2 c5_00 id;go_simp;all_goals (with_reducible rfl))
 refine AP 13 ?_
 refine AP 14 ?_
 refine RO 7 (fun K hK=>?_)
 go_simp
 refine(mulF (p:=p) ((oo B14).nope ((Keep.refl _ _).drew)) (tl5 (.head _)) (tl5 (.head _))).mono ?_
 rintro e w15 ⟨a15,l15,k15,rfl,hb,kk⟩
 have kk:=kk.undrew
 obtain⟨x15,ex⟩:∃xx,x*x=xx:=⟨_,rfl⟩
 rw [ex] at hb
 have B15:Hid (Bs p w15 am lm km _):=hb
 have K15:Hid (Keep Nope w1 w15):=(oo K14).trans kk
 have E15:Hid _:=ex
 clear hb kk ex
 refine hK.out _ _ (.inr (oo K15)) ?_
 clear hK K HS
 try simp only [Act.put,Ls2,Ls0,Ls1]
 refine RO 8 (fun K hK=>?_)
 go_simp
 refine(timesF 3 (by omega) (by omega) (p:=p) (oo B15) (.head _)).mono ?_
 rintro e w16 ⟨a16,l16,k16,rfl,hb,kk⟩
 obtain⟨x16,ex⟩:∃xx,Fin.ofNat p 3*x15=xx:=⟨_,rfl⟩
 rw [ex] at hb
 have B16:Hid (Bs p w16 am lm km _):=hb
 have K16:Hid (Keep Nope w1 w16):=(oo K15).trans kk
 have E16:Hid _:=ex
 clear hb kk ex
 refine hK.out _ _ (.inr (oo K16)) ?_
 clear hK K
 try simp only [Act.put,Ls2,Ls0,Ls1]
 refine RO 15 (fun K hK=>?_)
 go_simp
 refine(mulF (p:=p) (oo B16) (tl2 (.head _)) (tl2 (.head _))).mono ?_
 rintro e w17 ⟨a17,l17,k17,rfl,hb,kk⟩
 obtain⟨x17,ex⟩:∃xx,x14*x14=xx:=⟨_,rfl⟩
 rw [ex] at hb
 have B17:Hid (Bs p w17 am lm km _):=hb
 have K17:Hid (Keep Nope w1 w17):=(oo K16).trans kk
 have E17:Hid _:=ex
 clear hb kk ex
 refine hK.out _ _ (.inr (oo K17)) ?_
 clear hK K
 try simp only [Act.put,Ls2,Ls0,Ls1]
 refine RO 16 (fun K hK=>?_)
 go_simp
 refine(mulF (p:=p) (oo B17) (tl7 (.head _)) (.head _)).mono ?_
 rintro e w18 ⟨a18,l18,k18,rfl,hb,kk⟩
 obtain⟨x18,ex⟩:∃xx,A*x17=xx:=⟨_,rfl⟩
 rw [ex] at hb
 have B18:Hid (Bs p w18 am lm km _):=hb
 have K18:Hid (Keep Nope w1 w18):=(oo K17).trans kk
 have E18:Hid _:=ex
 clear hb kk ex
 refine hK.out _ _ (.inr (oo K18)) ?_
 clear hK K
 try simp only [Act.put,Ls2,Ls0,Ls1]
 refine RO 17 (fun K hK=>?_)
 go_simp
 refine(addF (p:=p) (oo B18) (tl2 (.head _)) (.head _)).mono ?_
 rintro e w19 ⟨a19,l19,k19,rfl,hb,kk⟩
 obtain⟨x19,ex⟩:∃xx,x16+x18=xx:=⟨_,rfl⟩
 rw [ex] at hb
 have B19:Hid (Bs p w19 am lm km _):=hb
 have K19:Hid (Keep Nope w1 w19):=(oo K18).trans kk
 have E19:Hid _:=ex
 clear hb kk ex
 refine hK.out _ _ (.inr (oo K19)) ?_
 clear hK K
 refine AP 18 ?_
 try simp only [Ls0,Ls1,List.getElem_toArray,List.getElem_cons_succ,List.getElem_cons_zero]
 refine AnyL_done (by kernel_rfl) ?_
 go_wp2_with fail
 refine RS (fun w'=>Keep Nope w1 w') [0,1,5] ?_
 have HS:(fun w':World=>Keep Nope w1 w') w19.drew:=(oo K19).drew
 refine AL 0 HS ?_ (hy:=fun w2 hw2=>by have c5_0:=Keep.cel hw2 c5_00 id;go_simp;all_goals (with_reducible rfl))
 refine AL 1 HS ?_ (hy:=fun w2 hw2=>by have c5_0:=Keep.cel hw2 c5_00 id;go_simp;all_goals (with_reducible rfl))
 refine AP 2 ?_
 refine AP 3 ?_
 refine AL 5 HS ?_ (hy:=fun w2 hw2=>by have c5_0:=Keep.cel hw2 c5_00 id;go_simp;all_goals (with_reducible rfl))
 refine AP 6 ?_
 refine AP 7 ?_
 refine RO 4 (fun K hK=>?_)
 go_simp
 refine(mulF (p:=p) ((oo B19).nope ((Keep.refl _ _).drew)) (.head _) (.head _)).mono ?_
 rintro e w20 ⟨a20,l20,k20,rfl,hb,kk⟩
 have kk:=kk.undrew
 obtain⟨x20,ex⟩:∃xx,x19*x19=xx:=⟨_,rfl⟩
 rw [ex] at hb
 have B20:Hid (Bs p w20 am lm km _):=hb
 have K20:Hid (Keep Nope w1 w20):=(oo K19).trans kk
 have E20:Hid _:=ex
 clear hb kk ex
 refine hK.out _ _ (.inr (oo K20)) ?_
 clear hK K HS
 try simp only [Act.put,Ls2,Ls0,Ls1]
 refine RO 8 (fun K hK=>?_)
 go_simp
 refine(addF (p:=p) (oo B20) (tl7 (.head _)) (tl7 (.head _))).mono ?_
 rintro e w21 ⟨a21,l21,k21,rfl,hb,kk⟩
 obtain⟨x21,ex⟩:∃xx,x13+x13=xx:=⟨_,rfl⟩
 rw [ex] at hb
 have B21:Hid (Bs p w21 am lm km _):=hb
 have K21:Hid (Keep Nope w1 w21):=(oo K20).trans kk
 have E21:Hid _:=ex
 clear hb kk ex
 refine hK.out _ _ (.inr (oo K21)) ?_
 clear hK K
 try simp only [Act.put,Ls2,Ls0,Ls1]
 refine RO 9 (fun K hK=>?_)
 go_simp
 refine(subF (p:=p) (oo B21) (.tail _ (.head _)) (.head _)).mono ?_
 rintro e w22 ⟨a22,l22,k22,rfl,hb,kk⟩
 obtain⟨x22,ex⟩:∃xx,x20-x21=xx:=⟨_,rfl⟩
 rw [ex] at hb
 have B22:Hid (Bs p w22 am lm km _):=hb
 have K22:Hid (Keep Nope w1 w22):=(oo K21).trans kk
 have E22:Hid _:=ex
 clear hb kk ex
 refine hK.out _ _ (.inr (oo K22)) ?_
 clear hK K
 refine AP 10 ?_
 try simp only [Ls0,Ls1,List.getElem_toArray,List.getElem_cons_succ,List.getElem_cons_zero]
 refine AnyL_done (by kernel_rfl) ?_
 go_wp2_with fail
 refine RS (fun w'=>Keep Nope w1 w') [0,1,3,8,9] ?_
 have HS:(fun w':World=>Keep Nope w1 w') w22.drew:=(oo K22).drew
 refine AL 0 HS ?_ (hy:=fun w2 hw2=>by have c5_0:=Keep.cel hw2 c5_00 id;go_simp;all_goals (with_reducible rfl))
 refine AL 1 HS ?_ (hy:=fun w2 hw2=>by have c5_0:=Keep.cel hw2 c5_00 id;go_simp;all_goals (with_reducible rfl))
 refine AP 2 ?_
 refine AL 3 HS ?_ (hy:=fun w2 hw2=>by have c5_0:=Keep.cel hw2 c5_00 id;go_simp;all_goals (with_reducible rfl))
 refine AP 4 ?_
 refine AP 5 ?_
 refine AL 8 HS ?_ (hy:=fun w2 hw2=>by have c5_0:=Keep.cel hw2 c5_00 id;go_simp;all_goals (with_reducible rfl))
 refine AL 9 HS ?_ (hy:=fun w2 hw2=>by have c5_0:=Keep.cel hw2 c5_00 id;go_simp;all_goals (with_reducible rfl))
 refine AP 10 ?_
 refine AP 11 ?_
 refine RO 6 (fun K hK=>?_)
 go_simp
 refine(subF (p:=p) ((oo B22).nope ((Keep.refl _ _).drew)) (tl9 (.head _)) (.head _)).mono ?_
 rintro e w23 ⟨a23,l23,k23,rfl,hb,kk⟩
 have kk:=kk.undrew
 obtain⟨x23,ex⟩:∃xx,x13-x22=xx:=⟨_,rfl⟩
 rw [ex] at hb
 have B23:Hid (Bs p w23 am lm km _):=hb
 have K23:Hid (Keep Nope w1 w23):=(oo K22).trans kk
 have E23:Hid _:=ex
 clear hb kk ex
 refine hK.out _ _ (.inr (oo K23)) ?_
 clear hK K HS
 try simp only [Act.put,Ls2,Ls0,Ls1]
 refine RO 7 (fun K hK=>?_)
 go_simp
 refine(mulF (p:=p) (oo B23) (tl4 (.head _)) (.head _)).mono ?_
 rintro e w24 ⟨a24,l24,k24,rfl,hb,kk⟩
 obtain⟨x24,ex⟩:∃xx,x19*x23=xx:=⟨_,rfl⟩
 rw [ex] at hb
 have B24:Hid (Bs p w24 am lm km _):=hb
 have K24:Hid (Keep Nope w1 w24):=(oo K23).trans kk
 have E24:Hid _:=ex
 clear hb kk ex
 refine hK.out _ _ (.inr (oo K24)) ?_
 clear hK K
 try simp only [Act.put,Ls2,Ls0,Ls1]
 refine RO 12 (fun K hK=>?_)
 go_simp
 refine(mulF (p:=p) (oo B24) (tl13 (.head _)) (tl13 (.head _))).mono ?_
 rintro e w25 ⟨a25,l25,k25,rfl,hb,kk⟩
 obtain⟨x25,ex⟩:∃xx,x11*x11=xx:=⟨_,rfl⟩
 rw [ex] at hb
 have B25:Hid (Bs p w25 am lm km _):=hb
 have K25:Hid (Keep Nope w1 w25):=(oo K24).trans kk
 have E25:Hid _:=ex
 clear hb kk ex
 refine hK.out _ _ (.inr (oo K25)) ?_
 clear hK K
 try simp only [Act.put,Ls2,Ls0,Ls1]
 refine RO 13 (fun K hK=>?_)
 go_simp
 refine(timesF 8 (by omega) (by omega) (p:=p) (oo B25) (.head _)).mono ?_
 rintro e w26 ⟨a26,l26,k26,rfl,hb,kk⟩
 obtain⟨x26,ex⟩:∃xx,Fin.ofNat p 8*x25=xx:=⟨_,rfl⟩
 rw [ex] at hb
 have B26:Hid (Bs p w26 am lm km _):=hb
 have K26:Hid (Keep Nope w1 w26):=(oo K25).trans kk
 have E26:Hid _:=ex
 clear hb kk ex
 refine hK.out _ _ (.inr (oo K26)) ?_
 clear hK K
 try simp only [Act.put,Ls2,Ls0,Ls1]
 refine RO 14 (fun K hK=>?_)
 go_simp
 refine(subF (p:=p) (oo B26) (tl2 (.head _)) (.head _)).mono ?_
 rintro e w27 ⟨a27,l27,k27,rfl,hb,kk⟩
 obtain⟨x27,ex⟩:∃xx,x24-x26=xx:=⟨_,rfl⟩
 rw [ex] at hb
 have B27:Hid (Bs p w27 am lm km _):=hb
 have K27:Hid (Keep Nope w1 w27):=(oo K26).trans kk
 have E27:Hid _:=ex
 clear hb kk ex
 refine hK.out _ _ (.inr (oo K27)) ?_
 clear hK K
 refine AP 15 ?_
 try simp only [Ls0,Ls1,List.getElem_toArray,List.getElem_cons_succ,List.getElem_cons_zero]
 refine AnyL_done (by kernel_rfl) ?_
 go_wp2_with fail
 refine RS (fun w'=>Keep Nope w1 w') [2,3,5,7] ?_
 have HS:(fun w':World=>Keep Nope w1 w') w27.drew:=(oo K27).drew
 refine AP 0 ?_
 refine AP 1 ?_
 refine AL 2 HS ?_ (hy:=fun w2 hw2=>by have c5_0:=Keep.cel hw2 c5_00 id;go_simp;all_goals (with_reducible rfl))
 refine AL 3 HS ?_ (hy:=fun w2 hw2=>by have c5_0:=Keep.cel hw2 c5_00 id;go_simp;all_goals (with_reducible rfl))
 refine AP 4 ?_
 refine AL 5 HS ?_ (hy:=fun w2 hw2=>by have c3_1:=Keep.cel hw2 c3_10 id;go_simp;all_goals (with_reducible rfl))
 refine AP 6 ?_
 refine AL 7 HS ?_ (hy:=fun w2 hw2=>by have c3_2:=Keep.cel hw2 c3_20 id;go_simp;all_goals (with_reducible rfl))
 refine RO 8 (fun K hK=>?_)
 go_simp
 refine(mulF (p:=p) ((oo B27).nope ((Keep.refl _ _).drew)) (tl19 (.head _)) (tl20 (.head _))).mono ?_
 rintro e w28 ⟨a28,l28,k28,rfl,hb,kk⟩
 have kk:=kk.undrew
 obtain⟨x28,ex⟩:∃xx,y*z=xx:=⟨_,rfl⟩
 rw [ex] at hb
 have B28:Hid (Bs p w28 am lm km _):=hb
 have K28:Hid (Keep Nope w1 w28):=(oo K27).trans kk
 have E28:Hid _:=ex
 clear hb kk ex
 refine hK.out _ _ (.inr (oo K28)) ?_
 clear hK K HS
 try simp only [Act.put,Ls2,Ls0,Ls1]
 refine RO 9 (fun K hK=>?_)
 go_simp
 refine(timesF 2 (by omega) (by omega) (p:=p) (oo B28) (.head _)).mono ?_
 rintro e w29 ⟨a29,l29,k29,rfl,hb,kk⟩
 obtain⟨x29,ex⟩:∃xx,Fin.ofNat p 2*x28=xx:=⟨_,rfl⟩
 rw [ex] at hb
 have B29:Hid (Bs p w29 am lm km _):=hb
 have K29:Hid (Keep Nope w1 w29):=(oo K28).trans kk
 have E29:Hid _:=ex
 clear hb kk ex
 refine hK.out _ _ (.inr (oo K29)) ?_
 clear hK K
 refine AP 10 ?_
 obtain⟨d0,d1,d2,df⟩:=((oo H4).nope (oo K29)).cells
 have df0:=df 0
 have df1:=df 1
 have df2:=df 2
 clear df
 try simp only [Act.put,Ls2,Ls0,Ls1]
 refine RO 11 (fun K hK=>?_)
 go_simp
 refine hK.out _ _ (.inl (by kernel_rfl)) ?_
 clear hK K d0 d1 d2 df0 df1 df2
 try simp only [Act.put,Ls2,Ls0,Ls1,List.getElem_toArray,List.getElem_cons_succ,List.getElem_cons_zero]
 refine AnyL_done (by kernel_rfl) ?_
 have hT:=((oo H4).nope (oo K29)).set3 (.slice a22 l22 k22) (.slice a27 l27 k27) (.slice a29 l29 k29)
 have hkk:Keep (·=q4) w29 (((w29.setCell ⟨q4,0,none⟩ (.slice a22 l22 k22)).setCell ⟨q4,1,none⟩ (.slice a27 l27 k27)).setCell ⟨q4,2,none⟩ (.slice a29 l29 k29)):=(((Keep.refl (·=q4) w29).setCell (p:=⟨q4,0,none⟩) rfl _).setCell (p:=⟨q4,1,none⟩) rfl _).setCell (p:=⟨q4,2,none⟩) rfl _
 generalize (((w29.setCell ⟨q4,0,none⟩ (.slice a22 l22 k22)).setCell ⟨q4,1,none⟩ (.slice a27 l27 k27)).setCell ⟨q4,2,none⟩ (.slice a29 l29 k29))=wz at *
 obtain⟨TT,hTT⟩:=hT
 go_wp2_with fail
 (try simp only [Exit.inBlock,Exit.then])
 refine bodyPost_ret (results_cell_row rfl _ _ q4 TT #[.slice a22 l22 k22,.slice a27 l27 k27,.slice a29 l29 k29] (0,0) _ rfl hTT Tryz.underlying49 rfl (by kernel_rfl)) rfl ?_
 have hB:=(oo B29).other ((oo H4).nope (oo K29)) hkk
 obtain rfl:=oo E11
 obtain rfl:=oo E12
 obtain rfl:=oo E13
 obtain rfl:=oo E14
 obtain rfl:=oo E15
 obtain rfl:=oo E16
 obtain rfl:=oo E17
 obtain rfl:=oo E18
 obtain rfl:=oo E19
 obtain rfl:=oo E20
 obtain rfl:=oo E21
 obtain rfl:=oo E22
 obtain rfl:=oo E23
 obtain rfl:=oo E24
 obtain rfl:=oo E25
 obtain rfl:=oo E26
 obtain rfl:=oo E27
 obtain rfl:=oo E28
 obtain rfl:=oo E29
 refine⟨_,_,_,_,_,_,_,_,_,rfl,hB.sub ?_,((oo K1).trans (oo K29)).fresh hkk HQ.out⟩
 rw [Ec.jdbl,if_neg (fun h=>h.elim hz0 hy0)]
 intro d hd
 rcases List.mem_cons.1 hd with rfl | hd
 ·exact(tl7 (.head _))
 rcases List.mem_cons.1 hd with rfl | hd
 ·exact(tl2 (.head _))
 rcases List.mem_cons.1 hd with rfl | hd
 ·exact(.head _)
 exact .tail _ (tl18 (hd))
end Go.Proofs.YtofkehhflkdabaaGreatDoor
