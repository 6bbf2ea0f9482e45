/- A part of the proof of FnCurveOf. -/
import Derived.Test.YtofkehhflkdabaaGreatDoorP18
set_option maxRecDepth 100000
set_option maxHeartbeats 8000000
namespace Go.Proofs.YtofkehhflkdabaaGreatDoor
open Go Go.RowKit
theorem add_ne {p:Nat} [NeZero p] (w:World) (am:Option Addr) (lm km:Nat) (L:List (Dv p)) (aA aB ax ay az au av aw:Option Addr) (lA kA lB kB lx kx ly ky lz kz lu ku lv kv lw kw:Nat) (A x y z u v t:Fin p) (h:Bs p w am lm km (⟨aA,lA,kA,A⟩::⟨ax,lx,kx,x⟩::⟨ay,ly,ky,y⟩::⟨az,lz,kz,z⟩::⟨au,lu,ku,u⟩::⟨av,lv,kv,v⟩::⟨aw,lw,kw,t⟩::L)) (hz0:z≠0) (ht0:t≠0) :
  Calls Tryz.prog 19 #[.agg #[.slice am lm km,.slice aA lA kA,.slice aB lB kB],.agg #[.slice ax lx kx,.slice ay ly ky,.slice az lz kz],.agg #[.slice au lu ku,.slice av lv kv,.slice aw lw kw]] w (TriPost p w am lm km (⟨aA,lA,kA,A⟩::⟨ax,lx,kx,x⟩::⟨ay,ly,ky,y⟩::⟨az,lz,kz,z⟩::⟨au,lu,ku,u⟩::⟨av,lv,kv,v⟩::⟨aw,lw,kw,t⟩::L) (Ec.jadd A ⟨x,y,z⟩ ⟨u,v,t⟩)):=by
 have t1:((lz:Int)==0)=false:=h.len_ne (tl3 (.head _)) hz0
 have t2:((lw:Int)==0)=false:=h.len_ne (tl6 (.head _)) ht0
 have k1:Keep Nope w (((((w.alloc (.cells #[.slice am lm km,.slice aA lA kA,.slice aB lB kB] 29 (0,0))).alloc (.cells #[.slice ax lx kx,.slice ay ly ky,.slice az lz kz] 49 (0,0))).alloc (.cells #[.slice au lu ku,.slice av lv kv,.slice aw lw kw] 49 (0,0))).alloc (.cells #[.slice none 0 0,.slice none 0 0,.slice none 0 0] 49 (0,0))).alloc (.cells #[.slice am lm km] 27 (0,0))):=(((((Keep.refl Nope w).alloc _).alloc _).alloc _).alloc _).alloc _
 have c3_00:(((((w.alloc (.cells #[.slice am lm km,.slice aA lA kA,.slice aB lB kB] 29 (0,0))).alloc (.cells #[.slice ax lx kx,.slice ay ly ky,.slice az lz kz] 49 (0,0))).alloc (.cells #[.slice au lu ku,.slice av lv kv,.slice aw lw kw] 49 (0,0))).alloc (.cells #[.slice none 0 0,.slice none 0 0,.slice none 0 0] 49 (0,0))).alloc (.cells #[.slice am lm km] 27 (0,0))).cell? ⟨w.heap.size,0,none⟩=some _:=(((((Keep.refl Nope _).alloc _).alloc _).alloc _).alloc _).cel (cell_newI w #[.slice am lm km,.slice aA lA kA,.slice aB lB kB] 29 0 _ rfl) id
 have c3_10:(((((w.alloc (.cells #[.slice am lm km,.slice aA lA kA,.slice aB lB kB] 29 (0,0))).alloc (.cells #[.slice ax lx kx,.slice ay ly ky,.slice az lz kz] 49 (0,0))).alloc (.cells #[.slice au lu ku,.slice av lv kv,.slice aw lw kw] 49 (0,0))).alloc (.cells #[.slice none 0 0,.slice none 0 0,.slice none 0 0] 49 (0,0))).alloc (.cells #[.slice am lm km] 27 (0,0))).cell? ⟨w.heap.size,1,none⟩=some _:=(((((Keep.refl Nope _).alloc _).alloc _).alloc _).alloc _).cel (cell_newI w #[.slice am lm km,.slice aA lA kA,.slice aB lB kB] 29 1 _ rfl) id
 have c3_20:(((((w.alloc (.cells #[.slice am lm km,.slice aA lA kA,.slice aB lB kB] 29 (0,0))).alloc (.cells #[.slice ax lx kx,.slice ay ly ky,.slice az lz kz] 49 (0,0))).alloc (.cells #[.slice au lu ku,.slice av lv kv,.slice aw lw kw] 49 (0,0))).alloc (.cells #[.slice none 0 0,.slice none 0 0,.slice none 0 0] 49 (0,0))).alloc (.cells #[.slice am lm km] 27 (0,0))).cell? ⟨w.heap.size,2,none⟩=some _:=(((((Keep.refl Nope _).alloc _).alloc _).alloc _).alloc _).cel (cell_newI w #[.slice am lm km,.slice aA lA kA,.slice aB lB kB] 29 2 _ rfl) id
 have c4_00:(((((w.alloc (.cells #[.slice am lm km,.slice aA lA kA,.slice aB lB kB] 29 (0,0))).alloc (.cells #[.slice ax lx kx,.slice ay ly ky,.slice az lz kz] 49 (0,0))).alloc (.cells #[.slice au lu ku,.slice av lv kv,.slice aw lw kw] 49 (0,0))).alloc (.cells #[.slice none 0 0,.slice none 0 0,.slice none 0 0] 49 (0,0))).alloc (.cells #[.slice am lm km] 27 (0,0))).cell? ⟨(w.alloc (.cells #[.slice am lm km,.slice aA lA kA,.slice aB lB kB] 29 (0,0))).heap.size,0,none⟩=some _:=((((Keep.refl Nope _).alloc _).alloc _).alloc _).cel (cell_newI (w.alloc (.cells #[.slice am lm km,.slice aA lA kA,.slice aB lB kB] 29 (0,0))) #[.slice ax lx kx,.slice ay ly ky,.slice az lz kz] 49 0 _ rfl) id
 have c4_10:(((((w.alloc (.cells #[.slice am lm km,.slice aA lA kA,.slice aB lB kB] 29 (0,0))).alloc (.cells #[.slice ax lx kx,.slice ay ly ky,.slice az lz kz] 49 (0,0))).alloc (.cells #[.slice au lu ku,.slice av lv kv,.slice aw lw kw] 49 (0,0))).alloc (.cells #[.slice none 0 0,.slice none 0 0,.slice none 0 0] 49 (0,0))).alloc (.cells #[.slice am lm km] 27 (0,0))).cell? ⟨(w.alloc (.cells #[.slice am lm km,.slice aA lA kA,.slice aB lB kB] 29 (0,0))).heap.size,1,none⟩=some _:=((((Keep.refl Nope _).alloc _).alloc _).alloc _).cel (cell_newI (w.alloc (.cells #[.slice am lm km,.slice aA lA kA,.slice aB lB kB] 29 (0,0))) #[.slice ax lx kx,.slice ay ly ky,.slice az lz kz] 49 1 _ rfl) id
 have c4_20:(((((w.alloc (.cells #[.slice am lm km,.slice aA lA kA,.slice aB lB kB] 29 (0,0))).alloc (.cells #[.slice ax lx kx,.slice ay ly ky,.slice az lz kz] 49 (0,0))).alloc (.cells #[.slice au lu ku,.slice av lv kv,.slice aw lw kw] 49 (0,0))).alloc (.cells #[.slice none 0 0,.slice none 0 0,.slice none 0 0] 49 (0,0))).alloc (.cells #[.slice am lm km] 27 (0,0))).cell? ⟨(w.alloc (.cells #[.slice am lm km,.slice aA lA kA,.slice aB lB kB] 29 (0,0))).heap.size,2,none⟩=some _:=((((Keep.refl Nope _).alloc _).alloc _).alloc _).cel (cell_newI (w.alloc (.cells #[.slice am lm km,.slice aA lA kA,.slice aB lB kB] 29 (0,0))) #[.slice ax lx kx,.slice ay ly ky,.slice az lz kz] 49 2 _ rfl) id
 have c5_00:(((((w.alloc (.cells #[.slice am lm km,.slice aA lA kA,.slice aB lB kB] 29 (0,0))).alloc (.cells #[.slice ax lx kx,.slice ay ly ky,.slice az lz kz] 49 (0,0))).alloc (.cells #[.slice au lu ku,.slice av lv kv,.slice aw lw kw] 49 (0,0))).alloc (.cells #[.slice none 0 0,.slice none 0 0,.slice none 0 0] 49 (0,0))).alloc (.cells #[.slice am lm km] 27 (0,0))).cell? ⟨((w.alloc (.cells #[.slice am lm km,.slice aA lA kA,.slice aB lB kB] 29 (0,0))).alloc (.cells #[.slice ax lx kx,.slice ay ly ky,.slice az lz kz] 49 (0,0))).heap.size,0,none⟩=some _:=(((Keep.refl Nope _).alloc _).alloc _).cel (cell_newI ((w.alloc (.cells #[.slice am lm km,.slice aA lA kA,.slice aB lB kB] 29 (0,0))).alloc (.cells #[.slice ax lx kx,.slice ay ly ky,.slice az lz kz] 49 (0,0))) #[.slice au lu ku,.slice av lv kv,.slice aw lw kw] 49 0 _ rfl) id
 have c5_10:(((((w.alloc (.cells #[.slice am lm km,.slice aA lA kA,.slice aB lB kB] 29 (0,0))).alloc (.cells #[.slice ax lx kx,.slice ay ly ky,.slice az lz kz] 49 (0,0))).alloc (.cells #[.slice au lu ku,.slice av lv kv,.slice aw lw kw] 49 (0,0))).alloc (.cells #[.slice none 0 0,.slice none 0 0,.slice none 0 0] 49 (0,0))).alloc (.cells #[.slice am lm km] 27 (0,0))).cell? ⟨((w.alloc (.cells #[.slice am lm km,.slice aA lA kA,.slice aB lB kB] 29 (0,0))).alloc (.cells #[.slice ax lx kx,.slice ay ly ky,.slice az lz kz] 49 (0,0))).heap.size,1,none⟩=some _:=(((Keep.refl Nope _).alloc _).alloc _).cel (cell_newI ((w.alloc (.cells #[.slice am lm km,.slice aA lA kA,.slice aB lB kB] 29 (0,0))).alloc (.cells #[.slice ax lx kx,.slice ay ly ky,.slice az lz kz] 49 (0,0))) #[.slice au lu ku,.slice av lv kv,.slice aw lw kw] 49 1 _ rfl) id
 have c5_20:(((((w.alloc (.cells #[.slice am lm km,.slice aA lA kA,.slice aB lB kB] 29 (0,0))).alloc (.cells #[.slice ax lx kx,.slice ay ly ky,.slice az lz kz] 49 (0,0))).alloc (.cells #[.slice au lu ku,.slice av lv kv,.slice aw lw kw] 49 (0,0))).alloc (.cells #[.slice none 0 0,.slice none 0 0,.slice none 0 0] 49 (0,0))).alloc (.cells #[.slice am lm km] 27 (0,0))).cell? ⟨((w.alloc (.cells #[.slice am lm km,.slice aA lA kA,.slice aB lB kB] 29 (0,0))).alloc (.cells #[.slice ax lx kx,.slice ay ly ky,.slice az lz kz] 49 (0,0))).heap.size,2,none⟩=some _:=(((Keep.refl Nope _).alloc _).alloc _).cel (cell_newI ((w.alloc (.cells #[.slice am lm km,.slice aA lA kA,.slice aB lB kB] 29 (0,0))).alloc (.cells #[.slice ax lx kx,.slice ay ly ky,.slice az lz kz] 49 (0,0))) #[.slice au lu ku,.slice av lv kv,.slice aw lw kw] 49 2 _ rfl) id
 have c7_00:(((((w.alloc (.cells #[.slice am lm km,.slice aA lA kA,.slice aB lB kB] 29 (0,0))).alloc (.cells #[.slice ax lx kx,.slice ay ly ky,.slice az lz kz] 49 (0,0))).alloc (.cells #[.slice au lu ku,.slice av lv kv,.slice aw lw kw] 49 (0,0))).alloc (.cells #[.slice none 0 0,.slice none 0 0,.slice none 0 0] 49 (0,0))).alloc (.cells #[.slice am lm km] 27 (0,0))).cell? ⟨((((w.alloc (.cells #[.slice am lm km,.slice aA lA kA,.slice aB lB kB] 29 (0,0))).alloc (.cells #[.slice ax lx kx,.slice ay ly ky,.slice az lz kz] 49 (0,0))).alloc (.cells #[.slice au lu ku,.slice av lv kv,.slice aw lw kw] 49 (0,0))).alloc (.cells #[.slice none 0 0,.slice none 0 0,.slice none 0 0] 49 (0,0))).heap.size,0,none⟩=some _:=(Keep.refl Nope _).cel (cell_newI ((((w.alloc (.cells #[.slice am lm km,.slice aA lA kA,.slice aB lB kB] 29 (0,0))).alloc (.cells #[.slice ax lx kx,.slice ay ly ky,.slice az lz kz] 49 (0,0))).alloc (.cells #[.slice au lu ku,.slice av lv kv,.slice aw lw kw] 49 (0,0))).alloc (.cells #[.slice none 0 0,.slice none 0 0,.slice none 0 0] 49 (0,0))) #[.slice am lm km] 27 0 _ rfl) id
 have h4:Thr (((((w.alloc (.cells #[.slice am lm km,.slice aA lA kA,.slice aB lB kB] 29 (0,0))).alloc (.cells #[.slice ax lx kx,.slice ay ly ky,.slice az lz kz] 49 (0,0))).alloc (.cells #[.slice au lu ku,.slice av lv kv,.slice aw lw kw] 49 (0,0))).alloc (.cells #[.slice none 0 0,.slice none 0 0,.slice none 0 0] 49 (0,0))).alloc (.cells #[.slice am lm km] 27 (0,0))) (((w.alloc (.cells #[.slice am lm km,.slice aA lA kA,.slice aB lB kB] 29 (0,0))).alloc (.cells #[.slice ax lx kx,.slice ay ly ky,.slice az lz kz] 49 (0,0))).alloc (.cells #[.slice au lu ku,.slice av lv kv,.slice aw lw kw] 49 (0,0))).heap.size (.slice none 0 0) (.slice none 0 0) (.slice none 0 0):=(Thr.new (((w.alloc (.cells #[.slice am lm km,.slice aA lA kA,.slice aB lB kB] 29 (0,0))).alloc (.cells #[.slice ax lx kx,.slice ay ly ky,.slice az lz kz] 49 (0,0))).alloc (.cells #[.slice au lu ku,.slice av lv kv,.slice aw lw kw] 49 (0,0))) _ _ _ 49).nope ((Keep.refl Nope _).alloc _)
 simp only [alloc_size] at c3_00 c3_10 c3_20 c4_00 c4_10 c4_20 c5_00 c5_10 c5_20 c7_00 h4
 have B1:Hid (Bs p (((((w.alloc (.cells #[.slice am lm km,.slice aA lA kA,.slice aB lB kB] 29 (0,0))).alloc (.cells #[.slice ax lx kx,.slice ay ly ky,.slice az lz kz] 49 (0,0))).alloc (.cells #[.slice au lu ku,.slice av lv kv,.slice aw lw kw] 49 (0,0))).alloc (.cells #[.slice none 0 0,.slice none 0 0,.slice none 0 0] 49 (0,0))).alloc (.cells #[.slice am lm km] 27 (0,0))) am lm km _):=h.nope k1
 have K1:Hid (Keep _ _ _):=k1
 have H4:Hid (Thr _ _ _ _ _):=h4
 clear k1 h h4
 go_enter Tryz.func19,Tryz.ntmps19
 go_wp2_with fail
 generalize hw1:(((((w.alloc (.cells #[.slice am lm km,.slice aA lA kA,.slice aB lB kB] 29 (0,0))).alloc (.cells #[.slice ax lx kx,.slice ay ly ky,.slice az lz kz] 49 (0,0))).alloc (.cells #[.slice au lu ku,.slice av lv kv,.slice aw lw kw] 49 (0,0))).alloc (.cells #[.slice none 0 0,.slice none 0 0,.slice none 0 0] 49 (0,0))).alloc (.cells #[.slice am lm km] 27 (0,0)))=w1 at *
 generalize hq2:w.heap.size=q2 at *
 generalize hq3:q2+1=q3 at *
 generalize hq4:q3+1=q4 at *
 generalize hq5:q4+1=q5 at *
 generalize hq6:q5+1=q6 at *
 have HQ:Hid (w.heap.size≤q5):=by show _≤_;omega
 clear hw1 hq2 hq3 hq4 hq5 hq6
 have K0:Hid (Keep Nope w1 w1):=Keep.refl _ _
 refine RS (fun w'=>Keep Nope w1 w') [0,2,4,6,8,10] ?_
 have HS:(fun w':World=>Keep Nope w1 w') w1.drew:=(oo K0).drew
 refine AL 0 HS ?_ (hy:=fun w2 hw2=>by have c7_0:=Keep.cel hw2 c7_00 id;go_simp;all_goals (with_reducible rfl))
 refine AP 1 ?_
 refine AL 2 HS ?_ (hy:=fun w2 hw2=>by have c4_2:=Keep.cel hw2 c4_20 id;go_simp;all_goals (with_reducible rfl))
 refine AP 3 ?_
 refine AL 4 HS ?_ (hy:=fun w2 hw2=>by have c4_2:=Keep.cel hw2 c4_20 id;go_simp;all_goals (with_reducible rfl))
 refine AL 6 HS ?_ (hy:=fun w2 hw2=>by have c7_0:=Keep.cel hw2 c7_00 id;go_simp;all_goals (with_reducible rfl))
 refine AP 7 ?_
 refine AL 8 HS ?_ (hy:=fun w2 hw2=>by have c5_2:=Keep.cel hw2 c5_20 id;go_simp;all_goals (with_reducible rfl))
 refine AP 9 ?_
 refine AL 10 HS ?_ (hy:=fun w2 hw2=>by have c5_2:=Keep.cel hw2 c5_20 id;go_simp;all_goals (with_reducible rfl))
 refine RO 5 (fun K hK=>?_)
 go_simp
 refine(mulF (p:=p) ((oo B1).nope ((Keep.refl _ _).drew)) (tl3 (.head _)) (tl3 (.head _))).mono ?_
 rintro e w11 ⟨a11,l11,k11,rfl,hb,kk⟩
 have kk:=kk.undrew
 obtain⟨x11,ex⟩:∃xx,z*z=xx:=⟨_,rfl⟩
 rw [ex] at hb
 have B11:Hid (Bs p w11 am lm km _):=hb
 have K11:Hid (Keep Nope w1 w11):=(oo K0).trans kk
 have E11:Hid _:=ex
 clear hb kk ex
 refine hK.out _ _ (.inr (oo K11)) ?_
 clear hK K HS
 try simp only [Act.put,Ls2,Ls0,Ls1]
 refine RO 11 (fun K hK=>?_)
 go_simp
 refine(mulF (p:=p) (oo B11) (tl7 (.head _)) (tl7 (.head _))).mono ?_
 rintro e w12 ⟨a12,l12,k12,rfl,hb,kk⟩
 obtain⟨x12,ex⟩:∃xx,t*t=xx:=⟨_,rfl⟩
 rw [ex] at hb
 have B12:Hid (Bs p w12 am lm km _):=hb
 have K12:Hid (Keep Nope w1 w12):=(oo K11).trans kk
 have E12:Hid _:=ex
 clear hb kk ex
 refine hK.out _ _ (.inr (oo K12)) ?_
 clear hK K
 refine AP 12 ?_
 refine AP 13 ?_
 try simp only [Ls2,Ls0,Ls1,List.getElem_toArray,List.getElem_cons_succ,List.getElem_cons_zero]
 refine AnyL_done (by kernel_rfl) ?_
 go_wp2_with fail
 refine RS (fun w'=>Keep Nope w1 w') [0,2,5,7] ?_
 have HS:(fun w':World=>Keep Nope w1 w') w12.drew:=(oo K12).drew
 refine AL 0 HS ?_ (hy:=fun w2 hw2=>by have c7_0:=Keep.cel hw2 c7_00 id;go_simp;all_goals (with_reducible rfl))
 refine AP 1 ?_
 refine AL 2 HS ?_ (hy:=fun w2 hw2=>by have c4_0:=Keep.cel hw2 c4_00 id;go_simp;all_goals (with_reducible rfl))
 refine AP 3 ?_
 refine AL 5 HS ?_ (hy:=fun w2 hw2=>by have c7_0:=Keep.cel hw2 c7_00 id;go_simp;all_goals (with_reducible rfl))
 refine AP 6 ?_
 refine AL 7 HS ?_ (hy:=fun w2 hw2=>by have c5_0:=Keep.cel hw2 c5_00 id;go_simp;all_goals (with_reducible rfl))
 refine AP 8 ?_
 refine RO 4 (fun K hK=>?_)
 go_simp
 refine(mulF (p:=p) ((oo B12).nope ((Keep.refl _ _).drew)) (tl3 (.head _)) (.head _)).mono ?_
 rintro e w13 ⟨a13,l13,k13,rfl,hb,kk⟩
 have kk:=kk.undrew
 obtain⟨x13,ex⟩:∃xx,x*x12=xx:=⟨_,rfl⟩
 rw [ex] at hb
 have B13:Hid (Bs p w13 am lm km _):=hb
 have K13:Hid (Keep Nope w1 w13):=(oo K12).trans kk
 have E13:Hid _:=ex
 clear hb kk ex
 refine hK.out _ _ (.inr (oo K13)) ?_
 clear hK K HS
 try simp only [Act.put,Ls2,Ls0,Ls1]
 refine RO 9 (fun K hK=>?_)
 go_simp
 refine(mulF (p:=p) (oo B13) (tl7 (.head _)) (tl2 (.head _))).mono ?_
 rintro e w14 ⟨a14,l14,k14,rfl,hb,kk⟩
 obtain⟨x14,ex⟩:∃xx,u*x11=xx:=⟨_,rfl⟩
 rw [ex] at hb
 have B14:Hid (Bs p w14 am lm km _):=hb
 have K14:Hid (Keep Nope w1 w14):=(oo K13).trans kk
 have E14:Hid _:=ex
 clear hb kk ex
 refine hK.out _ _ (.inr (oo K14)) ?_
 clear hK K
 refine AP 10 ?_
 refine AP 11 ?_
 try simp only [Ls2,Ls0,Ls1,List.getElem_toArray,List.getElem_cons_succ,List.getElem_cons_zero]
 refine AnyL_done (by kernel_rfl) ?_
 go_wp2_with fail
 refine RS (fun w'=>Keep Nope w1 w') [0,2,3,6,9,11,12,15] ?_
 have HS:(fun w':World=>Keep Nope w1 w') w14.drew:=(oo K14).drew
 refine AL 0 HS ?_ (hy:=fun w2 hw2=>by have c7_0:=Keep.cel hw2 c7_00 id;go_simp;all_goals (with_reducible rfl))
 refine AP 1 ?_
 refine AL 2 HS ?_ (hy:=fun w2 hw2=>by have c4_1:=Keep.cel hw2 c4_10 id;go_simp;all_goals (with_reducible rfl))
 refine AL 3 HS ?_ (hy:=fun w2 hw2=>by have c7_0:=Keep.cel hw2 c7_00 id;go_simp;all_goals (with_reducible rfl))
 refine AP 4 ?_
 refine AP 5 ?_
 refine AL 6 HS ?_ (hy:=fun w2 hw2=>by have c5_2:=Keep.cel hw2 c5_20 id;go_simp;all_goals (with_reducible rfl))
 refine AL 9 HS ?_ (hy:=fun w2 hw2=>by have c7_0:=Keep.cel hw2 c7_00 id;go_simp;all_goals (with_reducible rfl))
 refine AP 10 ?_
 refine AL 11 HS ?_ (hy:=fun w2 hw2=>by have c5_1:=Keep.cel hw2 c5_10 id;go_simp;all_goals (with_reducible rfl))
 refine AL 12 HS ?_ (hy:=fun w2 hw2=>by have c7_0:=Keep.cel hw2 c7_00 id;go_simp;all_goals (with_reducible rfl))
 refine AP 13 ?_
 refine AP 14 ?_
 refine AL 15 HS ?_ (hy:=fun w2 hw2=>by have c4_2:=Keep.cel hw2 c4_20 id;go_simp;all_goals (with_reducible rfl))
 refine RO 7 (fun K hK=>?_)
 go_simp
 refine(mulF (p:=p) ((oo B14).nope ((Keep.refl _ _).drew)) (tl2 (.head _)) (tl10 (.head _))).mono ?_
 rintro e w15 ⟨a15,l15,k15,rfl,hb,kk⟩
 have kk:=kk.undrew
 obtain⟨x15,ex⟩:∃xx,x12*t=xx:=⟨_,rfl⟩
 rw [ex] at hb
 have B15:Hid (Bs p w15 am lm km _):=hb
 have K15:Hid (Keep Nope w1 w15):=(oo K14).trans kk
 have E15:Hid _:=ex
 clear hb kk ex
 refine hK.out _ _ (.inr (oo K15)) ?_
 clear hK K HS
 try simp only [Act.put,Ls2,Ls0,Ls1]
 refine RO 8 (fun K hK=>?_)
 go_simp
 refine(mulF (p:=p) (oo B15) (tl7 (.head _)) (.head _)).mono ?_
 rintro e w16 ⟨a16,l16,k16,rfl,hb,kk⟩
 obtain⟨x16,ex⟩:∃xx,y*x15=xx:=⟨_,rfl⟩
 rw [ex] at hb
 have B16:Hid (Bs p w16 am lm km _):=hb
 have K16:Hid (Keep Nope w1 w16):=(oo K15).trans kk
 have E16:Hid _:=ex
 clear hb kk ex
 refine hK.out _ _ (.inr (oo K16)) ?_
 clear hK K
 try simp only [Act.put,Ls2,Ls0,Ls1]
 refine RO 16 (fun K hK=>?_)
 go_simp
 refine(mulF (p:=p) (oo B16) (tl5 (.head _)) (tl9 (.head _))).mono ?_
 rintro e w17 ⟨a17,l17,k17,rfl,hb,kk⟩
 obtain⟨x17,ex⟩:∃xx,x11*z=xx:=⟨_,rfl⟩
 rw [ex] at hb
 have B17:Hid (Bs p w17 am lm km _):=hb
 have K17:Hid (Keep Nope w1 w17):=(oo K16).trans kk
 have E17:Hid _:=ex
 clear hb kk ex
 refine hK.out _ _ (.inr (oo K17)) ?_
 clear hK K
 try simp only [Act.put,Ls2,Ls0,Ls1]
 refine RO 17 (fun K hK=>?_)
 go_simp
 refine(mulF (p:=p) (oo B17) (tl12 (.head _)) (.head _)).mono ?_
 rintro e w18 ⟨a18,l18,k18,rfl,hb,kk⟩
 obtain⟨x18,ex⟩:∃xx,v*x17=xx:=⟨_,rfl⟩
 rw [ex] at hb
 have B18:Hid (Bs p w18 am lm km _):=hb
 have K18:Hid (Keep Nope w1 w18):=(oo K17).trans kk
 have E18:Hid _:=ex
 clear hb kk ex
 refine hK.out _ _ (.inr (oo K18)) ?_
 clear hK K
 refine AP 18 ?_
 refine AP 19 ?_
 try simp only [Ls2,Ls0,Ls1,List.getElem_toArray,List.getElem_cons_succ,List.getElem_cons_zero]
 refine AnyL_done (by kernel_rfl) ?_
 go_wp2_with fail
 refine RS (fun w'=>Keep Nope w1 w') [0,4] ?_
 have HS:(fun w':World=>Keep Nope w1 w') w18.drew:=(oo K18).drew
 refine AL 0 HS ?_ (hy:=fun w2 hw2=>by have c7_0:=Keep.cel hw2 c7_00 id;go_simp;all_goals (with_reducible rfl))
 refine AP 1 ?_
 refine AP 2 ?_
 refine AL 4 HS ?_ (hy:=fun w2 hw2=>by have c7_0:=Keep.cel hw2 c7_00 id;go_simp;all_goals (with_reducible rfl))
 refine AP 5 ?_
 refine AP 6 ?_
 refine RO 3 (fun K hK=>?_)
 go_simp
 refine(subF (p:=p) ((oo B18).nope ((Keep.refl _ _).drew)) (tl4 (.head _)) (tl5 (.head _))).mono ?_
 rintro e w19 ⟨a19,l19,k19,rfl,hb,kk⟩
 have kk:=kk.undrew
 obtain⟨x19,ex⟩:∃xx,x14-x13=xx:=⟨_,rfl⟩
 rw [ex] at hb
 have B19:Hid (Bs p w19 am lm km _):=hb
 have K19:Hid (Keep Nope w1 w19):=(oo K18).trans kk
 have E19:Hid _:=ex
 clear hb kk ex
 refine hK.out _ _ (.inr (oo K19)) ?_
 clear hK K HS
 try simp only [Act.put,Ls2,Ls0,Ls1]
 refine RO 7 (fun K hK=>?_)
 go_simp
 refine(subF (p:=p) (oo B19) (.tail _ (.head _)) (tl3 (.head _))).mono ?_
 rintro e w20 ⟨a20,l20,k20,rfl,hb,kk⟩
 obtain⟨x20,ex⟩:∃xx,x18-x16=xx:=⟨_,rfl⟩
 rw [ex] at hb
 have B20:Hid (Bs p w20 am lm km _):=hb
 have K20:Hid (Keep Nope w1 w20):=(oo K19).trans kk
 have E20:Hid _:=ex
 clear hb kk ex
 refine hK.out _ _ (.inr (oo K20)) ?_
 clear hK K
 refine AP 8 ?_
 refine AP 9 ?_
 try simp only [Ls2,Ls0,Ls1,List.getElem_toArray,List.getElem_cons_succ,List.getElem_cons_zero]
 refine AnyL_done (by kernel_rfl) ?_
 by_cases hh:x19=0
 ·have hlh:=((oo B20)).len_eq (.tail _ (.head _)) hh
  subst hlh
  by_cases hr:x20=0
  ·have hlr:=((oo B20)).len_eq (.head _) hr
   subst hlr
   have c3_0:=(oo K20).cel c3_00 id
   have c3_1:=(oo K20).cel c3_10 id
   have c3_2:=(oo K20).cel c3_20 id
   have c4_0:=(oo K20).cel c4_00 id
   have c4_1:=(oo K20).cel c4_10 id
   have c4_2:=(oo K20).cel c4_20 id
   obtain⟨d0,d1,d2,df⟩:=((oo H4).nope (oo K20)).cells
   have df0:=df 0
   have df1:=df 1
   have df2:=df 2
   clear df
   go_wp2_with fail
   have hb0:Bs p w20 am lm km (⟨aA,lA,kA,A⟩::⟨ax,lx,kx,x⟩::⟨ay,ly,ky,y⟩::⟨az,lz,kz,z⟩::_):=((oo B20)).sub (L':=⟨aA,lA,kA,A⟩::⟨ax,lx,kx,x⟩::⟨ay,ly,ky,y⟩::⟨az,lz,kz,z⟩::⟨au,lu,ku,u⟩::⟨av,lv,kv,v⟩::⟨aw,lw,kw,t⟩::L) (fun d hd=>.tail _ (tl9 (hd)))
   refine(twice_any w20 am lm km _ aA aB ax ay az lA kA lB kB lx kx ly ky lz kz A x y z hb0).mono ?_
   rintro e wt ⟨b1,m1,n1,b2,m2,n2,b3,m3,n3,rfl,hb,kk⟩
   have BT:Hid (Bs p wt am lm km _):=hb
   have KT:Hid (Keep Nope w1 wt):=(oo K20).trans kk
   clear hb kk hb0 d0 d1 d2 df0 df1 df2
   obtain⟨d0,d1,d2,df⟩:=((oo H4).nope (oo KT)).cells
   have df0:=df 0
   have df1:=df 1
   have df2:=df 2
   clear df
   go_wp2_with fail
   have hT:=((oo H4).nope (oo KT)).set3 (.slice b1 m1 n1) (.slice b2 m2 n2) (.slice b3 m3 n3)
   have hkk:Keep (·=q5) wt (((wt.setCell ⟨q5,0,none⟩ (.slice b1 m1 n1)).setCell ⟨q5,1,none⟩ (.slice b2 m2 n2)).setCell ⟨q5,2,none⟩ (.slice b3 m3 n3)):=(((Keep.refl (·=q5) wt).setCell (p:=⟨q5,0,none⟩) rfl _).setCell (p:=⟨q5,1,none⟩) rfl _).setCell (p:=⟨q5,2,none⟩) rfl _
   have hB:=(oo BT).other ((oo H4).nope (oo KT)) hkk
   generalize (((wt.setCell ⟨q5,0,none⟩ (.slice b1 m1 n1)).setCell ⟨q5,1,none⟩ (.slice b2 m2 n2)).setCell ⟨q5,2,none⟩ (.slice b3 m3 n3))=wz at *
   obtain⟨TT,hTT⟩:=hT
   go_wp2_with fail
   (try simp only [Exit.inBlock,Exit.then])
   refine bodyPost_ret (results_cell_row rfl _ _ q5 TT #[.slice b1 m1 n1,.slice b2 m2 n2,.slice b3 m3 n3] (0,0) _ rfl hTT Tryz.underlying49 rfl (by kernel_rfl)) rfl ?_
   obtain rfl:=oo E11
   obtain rfl:=oo E12
   obtain rfl:=oo E13
   obtain rfl:=oo E14
   obtain rfl:=oo E15
   obtain rfl:=oo E16
   obtain rfl:=oo E17
   obtain rfl:=oo E18
   obtain rfl:=oo E19
   obtain rfl:=oo E20
   refine⟨_,_,_,_,_,_,_,_,_,rfl,hB.sub ?_,((oo K1).trans (oo KT)).fresh hkk HQ.out⟩
   rw [Ec.jadd,if_neg hz0,if_neg ht0,if_pos hh,if_pos hr]
   exact fun d hd=>hd
  ·have tr:=((oo B20)).len_ne (.head _) hr
   have k2:=(((oo K20).alloc (.cells #[.int .i64 1] 3 (0,0))).alloc (.cells #[.int .i64 1] 3 (0,0)))
   have hb:=(((oo B20)).nope (((Keep.refl Nope w20).alloc (.cells #[.int .i64 1] 3 (0,0))).alloc (.cells #[.int .i64 1] 3 (0,0)))).infty (w:=w20) (w2:=w20.alloc (.cells #[.int .i64 1] 3 (0,0))) ((Keep.refl Nope _).alloc _) (Keep.refl Nope _)
   rw [alloc_size] at hb
   have BT:Hid (Bs _ _ _ _ _ _):=hb
   have KT:Hid (Keep Nope w1 _):=k2
   clear hb k2
   obtain⟨d0,d1,d2,df⟩:=((oo H4).nope (oo KT)).cells
   have df0:=df 0
   have df1:=df 1
   have df2:=df 2
   clear df
   go_wp2_with fail
   clear d0 d1 d2 df0 df1 df2
   have hT:=((oo H4).nope (oo KT)).set3 (.slice (some ⟨w20.heap.size,0,none⟩) 1 1) (.slice (some ⟨w20.heap.size+1,0,none⟩) 1 1) (.slice none 0 0)
   have hkk:Keep (·=q5) ((w20.alloc (.cells #[.int .i64 1] 3 (0,0))).alloc (.cells #[.int .i64 1] 3 (0,0))) (((((w20.alloc (.cells #[.int .i64 1] 3 (0,0))).alloc (.cells #[.int .i64 1] 3 (0,0))).setCell ⟨q5,0,none⟩ (.slice (some ⟨w20.heap.size,0,none⟩) 1 1)).setCell ⟨q5,1,none⟩ (.slice (some ⟨w20.heap.size+1,0,none⟩) 1 1)).setCell ⟨q5,2,none⟩ (.slice none 0 0)):=(((Keep.refl (·=q5) ((w20.alloc (.cells #[.int .i64 1] 3 (0,0))).alloc (.cells #[.int .i64 1] 3 (0,0)))).setCell (p:=⟨q5,0,none⟩) rfl _).setCell (p:=⟨q5,1,none⟩) rfl _).setCell (p:=⟨q5,2,none⟩) rfl _
   have hB:=(oo BT).other ((oo H4).nope (oo KT)) hkk
   generalize (((((w20.alloc (.cells #[.int .i64 1] 3 (0,0))).alloc (.cells #[.int .i64 1] 3 (0,0))).setCell ⟨q5,0,none⟩ (.slice (some ⟨w20.heap.size,0,none⟩) 1 1)).setCell ⟨q5,1,none⟩ (.slice (some ⟨w20.heap.size+1,0,none⟩) 1 1)).setCell ⟨q5,2,none⟩ (.slice none 0 0))=wz at *
   obtain⟨TT,hTT⟩:=hT
   go_wp2_with fail
   (try simp only [Exit.inBlock,Exit.then])
   refine bodyPost_ret (results_cell_row rfl _ _ q5 TT #[.slice (some ⟨w20.heap.size,0,none⟩) 1 1,.slice (some ⟨w20.heap.size+1,0,none⟩) 1 1,.slice none 0 0] (0,0) _ rfl hTT Tryz.underlying49 rfl (by kernel_rfl)) rfl ?_
   obtain rfl:=oo E11
   obtain rfl:=oo E12
   obtain rfl:=oo E13
   obtain rfl:=oo E14
   obtain rfl:=oo E15
   obtain rfl:=oo E16
   obtain rfl:=oo E17
   obtain rfl:=oo E18
   obtain rfl:=oo E19
   obtain rfl:=oo E20
   refine⟨_,_,_,_,_,_,_,_,_,rfl,hB.sub ?_,((oo K1).trans (oo KT)).fresh hkk HQ.out⟩
   rw [Ec.jadd,if_neg hz0,if_neg ht0,if_pos hh,if_neg hr]
   intro d hd
   rcases List.mem_cons.1 hd with rfl | hd
   ·exact .head _
   rcases List.mem_cons.1 hd with rfl | hd
   ·exact .tail _ (.head _)
   rcases List.mem_cons.1 hd with rfl | hd
   ·exact .tail _ (.tail _ (.head _))
   exact .tail _ (tl12 (hd))
 ·have th:=((oo B20)).len_ne (.tail _ (.head _)) hh
  have c3_0:=(oo K20).cel c3_00 id
  have c3_1:=(oo K20).cel c3_10 id
  have c3_2:=(oo K20).cel c3_20 id
  have c4_0:=(oo K20).cel c4_00 id
  have c4_1:=(oo K20).cel c4_10 id
  have c4_2:=(oo K20).cel c4_20 id
  have c5_0:=(oo K20).cel c5_00 id
  have c5_1:=(oo K20).cel c5_10 id
  have c5_2:=(oo K20).cel c5_20 id
  have c7_0:=(oo K20).cel c7_00 id
  go_wp2_with fail
  refine(mulF (p:=p) (oo B20) (.tail _ (.head _)) (.tail _ (.head _))).mono ?_
  rintro e w21 ⟨a21,l21,k21,rfl,hb,kk⟩
  obtain⟨x21,ex⟩:∃xx,x19*x19=xx:=⟨_,rfl⟩
  rw [ex] at hb
  have B21:Hid (Bs p w21 am lm km _):=hb
  have K21:Hid (Keep Nope w1 w21):=(oo K20).trans kk
  have E21:Hid _:=ex
  clear hb kk ex
  clear c3_0 c3_1 c3_2 c4_0 c4_1 c4_2 c5_0 c5_1 c5_2 c7_0
  go_wp2_with fail
  refine RS (fun w'=>Keep Nope w1 w') [0,4] ?_
  have HS:(fun w':World=>Keep Nope w1 w') w21.drew:=(oo K21).drew
  refine AL 0 HS ?_ (hy:=fun w2 hw2=>by have c7_0:=Keep.cel hw2 c7_00 id;go_simp;all_goals (with_reducible rfl))
  refine AP 1 ?_
  refine AP 2 ?_
  refine AL 4 HS ?_ (hy:=fun w2 hw2=>by have c7_0:=Keep.cel hw2 c7_00 id;go_simp;all_goals (with_reducible rfl))
  refine AP 5 ?_
  refine AP 6 ?_
  refine RO 3 (fun K hK=>?_)
  go_simp
  refine(mulF (p:=p) ((oo B21).nope ((Keep.refl _ _).drew)) (.head _) (tl2 (.head _))).mono ?_
  rintro e w22 ⟨a22,l22,k22,rfl,hb,kk⟩
  have kk:=kk.undrew
  obtain⟨x22,ex⟩:∃xx,x21*x19=xx:=⟨_,rfl⟩
  rw [ex] at hb
  have B22:Hid (Bs p w22 am lm km _):=hb
  have K22:Hid (Keep Nope w1 w22):=(oo K21).trans kk
  have E22:Hid _:=ex
  clear hb kk ex
  refine hK.out _ _ (.inr (oo K22)) ?_
  clear hK K HS
  try simp only [Act.put,Ls2,Ls0,Ls1]
  refine RO 7 (fun K hK=>?_)
  go_simp
  refine(mulF (p:=p) (oo B22) (tl9 (.head _)) (.tail _ (.head _))).mono ?_
  rintro e w23 ⟨a23,l23,k23,rfl,hb,kk⟩
  obtain⟨x23,ex⟩:∃xx,x13*x21=xx:=⟨_,rfl⟩
  rw [ex] at hb
  have B23:Hid (Bs p w23 am lm km _):=hb
  have K23:Hid (Keep Nope w1 w23):=(oo K22).trans kk
  have E23:Hid _:=ex
  clear hb kk ex
  refine hK.out _ _ (.inr (oo K23)) ?_
  clear hK K
  refine AP 8 ?_
  refine AP 9 ?_
  try simp only [Ls2,Ls0,Ls1,List.getElem_toArray,List.getElem_cons_succ,List.getElem_cons_zero]
  refine AnyL_done (by kernel_rfl) ?_
  go_wp2_with fail
  refine RS (fun w'=>Keep Nope w1 w') [0,1,2,8] ?_
  have HS:(fun w':World=>Keep Nope w1 w') w23.drew:=(oo K23).drew
  refine AL 0 HS ?_ (hy:=fun w2 hw2=>by have c7_0:=Keep.cel hw2 c7_00 id;go_simp;all_goals (with_reducible rfl))
  refine AL 1 HS ?_ (hy:=fun w2 hw2=>by have c7_0:=Keep.cel hw2 c7_00 id;go_simp;all_goals (with_reducible rfl))
  refine AL 2 HS ?_ (hy:=fun w2 hw2=>by have c7_0:=Keep.cel hw2 c7_00 id;go_simp;all_goals (with_reducible rfl))
  refine AP 3 ?_
  refine AP 4 ?_
  refine AP 6 ?_
  refine AL 8 HS ?_ (hy:=fun w2 hw2=>by have c7_0:=Keep.cel hw2 c7_00 id;go_simp;all_goals (with_reducible rfl))
  refine AP 9 ?_
  refine AP 10 ?_
  refine RO 5 (fun K hK=>?_)
  go_simp
  refine(mulF (p:=p) ((oo B23).nope ((Keep.refl _ _).drew)) (tl3 (.head _)) (tl3 (.head _))).mono ?_
  rintro e w24 ⟨a24,l24,k24,rfl,hb,kk⟩
  have kk:=kk.undrew
  obtain⟨x24,ex⟩:∃xx,x20*x20=xx:=⟨_,rfl⟩
  rw [ex] at hb
  have B24:Hid (Bs p w24 am lm km _):=hb
  have K24:Hid (Keep Nope w1 w24):=(oo K23).trans kk
  have E24:Hid _:=ex
  clear hb kk ex
  refine hK.out _ _ (.inr (oo K24)) ?_
  clear hK K HS
  try simp only [Act.put,Ls2,Ls0,Ls1]
  refine RO 7 (fun K hK=>?_)
  go_simp
  refine(subF (p:=p) (oo B24) (.head _) (tl2 (.head _))).mono ?_
  rintro e w25 ⟨a25,l25,k25,rfl,hb,kk⟩
  obtain⟨x25,ex⟩:∃xx,x24-x22=xx:=⟨_,rfl⟩
  rw [ex] at hb
  have B25:Hid (Bs p w25 am lm km _):=hb
  have K25:Hid (Keep Nope w1 w25):=(oo K24).trans kk
  have E25:Hid _:=ex
  clear hb kk ex
  refine hK.out _ _ (.inr (oo K25)) ?_
  clear hK K
  try simp only [Act.put,Ls2,Ls0,Ls1]
  refine RO 11 (fun K hK=>?_)
  go_simp
  refine(addF (p:=p) (oo B25) (tl2 (.head _)) (tl2 (.head _))).mono ?_
  rintro e w26 ⟨a26,l26,k26,rfl,hb,kk⟩
  obtain⟨x26,ex⟩:∃xx,x23+x23=xx:=⟨_,rfl⟩
  rw [ex] at hb
  have B26:Hid (Bs p w26 am lm km _):=hb
  have K26:Hid (Keep Nope w1 w26):=(oo K25).trans kk
  have E26:Hid _:=ex
  clear hb kk ex
  refine hK.out _ _ (.inr (oo K26)) ?_
  clear hK K
  try simp only [Act.put,Ls2,Ls0,Ls1]
  refine RO 12 (fun K hK=>?_)
  go_simp
  refine(subF (p:=p) (oo B26) (.tail _ (.head _)) (.head _)).mono ?_
  rintro e w27 ⟨a27,l27,k27,rfl,hb,kk⟩
  obtain⟨x27,ex⟩:∃xx,x25-x26=xx:=⟨_,rfl⟩
  rw [ex] at hb
  have B27:Hid (Bs p w27 am lm km _):=hb
  have K27:Hid (Keep Nope w1 w27):=(oo K26).trans kk
  have E27:Hid _:=ex
  clear hb kk ex
  refine hK.out _ _ (.inr (oo K27)) ?_
  clear hK K
  refine AP 13 ?_
  try simp only [Ls0,Ls1,List.getElem_toArray,List.getElem_cons_succ,List.getElem_cons_zero]
  refine AnyL_done (by kernel_rfl) ?_
  go_wp2_with fail
  refine RS (fun w'=>Keep Nope w1 w') [0,1,3,8] ?_
  have HS:(fun w':World=>Keep Nope w1 w') w27.drew:=(oo K27).drew
  refine AL 0 HS ?_ (hy:=fun w2 hw2=>by have c7_0:=Keep.cel hw2 c7_00 id;go_simp;all_goals (with_reducible rfl))
  refine AL 1 HS ?_ (hy:=fun w2 hw2=>by have c7_0:=Keep.cel hw2 c7_00 id;go_simp;all_goals (with_reducible rfl))
  refine AP 2 ?_
  refine AL 3 HS ?_ (hy:=fun w2 hw2=>by have c7_0:=Keep.cel hw2 c7_00 id;go_simp;all_goals (with_reducible rfl))
  refine AP 4 ?_
  refine AP 5 ?_
  refine AL 8 HS ?_ (hy:=fun w2 hw2=>by have c7_0:=Keep.cel hw2 c7_00 id;go_simp;all_goals (with_reducible rfl))
  refine AP 9 ?_
  refine AP 10 ?_
  refine RO 6 (fun K hK=>?_)
  go_simp
  refine(subF (p:=p) ((oo B27).nope ((Keep.refl _ _).drew)) (tl4 (.head _)) (.head _)).mono ?_
  rintro e w28 ⟨a28,l28,k28,rfl,hb,kk⟩
  have kk:=kk.undrew
  obtain⟨x28,ex⟩:∃xx,x23-x27=xx:=⟨_,rfl⟩
  rw [ex] at hb
  have B28:Hid (Bs p w28 am lm km _):=hb
  have K28:Hid (Keep Nope w1 w28):=(oo K27).trans kk
  have E28:Hid _:=ex
  clear hb kk ex
  refine hK.out _ _ (.inr (oo K28)) ?_
  clear hK K HS
  try simp only [Act.put,Ls2,Ls0,Ls1]
  refine RO 7 (fun K hK=>?_)
  go_simp
  refine(mulF (p:=p) (oo B28) (tl8 (.head _)) (.head _)).mono ?_
  rintro e w29 ⟨a29,l29,k29,rfl,hb,kk⟩
  obtain⟨x29,ex⟩:∃xx,x20*x28=xx:=⟨_,rfl⟩
  rw [ex] at hb
  have B29:Hid (Bs p w29 am lm km _):=hb
  have K29:Hid (Keep Nope w1 w29):=(oo K28).trans kk
  have E29:Hid _:=ex
  clear hb kk ex
  refine hK.out _ _ (.inr (oo K29)) ?_
  clear hK K
  try simp only [Act.put,Ls2,Ls0,Ls1]
  refine RO 11 (fun K hK=>?_)
  go_simp
  refine(mulF (p:=p) (oo B29) (tl13 (.head _)) (tl7 (.head _))).mono ?_
  rintro e w30 ⟨a30,l30,k30,rfl,hb,kk⟩
  obtain⟨x30,ex⟩:∃xx,x16*x22=xx:=⟨_,rfl⟩
  rw [ex] at hb
  have B30:Hid (Bs p w30 am lm km _):=hb
  have K30:Hid (Keep Nope w1 w30):=(oo K29).trans kk
  have E30:Hid _:=ex
  clear hb kk ex
  refine hK.out _ _ (.inr (oo K30)) ?_
  clear hK K
  try simp only [Act.put,Ls2,Ls0,Ls1]
  refine RO 12 (fun K hK=>?_)
  go_simp
  refine(subF (p:=p) (oo B30) (.tail _ (.head _)) (.head _)).mono ?_
  rintro e w31 ⟨a31,l31,k31,rfl,hb,kk⟩
  obtain⟨x31,ex⟩:∃xx,x29-x30=xx:=⟨_,rfl⟩
  rw [ex] at hb
  have B31:Hid (Bs p w31 am lm km _):=hb
  have K31:Hid (Keep Nope w1 w31):=(oo K30).trans kk
  have E31:Hid _:=ex
  clear hb kk ex
  refine hK.out _ _ (.inr (oo K31)) ?_
  clear hK K
  refine AP 13 ?_
  try simp only [Ls0,Ls1,List.getElem_toArray,List.getElem_cons_succ,List.getElem_cons_zero]
  refine AnyL_done (by kernel_rfl) ?_
  go_wp2_with fail
  refine RS (fun w'=>Keep Nope w1 w') [2,4,6,8] ?_
  have HS:(fun w':World=>Keep Nope w1 w') w31.drew:=(oo K31).drew
  refine AP 0 ?_
  refine AP 1 ?_
  refine AL 2 HS ?_ (hy:=fun w2 hw2=>by have c7_0:=Keep.cel hw2 c7_00 id;go_simp;all_goals (with_reducible rfl))
  refine AP 3 ?_
  refine AL 4 HS ?_ (hy:=fun w2 hw2=>by have c7_0:=Keep.cel hw2 c7_00 id;go_simp;all_goals (with_reducible rfl))
  refine AP 5 ?_
  refine AL 6 HS ?_ (hy:=fun w2 hw2=>by have c4_2:=Keep.cel hw2 c4_20 id;go_simp;all_goals (with_reducible rfl))
  refine AP 7 ?_
  refine AL 8 HS ?_ (hy:=fun w2 hw2=>by have c5_2:=Keep.cel hw2 c5_20 id;go_simp;all_goals (with_reducible rfl))
  refine RO 9 (fun K hK=>?_)
  go_simp
  refine(mulF (p:=p) ((oo B31).nope ((Keep.refl _ _).drew)) (tl24 (.head _)) (.tail _ (.tail _ (.tail _ (.tail _ (.tail _ (.tail _ (.tail _ (.tail _ (.tail _ (.tail _ (.tail _ (.tail _ (.tail _ (.tail _ (.tail _ (.tail _ (.tail _ (.tail _ (.tail _ (.tail _ (.tail _ (.tail _ (.tail _ (.tail _ (.tail _ (.tail _ (.tail _ (.head _))))))))))))))))))))))))))))).mono ?_
  rintro e w32 ⟨a32,l32,k32,rfl,hb,kk⟩
  have kk:=kk.undrew
  obtain⟨x32,ex⟩:∃xx,z*t=xx:=⟨_,rfl⟩
  rw [ex] at hb
  have B32:Hid (Bs p w32 am lm km _):=hb
  have K32:Hid (Keep Nope w1 w32):=(oo K31).trans kk
  have E32:Hid _:=ex
  clear hb kk ex
  refine hK.out _ _ (.inr (oo K32)) ?_
  clear hK K HS
  try simp only [Act.put,Ls2,Ls0,Ls1]
  refine RO 10 (fun K hK=>?_)
  go_simp
  refine(mulF (p:=p) (oo B32) (tl13 (.head _)) (.head _)).mono ?_
  rintro e w33 ⟨a33,l33,k33,rfl,hb,kk⟩
  obtain⟨x33,ex⟩:∃xx,x19*x32=xx:=⟨_,rfl⟩
  rw [ex] at hb
  have B33:Hid (Bs p w33 am lm km _):=hb
  have K33:Hid (Keep Nope w1 w33):=(oo K32).trans kk
  have E33:Hid _:=ex
  clear hb kk ex
  refine hK.out _ _ (.inr (oo K33)) ?_
  clear hK K
  refine AP 11 ?_
  obtain⟨d0,d1,d2,df⟩:=((oo H4).nope (oo K33)).cells
  have df0:=df 0
  have df1:=df 1
  have df2:=df 2
  clear df
  try simp only [Act.put,Ls2,Ls0,Ls1]
  refine RO 12 (fun K hK=>?_)
  go_simp
  refine hK.out _ _ (.inl (by kernel_rfl)) ?_
  clear hK K d0 d1 d2 df0 df1 df2
  try simp only [Act.put,Ls2,Ls0,Ls1,List.getElem_toArray,List.getElem_cons_succ,List.getElem_cons_zero]
  refine AnyL_done (by kernel_rfl) ?_
  have hT:=((oo H4).nope (oo K33)).set3 (.slice a27 l27 k27) (.slice a31 l31 k31) (.slice a33 l33 k33)
  have hkk:Keep (·=q5) w33 (((w33.setCell ⟨q5,0,none⟩ (.slice a27 l27 k27)).setCell ⟨q5,1,none⟩ (.slice a31 l31 k31)).setCell ⟨q5,2,none⟩ (.slice a33 l33 k33)):=(((Keep.refl (·=q5) w33).setCell (p:=⟨q5,0,none⟩) rfl _).setCell (p:=⟨q5,1,none⟩) rfl _).setCell (p:=⟨q5,2,none⟩) rfl _
  have hB:=(oo B33).other ((oo H4).nope (oo K33)) hkk
  generalize (((w33.setCell ⟨q5,0,none⟩ (.slice a27 l27 k27)).setCell ⟨q5,1,none⟩ (.slice a31 l31 k31)).setCell ⟨q5,2,none⟩ (.slice a33 l33 k33))=wz at *
  obtain⟨TT,hTT⟩:=hT
  go_wp2_with fail
  (try simp only [Exit.inBlock,Exit.then])
  refine bodyPost_ret (results_cell_row rfl _ _ q5 TT #[.slice a27 l27 k27,.slice a31 l31 k31,.slice a33 l33 k33] (0,0) _ rfl hTT Tryz.underlying49 rfl (by kernel_rfl)) rfl ?_
  obtain rfl:=oo E11
  obtain rfl:=oo E12
  obtain rfl:=oo E13
  obtain rfl:=oo E14
  obtain rfl:=oo E15
  obtain rfl:=oo E16
  obtain rfl:=oo E17
  obtain rfl:=oo E18
  obtain rfl:=oo E19
  obtain rfl:=oo E20
  obtain rfl:=oo E21
  obtain rfl:=oo E22
  obtain rfl:=oo E23
  obtain rfl:=oo E24
  obtain rfl:=oo E25
  obtain rfl:=oo E26
  obtain rfl:=oo E27
  obtain rfl:=oo E28
  obtain rfl:=oo E29
  obtain rfl:=oo E30
  obtain rfl:=oo E31
  obtain rfl:=oo E32
  obtain rfl:=oo E33
  refine⟨_,_,_,_,_,_,_,_,_,rfl,hB.sub ?_,((oo K1).trans (oo K33)).fresh hkk HQ.out⟩
  rw [Ec.jadd,if_neg hz0,if_neg ht0,if_neg hh]
  intro d hd
  rcases List.mem_cons.1 hd with rfl | hd
  ·exact(tl6 (.head _))
  rcases List.mem_cons.1 hd with rfl | hd
  ·exact(tl2 (.head _))
  rcases List.mem_cons.1 hd with rfl | hd
  ·exact(.head _)
  exact .tail _ (tl22 (hd))
end Go.Proofs.YtofkehhflkdabaaGreatDoor
