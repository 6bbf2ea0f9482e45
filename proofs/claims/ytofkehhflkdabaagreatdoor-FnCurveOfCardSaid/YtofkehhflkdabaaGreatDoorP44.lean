/- A part of the proof of FnCurveOf. -/
import Derived.Test.YtofkehhflkdabaaGreatDoorP43
set_option maxRecDepth 100000
set_option maxHeartbeats 8000000
namespace Go.Proofs.YtofkehhflkdabaaGreatDoor
open Go Go.RowKit
theorem law0_any (w:World) (bE:Addr) (hE:w.cell? ⟨0,0,none⟩=some (.iface 220 (.pointer (some bE)))) (hb:Base (· < w.heap.size) w) (wh:Nat) (hwh:wh<256) (hk:wh%3=0) (x0 x1 x2 x3 x4 x5 x6 x7 x8 x9 x10 x11 x12 x13 x14 x15:Nat) (h0:x0<256) (h1:x1<256) (h2:x2<256) (h3:x3<256) (h4:x4<256) (h5:x5<256) (h6:x6<256) (h7:x7<256) (h8:x8<256) (h9:x9<256) (h10:x10<256) (h11:x11<256) (h12:x12<256) (h13:x13<256) (h14:x14<256) (h15:x15<256) :
  Calls Tryz.prog 3 #[.int .u8 (wh:Int),.agg #[.int .u8 (x0:Nat),.int .u8 (x1:Nat),.int .u8 (x2:Nat),.int .u8 (x3:Nat),.int .u8 (x4:Nat),.int .u8 (x5:Nat),.int .u8 (x6:Nat),.int .u8 (x7:Nat),.int .u8 (x8:Nat),.int .u8 (x9:Nat),.int .u8 (x10:Nat),.int .u8 (x11:Nat),.int .u8 (x12:Nat),.int .u8 (x13:Nat),.int .u8 (x14:Nat),.int .u8 (x15:Nat)]] w fun e w'=>e = .returned (.bool true)∧Keep Nope w w':=by
 have HE:Hid _:=hE
 have HB:Hid (Base (· < w.heap.size) w):=hb
 have hv:∀i,i<16→(#[.int .u8 (x0:Nat),.int .u8 (x1:Nat),.int .u8 (x2:Nat),.int .u8 (x3:Nat),.int .u8 (x4:Nat),.int .u8 (x5:Nat),.int .u8 (x6:Nat),.int .u8 (x7:Nat),.int .u8 (x8:Nat),.int .u8 (x9:Nat),.int .u8 (x10:Nat),.int .u8 (x11:Nat),.int .u8 (x12:Nat),.int .u8 (x13:Nat),.int .u8 (x14:Nat),.int .u8 (x15:Nat)]:Array Value)[i]?=some (.int .u8 ((fun i=>(#[x0,x1,x2,x3,x4,x5,x6,x7,x8,x9,x10,x11,x12,x13,x14,x15]:Array Nat).getD i 0) i:Nat))∧(fun i=>(#[x0,x1,x2,x3,x4,x5,x6,x7,x8,x9,x10,x11,x12,x13,x14,x15]:Array Nat).getD i 0) i<256:=by
  intro i hi
  rcases i with _ | _ | _ | _ | _ | _ | _ | _ | _ | _ | _ | _ | _ | _ | _ | _ | i<;>first | exact⟨rfl,by assumption⟩ | omega
 have hsb:=secret_bound (c:=(fun i=>(#[x0,x1,x2,x3,x4,x5,x6,x7,x8,x9,x10,x11,x12,x13,x14,x15]:Array Nat).getD i 0)) (fun i hi=>(hv i hi).2)
 obtain⟨E,hE'⟩:∃E,preN (upd (fun i=>(#[x0,x1,x2,x3,x4,x5,x6,x7,x8,x9,x10,x11,x12,x13,x14,x15]:Array Nat).getD i 0) 15 ((fun i=>(#[x0,x1,x2,x3,x4,x5,x6,x7,x8,x9,x10,x11,x12,x13,x14,x15]:Array Nat).getD i 0) 15 / 2*2+1)) 16=E:=⟨_,rfl⟩
 rw [hE'] at hsb
 have HS:Hid (∀w1,Calls Tryz.prog 5 #[.agg #[.int .u8 (x0:Nat),.int .u8 (x1:Nat),.int .u8 (x2:Nat),.int .u8 (x3:Nat),.int .u8 (x4:Nat),.int .u8 (x5:Nat),.int .u8 (x6:Nat),.int .u8 (x7:Nat),.int .u8 (x8:Nat),.int .u8 (x9:Nat),.int .u8 (x10:Nat),.int .u8 (x11:Nat),.int .u8 (x12:Nat),.int .u8 (x13:Nat),.int .u8 (x14:Nat),.int .u8 (x15:Nat)]] w1 fun e w'=>∃a l k,e = .returned (.slice a l k)∧IsB w' a l k E∧Keep Nope w1 w'):=fun w1=>hE'▸secret_any w1 #[.int .u8 (x0:Nat),.int .u8 (x1:Nat),.int .u8 (x2:Nat),.int .u8 (x3:Nat),.int .u8 (x4:Nat),.int .u8 (x5:Nat),.int .u8 (x6:Nat),.int .u8 (x7:Nat),.int .u8 (x8:Nat),.int .u8 (x9:Nat),.int .u8 (x10:Nat),.int .u8 (x11:Nat),.int .u8 (x12:Nat),.int .u8 (x13:Nat),.int .u8 (x14:Nat),.int .u8 (x15:Nat)] (fun i=>(#[x0,x1,x2,x3,x4,x5,x6,x7,x8,x9,x10,x11,x12,x13,x14,x15]:Array Nat).getD i 0) rfl hv
 have HSB:Hid _:=hsb
 have r0:(wh:Int)%3=0:=by omega
 have b1:=Blk.new w #[.int .u8 (x0:Nat),.int .u8 (x1:Nat),.int .u8 (x2:Nat),.int .u8 (x3:Nat),.int .u8 (x4:Nat),.int .u8 (x5:Nat),.int .u8 (x6:Nat),.int .u8 (x7:Nat),.int .u8 (x8:Nat),.int .u8 (x9:Nat),.int .u8 (x10:Nat),.int .u8 (x11:Nat),.int .u8 (x12:Nat),.int .u8 (x13:Nat),.int .u8 (x14:Nat),.int .u8 (x15:Nat)] 22
 have kA:Keep Nope w (w.alloc (.cells #[.int .u8 (x0:Nat),.int .u8 (x1:Nat),.int .u8 (x2:Nat),.int .u8 (x3:Nat),.int .u8 (x4:Nat),.int .u8 (x5:Nat),.int .u8 (x6:Nat),.int .u8 (x7:Nat),.int .u8 (x8:Nat),.int .u8 (x9:Nat),.int .u8 (x10:Nat),.int .u8 (x11:Nat),.int .u8 (x12:Nat),.int .u8 (x13:Nat),.int .u8 (x14:Nat),.int .u8 (x15:Nat)] 22 (0,0))):=(Keep.refl _ _).alloc _
 clear hE hb hv hE' hsb h0 h1 h2 h3 h4 h5 h6 h7 h8 h9 h10 h11 h12 h13 h14 h15
 go_enter Tryz.func3,Tryz.ntmps3
 go_wp2_with fail
 obtain⟨w1,hw1⟩:∃w1,w1=w.alloc (.cells #[.int .u8 (x0:Nat),.int .u8 (x1:Nat),.int .u8 (x2:Nat),.int .u8 (x3:Nat),.int .u8 (x4:Nat),.int .u8 (x5:Nat),.int .u8 (x6:Nat),.int .u8 (x7:Nat),.int .u8 (x8:Nat),.int .u8 (x9:Nat),.int .u8 (x10:Nat),.int .u8 (x11:Nat),.int .u8 (x12:Nat),.int .u8 (x13:Nat),.int .u8 (x14:Nat),.int .u8 (x15:Nat)] 22 (0,0)):=⟨_,rfl⟩
 obtain⟨q,hq⟩:∃q,q=w.heap.size:=⟨_,rfl⟩
 rw [← hw1,← hq]
 rw [← hw1] at b1 kA
 rw [← hq] at b1
 clear hw1 hq r0
 refine(curveK_any w1).mono ?_
 rintro e w2 ⟨qO,qB,a1,a2,a3,a4,l1,k1,l2,k2,l3,k3,l4,k4,rfl,hO,iM,iX,iY,kk⟩
 have K2:Hid (Keep Nope w w2):=kA.trans kk
 have B2:Hid (Blk w2 q #[.int .u8 (x0:Nat),.int .u8 (x1:Nat),.int .u8 (x2:Nat),.int .u8 (x3:Nat),.int .u8 (x4:Nat),.int .u8 (x5:Nat),.int .u8 (x6:Nat),.int .u8 (x7:Nat),.int .u8 (x8:Nat),.int .u8 (x9:Nat),.int .u8 (x10:Nat),.int .u8 (x11:Nat),.int .u8 (x12:Nat),.int .u8 (x13:Nat),.int .u8 (x14:Nat),.int .u8 (x15:Nat)] 22):=b1.keep kk id
 have HBS:Hid (Bs Ec.K.p w2 a1 l1 k1 [⟨a2,l2,k2,Ec.K.gx⟩,⟨a3,l3,k3,Ec.K.gy⟩,⟨none,0,0,Ec.K.a⟩]):=by
  refine⟨iM,by have:=iM.len_le (K:=16) (by decide +kernel);omega,by decide +kernel,fun d hd=>?_⟩
  rcases List.mem_cons.1 hd with rfl | hd
  ·exact⟨iX,by have:=iX.len_le (K:=16) (by decide +kernel);show l2<1000;omega⟩
  rcases List.mem_cons.1 hd with rfl | hd
  ·exact⟨iY,by have:=iY.len_le (K:=16) (by decide +kernel);show l3<1000;omega⟩
  rcases List.mem_cons.1 hd with rfl | hd
  ·exact⟨(IsB.nil _ none),by show 0<1000;omega⟩
  cases hd
 have HO:Hid (Db _ _ _ _ _):=hO
 clear kA kk b1 iM iX iY hO
 go_upto_region 2 with fail
 have b3:=Blk.new w2 #[.slice (some ⟨qO,0,none⟩) 5 5,.slice a1 l1 k1,.slice none 0 0,.slice (some ⟨qB,0,none⟩) 1 1,.slice a2 l2 k2,.slice a3 l3 k3,.bool false,.slice a4 l4 k4,.int .i64 32] 33
 have kB:Keep Nope w2 (w2.alloc (.cells #[.slice (some ⟨qO,0,none⟩) 5 5,.slice a1 l1 k1,.slice none 0 0,.slice (some ⟨qB,0,none⟩) 1 1,.slice a2 l2 k2,.slice a3 l3 k3,.bool false,.slice a4 l4 k4,.int .i64 32] 33 (0,0))):=(Keep.refl _ _).alloc _
 have b2:=(oo B2).keep kB id
 obtain⟨w3,hw3⟩:∃w3,w3=w2.alloc (.cells #[.slice (some ⟨qO,0,none⟩) 5 5,.slice a1 l1 k1,.slice none 0 0,.slice (some ⟨qB,0,none⟩) 1 1,.slice a2 l2 k2,.slice a3 l3 k3,.bool false,.slice a4 l4 k4,.int .i64 32] 33 (0,0)):=⟨_,rfl⟩
 obtain⟨q5,hq5⟩:∃q,q=w2.heap.size:=⟨_,rfl⟩
 rw [← hw3,← hq5]
 rw [← hw3] at b2 b3 kB
 rw [← hq5] at b3
 clear hw3 hq5
 have K3:Hid (Keep Nope w2 w3):=kB
 have B3:Hid (Blk _ _ _ _):=b3
 have c0:=b2.cell 0
 have c1:=b2.cell 1
 have c2:=b2.cell 2
 have c3:=b2.cell 3
 have c4:=b2.cell 4
 have c5:=b2.cell 5
 have c6:=b2.cell 6
 have c7:=b2.cell 7
 have c8:=b2.cell 8
 have c9:=b2.cell 9
 have c10:=b2.cell 10
 have c11:=b2.cell 11
 have c12:=b2.cell 12
 have c13:=b2.cell 13
 have c14:=b2.cell 14
 have c15:=b2.cell 15
 simp only [Ls5,Ls3,Ls4] at c0 c1 c2 c3 c4 c5 c6 c7 c8 c9 c10 c11 c12 c13 c14 c15
 clear b2 b3 kB B2
 go_wp2_with fail
 clear c0 c1 c2 c3 c4 c5 c6 c7 c8 c9 c10 c11 c12 c13 c14 c15
 refine(HS.out w3).mono ?_
 rintro e w4 ⟨an,ln,kn,rfl,hn,kC⟩
 have K4:Hid (Keep Nope w3 w4):=kC
 have HN:Hid (IsB w4 an ln kn E):=hn
 have hln:=hn.len_le (K:=8) (Nat.lt_of_lt_of_le HSB.out.2 (by decide +kernel))
 have b4:=(oo B3).keep kC id
 have B4:Hid (Blk _ _ _ _):=b4
 have c0:=b4.cell 0
 simp only [Ls5,Ls4] at c0
 have HBB:Hid _:=bytesBig_any w4.drew an ln kn E (hn.nope ((Keep.refl Nope w4).drew)) (by omega)
 clear hn kC b4 B3
 go_upto_region 3 with fail
 refine RS (fun w'=>Keep Nope w4 w') [1] ?_
 have HS:(fun w':World=>Keep Nope w4 w') w4.drew:=((Keep.refl Nope w4).drew)
 refine AP 0 ?_
 refine AL 1 HS ?_ (hy:=fun w2 hw2=>by have y0:=Keep.cell hw2 c0 id;go_simp;all_goals (with_reducible rfl))
 refine AP 2 ?_
 refine RO 3 (fun K hK=>?_)
 go_simp
 refine Calls.mono (oo HBB) ?_
 rintro e w5 ⟨sa,m,ks,cs,rfl,hd5,hv5,-,hm5,kD⟩
 have hm0:0<m:=by
  rcases Nat.eq_zero_or_pos m with h | h
  ·subst h;have:=HSB.out.1;rw [← hv5] at this;cases this
  ·exact h
 obtain⟨bk,ok,rfl,-⟩:=hd5.get 0 hm0
 have K5:Hid (Keep Nope w4 w5):=kD.undrew
 have K05:Hid (Keep Nope w w5):=(((oo K2).trans (oo K3)).trans (oo K4)).trans (oo K5)
 have hbts:Bts w5 bk ok m cs:=fun i hi=>by
  obtain⟨b',o',e',h1,h2⟩:=hd5.get i hi
  cases e'
  exact⟨h1,h2⟩
 have hbk:bk<w5.heap.size:=World.block_lt_of_cell? w5 _ (hbts 0 hm0).1
 have HCO:Hid _:=co0_any w5 bE ((oo K05).cell HE.out id) (HB.out.later (oo K05)) (some ⟨qO,0,none⟩) 5 ((oo HO).keep (((oo K3).trans (oo K4)).trans (oo K5)) (fun _ _=>id)) bk ok m ks cs hbts hbk (by omega) (by rw [hv5];exact HSB.out.1) (by rw [hv5];exact Nat.lt_trans HSB.out.2 (by decide +kernel))
 rw [hv5] at HCO
 clear hd5 hv5 hm5 kD hbts hbk hm0
 refine hK.out _ _ (.inr (oo K5)) ?_
 clear hK K
 refine RO 4 (fun K hK=>?_)
 go_simp
 refine Calls.mono (oo HCO) ?_
 rintro e w6 ⟨s,rfl,bb,cc,x,y,rfl,hr6,z6,zx6,zy6,hg6,kE⟩
 have HR:Hid _:=hr6
 have Z0:Hid (cc 0=4):=z6
 have ZX:Hid _:=zx6
 have ZY:Hid _:=zy6
 have HG:Hid (Gk 0 E x y):=hg6
 have K6:Hid (Keep Nope w5 w6):=kE
 clear hr6 z6 zx6 zy6 hg6 kE
 refine hK.out _ _ (.inr ((oo K5).trans (oo K6))) ?_
 clear hK K
 refine AP 5 ?_
 refine AP 6 ?_
 refine AP 7 ?_
 refine AP 8 ?_
 refine AP 9 ?_
 refine AP 10 ?_
 refine AP 11 ?_
 try simp only [Ls2,Ls0,Ls1,List.getElem_toArray,List.getElem_cons_succ,List.getElem_cons_zero]
 refine AnyL_done (by kernel_rfl) ?_
 clear c0 HS HBB HCO
 have b6:=(oo B4).keep ((oo K5).trans (oo K6)) id
 have k26:=(((oo K3).trans (oo K4)).trans (oo K5)).trans (oo K6)
 have hbs:=((oo HBS).nope k26).nope ((Keep.refl Nope w6).drew)
 have hn6:=((oo HN).nope ((oo K5).trans (oo K6))).nope ((Keep.refl Nope w6).drew)
 have hEf:E<2^(16*ln):=by rw [← pow16];exact hn6.lt
 obtain⟨gx,gy,gl⟩:=(show x<Ec.K.p∧y<Ec.K.p∧Ec.lin Ec.K.a (some (Ec.K.gx,Ec.K.gy)) E=some (Ec.fi Ec.K.p x,Ec.fi Ec.K.p y) from oo HG)
 obtain⟨lz,lx,ly⟩:=link Ec.K.good HSB.out.1 (Nat.lt_trans HSB.out.2 (by decide +kernel)) hEf gl
 have HT:Hid (Calls Tryz.prog 10 #[.agg #[.slice a1 l1 k1,.slice none 0 0,.slice (some ⟨qB,0,none⟩) 1 1],.agg #[.slice a2 l2 k2,.slice a3 l3 k3,.bool false],.slice an ln kn] w6.drew fun e w'=>∃ax lx kx ay ly ky,e = .returned (.agg #[.slice ax lx kx,.slice ay ly ky,.bool false])∧(IsB w' ax lx kx x∧lx<1000)∧(IsB w' ay ly ky y∧ly<1000)∧Keep Nope w6 w'):=by
  refine(timesG w6.drew a1 l1 k1 [] none (some ⟨qB,0,none⟩) a2 a3 an 0 0 1 1 l2 k2 l3 k3 ln kn Ec.K.a Ec.K.gx Ec.K.gy E hbs hn6 (by omega) lz).mono ?_
  rintro e w7 ⟨ax,lx',kx,ay,ly',ky,rfl,hbs7,k7⟩
  have i1:=hbs7.all _ (.head _)
  have i2:=hbs7.all _ (.tail _ (.head _))
  simp only [lx,ly] at i1 i2
  rw [fi_val_lt gx] at i1
  rw [fi_val_lt gy] at i2
  exact⟨ax,lx',kx,ay,ly',ky,rfl,i1,i2,k7.undrew⟩
 have HXY:Hid (x<256^32∧y<256^32):=⟨Nat.lt_trans gx (by decide +kernel),Nat.lt_trans gy (by decide +kernel)⟩
 have K06:Hid (Keep Nope w w6):=(oo K2).trans k26
 have c0:=b6.cell 0
 have c1:=b6.cell 1
 have c2:=b6.cell 2
 have c3:=b6.cell 3
 have c4:=b6.cell 4
 have c5:=b6.cell 5
 have c6:=b6.cell 6
 have c7:=b6.cell 7
 have c8:=b6.cell 8
 simp only [Ls5,Ls3,Ls4] at c0 c1 c2 c3 c4 c5 c6 c7 c8
 clear b6 k26 hbs hn6 hEf gx gy gl lz lx ly HSB HBS HN hln HE HB HO HG K2 K3 K4 K05
 go_upto_region 4 with fail
 refine RS (fun w'=>Keep Nope w6 w') [3,5,7] ?_
 have HS:(fun w':World=>Keep Nope w6 w') w6.drew:=((Keep.refl Nope w6).drew)
 refine AP 0 ?_
 refine AP 1 ?_
 refine AP 2 ?_
 refine AL 3 HS ?_ (hy:=fun w2 hw2=>by have y0:=Keep.cell hw2 c0 id;have y1:=Keep.cell hw2 c1 id;have y2:=Keep.cell hw2 c2 id;have y3:=Keep.cell hw2 c3 id;have y4:=Keep.cell hw2 c4 id;have y5:=Keep.cell hw2 c5 id;have y6:=Keep.cell hw2 c6 id;have y7:=Keep.cell hw2 c7 id;have y8:=Keep.cell hw2 c8 id;go_simp;all_goals (with_reducible rfl))
 refine AP 4 ?_
 refine AL 5 HS ?_ (hy:=fun w2 hw2=>by have y0:=Keep.cell hw2 c0 id;have y1:=Keep.cell hw2 c1 id;have y2:=Keep.cell hw2 c2 id;have y3:=Keep.cell hw2 c3 id;have y4:=Keep.cell hw2 c4 id;have y5:=Keep.cell hw2 c5 id;have y6:=Keep.cell hw2 c6 id;have y7:=Keep.cell hw2 c7 id;have y8:=Keep.cell hw2 c8 id;go_simp;all_goals (with_reducible rfl))
 refine AP 6 ?_
 refine AL 7 HS ?_ (hy:=fun w2 hw2=>by have y0:=Keep.cell hw2 c0 id;have y1:=Keep.cell hw2 c1 id;have y2:=Keep.cell hw2 c2 id;have y3:=Keep.cell hw2 c3 id;have y4:=Keep.cell hw2 c4 id;have y5:=Keep.cell hw2 c5 id;have y6:=Keep.cell hw2 c6 id;have y7:=Keep.cell hw2 c7 id;have y8:=Keep.cell hw2 c8 id;go_simp;all_goals (with_reducible rfl))
 refine AP 8 ?_
 refine RO 9 (fun K hK=>?_)
 go_simp
 refine Calls.mono (oo HT) ?_
 rintro e w7 ⟨ax,lx,kx,ay,ly,ky,rfl,ix,iy,kF⟩
 have HPB:Hid _:=pointBytes_any w7 (.slice (some ⟨qO,0,none⟩) 5 5) (.slice a1 l1 k1) (.slice none 0 0) (.slice (some ⟨qB,0,none⟩) 1 1) (.slice a2 l2 k2) (.slice a3 l3 k3) (.slice a4 l4 k4) ax ay lx kx ly ky x y 32 ix.1 iy.1 ix.2 iy.2 (by omega) HXY.out.1 HXY.out.2
 have K7:Hid (Keep Nope w6 w7):=kF
 clear ix iy kF
 refine hK.out _ _ (.inr (oo K7)) ?_
 clear hK K
 refine RO 10 (fun K hK=>?_)
 go_simp
 refine Calls.mono (oo HPB) ?_
 rintro e w8 ⟨ad,kd,d,rfl,hd8,d0,dx,dy,kG⟩
 have K8:Hid (Keep Nope w6 w8):=(oo K7).trans kG
 have HSA:Hid _:=sameBytes_any w8 (some ⟨bb,0,none⟩) ad 65 65 kd cc d (((oo HR).keep (oo K8) id).dbo (by omega)) hd8 (bytes_eq (n:=32) (oo Z0) (oo ZX) (oo ZY) (fun i hi=>hd8.lt i hi) d0 dx dy) (by omega)
 clear hd8 d0 dx dy kG
 refine hK.out _ _ (.inr (oo K8)) ?_
 clear hK K
 refine RO 11 (fun K hK=>?_)
 go_simp
 refine Calls.mono (oo HSA) ?_
 rintro e w9 ⟨rfl,kH⟩
 have K9:Hid (Keep Nope w6 w9):=(oo K8).trans kH
 clear kH
 refine hK.out _ _ (.inr (oo K9)) ?_
 clear hK K
 refine AP 12 ?_
 refine AP 13 ?_
 try simp only [Ls2,Ls0,Ls1,List.getElem_toArray,List.getElem_cons_succ,List.getElem_cons_zero]
 refine AnyL_done (by kernel_rfl) ?_
 go_wp2_with fail
 go_ret
 exact⟨rfl,(oo K06).trans (oo K9)⟩
end Go.Proofs.YtofkehhflkdabaaGreatDoor
