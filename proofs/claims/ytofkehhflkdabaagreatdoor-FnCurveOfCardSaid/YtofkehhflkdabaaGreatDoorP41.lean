/- A part of the proof of FnCurveOf. -/
import Derived.Test.YtofkehhflkdabaaGreatDoorP32
import Derived.Test.YtofkehhflkdabaaGreatDoorP39
set_option maxRecDepth 100000
set_option maxHeartbeats 8000000
namespace Go.Proofs.YtofkehhflkdabaaGreatDoor
open Go Go.RowKit
theorem Mk.drew {F:Nat→Prop} {w0 w:World} {q:Nat} {cs:Array Value} {T:TypeId} {L:List (Nat×E)} (h:Mk F w0 q cs T L w):Mk F w0 q cs T L w.drew:=⟨h.st.drew,h.blk,h.keep.drew,h.new,h.fq,h.head⟩
def Rcv (w w':World) (q P B X Y z zi:Nat) (bits:Int):Prop:=
 ∃(F:Nat→Prop) (L:List (Nat×E)) (pc pr pP pB pX pY q1 q2 q3 q4:Nat),Keep Nope w w'∧St F w' L∧(∀b,b<w.heap.size→F b)∧F q∧F pc∧F pr ∧
  w'.cell? ⟨q,0,none⟩=some (.iface 89 (pt pc))∧w'.cell? ⟨q,1,none⟩=some (pt pr)∧w'.cell? ⟨q,4,none⟩=some (pt q1)∧w'.cell? ⟨q,5,none⟩=some (pt q2)∧w'.cell? ⟨q,6,none⟩=some (pt q3)∧w'.cell? ⟨q,7,none⟩=some (pt q4) ∧
  w'.cell? ⟨pc,0,none⟩=some (pt pP)∧w'.cell? ⟨pc,2,none⟩=some (pt pB)∧w'.cell? ⟨pc,3,none⟩=some (pt pX)∧w'.cell? ⟨pc,4,none⟩=some (pt pY)∧w'.cell? ⟨pr,0,none⟩=some (pt pP)∧w'.cell? ⟨pr,5,none⟩=some (.int .i64 bits) ∧
  (pP,ofI (P:Int))∈L∧(pB,ofI (B:Int))∈L∧(pX,ofI (X:Int))∈L∧(pY,ofI (Y:Int))∈L ∧
  (q1,ofI ((z^2%P:Nat):Int))∈L∧(q2,ofI ((z^3%P:Nat):Int))∈L∧(q3,ofI ((zi^2%P:Nat):Int))∈L∧(q4,ofI ((zi^3%P:Nat):Int))∈L
theorem initP256r1_any (w:World) (bE:Addr) (hE:w.cell? ⟨0,0,none⟩=some (.iface 220 (.pointer (some bE)))) (hb:Base (· < w.heap.size) w) :
  Calls Tryz.prog 51 #[] w fun e w'=>∃q,e = .returned (pt q)∧Rcv w w' q 76884956397045344220809746629001649093037950200943055203735601445031516197751 46214326585032579593829631435610129746736367449296220983687490401182983727876 74138526386500101787937404544159543470173440588427591213843535686338908194292 20625154686056605250529482107801269759951443923312408063441227608803066104254 28123428220785514697368680836677246068983143020657302029348941275368411959024 58239756104430253693729960745254188089333581754121613125284549297740921489762 256:=by
 have hlt:3<w.heap.size:=hb.three
 go_enter Tryz.func51,Tryz.ntmps51
 go_wp2_with fail
 refine(initP256t1_any w bE hE hb).mono ?_
 rintro e w1 ⟨pc,pP,pN,pB,pX,pY,rfl,m⟩
 have M0:Hid (Mk _ _ _ _ _ _ _):=m
 have c0:=m.blk.cell 0
 have c1:=m.blk.cell 1
 have c5:=m.blk.cell 5
 simp only [Ls5,Ls3,Ls4] at c0 c1 c5
 have E1:=m.keep.cell hE id
 clear m hE hb
 go_upto_region 2 with fail
 refine RS (fun w'=>Keep Nope w1 w') [3,7,11] ?_
 have HS:(fun w':World=>Keep Nope w1 w') w1.drew:=((Keep.refl Nope w1).drew)
 refine AP 0 ?_
 refine AP 1 ?_
 refine AP 2 ?_
 refine AL 3 HS ?_ (hy:=fun w2 hw2=>by have y0:=Keep.cell hw2 c0 id;have y1:=Keep.cell hw2 c1 id;have y5:=Keep.cell hw2 c5 id;go_simp;all_goals (with_reducible rfl))
 refine AP 4 ?_
 refine AP 5 ?_
 refine AP 6 ?_
 refine AL 7 HS ?_ (hy:=fun w2 hw2=>by have y0:=Keep.cell hw2 c0 id;have y1:=Keep.cell hw2 c1 id;have y5:=Keep.cell hw2 c5 id;go_simp;all_goals (with_reducible rfl))
 refine AP 8 ?_
 refine AP 9 ?_
 refine AP 10 ?_
 refine AL 11 HS ?_ (hy:=fun w2 hw2=>by have y0:=Keep.cell hw2 c0 id;have y1:=Keep.cell hw2 c1 id;have y5:=Keep.cell hw2 c5 id;go_simp;all_goals (with_reducible rfl))
 refine AP 12 ?_
 refine RO 13 (fun K hK=>?_)
 go_simp
 refine hK.out _ _ (.inr (((Keep.refl Nope w1).drew).alloc _)) ?_
 clear hK K
 refine AP 14 ?_
 try simp only [Ls0,Ls1,List.getElem_toArray,List.getElem_cons_succ,List.getElem_cons_zero]
 refine AnyL_done (by kernel_rfl) ?_
 have m1:=(Mk.start (oo M0).st #[pt pP,pt pN,.pointer none,.pointer none,.pointer none,.int .i64 256,.string { data:=#[98,114,97,105,110,112,111,111,108,80,50,53,54,114,49] }] 88 (by intro x;simp)).drew
 have E2:=(((Keep.refl Nope w1).alloc (.cells #[pt pP,pt pN,.pointer none,.pointer none,.pointer none,.int .i64 256,.string { data:=#[98,114,97,105,110,112,111,111,108,80,50,53,54,114,49] }] 88 (0,0))).drew).cell E1 id
 go_upto_region 3 with fail
 generalize hw:(w1.alloc (.cells #[pt pP,pt pN,.pointer none,.pointer none,.pointer none,.int .i64 256,.string { data:=#[98,114,97,105,110,112,111,111,108,80,50,53,54,114,49] }] 88 (0,0))).drew=v0 at *
 have hpr:=(oo M0).blk.inHeap
 have hw1s:=(oo M0).keep.size
 generalize hq:w1.heap.size=pr at *
 have HPR:Hid (pc<pr∧w.heap.size≤pr):=⟨hpr,hw1s⟩
 have hq0:0<pr:=by omega
 clear hw hpr hw1s c0 c1 c5 E1 HS hq hlt
 have N0:Hid (Mk _ _ _ _ _ _ _):=m1
 clear m1
 go_wp2_with fail
 refine(setString_any _ _ bE 4 _ (Two.new _ _ _ 85) (((Keep.refl Nope _).alloc _).cell E2 id) (by omega) (by omega) (by rfl) (by decide +kernel)).mono ?_
 rintro e u0 ⟨rfl,hg⟩
 replace hg:Got (v0.alloc iz) u0 v0.heap.size 63243729749562333355292243550312970334778175571054726587095381623627144114786:=Eq.mp (congrArg (Got (v0.alloc iz) u0 v0.heap.size) (by decide +kernel)) hg
 have F0:=hg.keep.cell E2 id
 have g0:=(oo N0).got hg
 generalize v0.heap.size=rX at *
 have G0:Hid (Mk _ _ _ _ _ _ _):=g0
 have c0:=g0.blk.cell 3
 have f0:=g0.blk.frozen 3
 simp only [Ls5,Ls3,Ls4] at c0
 clear hg g0 N0 E2
 go_upto_region 4 with fail
 have m2:=(oo G0).set 3 (pt rX) (by intro x;simp)
 simp only [Ls2,Ls0,Ls1] at m2
 have X0:(u0.setCell ⟨pr,3,none⟩ (pt rX)).cell? ⟨0,0,none⟩=some (.iface 220 (.pointer (some bE))):=((Keep.refl (·=pr) u0).setCell (p:=⟨pr,3,none⟩) rfl (pt rX)).cell F0 (by show ¬(0=pr);omega)
 generalize hw:u0.setCell ⟨pr,3,none⟩ (pt rX)=v1 at *
 clear hw c0 f0 F0
 have N1:Hid (Mk _ _ _ _ _ _ _):=m2
 clear m2
 go_wp2_with fail
 refine(setString_any _ _ bE 4 _ (Two.new _ _ _ 85) (((Keep.refl Nope _).alloc _).cell X0 id) (by omega) (by omega) (by rfl) (by decide +kernel)).mono ?_
 rintro e u1 ⟨rfl,hg⟩
 replace hg:Got (v1.alloc iz) u1 v1.heap.size 38218615093753523893122277964030810387585405539772602581557831887485717997975:=Eq.mp (congrArg (Got (v1.alloc iz) u1 v1.heap.size) (by decide +kernel)) hg
 have F1:=hg.keep.cell X0 id
 have g1:=(oo N1).got hg
 generalize v1.heap.size=rY at *
 have G1:Hid (Mk _ _ _ _ _ _ _):=g1
 have c1:=g1.blk.cell 4
 have f1:=g1.blk.frozen 4
 simp only [Ls5,Ls3,Ls4] at c1
 clear hg g1 N1 X0
 go_upto_region 5 with fail
 have m3:=(oo G1).set 4 (pt rY) (by intro x;simp)
 simp only [Ls2,Ls0,Ls1] at m3
 have X1:(u1.setCell ⟨pr,4,none⟩ (pt rY)).cell? ⟨0,0,none⟩=some (.iface 220 (.pointer (some bE))):=((Keep.refl (·=pr) u1).setCell (p:=⟨pr,4,none⟩) rfl (pt rY)).cell F1 (by show ¬(0=pr);omega)
 generalize hw:u1.setCell ⟨pr,4,none⟩ (pt rY)=v2 at *
 clear hw c1 f1 F1
 have N2:Hid (Mk _ _ _ _ _ _ _):=m3
 clear m3
 go_wp2_with fail
 refine(setString_any _ _ bE 4 _ (Two.new _ _ _ 85) (((Keep.refl Nope _).alloc _).cell X1 id) (by omega) (by omega) (by rfl) (by decide +kernel)).mono ?_
 rintro e u2 ⟨rfl,hg⟩
 replace hg:Got (v2.alloc iz) u2 v2.heap.size 28123428220785514697368680836677246068983143020657302029348941275368411959024:=Eq.mp (congrArg (Got (v2.alloc iz) u2 v2.heap.size) (by decide +kernel)) hg
 have F2:=hg.keep.cell X1 id
 have g2:=(oo N2).got hg
 generalize v2.heap.size=pz at *
 have G2:Hid (Mk _ _ _ _ _ _ _):=g2
 clear hg g2 N2 X1 F2
 go_wp2_with fail
 have hcp:=(oo G2).blk.cell 0
 simp only [Ls5,Ls4] at hcp
 refine(newR_any (fun b=>(b<w.heap.size∨b=pc)∨b=pr) u2 _ (oo G2).st 89 pc pr pz pP 28123428220785514697368680836677246068983143020657302029348941275368411959024 58239756104430253693729960745254188089333581754121613125284549297740921489762 76884956397045344220809746629001649093037950200943055203735601445031516197751 (.head _) (tl7 (.head _)) hcp (.inr rfl) (by decide +kernel) (by decide +kernel) (by decide +kernel) (by decide +kernel) (by decide +kernel) (by decide +kernel)).mono ?_
 rintro e w2 ⟨q,rfl,q0,q1,q2,q3,q4,L2,hbq,hqs,hst,hk,hin,i0,i1,i2,i3,i4⟩
 have HALL:Hid (Rcv w w2 q 76884956397045344220809746629001649093037950200943055203735601445031516197751 46214326585032579593829631435610129746736367449296220983687490401182983727876 74138526386500101787937404544159543470173440588427591213843535686338908194292 20625154686056605250529482107801269759951443923312408063441227608803066104254 28123428220785514697368680836677246068983143020657302029348941275368411959024 58239756104430253693729960745254188089333581754121613125284549297740921489762 256):=by
  have k1:Keep Nope w1 u2:=(oo G2).keep
  have b1:=((oo M0).blk.keep k1 id).keep hk (fun h=>h (.inl (.inr rfl)))
  have b2:=(oo G2).blk.keep hk (fun h=>h (.inr rfl))
  have kk:Keep Nope w w2:=Keep.freshN ((oo M0).keep.trans k1) hk (fun b h=>Nat.le_of_not_lt fun h'=>h (.inl (.inl h')))
  exact⟨_,L2,pc,pr,pP,pB,pX,pY,q1,q2,q3,q4,kk,hst,fun b h=>.inl (.inl (.inl h)),.inr rfl,.inl (.inl (.inr rfl)),.inl (.inr rfl),hbq.cell 0,hbq.cell 1,hbq.cell 4,hbq.cell 5,hbq.cell 6,hbq.cell 7,b1.cell 0,b1.cell 2,b1.cell 3,b1.cell 4,b2.cell 0,b2.cell 5,hin _ (tl7 (.head _)),hin _ (tl5 (.head _)),hin _ (tl4 (.head _)),hin _ (tl3 (.head _)),i1,i2,i3,i4⟩
 clear hst hbq hqs hk hin i0 i1 i2 i3 i4 G2 M0 hcp
 go_wp2_with fail
 go_ret
 exact⟨q,rfl,oo HALL⟩
theorem initP384r1_any (w:World) (bE:Addr) (hE:w.cell? ⟨0,0,none⟩=some (.iface 220 (.pointer (some bE)))) (hb:Base (· < w.heap.size) w) :
  Calls Tryz.prog 52 #[] w fun e w'=>∃q,e = .returned (pt q)∧Rcv w w' q 21659270770119316173069236842332604979796116387017648600081618503821089934025961822236561982844534088440708417973331 19596161053329239268181228455226581162286252326261019516900162717091837027531392576647644262320816848087868142547438 3827769047710394604076870463731979903132904572714069494181204655675960538951736634566672590576020545838501853661388 5797643717699939326787282953388004860198302425468870641753455602553471777319089854136002629714659021021358409132328 10139036126163910574620687986475896248191461332265326844160406748298975174383177910892554122725859199832993833756956 973627063668808908405119953403190617781083117973111934932605366589716638945462640219437826753836874579179290523624 384:=by
 have hlt:3<w.heap.size:=hb.three
 go_enter Tryz.func52,Tryz.ntmps52
 go_wp2_with fail
 refine(initP384t1_any w bE hE hb).mono ?_
 rintro e w1 ⟨pc,pP,pN,pB,pX,pY,rfl,m⟩
 have M0:Hid (Mk _ _ _ _ _ _ _):=m
 have c0:=m.blk.cell 0
 have c1:=m.blk.cell 1
 have c5:=m.blk.cell 5
 simp only [Ls5,Ls3,Ls4] at c0 c1 c5
 have E1:=m.keep.cell hE id
 clear m hE hb
 go_upto_region 2 with fail
 refine RS (fun w'=>Keep Nope w1 w') [3,7,11] ?_
 have HS:(fun w':World=>Keep Nope w1 w') w1.drew:=((Keep.refl Nope w1).drew)
 refine AP 0 ?_
 refine AP 1 ?_
 refine AP 2 ?_
 refine AL 3 HS ?_ (hy:=fun w2 hw2=>by have y0:=Keep.cell hw2 c0 id;have y1:=Keep.cell hw2 c1 id;have y5:=Keep.cell hw2 c5 id;go_simp;all_goals (with_reducible rfl))
 refine AP 4 ?_
 refine AP 5 ?_
 refine AP 6 ?_
 refine AL 7 HS ?_ (hy:=fun w2 hw2=>by have y0:=Keep.cell hw2 c0 id;have y1:=Keep.cell hw2 c1 id;have y5:=Keep.cell hw2 c5 id;go_simp;all_goals (with_reducible rfl))
 refine AP 8 ?_
 refine AP 9 ?_
 refine AP 10 ?_
 refine AL 11 HS ?_ (hy:=fun w2 hw2=>by have y0:=Keep.cell hw2 c0 id;have y1:=Keep.cell hw2 c1 id;have y5:=Keep.cell hw2 c5 id;go_simp;all_goals (with_reducible rfl))
 refine AP 12 ?_
 refine RO 13 (fun K hK=>?_)
 go_simp
 refine hK.out _ _ (.inr (((Keep.refl Nope w1).drew).alloc _)) ?_
 clear hK K
 refine AP 14 ?_
 try simp only [Ls0,Ls1,List.getElem_toArray,List.getElem_cons_succ,List.getElem_cons_zero]
 refine AnyL_done (by kernel_rfl) ?_
 have m1:=(Mk.start (oo M0).st #[pt pP,pt pN,.pointer none,.pointer none,.pointer none,.int .i64 384,.string { data:=#[98,114,97,105,110,112,111,111,108,80,51,56,52,114,49] }] 88 (by intro x;simp)).drew
 have E2:=(((Keep.refl Nope w1).alloc (.cells #[pt pP,pt pN,.pointer none,.pointer none,.pointer none,.int .i64 384,.string { data:=#[98,114,97,105,110,112,111,111,108,80,51,56,52,114,49] }] 88 (0,0))).drew).cell E1 id
 go_upto_region 3 with fail
 generalize hw:(w1.alloc (.cells #[pt pP,pt pN,.pointer none,.pointer none,.pointer none,.int .i64 384,.string { data:=#[98,114,97,105,110,112,111,111,108,80,51,56,52,114,49] }] 88 (0,0))).drew=v0 at *
 have hpr:=(oo M0).blk.inHeap
 have hw1s:=(oo M0).keep.size
 generalize hq:w1.heap.size=pr at *
 have HPR:Hid (pc<pr∧w.heap.size≤pr):=⟨hpr,hw1s⟩
 have hq0:0<pr:=by omega
 clear hw hpr hw1s c0 c1 c5 E1 HS hq hlt
 have N0:Hid (Mk _ _ _ _ _ _ _):=m1
 clear m1
 go_wp2_with fail
 refine(setString_any _ _ bE 6 _ (Two.new _ _ _ 85) (((Keep.refl Nope _).alloc _).cell E2 id) (by omega) (by omega) (by rfl) (by decide +kernel)).mono ?_
 rintro e u0 ⟨rfl,hg⟩
 replace hg:Got (v0.alloc iz) u0 v0.heap.size 4480579927441533893329522230328287337018133311029754539518372936441756157459087304048546502931308754738349656551198:=Eq.mp (congrArg (Got (v0.alloc iz) u0 v0.heap.size) (by decide +kernel)) hg
 have F0:=hg.keep.cell E2 id
 have g0:=(oo N0).got hg
 generalize v0.heap.size=rX at *
 have G0:Hid (Mk _ _ _ _ _ _ _):=g0
 have c0:=g0.blk.cell 3
 have f0:=g0.blk.frozen 3
 simp only [Ls5,Ls3,Ls4] at c0
 clear hg g0 N0 E2
 go_upto_region 4 with fail
 have m2:=(oo G0).set 3 (pt rX) (by intro x;simp)
 simp only [Ls2,Ls0,Ls1] at m2
 have X0:(u0.setCell ⟨pr,3,none⟩ (pt rX)).cell? ⟨0,0,none⟩=some (.iface 220 (.pointer (some bE))):=((Keep.refl (·=pr) u0).setCell (p:=⟨pr,3,none⟩) rfl (pt rX)).cell F0 (by show ¬(0=pr);omega)
 generalize hw:u0.setCell ⟨pr,3,none⟩ (pt rX)=v1 at *
 clear hw c0 f0 F0
 have N1:Hid (Mk _ _ _ _ _ _ _):=m2
 clear m2
 go_wp2_with fail
 refine(setString_any _ _ bE 6 _ (Two.new _ _ _ 85) (((Keep.refl Nope _).alloc _).cell X0 id) (by omega) (by omega) (by rfl) (by decide +kernel)).mono ?_
 rintro e u1 ⟨rfl,hg⟩
 replace hg:Got (v1.alloc iz) u1 v1.heap.size 21354446258743982691371413536748675410974765754620216137225614281636810686961198361153695003859088327367976229294869:=Eq.mp (congrArg (Got (v1.alloc iz) u1 v1.heap.size) (by decide +kernel)) hg
 have F1:=hg.keep.cell X0 id
 have g1:=(oo N1).got hg
 generalize v1.heap.size=rY at *
 have G1:Hid (Mk _ _ _ _ _ _ _):=g1
 have c1:=g1.blk.cell 4
 have f1:=g1.blk.frozen 4
 simp only [Ls5,Ls3,Ls4] at c1
 clear hg g1 N1 X0
 go_upto_region 5 with fail
 have m3:=(oo G1).set 4 (pt rY) (by intro x;simp)
 simp only [Ls2,Ls0,Ls1] at m3
 have X1:(u1.setCell ⟨pr,4,none⟩ (pt rY)).cell? ⟨0,0,none⟩=some (.iface 220 (.pointer (some bE))):=((Keep.refl (·=pr) u1).setCell (p:=⟨pr,4,none⟩) rfl (pt rY)).cell F1 (by show ¬(0=pr);omega)
 generalize hw:u1.setCell ⟨pr,4,none⟩ (pt rY)=v2 at *
 clear hw c1 f1 F1
 have N2:Hid (Mk _ _ _ _ _ _ _):=m3
 clear m3
 go_wp2_with fail
 refine(setString_any _ _ bE 6 _ (Two.new _ _ _ 85) (((Keep.refl Nope _).alloc _).cell X1 id) (by omega) (by omega) (by rfl) (by decide +kernel)).mono ?_
 rintro e u2 ⟨rfl,hg⟩
 replace hg:Got (v2.alloc iz) u2 v2.heap.size 10139036126163910574620687986475896248191461332265326844160406748298975174383177910892554122725859199832993833756956:=Eq.mp (congrArg (Got (v2.alloc iz) u2 v2.heap.size) (by decide +kernel)) hg
 have F2:=hg.keep.cell X1 id
 have g2:=(oo N2).got hg
 generalize v2.heap.size=pz at *
 have G2:Hid (Mk _ _ _ _ _ _ _):=g2
 clear hg g2 N2 X1 F2
 go_wp2_with fail
 have hcp:=(oo G2).blk.cell 0
 simp only [Ls5,Ls4] at hcp
 refine(newR_any (fun b=>(b<w.heap.size∨b=pc)∨b=pr) u2 _ (oo G2).st 89 pc pr pz pP 10139036126163910574620687986475896248191461332265326844160406748298975174383177910892554122725859199832993833756956 973627063668808908405119953403190617781083117973111934932605366589716638945462640219437826753836874579179290523624 21659270770119316173069236842332604979796116387017648600081618503821089934025961822236561982844534088440708417973331 (.head _) (tl7 (.head _)) hcp (.inr rfl) (by decide +kernel) (by decide +kernel) (by decide +kernel) (by decide +kernel) (by decide +kernel) (by decide +kernel)).mono ?_
 rintro e w2 ⟨q,rfl,q0,q1,q2,q3,q4,L2,hbq,hqs,hst,hk,hin,i0,i1,i2,i3,i4⟩
 have HALL:Hid (Rcv w w2 q 21659270770119316173069236842332604979796116387017648600081618503821089934025961822236561982844534088440708417973331 19596161053329239268181228455226581162286252326261019516900162717091837027531392576647644262320816848087868142547438 3827769047710394604076870463731979903132904572714069494181204655675960538951736634566672590576020545838501853661388 5797643717699939326787282953388004860198302425468870641753455602553471777319089854136002629714659021021358409132328 10139036126163910574620687986475896248191461332265326844160406748298975174383177910892554122725859199832993833756956 973627063668808908405119953403190617781083117973111934932605366589716638945462640219437826753836874579179290523624 384):=by
  have k1:Keep Nope w1 u2:=(oo G2).keep
  have b1:=((oo M0).blk.keep k1 id).keep hk (fun h=>h (.inl (.inr rfl)))
  have b2:=(oo G2).blk.keep hk (fun h=>h (.inr rfl))
  have kk:Keep Nope w w2:=Keep.freshN ((oo M0).keep.trans k1) hk (fun b h=>Nat.le_of_not_lt fun h'=>h (.inl (.inl h')))
  exact⟨_,L2,pc,pr,pP,pB,pX,pY,q1,q2,q3,q4,kk,hst,fun b h=>.inl (.inl (.inl h)),.inr rfl,.inl (.inl (.inr rfl)),.inl (.inr rfl),hbq.cell 0,hbq.cell 1,hbq.cell 4,hbq.cell 5,hbq.cell 6,hbq.cell 7,b1.cell 0,b1.cell 2,b1.cell 3,b1.cell 4,b2.cell 0,b2.cell 5,hin _ (tl7 (.head _)),hin _ (tl5 (.head _)),hin _ (tl4 (.head _)),hin _ (tl3 (.head _)),i1,i2,i3,i4⟩
 clear hst hbq hqs hk hin i0 i1 i2 i3 i4 G2 M0 hcp
 go_wp2_with fail
 go_ret
 exact⟨q,rfl,oo HALL⟩
theorem initP512r1_any (w:World) (bE:Addr) (hE:w.cell? ⟨0,0,none⟩=some (.iface 220 (.pointer (some bE)))) (hb:Base (· < w.heap.size) w) :
  Calls Tryz.prog 53 #[] w fun e w'=>∃q,e = .returned (pt q)∧Rcv w w' q 8948962207650232551656602815159153422162609644098354511344597187200057010413552439917934304191956942765446530386427345937963894309923928536070534607816947 6532815740455945129522030162820444801309011444717674409730083343052139800841847092116476221316466234404847931899409316558007222582458822004777353814164030 5240454105373391383446315535930423532243726242869439206480578543706358506399554673205583372921814351137736817888782671966171301927338369930113338349467098 4783098043208509222858478731459039446855297686825168822962919559100076900387655035060042118755576220187973470126780576052258118403094460341772613532037938 991499226562423240707238969854191803283135655252145369940930554083306347815155671309652727398612984228200765170213561192701880842172378355832835555271339 355027660778874365092404898350698685254773787526903981580965969078110149624793055699007386525788457832818597725309986943828116693558822217085203093017368 512:=by
 have hlt:3<w.heap.size:=hb.three
 go_enter Tryz.func53,Tryz.ntmps53
 go_wp2_with fail
 refine(initP512t1_any w bE hE hb).mono ?_
 rintro e w1 ⟨pc,pP,pN,pB,pX,pY,rfl,m⟩
 have M0:Hid (Mk _ _ _ _ _ _ _):=m
 have c0:=m.blk.cell 0
 have c1:=m.blk.cell 1
 have c5:=m.blk.cell 5
 simp only [Ls5,Ls3,Ls4] at c0 c1 c5
 have E1:=m.keep.cell hE id
 clear m hE hb
 go_upto_region 2 with fail
 refine RS (fun w'=>Keep Nope w1 w') [3,7,11] ?_
 have HS:(fun w':World=>Keep Nope w1 w') w1.drew:=((Keep.refl Nope w1).drew)
 refine AP 0 ?_
 refine AP 1 ?_
 refine AP 2 ?_
 refine AL 3 HS ?_ (hy:=fun w2 hw2=>by have y0:=Keep.cell hw2 c0 id;have y1:=Keep.cell hw2 c1 id;have y5:=Keep.cell hw2 c5 id;go_simp;all_goals (with_reducible rfl))
 refine AP 4 ?_
 refine AP 5 ?_
 refine AP 6 ?_
 refine AL 7 HS ?_ (hy:=fun w2 hw2=>by have y0:=Keep.cell hw2 c0 id;have y1:=Keep.cell hw2 c1 id;have y5:=Keep.cell hw2 c5 id;go_simp;all_goals (with_reducible rfl))
 refine AP 8 ?_
 refine AP 9 ?_
 refine AP 10 ?_
 refine AL 11 HS ?_ (hy:=fun w2 hw2=>by have y0:=Keep.cell hw2 c0 id;have y1:=Keep.cell hw2 c1 id;have y5:=Keep.cell hw2 c5 id;go_simp;all_goals (with_reducible rfl))
 refine AP 12 ?_
 refine RO 13 (fun K hK=>?_)
 go_simp
 refine hK.out _ _ (.inr (((Keep.refl Nope w1).drew).alloc _)) ?_
 clear hK K
 refine AP 14 ?_
 try simp only [Ls0,Ls1,List.getElem_toArray,List.getElem_cons_succ,List.getElem_cons_zero]
 refine AnyL_done (by kernel_rfl) ?_
 have m1:=(Mk.start (oo M0).st #[pt pP,pt pN,.pointer none,.pointer none,.pointer none,.int .i64 512,.string { data:=#[98,114,97,105,110,112,111,111,108,80,53,49,50,114,49] }] 88 (by intro x;simp)).drew
 have E2:=(((Keep.refl Nope w1).alloc (.cells #[pt pP,pt pN,.pointer none,.pointer none,.pointer none,.int .i64 512,.string { data:=#[98,114,97,105,110,112,111,111,108,80,53,49,50,114,49] }] 88 (0,0))).drew).cell E1 id
 go_upto_region 3 with fail
 generalize hw:(w1.alloc (.cells #[pt pP,pt pN,.pointer none,.pointer none,.pointer none,.int .i64 512,.string { data:=#[98,114,97,105,110,112,111,111,108,80,53,49,50,114,49] }] 88 (0,0))).drew=v0 at *
 have hpr:=(oo M0).blk.inHeap
 have hw1s:=(oo M0).keep.size
 generalize hq:w1.heap.size=pr at *
 have HPR:Hid (pc<pr∧w.heap.size≤pr):=⟨hpr,hw1s⟩
 have hq0:0<pr:=by omega
 clear hw hpr hw1s c0 c1 c5 E1 HS hq hlt
 have N0:Hid (Mk _ _ _ _ _ _ _):=m1
 clear m1
 go_wp2_with fail
 refine(setString_any _ _ bE 8 _ (Two.new _ _ _ 85) (((Keep.refl Nope _).alloc _).cell E2 id) (by omega) (by omega) (by rfl) (by decide +kernel)).mono ?_
 rintro e u0 ⟨rfl,hg⟩
 replace hg:Got (v0.alloc iz) u0 v0.heap.size 6792059140424575174435640431269195087843153390102521881468023012732047482579853077545647446272866794936371522410774532686582484617946013928874296844351522:=Eq.mp (congrArg (Got (v0.alloc iz) u0 v0.heap.size) (by decide +kernel)) hg
 have F0:=hg.keep.cell E2 id
 have g0:=(oo N0).got hg
 generalize v0.heap.size=rX at *
 have G0:Hid (Mk _ _ _ _ _ _ _):=g0
 have c0:=g0.blk.cell 3
 have f0:=g0.blk.frozen 3
 simp only [Ls5,Ls3,Ls4] at c0
 clear hg g0 N0 E2
 go_upto_region 4 with fail
 have m2:=(oo G0).set 3 (pt rX) (by intro x;simp)
 simp only [Ls2,Ls0,Ls1] at m2
 have X0:(u0.setCell ⟨pr,3,none⟩ (pt rX)).cell? ⟨0,0,none⟩=some (.iface 220 (.pointer (some bE))):=((Keep.refl (·=pr) u0).setCell (p:=⟨pr,3,none⟩) rfl (pt rX)).cell F0 (by show ¬(0=pr);omega)
 generalize hw:u0.setCell ⟨pr,3,none⟩ (pt rX)=v1 at *
 clear hw c0 f0 F0
 have N1:Hid (Mk _ _ _ _ _ _ _):=m2
 clear m2
 go_wp2_with fail
 refine(setString_any _ _ bE 8 _ (Two.new _ _ _ 85) (((Keep.refl Nope _).alloc _).cell X0 id) (by omega) (by omega) (by rfl) (by decide +kernel)).mono ?_
 rintro e u1 ⟨rfl,hg⟩
 replace hg:Got (v1.alloc iz) u1 v1.heap.size 6592244555240112873324748381429610341312712940326266331327445066687010545415256461097707483288650216992613090185042957716318301180159234788504307628509330:=Eq.mp (congrArg (Got (v1.alloc iz) u1 v1.heap.size) (by decide +kernel)) hg
 have F1:=hg.keep.cell X0 id
 have g1:=(oo N1).got hg
 generalize v1.heap.size=rY at *
 have G1:Hid (Mk _ _ _ _ _ _ _):=g1
 have c1:=g1.blk.cell 4
 have f1:=g1.blk.frozen 4
 simp only [Ls5,Ls3,Ls4] at c1
 clear hg g1 N1 X0
 go_upto_region 5 with fail
 have m3:=(oo G1).set 4 (pt rY) (by intro x;simp)
 simp only [Ls2,Ls0,Ls1] at m3
 have X1:(u1.setCell ⟨pr,4,none⟩ (pt rY)).cell? ⟨0,0,none⟩=some (.iface 220 (.pointer (some bE))):=((Keep.refl (·=pr) u1).setCell (p:=⟨pr,4,none⟩) rfl (pt rY)).cell F1 (by show ¬(0=pr);omega)
 generalize hw:u1.setCell ⟨pr,4,none⟩ (pt rY)=v2 at *
 clear hw c1 f1 F1
 have N2:Hid (Mk _ _ _ _ _ _ _):=m3
 clear m3
 go_wp2_with fail
 refine(setString_any _ _ bE 8 _ (Two.new _ _ _ 85) (((Keep.refl Nope _).alloc _).cell X1 id) (by omega) (by omega) (by rfl) (by decide +kernel)).mono ?_
 rintro e u2 ⟨rfl,hg⟩
 replace hg:Got (v2.alloc iz) u2 v2.heap.size 991499226562423240707238969854191803283135655252145369940930554083306347815155671309652727398612984228200765170213561192701880842172378355832835555271339:=Eq.mp (congrArg (Got (v2.alloc iz) u2 v2.heap.size) (by decide +kernel)) hg
 have F2:=hg.keep.cell X1 id
 have g2:=(oo N2).got hg
 generalize v2.heap.size=pz at *
 have G2:Hid (Mk _ _ _ _ _ _ _):=g2
 clear hg g2 N2 X1 F2
 go_wp2_with fail
 have hcp:=(oo G2).blk.cell 0
 simp only [Ls5,Ls4] at hcp
 refine(newR_any (fun b=>(b<w.heap.size∨b=pc)∨b=pr) u2 _ (oo G2).st 89 pc pr pz pP 991499226562423240707238969854191803283135655252145369940930554083306347815155671309652727398612984228200765170213561192701880842172378355832835555271339 355027660778874365092404898350698685254773787526903981580965969078110149624793055699007386525788457832818597725309986943828116693558822217085203093017368 8948962207650232551656602815159153422162609644098354511344597187200057010413552439917934304191956942765446530386427345937963894309923928536070534607816947 (.head _) (tl7 (.head _)) hcp (.inr rfl) (by decide +kernel) (by decide +kernel) (by decide +kernel) (by decide +kernel) (by decide +kernel) (by decide +kernel)).mono ?_
 rintro e w2 ⟨q,rfl,q0,q1,q2,q3,q4,L2,hbq,hqs,hst,hk,hin,i0,i1,i2,i3,i4⟩
 have HALL:Hid (Rcv w w2 q 8948962207650232551656602815159153422162609644098354511344597187200057010413552439917934304191956942765446530386427345937963894309923928536070534607816947 6532815740455945129522030162820444801309011444717674409730083343052139800841847092116476221316466234404847931899409316558007222582458822004777353814164030 5240454105373391383446315535930423532243726242869439206480578543706358506399554673205583372921814351137736817888782671966171301927338369930113338349467098 4783098043208509222858478731459039446855297686825168822962919559100076900387655035060042118755576220187973470126780576052258118403094460341772613532037938 991499226562423240707238969854191803283135655252145369940930554083306347815155671309652727398612984228200765170213561192701880842172378355832835555271339 355027660778874365092404898350698685254773787526903981580965969078110149624793055699007386525788457832818597725309986943828116693558822217085203093017368 512):=by
  have k1:Keep Nope w1 u2:=(oo G2).keep
  have b1:=((oo M0).blk.keep k1 id).keep hk (fun h=>h (.inl (.inr rfl)))
  have b2:=(oo G2).blk.keep hk (fun h=>h (.inr rfl))
  have kk:Keep Nope w w2:=Keep.freshN ((oo M0).keep.trans k1) hk (fun b h=>Nat.le_of_not_lt fun h'=>h (.inl (.inl h')))
  exact⟨_,L2,pc,pr,pP,pB,pX,pY,q1,q2,q3,q4,kk,hst,fun b h=>.inl (.inl (.inl h)),.inr rfl,.inl (.inl (.inr rfl)),.inl (.inr rfl),hbq.cell 0,hbq.cell 1,hbq.cell 4,hbq.cell 5,hbq.cell 6,hbq.cell 7,b1.cell 0,b1.cell 2,b1.cell 3,b1.cell 4,b2.cell 0,b2.cell 5,hin _ (tl7 (.head _)),hin _ (tl5 (.head _)),hin _ (tl4 (.head _)),hin _ (tl3 (.head _)),i1,i2,i3,i4⟩
 clear hst hbq hqs hk hin i0 i1 i2 i3 i4 G2 M0 hcp
 go_wp2_with fail
 go_ret
 exact⟨q,rfl,oo HALL⟩
theorem Rcv.nope {w w' w2:World} {q P B X Y z zi:Nat} {bits:Int} (h:Rcv w w' q P B X Y z zi bits) (k:Keep Nope w' w2):Rcv w w2 q P B X Y z zi bits:=by
 obtain⟨F,L,pc,pr,pP,pB,pX,pY,q1,q2,q3,q4,kk,hst,hF,f1,f2,f3,c1,c2,c3,c4,c5,c6,d1,d2,d3,d4,e1,e2,hm⟩:=h
 exact⟨F,L,pc,pr,pP,pB,pX,pY,q1,q2,q3,q4,kk.trans k,hst.keep k,hF,f1,f2,f3,k.cell c1 id,k.cell c2 id,k.cell c3 id,k.cell c4 id,k.cell c5 id,k.cell c6 id,k.cell d1 id,k.cell d2 id,k.cell d3 id,k.cell d4 id,k.cell e1 id,k.cell e2 id,hm⟩
theorem Rcv.past {w0 w w':World} {q P B X Y z zi:Nat} {bits:Int} (h:Rcv w w' q P B X Y z zi bits) (k:Keep Nope w0 w):Rcv w0 w' q P B X Y z zi bits:=by
 obtain⟨F,L,pc,pr,pP,pB,pX,pY,q1,q2,q3,q4,kk,hst,hF,hm⟩:=h
 exact⟨F,L,pc,pr,pP,pB,pX,pY,q1,q2,q3,q4,k.trans kk,hst,fun b hb=>hF b (Nat.lt_of_lt_of_le hb k.size),hm⟩
def Bcv (w w':World) (q P B X Y:Nat):Prop:=
 ∃(F:Nat→Prop) (L:List (Nat×E)) (nm:ByteArray) (pP pN pB pX pY:Nat),Keep Nope w w'∧St F w' L∧(∀b,b<w.heap.size→F b)∧F q ∧
  Blk w' q #[.string nm,pt pP,pt pN,pt pB,pt pX,pt pY,.int .i64 256] 104∧(pP,ofI (P:Int))∈L∧(pB,ofI (B:Int))∈L∧(pX,ofI (X:Int))∈L∧(pY,ofI (Y:Int))∈L
theorem Bcv.nope {w w' w2:World} {q P B X Y:Nat} (h:Bcv w w' q P B X Y) (k:Keep Nope w' w2):Bcv w w2 q P B X Y:=by
 obtain⟨F,L,nm,pP,pN,pB,pX,pY,kk,hst,hF,f1,hb,hm⟩:=h
 exact⟨F,L,nm,pP,pN,pB,pX,pY,kk.trans k,hst.keep k,hF,f1,hb.keep k id,hm⟩
theorem Bcv.past {w0 w w':World} {q P B X Y:Nat} (h:Bcv w w' q P B X Y) (k:Keep Nope w0 w):Bcv w0 w' q P B X Y:=by
 obtain⟨F,L,nm,pP,pN,pB,pX,pY,kk,hst,hF,hm⟩:=h
 exact⟨F,L,nm,pP,pN,pB,pX,pY,k.trans kk,hst,fun b hb=>hF b (Nat.lt_of_lt_of_le hb k.size),hm⟩
theorem Base.later {w w':World} (h:Base (· < w.heap.size) w) (k:Keep Nope w w'):Base (· < w'.heap.size) w':=
 ⟨fun _ h=>h,Nat.lt_of_lt_of_le h.three k.size,Nat.lt_of_lt_of_le h.four k.size,Nat.lt_of_lt_of_le h.five k.size,Nat.lt_of_lt_of_le h.six k.size,k.cell h.c3 id,k.cell h.c4 id,k.cell h.c5 id,k.cell h.c6 id⟩
structure Inf (w:World) (o g q:Nat) (T:TypeId) (n:Nat) (bs:Array Value):Prop where
 oid:∃d,w.cell? ⟨o,0,none⟩=some (.slice (some ⟨d,0,none⟩) n n)∧Blk w d bs 5
 cur:w.cell? ⟨g,0,none⟩=some (.iface T (pt q))
theorem Inf.nope {w w':World} {o g q:Nat} {T:TypeId} {n:Nat} {bs:Array Value} (h:Inf w o g q T n bs) (k:Keep Nope w w'):Inf w' o g q T n bs:=by
 obtain⟨⟨d,h1,h2⟩,h3⟩:=h
 exact⟨⟨d,k.cell h1 id,h2.keep k id⟩,k.cell h3 id⟩
theorem door42_any (w:World) {G:Nat→World→Prop} (h:Calls Tryz.prog 50 #[] w fun e w'=>∃q,e = .returned (pt q)∧G q w'):Calls Tryz.prog 42 #[] w fun e w'=>∃q,e = .returned (pt q)∧G q w':=by
 have H:Hid _:=h
 clear h
 go_enter Tryz.func42,Tryz.ntmps42
 go_wp2_with fail
 refine Calls.mono (oo H) ?_
 rintro e w1 ⟨q,rfl,hg⟩
 have HG:Hid _:=hg
 clear hg
 go_wp2_with fail
 go_ret
 exact⟨_,rfl,oo HG⟩
theorem door43_any (w:World) {G:Nat→World→Prop} (h:Calls Tryz.prog 51 #[] w fun e w'=>∃q,e = .returned (pt q)∧G q w'):Calls Tryz.prog 43 #[] w fun e w'=>∃q,e = .returned (.iface 100 (pt q))∧G q w':=by
 have H:Hid _:=h
 clear h
 go_enter Tryz.func43,Tryz.ntmps43
 go_wp2_with fail
 refine Calls.mono (oo H) ?_
 rintro e w1 ⟨q,rfl,hg⟩
 have HG:Hid _:=hg
 clear hg
 go_wp2_with fail
 go_ret
 exact⟨_,rfl,oo HG⟩
theorem door44_any (w:World) {G:Nat→World→Prop} (h:Calls Tryz.prog 52 #[] w fun e w'=>∃q,e = .returned (pt q)∧G q w'):Calls Tryz.prog 44 #[] w fun e w'=>∃q,e = .returned (.iface 100 (pt q))∧G q w':=by
 have H:Hid _:=h
 clear h
 go_enter Tryz.func44,Tryz.ntmps44
 go_wp2_with fail
 refine Calls.mono (oo H) ?_
 rintro e w1 ⟨q,rfl,hg⟩
 have HG:Hid _:=hg
 clear hg
 go_wp2_with fail
 go_ret
 exact⟨_,rfl,oo HG⟩
theorem door45_any (w:World) {G:Nat→World→Prop} (h:Calls Tryz.prog 53 #[] w fun e w'=>∃q,e = .returned (pt q)∧G q w'):Calls Tryz.prog 45 #[] w fun e w'=>∃q,e = .returned (.iface 100 (pt q))∧G q w':=by
 have H:Hid _:=h
 clear h
 go_enter Tryz.func45,Tryz.ntmps45
 go_wp2_with fail
 refine Calls.mono (oo H) ?_
 rintro e w1 ⟨q,rfl,hg⟩
 have HG:Hid _:=hg
 clear hg
 go_wp2_with fail
 go_ret
 exact⟨_,rfl,oo HG⟩
def oidOf (k:Nat):Array Value:=match k with | 0=>#[.int .u8 43,.int .u8 129,.int .u8 4,.int .u8 0,.int .u8 10] | 1=>#[.int .u8 43,.int .u8 36,.int .u8 3,.int .u8 3,.int .u8 2,.int .u8 8,.int .u8 1,.int .u8 1,.int .u8 7] | 2=>#[.int .u8 43,.int .u8 36,.int .u8 3,.int .u8 3,.int .u8 2,.int .u8 8,.int .u8 1,.int .u8 1,.int .u8 11] | _=>#[.int .u8 43,.int .u8 36,.int .u8 3,.int .u8 3,.int .u8 2,.int .u8 8,.int .u8 1,.int .u8 1,.int .u8 13]
def nameOf (k:Nat):Value:=match k with | 0=>.string { data:=#[83,101,99,80,50,53,54,107,49] } | 1=>.string { data:=#[66,114,97,105,110,112,111,111,108,80,50,53,54] } | 2=>.string { data:=#[66,114,97,105,110,112,111,111,108,80,51,56,52] } | _=>.string { data:=#[66,114,97,105,110,112,111,111,108,80,53,49,50] }
def Crv (k:Nat) (w w':World) (T:TypeId) (q:Nat):Prop:=match k with
 | 0=>T=92∧Bcv w w' q 115792089237316195423570985008687907853269984665640564039457584007908834671663 7 55066263022277343669578718895168534326250603453777594175500187360389116729240 32670510020758816978083085130507043184471273380659243275938904335757337482424
 | 1=>T=100∧Rcv w w' q 76884956397045344220809746629001649093037950200943055203735601445031516197751 46214326585032579593829631435610129746736367449296220983687490401182983727876 74138526386500101787937404544159543470173440588427591213843535686338908194292 20625154686056605250529482107801269759951443923312408063441227608803066104254 28123428220785514697368680836677246068983143020657302029348941275368411959024 58239756104430253693729960745254188089333581754121613125284549297740921489762 256
 | 2=>T=100∧Rcv w w' q 21659270770119316173069236842332604979796116387017648600081618503821089934025961822236561982844534088440708417973331 19596161053329239268181228455226581162286252326261019516900162717091837027531392576647644262320816848087868142547438 3827769047710394604076870463731979903132904572714069494181204655675960538951736634566672590576020545838501853661388 5797643717699939326787282953388004860198302425468870641753455602553471777319089854136002629714659021021358409132328 10139036126163910574620687986475896248191461332265326844160406748298975174383177910892554122725859199832993833756956 973627063668808908405119953403190617781083117973111934932605366589716638945462640219437826753836874579179290523624 384
 | _=>True
theorem Crv.nope {k:Nat} {w w' w2:World} {T:TypeId} {q:Nat} (h:Crv k w w' T q) (kk:Keep Nope w' w2):Crv k w w2 T q:=by
 unfold Crv at h ⊢
 split at h
 ·exact⟨h.1,h.2.nope kk⟩
 ·exact⟨h.1,h.2.nope kk⟩
 ·exact⟨h.1,h.2.nope kk⟩
 ·trivial
theorem s256b_any (w:World) (bE:Addr) (hE:w.cell? ⟨0,0,none⟩=some (.iface 220 (.pointer (some bE)))) (hb:Base (· < w.heap.size) w) :
  Calls Tryz.prog 50 #[] w fun e w'=>∃q,e = .returned (pt q)∧Bcv w w' q 115792089237316195423570985008687907853269984665640564039457584007908834671663 7 55066263022277343669578718895168534326250603453777594175500187360389116729240 32670510020758816978083085130507043184471273380659243275938904335757337482424:=by
 refine(initS256_any w bE hE hb).mono ?_
 rintro e w' ⟨q,p1,p2,p3,p4,p5,rfl,m⟩
 exact⟨q,rfl,_,_,_,p1,p2,p3,p4,p5,m.keep,m.st,fun b h=>.inl h,.inr rfl,m.blk,.tail _ (tl3 (.head _)),.tail _ (.tail _ (.head _)),.tail _ (.head _),.head _⟩
def Cvs (w w':World) (b:Nat):Prop:=∃o0 g0 q0 o1 g1 q1 o2 g2 q2 o3 g3:Nat,Keep Nope w w' ∧
   (∃T,Blk w' b #[nameOf 0,pt o0,.iface 63 (pt g0),nameOf 1,pt o1,.iface 63 (pt g1),nameOf 2,pt o2,.iface 63 (pt g2),nameOf 3,pt o3,.iface 63 (pt g3)] T) ∧
   Inf w' o0 g0 q0 92 5 (oidOf 0)∧Crv 0 w w' 92 q0∧Inf w' o1 g1 q1 100 9 (oidOf 1)∧Crv 1 w w' 100 q1∧Inf w' o2 g2 q2 100 9 (oidOf 2)∧Crv 2 w w' 100 q2
theorem curves_any (w:World) (bE:Addr) (hE:w.cell? ⟨0,0,none⟩=some (.iface 220 (.pointer (some bE)))) (hb:Base (· < w.heap.size) w) :
  Calls Tryz.prog 31 #[] w fun e w'=>∃b,e = .returned (.slice (some ⟨b,0,none⟩) 4 4)∧Cvs w w' b:=by
 have hE0:Hid _:=hE
 have HB:Hid (Base (· < w.heap.size) w):=hb
 have K0:Hid (Keep Nope w w):=Keep.refl _ _
 clear hE hb
 go_enter Tryz.func31,Tryz.ntmps31
 go_wp2_with fail
 have hd0:=Blk.new w #[.int .u8 43,.int .u8 129,.int .u8 4,.int .u8 0,.int .u8 10] 5
 have kp0:Keep Nope w (w.alloc (.cells #[.int .u8 43,.int .u8 129,.int .u8 4,.int .u8 0,.int .u8 10] 5 (0,0))):=(Keep.refl _ _).alloc _
 have K0a:Hid (Keep Nope w (w.alloc (.cells #[.int .u8 43,.int .u8 129,.int .u8 4,.int .u8 0,.int .u8 10] 5 (0,0)))):=(oo K0).alloc _
 generalize hx0:w.alloc (.cells #[.int .u8 43,.int .u8 129,.int .u8 4,.int .u8 0,.int .u8 10] 5 (0,0))=x0 at *
 clear hx0
 obtain⟨d0,hd⟩:∃d,d=w.heap.size:=⟨_,rfl⟩
 rw [← hd]
 rw [← hd] at hd0
 clear hd
 have D0:Hid (Blk _ _ _ _):=hd0
 clear hd0
 refine(newOid_any x0 _ 5 _ (by omega) (by omega)).mono ?_
 rintro e x0' ⟨rfl,rfl⟩
 go_wp2_with fail
 have ho0:=Blk.new x0 #[.slice (some ⟨d0,0,none⟩) 5 5] 81
 have kd0:Keep Nope x0 (x0.alloc (.cells #[.slice (some ⟨d0,0,none⟩) 5 5] 81 (0,0))):=(Keep.refl _ _).alloc _
 have D0':=(oo D0).keep kd0 id
 have K0b:Hid (Keep Nope w _):=(oo K0a).trans kd0
 have KP0:Hid (Keep Nope w _):=kp0.trans kd0
 clear kd0 kp0
 generalize x0.alloc (.cells #[.slice (some ⟨d0,0,none⟩) 5 5] 81 (0,0))=y0 at *
 generalize x0.heap.size=o0 at *
 have O0:Hid (∃d,y0.cell? ⟨o0,0,none⟩=some (.slice (some ⟨d,0,none⟩) 5 5)∧Blk y0 d (oidOf 0) 5):=⟨d0,ho0.cell 0,D0'⟩
 clear ho0 D0 D0'
 refine(door42_any y0 (s256b_any y0 bE ((oo K0b).cell (oo hE0) id) ((oo HB).later (oo K0b)))).mono ?_
 rintro e z0 ⟨q0,rfl,hc⟩
 have C0:Hid (Bcv _ _ _ _ _ _ _):=hc
 have kz:Keep Nope y0 z0:=by
  obtain⟨_,_,_,_,_,_,_,_,kk,_⟩:=hc
  exact kk
 have KZ0:Hid _:=kz
 clear hc kz
 go_wp2_with fail
 refine(newGen_any z0 92 q0).mono ?_
 rintro e z0' ⟨rfl,rfl⟩
 have hg0:=Blk.new z0 #[.iface 92 (pt q0)] 62
 have kg:Keep Nope z0 (z0.alloc (.cells #[.iface 92 (pt q0)] 62 (0,0))):=(Keep.refl _ _).alloc _
 have KG0:Hid _:=kg
 have K1:Hid (Keep Nope w _):=((oo K0b).trans (oo KZ0)).trans kg
 clear kg
 generalize z0.alloc (.cells #[.iface 92 (pt q0)] 62 (0,0))=v0 at *
 generalize z0.heap.size=g0 at *
 have G0:Hid (Blk v0 g0 #[.iface 92 (pt q0)] 62):=hg0
 clear hg0
 go_wp2_with fail
 have hd1:=Blk.new v0 #[.int .u8 43,.int .u8 36,.int .u8 3,.int .u8 3,.int .u8 2,.int .u8 8,.int .u8 1,.int .u8 1,.int .u8 7] 5
 have kp1:Keep Nope v0 (v0.alloc (.cells #[.int .u8 43,.int .u8 36,.int .u8 3,.int .u8 3,.int .u8 2,.int .u8 8,.int .u8 1,.int .u8 1,.int .u8 7] 5 (0,0))):=(Keep.refl _ _).alloc _
 have K1a:Hid (Keep Nope w (v0.alloc (.cells #[.int .u8 43,.int .u8 36,.int .u8 3,.int .u8 3,.int .u8 2,.int .u8 8,.int .u8 1,.int .u8 1,.int .u8 7] 5 (0,0)))):=(oo K1).alloc _
 generalize v0.alloc (.cells #[.int .u8 43,.int .u8 36,.int .u8 3,.int .u8 3,.int .u8 2,.int .u8 8,.int .u8 1,.int .u8 1,.int .u8 7] 5 (0,0))=x1 at *
 generalize v0.heap.size=d1 at *
 have D1:Hid (Blk _ _ _ _):=hd1
 clear hd1
 refine(newOid_any x1 _ 9 _ (by omega) (by omega)).mono ?_
 rintro e x1' ⟨rfl,rfl⟩
 go_wp2_with fail
 have ho1:=Blk.new x1 #[.slice (some ⟨d1,0,none⟩) 9 9] 81
 have kd1:Keep Nope x1 (x1.alloc (.cells #[.slice (some ⟨d1,0,none⟩) 9 9] 81 (0,0))):=(Keep.refl _ _).alloc _
 have D1':=(oo D1).keep kd1 id
 have K1b:Hid (Keep Nope w _):=(oo K1a).trans kd1
 have KP1:Hid (Keep Nope v0 _):=kp1.trans kd1
 clear kd1 kp1
 generalize x1.alloc (.cells #[.slice (some ⟨d1,0,none⟩) 9 9] 81 (0,0))=y1 at *
 generalize x1.heap.size=o1 at *
 have O1:Hid (∃d,y1.cell? ⟨o1,0,none⟩=some (.slice (some ⟨d,0,none⟩) 9 9)∧Blk y1 d (oidOf 1) 5):=⟨d1,ho1.cell 0,D1'⟩
 clear ho1 D1 D1'
 refine(door43_any y1 (initP256r1_any y1 bE ((oo K1b).cell (oo hE0) id) ((oo HB).later (oo K1b)))).mono ?_
 rintro e z1 ⟨q1,rfl,hc⟩
 have C1:Hid (Rcv _ _ _ _ _ _ _ _ _ _):=hc
 have kz:Keep Nope y1 z1:=by
  obtain⟨_,_,_,_,_,_,_,_,_,_,_,_,kk,_⟩:=hc
  exact kk
 have KZ1:Hid _:=kz
 clear hc kz
 go_wp2_with fail
 refine(newGen_any z1 100 q1).mono ?_
 rintro e z1' ⟨rfl,rfl⟩
 have hg1:=Blk.new z1 #[.iface 100 (pt q1)] 62
 have kg:Keep Nope z1 (z1.alloc (.cells #[.iface 100 (pt q1)] 62 (0,0))):=(Keep.refl _ _).alloc _
 have KG1:Hid _:=kg
 have K2:Hid (Keep Nope w _):=((oo K1b).trans (oo KZ1)).trans kg
 clear kg
 generalize z1.alloc (.cells #[.iface 100 (pt q1)] 62 (0,0))=v1 at *
 generalize z1.heap.size=g1 at *
 have G1:Hid (Blk v1 g1 #[.iface 100 (pt q1)] 62):=hg1
 clear hg1
 go_wp2_with fail
 have hd2:=Blk.new v1 #[.int .u8 43,.int .u8 36,.int .u8 3,.int .u8 3,.int .u8 2,.int .u8 8,.int .u8 1,.int .u8 1,.int .u8 11] 5
 have kp2:Keep Nope v1 (v1.alloc (.cells #[.int .u8 43,.int .u8 36,.int .u8 3,.int .u8 3,.int .u8 2,.int .u8 8,.int .u8 1,.int .u8 1,.int .u8 11] 5 (0,0))):=(Keep.refl _ _).alloc _
 have K2a:Hid (Keep Nope w (v1.alloc (.cells #[.int .u8 43,.int .u8 36,.int .u8 3,.int .u8 3,.int .u8 2,.int .u8 8,.int .u8 1,.int .u8 1,.int .u8 11] 5 (0,0)))):=(oo K2).alloc _
 generalize v1.alloc (.cells #[.int .u8 43,.int .u8 36,.int .u8 3,.int .u8 3,.int .u8 2,.int .u8 8,.int .u8 1,.int .u8 1,.int .u8 11] 5 (0,0))=x2 at *
 generalize v1.heap.size=d2 at *
 have D2:Hid (Blk _ _ _ _):=hd2
 clear hd2
 refine(newOid_any x2 _ 9 _ (by omega) (by omega)).mono ?_
 rintro e x2' ⟨rfl,rfl⟩
 go_wp2_with fail
 have ho2:=Blk.new x2 #[.slice (some ⟨d2,0,none⟩) 9 9] 81
 have kd2:Keep Nope x2 (x2.alloc (.cells #[.slice (some ⟨d2,0,none⟩) 9 9] 81 (0,0))):=(Keep.refl _ _).alloc _
 have D2':=(oo D2).keep kd2 id
 have K2b:Hid (Keep Nope w _):=(oo K2a).trans kd2
 have KP2:Hid (Keep Nope v1 _):=kp2.trans kd2
 clear kd2 kp2
 generalize x2.alloc (.cells #[.slice (some ⟨d2,0,none⟩) 9 9] 81 (0,0))=y2 at *
 generalize x2.heap.size=o2 at *
 have O2:Hid (∃d,y2.cell? ⟨o2,0,none⟩=some (.slice (some ⟨d,0,none⟩) 9 9)∧Blk y2 d (oidOf 2) 5):=⟨d2,ho2.cell 0,D2'⟩
 clear ho2 D2 D2'
 refine(door44_any y2 (initP384r1_any y2 bE ((oo K2b).cell (oo hE0) id) ((oo HB).later (oo K2b)))).mono ?_
 rintro e z2 ⟨q2,rfl,hc⟩
 have C2:Hid (Rcv _ _ _ _ _ _ _ _ _ _):=hc
 have kz:Keep Nope y2 z2:=by
  obtain⟨_,_,_,_,_,_,_,_,_,_,_,_,kk,_⟩:=hc
  exact kk
 have KZ2:Hid _:=kz
 clear hc kz
 go_wp2_with fail
 refine(newGen_any z2 100 q2).mono ?_
 rintro e z2' ⟨rfl,rfl⟩
 have hg2:=Blk.new z2 #[.iface 100 (pt q2)] 62
 have kg:Keep Nope z2 (z2.alloc (.cells #[.iface 100 (pt q2)] 62 (0,0))):=(Keep.refl _ _).alloc _
 have KG2:Hid _:=kg
 have K3:Hid (Keep Nope w _):=((oo K2b).trans (oo KZ2)).trans kg
 clear kg
 generalize z2.alloc (.cells #[.iface 100 (pt q2)] 62 (0,0))=v2 at *
 generalize z2.heap.size=g2 at *
 have G2:Hid (Blk v2 g2 #[.iface 100 (pt q2)] 62):=hg2
 clear hg2
 go_wp2_with fail
 have hd3:=Blk.new v2 #[.int .u8 43,.int .u8 36,.int .u8 3,.int .u8 3,.int .u8 2,.int .u8 8,.int .u8 1,.int .u8 1,.int .u8 13] 5
 have kp3:Keep Nope v2 (v2.alloc (.cells #[.int .u8 43,.int .u8 36,.int .u8 3,.int .u8 3,.int .u8 2,.int .u8 8,.int .u8 1,.int .u8 1,.int .u8 13] 5 (0,0))):=(Keep.refl _ _).alloc _
 have K3a:Hid (Keep Nope w (v2.alloc (.cells #[.int .u8 43,.int .u8 36,.int .u8 3,.int .u8 3,.int .u8 2,.int .u8 8,.int .u8 1,.int .u8 1,.int .u8 13] 5 (0,0)))):=(oo K3).alloc _
 generalize v2.alloc (.cells #[.int .u8 43,.int .u8 36,.int .u8 3,.int .u8 3,.int .u8 2,.int .u8 8,.int .u8 1,.int .u8 1,.int .u8 13] 5 (0,0))=x3 at *
 generalize v2.heap.size=d3 at *
 have D3:Hid (Blk _ _ _ _):=hd3
 clear hd3
 refine(newOid_any x3 _ 9 _ (by omega) (by omega)).mono ?_
 rintro e x3' ⟨rfl,rfl⟩
 go_wp2_with fail
 have ho3:=Blk.new x3 #[.slice (some ⟨d3,0,none⟩) 9 9] 81
 have kd3:Keep Nope x3 (x3.alloc (.cells #[.slice (some ⟨d3,0,none⟩) 9 9] 81 (0,0))):=(Keep.refl _ _).alloc _
 have D3':=(oo D3).keep kd3 id
 have K3b:Hid (Keep Nope w _):=(oo K3a).trans kd3
 have KP3:Hid (Keep Nope v2 _):=kp3.trans kd3
 clear kd3 kp3
 generalize x3.alloc (.cells #[.slice (some ⟨d3,0,none⟩) 9 9] 81 (0,0))=y3 at *
 generalize x3.heap.size=o3 at *
 have O3:Hid (∃d,y3.cell? ⟨o3,0,none⟩=some (.slice (some ⟨d,0,none⟩) 9 9)∧Blk y3 d (oidOf 3) 5):=⟨d3,ho3.cell 0,D3'⟩
 clear ho3 D3 D3'
 refine(door45_any y3 (initP512r1_any y3 bE ((oo K3b).cell (oo hE0) id) ((oo HB).later (oo K3b)))).mono ?_
 rintro e z3 ⟨q3,rfl,hc⟩
 have C3:Hid (Rcv _ _ _ _ _ _ _ _ _ _):=hc
 have kz:Keep Nope y3 z3:=by
  obtain⟨_,_,_,_,_,_,_,_,_,_,_,_,kk,_⟩:=hc
  exact kk
 have KZ3:Hid _:=kz
 clear hc kz
 go_wp2_with fail
 refine(newGen_any z3 100 q3).mono ?_
 rintro e z3' ⟨rfl,rfl⟩
 have hg3:=Blk.new z3 #[.iface 100 (pt q3)] 62
 have kg:Keep Nope z3 (z3.alloc (.cells #[.iface 100 (pt q3)] 62 (0,0))):=(Keep.refl _ _).alloc _
 have KG3:Hid _:=kg
 have K4:Hid (Keep Nope w _):=((oo K3b).trans (oo KZ3)).trans kg
 clear kg
 generalize z3.alloc (.cells #[.iface 100 (pt q3)] 62 (0,0))=v3 at *
 generalize z3.heap.size=g3 at *
 have G3:Hid (Blk v3 g3 #[.iface 100 (pt q3)] 62):=hg3
 clear hg3
 go_wp2_with fail
 have hN:=Blk.new v3 #[nameOf 0,pt o0,.iface 63 (pt g0),nameOf 1,pt o1,.iface 63 (pt g1),nameOf 2,pt o2,.iface 63 (pt g2),nameOf 3,pt o3,.iface 63 (pt g3)]
 have f3:∀ob:Obj,Keep Nope v3 (v3.alloc ob):=fun ob=>(Keep.refl _ _).alloc _
 have f2:∀ob:Obj,Keep Nope v2 (v3.alloc ob):=fun ob=>(((oo KP3).trans (oo KZ3)).trans (oo KG3)).trans (f3 ob)
 have f1:∀ob:Obj,Keep Nope v1 (v3.alloc ob):=fun ob=>(((oo KP2).trans (oo KZ2)).trans (oo KG2)).trans (f2 ob)
 have f0:∀ob:Obj,Keep Nope v0 (v3.alloc ob):=fun ob=>(((oo KP1).trans (oo KZ1)).trans (oo KG1)).trans (f1 ob)
 have HALL:Hid (∀T,Cvs w (v3.alloc (.cells #[nameOf 0,pt o0,.iface 63 (pt g0),nameOf 1,pt o1,.iface 63 (pt g1),nameOf 2,pt o2,.iface 63 (pt g2),nameOf 3,pt o3,.iface 63 (pt g3)] T (0,0))) v3.heap.size):=by
  intro T
  have e3:=f3 (.cells #[nameOf 0,pt o0,.iface 63 (pt g0),nameOf 1,pt o1,.iface 63 (pt g1),nameOf 2,pt o2,.iface 63 (pt g2),nameOf 3,pt o3,.iface 63 (pt g3)] T (0,0))
  have e2:=f2 (.cells #[nameOf 0,pt o0,.iface 63 (pt g0),nameOf 1,pt o1,.iface 63 (pt g1),nameOf 2,pt o2,.iface 63 (pt g2),nameOf 3,pt o3,.iface 63 (pt g3)] T (0,0))
  have e1:=f1 (.cells #[nameOf 0,pt o0,.iface 63 (pt g0),nameOf 1,pt o1,.iface 63 (pt g1),nameOf 2,pt o2,.iface 63 (pt g2),nameOf 3,pt o3,.iface 63 (pt g3)] T (0,0))
  have e0:=f0 (.cells #[nameOf 0,pt o0,.iface 63 (pt g0),nameOf 1,pt o1,.iface 63 (pt g1),nameOf 2,pt o2,.iface 63 (pt g2),nameOf 3,pt o3,.iface 63 (pt g3)] T (0,0))
  have kk0:=((oo KZ0).trans (oo KG0)).trans e0
  have kk1:=((oo KZ1).trans (oo KG1)).trans e1
  have kk2:=((oo KZ2).trans (oo KG2)).trans e2
  refine⟨o0,g0,q0,o1,g1,q1,o2,g2,q2,o3,g3,(oo K0b).trans kk0,⟨T,hN T⟩,⟨?_,e0.cell ((oo G0).cell 0) id⟩,⟨rfl,((oo C0).nope ((oo KG0).trans e0)).past (oo K0b)⟩,⟨?_,e1.cell ((oo G1).cell 0) id⟩,⟨rfl,((oo C1).nope ((oo KG1).trans e1)).past (oo K1b)⟩,⟨?_,e2.cell ((oo G2).cell 0) id⟩,⟨rfl,((oo C2).nope ((oo KG2).trans e2)).past (oo K2b)⟩⟩
  ·obtain⟨d,h1,h2⟩:=oo O0
   exact⟨d,kk0.cell h1 id,h2.keep kk0 id⟩
  ·obtain⟨d,h1,h2⟩:=oo O1
   exact⟨d,kk1.cell h1 id,h2.keep kk1 id⟩
  ·obtain⟨d,h1,h2⟩:=oo O2
   exact⟨d,kk2.cell h1 id,h2.keep kk2 id⟩
 clear hN f0 f1 f2 f3
 go_ret
 exact⟨_,rfl,(oo HALL) _⟩
end Go.Proofs.YtofkehhflkdabaaGreatDoor
