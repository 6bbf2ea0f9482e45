/- A part of the proof of FnCurveOf. -/
import Derived.Test.YtofkehhflkdabaaGreatDoorP31
set_option maxRecDepth 100000
set_option maxHeartbeats 8000000
namespace Go.Proofs.YtofkehhflkdabaaGreatDoor
open Go Go.RowKit
theorem initS256_any (w:World) (bE:Addr) (hE:w.cell? ⟨0,0,none⟩=some (.iface 220 (.pointer (some bE)))) (hb:Base (· < w.heap.size) w) :
  Calls Tryz.prog 50 #[] w fun e w'=>∃(q p1 p2 p3 p4 p5:Nat),e = .returned (pt q)∧Mk (fun b=>b<w.heap.size∨b=q) w q #[.string { data:=#[115,101,99,112,50,53,54,107,49] },pt p1,pt p2,pt p3,pt p4,pt p5,.int .i64 256] 104 [(p5,ofI 32670510020758816978083085130507043184471273380659243275938904335757337482424),(p4,ofI 55066263022277343669578718895168534326250603453777594175500187360389116729240),(p3,ofI 7),(p2,ofI 115792089237316195423570985008687907852837564279074904382605163141518161494337),(p1,ofI 115792089237316195423570985008687907853269984665640564039457584007908834671663)] w':=by
 have m0:=Mk.start (St.nil hb) #[.string { data:=#[] },.pointer none,.pointer none,.pointer none,.pointer none,.pointer none,.int .i64 0] 104 (by intro x;simp)
 have E0:=((Keep.refl Nope w).alloc (.cells #[.string { data:=#[] },.pointer none,.pointer none,.pointer none,.pointer none,.pointer none,.int .i64 0] 104 (0,0))).cell hE id
 go_enter Tryz.func50,Tryz.ntmps50
 go_upto_region 2 with fail
 generalize hw:w.alloc (.cells #[.string { data:=#[] },.pointer none,.pointer none,.pointer none,.pointer none,.pointer none,.int .i64 0] 104 (0,0))=v0 at *
 generalize hq:w.heap.size=q at *
 have hq0:0<q:=Nat.lt_trans (by decide) (show 3<q from hb.three)
 have HQ:Hid (w.heap.size=q):=hq
 clear hw hE hb hq
 have M0:Hid (Mk _ _ _ _ _ _ _):=m0
 have c0:=m0.blk.cell 0
 have f0:=m0.blk.frozen 0
 simp only [Ls5,Ls4] at c0
 go_upto_region 3 with fail
 have m1:=M0.out.set 0 (.string { data:=#[115,101,99,112,50,53,54,107,49] }) (by intro x;simp)
 simp only [Ls2,Ls0] at m1
 have E1:(v0.setCell ⟨q,0,none⟩ (.string { data:=#[115,101,99,112,50,53,54,107,49] })).cell? ⟨0,0,none⟩=some (.iface 220 (.pointer (some bE))):=((Keep.refl (·=q) v0).setCell (p:=⟨q,0,none⟩) rfl (.string { data:=#[115,101,99,112,50,53,54,107,49] })).cell E0 (by show ¬(0=q);omega)
 generalize hw:v0.setCell ⟨q,0,none⟩ (.string { data:=#[115,101,99,112,50,53,54,107,49] })=v1 at *
 clear hw c0 f0 E0
 have M1:Hid (Mk _ _ _ _ _ _ _):=m1
 clear m1
 go_wp2_with fail
 refine(setString_any _ _ bE 4 _ (Two.new _ _ _ 85) (((Keep.refl Nope _).alloc _).cell E1 id) (by omega) (by omega) (by rfl) (by decide +kernel)).mono ?_
 rintro e u1 ⟨rfl,hg⟩
 replace hg:Got (v1.alloc iz) u1 v1.heap.size 115792089237316195423570985008687907853269984665640564039457584007908834671663:=Eq.mp (congrArg (Got (v1.alloc iz) u1 v1.heap.size) (by decide +kernel)) hg
 have E1':=hg.keep.cell E1 id
 have g1:=M1.out.got hg
 generalize v1.heap.size=p1 at *
 have G1:Hid (Mk _ _ _ _ _ _ _):=g1
 have c1:=g1.blk.cell 1
 have f1:=g1.blk.frozen 1
 simp only [Ls5,Ls3,Ls4] at c1
 clear hg g1 M1 E1
 go_upto_region 4 with fail
 have m2:=G1.out.set 1 (pt p1) (by intro x;simp)
 simp only [Ls2,Ls0,Ls1] at m2
 have E2:(u1.setCell ⟨q,1,none⟩ (pt p1)).cell? ⟨0,0,none⟩=some (.iface 220 (.pointer (some bE))):=((Keep.refl (·=q) u1).setCell (p:=⟨q,1,none⟩) rfl (pt p1)).cell E1' (by show ¬(0=q);omega)
 generalize hw:u1.setCell ⟨q,1,none⟩ (pt p1)=v2 at *
 clear hw c1 f1 E1'
 have M2:Hid (Mk _ _ _ _ _ _ _):=m2
 clear m2
 go_wp2_with fail
 refine(setString_any _ _ bE 4 _ (Two.new _ _ _ 85) (((Keep.refl Nope _).alloc _).cell E2 id) (by omega) (by omega) (by rfl) (by decide +kernel)).mono ?_
 rintro e u2 ⟨rfl,hg⟩
 replace hg:Got (v2.alloc iz) u2 v2.heap.size 115792089237316195423570985008687907852837564279074904382605163141518161494337:=Eq.mp (congrArg (Got (v2.alloc iz) u2 v2.heap.size) (by decide +kernel)) hg
 have E2':=hg.keep.cell E2 id
 have g2:=M2.out.got hg
 generalize v2.heap.size=p2 at *
 have G2:Hid (Mk _ _ _ _ _ _ _):=g2
 have c2:=g2.blk.cell 2
 have f2:=g2.blk.frozen 2
 simp only [Ls5,Ls3,Ls4] at c2
 clear hg g2 M2 E2
 go_upto_region 5 with fail
 have m3:=G2.out.set 2 (pt p2) (by intro x;simp)
 simp only [Ls2,Ls0,Ls1] at m3
 have E3:(u2.setCell ⟨q,2,none⟩ (pt p2)).cell? ⟨0,0,none⟩=some (.iface 220 (.pointer (some bE))):=((Keep.refl (·=q) u2).setCell (p:=⟨q,2,none⟩) rfl (pt p2)).cell E2' (by show ¬(0=q);omega)
 generalize hw:u2.setCell ⟨q,2,none⟩ (pt p2)=v3 at *
 clear hw c2 f2 E2'
 have M3:Hid (Mk _ _ _ _ _ _ _):=m3
 clear m3
 go_wp2_with fail
 refine(setString_any _ _ bE 4 _ (Two.new _ _ _ 85) (((Keep.refl Nope _).alloc _).cell E3 id) (by omega) (by omega) (by rfl) (by decide +kernel)).mono ?_
 rintro e u3 ⟨rfl,hg⟩
 replace hg:Got (v3.alloc iz) u3 v3.heap.size 7:=Eq.mp (congrArg (Got (v3.alloc iz) u3 v3.heap.size) (by decide +kernel)) hg
 have E3':=hg.keep.cell E3 id
 have g3:=M3.out.got hg
 generalize v3.heap.size=p3 at *
 have G3:Hid (Mk _ _ _ _ _ _ _):=g3
 have c3:=g3.blk.cell 3
 have f3:=g3.blk.frozen 3
 simp only [Ls5,Ls3,Ls4] at c3
 clear hg g3 M3 E3
 go_upto_region 6 with fail
 have m4:=G3.out.set 3 (pt p3) (by intro x;simp)
 simp only [Ls2,Ls0,Ls1] at m4
 have E4:(u3.setCell ⟨q,3,none⟩ (pt p3)).cell? ⟨0,0,none⟩=some (.iface 220 (.pointer (some bE))):=((Keep.refl (·=q) u3).setCell (p:=⟨q,3,none⟩) rfl (pt p3)).cell E3' (by show ¬(0=q);omega)
 generalize hw:u3.setCell ⟨q,3,none⟩ (pt p3)=v4 at *
 clear hw c3 f3 E3'
 have M4:Hid (Mk _ _ _ _ _ _ _):=m4
 clear m4
 go_wp2_with fail
 refine(setString_any _ _ bE 4 _ (Two.new _ _ _ 85) (((Keep.refl Nope _).alloc _).cell E4 id) (by omega) (by omega) (by rfl) (by decide +kernel)).mono ?_
 rintro e u4 ⟨rfl,hg⟩
 replace hg:Got (v4.alloc iz) u4 v4.heap.size 55066263022277343669578718895168534326250603453777594175500187360389116729240:=Eq.mp (congrArg (Got (v4.alloc iz) u4 v4.heap.size) (by decide +kernel)) hg
 have E4':=hg.keep.cell E4 id
 have g4:=M4.out.got hg
 generalize v4.heap.size=p4 at *
 have G4:Hid (Mk _ _ _ _ _ _ _):=g4
 have c4:=g4.blk.cell 4
 have f4:=g4.blk.frozen 4
 simp only [Ls5,Ls3,Ls4] at c4
 clear hg g4 M4 E4
 go_upto_region 7 with fail
 have m5:=G4.out.set 4 (pt p4) (by intro x;simp)
 simp only [Ls2,Ls0,Ls1] at m5
 have E5:(u4.setCell ⟨q,4,none⟩ (pt p4)).cell? ⟨0,0,none⟩=some (.iface 220 (.pointer (some bE))):=((Keep.refl (·=q) u4).setCell (p:=⟨q,4,none⟩) rfl (pt p4)).cell E4' (by show ¬(0=q);omega)
 generalize hw:u4.setCell ⟨q,4,none⟩ (pt p4)=v5 at *
 clear hw c4 f4 E4'
 have M5:Hid (Mk _ _ _ _ _ _ _):=m5
 clear m5
 go_wp2_with fail
 refine(setString_any _ _ bE 4 _ (Two.new _ _ _ 85) (((Keep.refl Nope _).alloc _).cell E5 id) (by omega) (by omega) (by rfl) (by decide +kernel)).mono ?_
 rintro e u5 ⟨rfl,hg⟩
 replace hg:Got (v5.alloc iz) u5 v5.heap.size 32670510020758816978083085130507043184471273380659243275938904335757337482424:=Eq.mp (congrArg (Got (v5.alloc iz) u5 v5.heap.size) (by decide +kernel)) hg
 have E5':=hg.keep.cell E5 id
 have g5:=M5.out.got hg
 generalize v5.heap.size=p5 at *
 have G5:Hid (Mk _ _ _ _ _ _ _):=g5
 have c5:=g5.blk.cell 5
 have f5:=g5.blk.frozen 5
 simp only [Ls5,Ls3,Ls4] at c5
 clear hg g5 M5 E5
 go_upto_region 8 with fail
 have m6:=G5.out.set 5 (pt p5) (by intro x;simp)
 simp only [Ls2,Ls0,Ls1] at m6
 have E6:(u5.setCell ⟨q,5,none⟩ (pt p5)).cell? ⟨0,0,none⟩=some (.iface 220 (.pointer (some bE))):=((Keep.refl (·=q) u5).setCell (p:=⟨q,5,none⟩) rfl (pt p5)).cell E5' (by show ¬(0=q);omega)
 generalize hw:u5.setCell ⟨q,5,none⟩ (pt p5)=v6 at *
 clear hw c5 f5 E5'
 have M6:Hid (Mk _ _ _ _ _ _ _):=m6
 have c6:=m6.blk.cell 6
 have f6:=m6.blk.frozen 6
 simp only [Ls5,Ls3,Ls4] at c6
 go_wp2_with fail
 have m7:=M6.out.set 6 (.int .i64 256) (by intro x;simp)
 simp only [Ls2,Ls0,Ls1] at m7
 go_ret
 exact⟨q,p1,p2,p3,p4,p5,rfl,by rw [HQ.out];exact m7⟩
theorem own_any (w:World) (a:Option Addr) (n k:Nat) (c:Nat→Nat) (h:Dbo w a n k c) (hn:n<1000000) :
  Calls Tryz.prog 15 #[.slice a n k] w fun e w'=>∃a' k',e = .returned (.slice a' n k')∧Db w' a' n k' c∧Keep Nope w w':=by
 obtain⟨v',w1,hr,ho,-⟩:=(Ob.nil w 5 (fun _=>0)).appd h (by omega) (by omega) 23
 rw [Nat.zero_add] at ho
 obtain⟨a1,k1,rfl,db⟩:=ho.db
 have HR:Hid _:=hr
 have K1:Hid (Keep Nope w w1):=ho.keep
 have HO:Hid (Ob w w1 5 (.slice a1 n k1) n _):=ho
 have DB:Hid (Db w1 a1 n k1 _):=db
 clear hr ho db h
 go_enter Tryz.func15,Tryz.ntmps15
 go_wp2_with (at_builtin;refine Lib.wpList_append_run _ rfl _ _ _ _ rfl _ _ rfl rfl _ _ (oo HR) ?_)
 go_ret
 refine⟨a1,k1,rfl,?_,oo K1⟩
 ·have e:(fun i=>if i<0 then (fun _=>0) i else c (i-0))=c:=by
   funext i
   simp
  exact e▸oo DB
theorem newOid_any (w:World) (a:Addr) (n k:Nat) (h0:0<n) (h1:n<200) :
  Calls Tryz.prog 23 #[.slice (some a) n k] w fun e w'=>e = .returned (pt w.heap.size)∧w'=w.alloc (.cells #[.slice (some a) n k] 81 (0,0)):=by
 have t1:((n:Int)==0)=false:=beq_eq_false_iff_ne.2 (by omega)
 have t2:((n:Int)==255)=false:=beq_eq_false_iff_ne.2 (by omega)
 have t3:¬(254:Int)<(n:Int):=by omega
 go_enter Tryz.func23,Tryz.ntmps23
 go_wp2_with fail
 go_ret
 exact⟨rfl,rfl⟩
theorem oidBytes_any (w:World) (q:Nat) (v:Value) (h:w.cell? ⟨q,0,none⟩=some v) :
  Calls Tryz.prog 33 #[pt q] w fun e w'=>e = .returned v∧w'=w:=by
 go_enter Tryz.func33,Tryz.ntmps33
 go_wp2_with fail
 go_ret
 exact⟨rfl,rfl⟩
theorem newGen_any (w:World) (T:TypeId) (p:Nat) :
  Calls Tryz.prog 41 #[.iface T (pt p)] w fun e w'=>e = .returned (pt w.heap.size)∧w'=w.alloc (.cells #[.iface T (pt p)] 62 (0,0)):=by
 go_enter Tryz.func41,Tryz.ntmps41
 go_wp2_with fail
 go_ret
 exact⟨rfl,rfl⟩
end Go.Proofs.YtofkehhflkdabaaGreatDoor
