/- A part of the proof of FnCurveOf. -/
import Derived.Test.YtofkehhflkdabaaGreatDoorP27
set_option maxRecDepth 100000
set_option maxHeartbeats 8000000
namespace Go.Proofs.YtofkehhflkdabaaGreatDoor
open Go Go.RowKit
theorem ob_one (w w0:World) (k0:Keep Nope w0 w) (d:Nat) (hd:d<256):Ob w0 (w.alloc (.cells #[.int .u8 (d:Int)] 5 (0,0))) 5 (.slice (some ⟨w.heap.size,0,none⟩) 1 1) 1 (fun _=>d):=
 ⟨⟨rfl,.inr ⟨w.heap.size,1,_,rfl,k0.size,heap_alloc_new w _,Nat.le_refl _,by unfold maxLen;omega,rfl,rfl⟩⟩,k0.alloc _,fun _ _=>hd⟩
theorem pointBytes_any (w:World) (vO vM vA vB vG vH vN:Value) (ax ay:Option Addr) (lx kx ly ky X Y s:Nat) (hx:IsB w ax lx kx X) (hy:IsB w ay ly ky Y) (hlx:lx<1000) (hly:ly<1000) (hs:s<1000) (hX:X<256^s) (hY:Y<256^s) :
  Calls Tryz.prog 9 #[.agg #[vO,vM,vA,vB,vG,vH,.bool false,vN,.int .i64 (s:Int)],.agg #[.slice ax lx kx,.slice ay ly ky,.bool false]] w fun e w'=>∃a k c,e = .returned (.slice a (1+s+s) k)∧Dbo w' a (1+s+s) k c ∧
   c 0=4∧preN (fun i=>c (1+i)) s=X∧preN (fun i=>c (1+s+i)) s=Y∧Keep Nope w w':=by
 have k1:Keep Nope w (((w.alloc (.cells #[vO,vM,vA,vB,vG,vH,.bool false,vN,.int .i64 (s:Int)] 33 (0,0))).alloc (.cells #[.slice ax lx kx,.slice ay ly ky,.bool false] 31 (0,0))).alloc (.cells #[.int .u8 4] 5 (0,0))):=(((Keep.refl Nope w).alloc _).alloc _).alloc _
 have c1:(((w.alloc (.cells #[vO,vM,vA,vB,vG,vH,.bool false,vN,.int .i64 (s:Int)] 33 (0,0))).alloc (.cells #[.slice ax lx kx,.slice ay ly ky,.bool false] 31 (0,0))).alloc (.cells #[.int .u8 4] 5 (0,0))).cell? ⟨(w.alloc (.cells #[vO,vM,vA,vB,vG,vH,.bool false,vN,.int .i64 (s:Int)] 33 (0,0))).heap.size,1,none⟩=some (.slice ay ly ky):=((Keep.refl Nope _).alloc _).cel (cell_newI _ #[.slice ax lx kx,.slice ay ly ky,.bool false] 31 1 _ rfl) id
 have c8:(((w.alloc (.cells #[vO,vM,vA,vB,vG,vH,.bool false,vN,.int .i64 (s:Int)] 33 (0,0))).alloc (.cells #[.slice ax lx kx,.slice ay ly ky,.bool false] 31 (0,0))).alloc (.cells #[.int .u8 4] 5 (0,0))).cell? ⟨w.heap.size,8,none⟩=some (.int .i64 (s:Int)):=(((Keep.refl Nope _).alloc _).alloc _).cel (cell_newI w #[vO,vM,vA,vB,vG,vH,.bool false,vN,.int .i64 (s:Int)] 33 8 _ rfl) id
 have ho:=ob_one ((w.alloc (.cells #[vO,vM,vA,vB,vG,vH,.bool false,vN,.int .i64 (s:Int)] 33 (0,0))).alloc (.cells #[.slice ax lx kx,.slice ay ly ky,.bool false] 31 (0,0))) w (((Keep.refl Nope w).alloc _).alloc _) 4 (by omega)
 simp only [Int.cast_ofNat_Int,alloc_size] at c1 ho
 have K1:Hid (Keep _ _ _):=k1
 have HO:Hid (Ob _ _ _ _ _ _):=ho
 have HX:Hid (IsB _ ax lx kx X):=hx.nope k1
 have HY:Hid (IsB _ ay ly ky Y):=hy.nope k1
 have HYW:Hid (IsB w ay ly ky Y):=hy
 clear k1 ho hx hy
 go_enter Tryz.func9,Tryz.ntmps9
 go_wp2_with fail
 generalize hw1:(((w.alloc (.cells #[vO,vM,vA,vB,vG,vH,.bool false,vN,.int .i64 (s:Int)] 33 (0,0))).alloc (.cells #[.slice ax lx kx,.slice ay ly ky,.bool false] 31 (0,0))).alloc (.cells #[.int .u8 4] 5 (0,0)))=w1 at *
 generalize w.heap.size=q at *
 clear hw1
 refine(fixedBig_any w1 ax lx kx X s (oo HX) hlx hs hX).mono ?_
 rintro e w2 ⟨a2,k2,d2,rfl,hd2,hv2,kk2⟩
 obtain⟨v3,w3,hr3,ho3,hg3⟩:=((oo HO).nope kk2).appd hd2 (by omega) (by omega) 23
 have c1:=hg3.cell (kk2.cel c1 id) (by simp only [Value.ownBlock,ne_eq,Option.some.injEq];omega)
 have c8:=hg3.cell (kk2.cel c8 id) (by simp only [Value.ownBlock,ne_eq,Option.some.injEq];omega)
 obtain⟨a3,k3,rfl,-⟩:=ho3.db
 have HR3:Hid _:=hr3
 have HO3:Hid (Ob w w3 5 (.slice a3 (1+s) k3) (1+s) _):=ho3
 have HV2:Hid _:=hv2
 have HY3:Hid (IsB w3 ay ly ky Y):=((oo HYW)).nope ho3.keep
 clear hr3 ho3 hg3 hd2 hv2 kk2
 go_wp2_with (at_builtin;refine Lib.wpList_append_run _ rfl _ _ _ _ rfl _ _ rfl rfl _ _ (oo HR3) ?_)
 refine(fixedBig_any w3 ay ly ky Y s (oo HY3) hly hs hY).mono ?_
 rintro e w4 ⟨a4,k4,d4,rfl,hd4,hv4,kk4⟩
 obtain⟨v5,w5,hr5,ho5,hg5⟩:=((oo HO3).nope kk4).appd hd4 (by omega) (by omega) 23
 obtain⟨a5,k5,rfl,db⟩:=ho5.db
 have HR5:Hid _:=hr5
 have K5:Hid (Keep Nope w w5):=ho5.keep
 have DB5:Hid (Dbo w5 a5 (1+s+s) k5 _):=db.dbo
 have HV4:Hid _:=hv4
 clear hr5 ho5 hg5 hd4 hv4 kk4 db
 go_wp2_with (at_builtin;refine Lib.wpList_append_run _ rfl _ _ _ _ rfl _ _ rfl rfl _ _ (oo HR5) ?_)
 go_ret
 refine⟨a5,k5,_,rfl,oo DB5,?_,?_,?_,oo K5⟩
 ·rw [if_pos (by omega),if_pos (by omega)]
 ·have h2:=oo HV2
  rw [← h2]
  refine preN_ext s fun i hi=>?_
  rw [if_pos (by omega),if_neg (by omega)]
  congr 1;omega
 ·have h2:=oo HV4
  rw [← h2]
  refine preN_ext s fun i hi=>?_
  rw [if_neg (by omega)]
  congr 1;omega
theorem sameBytes_any (w:World) (a b:Option Addr) (n k1 k2:Nat) (c d:Nat→Nat) (ha:Dbo w a n k1 c) (hb:Dbo w b n k2 d) (he:∀i,i<n→c i=d i) (hn:n<1000000) :
  Calls Tryz.prog 8 #[.slice a n k1,.slice b n k2] w fun e w'=>e = .returned (.bool true)∧Keep Nope w w':=by
 go_enter Tryz.func8,Tryz.ntmps8
 go_wp2_with fail
 go_loopw [13] (fun s13 wr=>∃i:Nat,s13 = .int .i64 (i:Int)∧i≤n∧Keep Nope w wr) (fun s13 _=>n-(intOf s13).toNat)
 case atStart=>exact⟨0,rfl,by omega,Keep.refl _ _⟩
 case round=>
  obtain⟨i,rfl,hi,hk⟩:=hrel
  by_cases h0:i=n
  ·subst h0
   go_wp2_with fail
   go_ret
   exact⟨rfl,hk⟩
  ·have hlt:i<n:=by omega
   obtain⟨ba,oa,rfl,fa,-⟩:=ha.get i hlt
   obtain⟨bb,ob,rfl,fb,-⟩:=hb.get i hlt
   have fa:=hk.cel fa id
   have fb:=hk.cel fb id
   have e1:=he i hlt
   rw [← e1] at fb
   obtain⟨x,hx⟩:∃x,c i=x:=⟨_,rfl⟩
   rw [hx] at fa fb
   have q9:IntKind.i64.wrap ((i:Int)+1)=(i:Int)+1:=IntWalk.i64_in _ (by omega)
   clear h0 e1 hx
   go_wp2_with fail
   go_quiet (fail)
   go_wp2_with fail
   go_roundw
   case rel=>exact⟨i+1,by go_num,by omega,by repeat (first | exact hk | apply Keep.drewN)⟩
   case measure=>simp [intOf]<;>omega
def Blk (w:World) (b:Nat) (cs:Array Value) (T:TypeId):Prop:=w.heap[b]?=some (.cells cs T (0,0))
theorem Blk.new (w:World) (cs:Array Value) (T:TypeId):Blk (w.alloc (.cells cs T (0,0))) w.heap.size cs T:=heap_alloc_new w _
theorem Blk.inHeap {w:World} {b:Nat} {cs:Array Value} {T:TypeId} (h:Blk w b cs T):b<w.heap.size:=(Array.getElem?_eq_some_iff.1 h).1
theorem Blk.keep {S:Nat→Prop} {w w':World} {b:Nat} {cs:Array Value} {T:TypeId} (h:Blk w b cs T) (k:Keep S w w') (hs:¬S b):Blk w' b cs T:=by
 unfold Blk;rw [k.block b h.inHeap hs];exact h
theorem Blk.cell {w:World} {b:Nat} {cs:Array Value} {T:TypeId} (h:Blk w b cs T) (i:Nat):w.cell? ⟨b,i,none⟩=cs[i]?:=by
 unfold World.cell?;rw [h];rfl
theorem IsB.past {w w':World} {a:Option Addr} {len cap N b:Nat} {cs:Array Value} {T:TypeId} (hb:IsB w a len cap N) (hN:N≠0) (h:Blk w b cs T) (hs:∃a l k,cs[0]?=some (.slice a l k)) (k:Keep (·=b) w w'):IsB w' a len cap N:=by
 have h0:len≠0:=fun e=>hN (hb.zero.1 e)
 refine hb.keep k fun b' e e'=>?_
 subst e'
 obtain⟨c,d,_⟩:=hb
 obtain⟨b2,e2,f,_⟩:=d.get 0 (by omega)
 rw [e] at e2
 obtain⟨_,_,_,hs⟩:=hs
 cases e2
 rw [h.cell 0,hs] at f
 cases f
theorem Blk.frozen {w:World} {b:Nat} {cs:Array Value} {T:TypeId} (h:Blk w b cs T) (i:Nat):w.frozen? ⟨b,i,none⟩=false:=by
 unfold World.frozen?;rw [h];simp
theorem Blk.set {w:World} {b:Nat} {cs:Array Value} {T:TypeId} (h:Blk w b cs T) (i:Nat) (v:Value):Blk (w.setCell ⟨b,i,none⟩ v) b (cs.setIfInBounds i v) T:=by
 unfold Blk at h ⊢
 simp only [World.setCell,Array.getElem?_modify,if_true,h,Option.map_some,Option.isSome_none,Bool.false_eq_true,if_false]
theorem curveK_any (w:World):Calls Tryz.prog 4 #[.int .i64 0] w fun e w'=>∃(qO qB:Nat) (a1 a2 a3 a4:Option Addr) (l1 k1 l2 k2 l3 k3 l4 k4:Nat),e = .returned (.agg #[.slice (some ⟨qO,0,none⟩) 5 5,.slice a1 l1 k1,.slice none 0 0,.slice (some ⟨qB,0,none⟩) 1 1,.slice a2 l2 k2,.slice a3 l3 k3,.bool false,.slice a4 l4 k4,.int .i64 32]) ∧
  Db w' (some ⟨qO,0,none⟩) 5 5 (fun i=>(#[43,129,4,0,10]:Array Nat).getD i 0)∧IsB w' a1 l1 k1 Ec.K.p∧IsB w' a2 l2 k2 Ec.K.gx.val∧IsB w' a3 l3 k3 Ec.K.gy.val∧Keep Nope w w':=by
 have z0:Blk (w.alloc (.cells #[.slice none 0 0,.slice none 0 0,.slice none 0 0,.slice none 0 0,.slice none 0 0,.slice none 0 0,.bool false,.slice none 0 0,.int .i64 0] 33 (0,0))) w.heap.size #[.slice none 0 0,.slice none 0 0,.slice none 0 0,.slice none 0 0,.slice none 0 0,.slice none 0 0,.bool false,.slice none 0 0,.int .i64 0] 33:=Blk.new w _ 33
 have k0:Keep Nope w (w.alloc (.cells #[.slice none 0 0,.slice none 0 0,.slice none 0 0,.slice none 0 0,.slice none 0 0,.slice none 0 0,.bool false,.slice none 0 0,.int .i64 0] 33 (0,0))):=(Keep.refl Nope w).alloc _
 have o1:Blk ((w.alloc (.cells #[.slice none 0 0,.slice none 0 0,.slice none 0 0,.slice none 0 0,.slice none 0 0,.slice none 0 0,.bool false,.slice none 0 0,.int .i64 0] 33 (0,0))).alloc (.cells #[.int .u8 43,.int .u8 129,.int .u8 4,.int .u8 0,.int .u8 10] 5 (0,0))) (w.alloc (.cells #[.slice none 0 0,.slice none 0 0,.slice none 0 0,.slice none 0 0,.slice none 0 0,.slice none 0 0,.bool false,.slice none 0 0,.int .i64 0] 33 (0,0))).heap.size #[.int .u8 43,.int .u8 129,.int .u8 4,.int .u8 0,.int .u8 10] 5:=Blk.new _ _ 5
 have z1:Blk ((w.alloc (.cells #[.slice none 0 0,.slice none 0 0,.slice none 0 0,.slice none 0 0,.slice none 0 0,.slice none 0 0,.bool false,.slice none 0 0,.int .i64 0] 33 (0,0))).alloc (.cells #[.int .u8 43,.int .u8 129,.int .u8 4,.int .u8 0,.int .u8 10] 5 (0,0))) w.heap.size #[.slice none 0 0,.slice none 0 0,.slice none 0 0,.slice none 0 0,.slice none 0 0,.slice none 0 0,.bool false,.slice none 0 0,.int .i64 0] 33:=z0.keep ((Keep.refl Nope _).alloc _) id
 have K1:Hid (Keep Nope w ((w.alloc (.cells #[.slice none 0 0,.slice none 0 0,.slice none 0 0,.slice none 0 0,.slice none 0 0,.slice none 0 0,.bool false,.slice none 0 0,.int .i64 0] 33 (0,0))).alloc (.cells #[.int .u8 43,.int .u8 129,.int .u8 4,.int .u8 0,.int .u8 10] 5 (0,0)))):=k0.alloc _
 rw [alloc_size] at o1
 have O1:Hid (Blk _ _ _ _):=o1
 have Z1:Hid (Blk _ _ _ _):=z1
 clear z0 k0 o1 z1
 go_enter Tryz.func4,Tryz.ntmps4
 go_wp2_with fail
 generalize hw1:(w.alloc (.cells #[.slice none 0 0,.slice none 0 0,.slice none 0 0,.slice none 0 0,.slice none 0 0,.slice none 0 0,.bool false,.slice none 0 0,.int .i64 0] 33 (0,0))).alloc (.cells #[.int .u8 43,.int .u8 129,.int .u8 4,.int .u8 0,.int .u8 10] 5 (0,0))=w1 at *
 generalize hq:w.heap.size=q at *
 generalize hq1:q+1=q1 at *
 have HQ:Hid (w.heap.size≤q):=by show _≤_;omega
 have HN:Hid (q≠q1):=by show _≠_;omega
 clear hw1 hq hq1
 refine(hexed_any _ _ 32 (by rfl) (by omega) (by decide +kernel)).mono ?_
 rintro e w2 ⟨a2,l2,k2,rfl,h2,kk⟩
 replace h2:IsB w2 a2 l2 k2 115792089237316195423570985008687907853269984665640564039457584007908834671663:=by
  refine Eq.mp (congrArg (IsB w2 a2 l2 k2) ?_) h2
  decide +kernel
 have I2:Hid (IsB _ _ _ _ _):=h2
 have K2:Hid (Keep Nope w1 w2):=kk
 clear h2 kk
 go_wp2_with fail
 have KB:Hid (Keep Nope w2 (w2.alloc (.cells #[.int .i64 7] 3 (0,0)))):=(Keep.refl Nope w2).alloc _
 generalize hq7:w2.heap.size=q7 at *
 clear hq7
 generalize w2.alloc (.cells #[.int .i64 7] 3 (0,0))=wB at *
 refine(hexed_any _ _ 32 (by rfl) (by omega) (by decide +kernel)).mono ?_
 rintro e w3 ⟨a3,l3,k3,rfl,h3,kk⟩
 replace h3:IsB w3 a3 l3 k3 55066263022277343669578718895168534326250603453777594175500187360389116729240:=by
  refine Eq.mp (congrArg (IsB w3 a3 l3 k3) ?_) h3
  decide +kernel
 have I3:Hid (IsB _ _ _ _ _):=h3
 have K3:Hid (Keep Nope wB w3):=kk
 clear h3 kk
 go_wp2_with fail
 refine(hexed_any _ _ 32 (by rfl) (by omega) (by decide +kernel)).mono ?_
 rintro e w4 ⟨a4,l4,k4,rfl,h4,kk⟩
 replace h4:IsB w4 a4 l4 k4 32670510020758816978083085130507043184471273380659243275938904335757337482424:=by
  refine Eq.mp (congrArg (IsB w4 a4 l4 k4) ?_) h4
  decide +kernel
 have I4:Hid (IsB _ _ _ _ _):=h4
 have K4:Hid (Keep Nope w3 w4):=kk
 clear h4 kk
 go_wp2_with fail
 refine(hexed_any _ _ 32 (by rfl) (by omega) (by decide +kernel)).mono ?_
 rintro e w5 ⟨a5,l5,k5,rfl,h5,kk⟩
 replace h5:IsB w5 a5 l5 k5 115792089237316195423570985008687907852837564279074904382605163141518161494337:=by
  refine Eq.mp (congrArg (IsB w5 a5 l5 k5) ?_) h5
  decide +kernel
 have I5:Hid (IsB _ _ _ _ _):=h5
 have K5:Hid (Keep Nope w4 w5):=kk
 clear h5 kk
 have hk:=(((((oo K2).trans (oo KB)).trans (oo K3)).trans (oo K4)).trans (oo K5))
 have hz:=(oo Z1).keep hk id
 have ho:=(oo O1).keep hk id
 have HK:Hid (Keep Nope w1 w5):=hk
 have HZ:Hid (Blk _ _ _ _):=hz
 have HO:Hid (Blk _ _ _ _):=ho
 have d0:=hz.cell 0
 have f0:=hz.frozen 0
 have d1:=hz.cell 1
 have f1:=hz.frozen 1
 have d2:=hz.cell 2
 have f2:=hz.frozen 2
 have d3:=hz.cell 3
 have f3:=hz.frozen 3
 have d4:=hz.cell 4
 have f4:=hz.frozen 4
 have d5:=hz.cell 5
 have f5:=hz.frozen 5
 have d6:=hz.cell 6
 have f6:=hz.frozen 6
 have d7:=hz.cell 7
 have f7:=hz.frozen 7
 have d8:=hz.cell 8
 have f8:=hz.frozen 8
 simp only [Ls5,Ls3,Ls4] at d0 d1 d2 d3 d4 d5 d6 d7 d8
 clear hk hz ho
 go_wp2_with fail
 clear d0 f0 d1 f1 d2 f2 d3 f3 d4 f4 d5 f5 d6 f6 d7 f7 d8 f8
 have hb:=((((((((((oo HZ).set 0 (.slice (some ⟨q1,0,none⟩) 5 5)).set 1 (.slice a2 l2 k2)).set 2 (.slice none 0 0)).set 3 (.slice (some ⟨q7,0,none⟩) 1 1)).set 4 (.slice a3 l3 k3)).set 5 (.slice a4 l4 k4)).set 6 (.bool false)).set 7 (.slice a5 l5 k5)).set 8 (.int .i64 32))
 simp only [Ls2,Ls0,Ls1] at hb
 have hkk:=((((((((((Keep.refl (·=q) w5).setCell (p:=⟨q,0,none⟩) rfl (.slice (some ⟨q1,0,none⟩) 5 5)).setCell (p:=⟨q,1,none⟩) rfl (.slice a2 l2 k2)).setCell (p:=⟨q,2,none⟩) rfl (.slice none 0 0)).setCell (p:=⟨q,3,none⟩) rfl (.slice (some ⟨q7,0,none⟩) 1 1)).setCell (p:=⟨q,4,none⟩) rfl (.slice a3 l3 k3)).setCell (p:=⟨q,5,none⟩) rfl (.slice a4 l4 k4)).setCell (p:=⟨q,6,none⟩) rfl (.bool false)).setCell (p:=⟨q,7,none⟩) rfl (.slice a5 l5 k5)).setCell (p:=⟨q,8,none⟩) rfl (.int .i64 32))
 generalize (((((((((w5.setCell ⟨q,0,none⟩ (.slice (some ⟨q1,0,none⟩) 5 5)).setCell ⟨q,1,none⟩ (.slice a2 l2 k2)).setCell ⟨q,2,none⟩ (.slice none 0 0)).setCell ⟨q,3,none⟩ (.slice (some ⟨q7,0,none⟩) 1 1)).setCell ⟨q,4,none⟩ (.slice a3 l3 k3)).setCell ⟨q,5,none⟩ (.slice a4 l4 k4)).setCell ⟨q,6,none⟩ (.bool false)).setCell ⟨q,7,none⟩ (.slice a5 l5 k5)).setCell ⟨q,8,none⟩ (.int .i64 32))=wz at *
 (try simp only [Exit.inBlock,Exit.then])
 refine bodyPost_ret (results_cell_row rfl _ _ q 33 #[.slice (some ⟨q1,0,none⟩) 5 5,.slice a2 l2 k2,.slice none 0 0,.slice (some ⟨q7,0,none⟩) 1 1,.slice a3 l3 k3,.slice a4 l4 k4,.bool false,.slice a5 l5 k5,.int .i64 32] (0,0) _ rfl hb Tryz.underlying33 rfl (by kernel_rfl)) rfl ?_
 have hs:∃a l k,(#[.slice none 0 0,.slice none 0 0,.slice none 0 0,.slice none 0 0,.slice none 0 0,.slice none 0 0,.bool false,.slice none 0 0,.int .i64 0]:Array Value)[0]?=some (.slice a l k):=⟨none,0,0,rfl⟩
 refine⟨q1,q7,a2,a3,a4,a5,l2,k2,l3,k3,l4,k4,l5,k5,rfl,?_,?_,?_,?_,?_⟩
 ·have h:=(oo HO).keep hkk (fun e=>(oo HN) e.symm)
  refine⟨⟨Nat.le_refl _,by omega⟩,fun i hi=>⟨q1,rfl,?_,?_⟩⟩
  ·rw [h.cell i]
   (rcases i with _ | _ | _ | _ | _ | i)<;>first | rfl | omega
  ·exact(by decide +kernel:∀i,i<5→(#[43,129,4,0,10]:Array Nat).getD i 0<256) i hi
 ·exact((oo I2).nope ((((oo KB).trans (oo K3)).trans (oo K4)).trans (oo K5))).past (by decide +kernel) (oo HZ) hs hkk
 ·exact((oo I3).nope ((oo K4).trans (oo K5))).past (by decide +kernel) (oo HZ) hs hkk
 ·exact((oo I4).nope (oo K5)).past (by decide +kernel) (oo HZ) hs hkk
 ·exact(((oo K1).trans (oo HK)).fresh hkk (oo HQ))
theorem curveB_any (w:World):Calls Tryz.prog 4 #[.int .i64 1] w fun e w'=>∃(qO:Nat) (a1 a2 a3 a4 a5 a6:Option Addr) (l1 k1 l2 k2 l3 k3 l4 k4 l5 k5 l6 k6:Nat),e = .returned (.agg #[.slice (some ⟨qO,0,none⟩) 9 9,.slice a1 l1 k1,.slice a2 l2 k2,.slice a3 l3 k3,.slice a4 l4 k4,.slice a5 l5 k5,.bool false,.slice a6 l6 k6,.int .i64 32]) ∧
  Db w' (some ⟨qO,0,none⟩) 9 9 (fun i=>(#[43,36,3,3,2,8,1,1,7]:Array Nat).getD i 0)∧IsB w' a1 l1 k1 Ec.B.p∧IsB w' a2 l2 k2 Ec.B.ra.val∧IsB w' a4 l4 k4 Ec.B.rx.val∧IsB w' a5 l5 k5 Ec.B.ry.val∧Keep Nope w w':=by
 have z0:Blk (w.alloc (.cells #[.slice none 0 0,.slice none 0 0,.slice none 0 0,.slice none 0 0,.slice none 0 0,.slice none 0 0,.bool false,.slice none 0 0,.int .i64 0] 33 (0,0))) w.heap.size #[.slice none 0 0,.slice none 0 0,.slice none 0 0,.slice none 0 0,.slice none 0 0,.slice none 0 0,.bool false,.slice none 0 0,.int .i64 0] 33:=Blk.new w _ 33
 have k0:Keep Nope w (w.alloc (.cells #[.slice none 0 0,.slice none 0 0,.slice none 0 0,.slice none 0 0,.slice none 0 0,.slice none 0 0,.bool false,.slice none 0 0,.int .i64 0] 33 (0,0))):=(Keep.refl Nope w).alloc _
 have o1:Blk ((w.alloc (.cells #[.slice none 0 0,.slice none 0 0,.slice none 0 0,.slice none 0 0,.slice none 0 0,.slice none 0 0,.bool false,.slice none 0 0,.int .i64 0] 33 (0,0))).alloc (.cells #[.int .u8 43,.int .u8 36,.int .u8 3,.int .u8 3,.int .u8 2,.int .u8 8,.int .u8 1,.int .u8 1,.int .u8 7] 5 (0,0))) (w.alloc (.cells #[.slice none 0 0,.slice none 0 0,.slice none 0 0,.slice none 0 0,.slice none 0 0,.slice none 0 0,.bool false,.slice none 0 0,.int .i64 0] 33 (0,0))).heap.size #[.int .u8 43,.int .u8 36,.int .u8 3,.int .u8 3,.int .u8 2,.int .u8 8,.int .u8 1,.int .u8 1,.int .u8 7] 5:=Blk.new _ _ 5
 have z1:Blk ((w.alloc (.cells #[.slice none 0 0,.slice none 0 0,.slice none 0 0,.slice none 0 0,.slice none 0 0,.slice none 0 0,.bool false,.slice none 0 0,.int .i64 0] 33 (0,0))).alloc (.cells #[.int .u8 43,.int .u8 36,.int .u8 3,.int .u8 3,.int .u8 2,.int .u8 8,.int .u8 1,.int .u8 1,.int .u8 7] 5 (0,0))) w.heap.size #[.slice none 0 0,.slice none 0 0,.slice none 0 0,.slice none 0 0,.slice none 0 0,.slice none 0 0,.bool false,.slice none 0 0,.int .i64 0] 33:=z0.keep ((Keep.refl Nope _).alloc _) id
 have K1:Hid (Keep Nope w ((w.alloc (.cells #[.slice none 0 0,.slice none 0 0,.slice none 0 0,.slice none 0 0,.slice none 0 0,.slice none 0 0,.bool false,.slice none 0 0,.int .i64 0] 33 (0,0))).alloc (.cells #[.int .u8 43,.int .u8 36,.int .u8 3,.int .u8 3,.int .u8 2,.int .u8 8,.int .u8 1,.int .u8 1,.int .u8 7] 5 (0,0)))):=k0.alloc _
 rw [alloc_size] at o1
 have O1:Hid (Blk _ _ _ _):=o1
 have Z1:Hid (Blk _ _ _ _):=z1
 clear z0 k0 o1 z1
 go_enter Tryz.func4,Tryz.ntmps4
 go_wp2_with fail
 generalize hw1:(w.alloc (.cells #[.slice none 0 0,.slice none 0 0,.slice none 0 0,.slice none 0 0,.slice none 0 0,.slice none 0 0,.bool false,.slice none 0 0,.int .i64 0] 33 (0,0))).alloc (.cells #[.int .u8 43,.int .u8 36,.int .u8 3,.int .u8 3,.int .u8 2,.int .u8 8,.int .u8 1,.int .u8 1,.int .u8 7] 5 (0,0))=w1 at *
 generalize hq:w.heap.size=q at *
 generalize hq1:q+1=q1 at *
 have HQ:Hid (w.heap.size≤q):=by show _≤_;omega
 have HN:Hid (q≠q1):=by show _≠_;omega
 clear hw1 hq hq1
 refine(hexed_any _ _ 32 (by rfl) (by omega) (by decide +kernel)).mono ?_
 rintro e w2 ⟨a2,l2,k2,rfl,h2,kk⟩
 replace h2:IsB w2 a2 l2 k2 76884956397045344220809746629001649093037950200943055203735601445031516197751:=by
  refine Eq.mp (congrArg (IsB w2 a2 l2 k2) ?_) h2
  decide +kernel
 have I2:Hid (IsB _ _ _ _ _):=h2
 have K2:Hid (Keep Nope w1 w2):=kk
 clear h2 kk
 go_wp2_with fail
 refine(hexed_any _ _ 32 (by rfl) (by omega) (by decide +kernel)).mono ?_
 rintro e w3 ⟨a3,l3,k3,rfl,h3,kk⟩
 replace h3:IsB w3 a3 l3 k3 56698187605326110043627228396178346077120614539475214109386828188763884139993:=by
  refine Eq.mp (congrArg (IsB w3 a3 l3 k3) ?_) h3
  decide +kernel
 have I3:Hid (IsB _ _ _ _ _):=h3
 have K3:Hid (Keep Nope w2 w3):=kk
 clear h3 kk
 go_wp2_with fail
 refine(hexed_any _ _ 32 (by rfl) (by omega) (by decide +kernel)).mono ?_
 rintro e w4 ⟨a4,l4,k4,rfl,h4,kk⟩
 replace h4:IsB w4 a4 l4 k4 17577232497321838841075697789794520262950426058923084567046852300633325438902:=by
  refine Eq.mp (congrArg (IsB w4 a4 l4 k4) ?_) h4
  decide +kernel
 have I4:Hid (IsB _ _ _ _ _):=h4
 have K4:Hid (Keep Nope w3 w4):=kk
 clear h4 kk
 go_wp2_with fail
 refine(hexed_any _ _ 32 (by rfl) (by omega) (by decide +kernel)).mono ?_
 rintro e w5 ⟨a5,l5,k5,rfl,h5,kk⟩
 replace h5:IsB w5 a5 l5 k5 63243729749562333355292243550312970334778175571054726587095381623627144114786:=by
  refine Eq.mp (congrArg (IsB w5 a5 l5 k5) ?_) h5
  decide +kernel
 have I5:Hid (IsB _ _ _ _ _):=h5
 have K5:Hid (Keep Nope w4 w5):=kk
 clear h5 kk
 go_wp2_with fail
 refine(hexed_any _ _ 32 (by rfl) (by omega) (by decide +kernel)).mono ?_
 rintro e w6 ⟨a6,l6,k6,rfl,h6,kk⟩
 replace h6:IsB w6 a6 l6 k6 38218615093753523893122277964030810387585405539772602581557831887485717997975:=by
  refine Eq.mp (congrArg (IsB w6 a6 l6 k6) ?_) h6
  decide +kernel
 have I6:Hid (IsB _ _ _ _ _):=h6
 have K6:Hid (Keep Nope w5 w6):=kk
 clear h6 kk
 go_wp2_with fail
 refine(hexed_any _ _ 32 (by rfl) (by omega) (by decide +kernel)).mono ?_
 rintro e w7 ⟨a7,l7,k7,rfl,h7,kk⟩
 replace h7:IsB w7 a7 l7 k7 76884956397045344220809746629001649092737531784414529538755519063063536359079:=by
  refine Eq.mp (congrArg (IsB w7 a7 l7 k7) ?_) h7
  decide +kernel
 have I7:Hid (IsB _ _ _ _ _):=h7
 have K7:Hid (Keep Nope w6 w7):=kk
 clear h7 kk
 have hk:=((((((oo K2).trans (oo K3)).trans (oo K4)).trans (oo K5)).trans (oo K6)).trans (oo K7))
 have hz:=(oo Z1).keep hk id
 have ho:=(oo O1).keep hk id
 have HK:Hid (Keep Nope w1 w7):=hk
 have HZ:Hid (Blk _ _ _ _):=hz
 have HO:Hid (Blk _ _ _ _):=ho
 have d0:=hz.cell 0
 have f0:=hz.frozen 0
 have d1:=hz.cell 1
 have f1:=hz.frozen 1
 have d2:=hz.cell 2
 have f2:=hz.frozen 2
 have d3:=hz.cell 3
 have f3:=hz.frozen 3
 have d4:=hz.cell 4
 have f4:=hz.frozen 4
 have d5:=hz.cell 5
 have f5:=hz.frozen 5
 have d6:=hz.cell 6
 have f6:=hz.frozen 6
 have d7:=hz.cell 7
 have f7:=hz.frozen 7
 have d8:=hz.cell 8
 have f8:=hz.frozen 8
 simp only [Ls5,Ls3,Ls4] at d0 d1 d2 d3 d4 d5 d6 d7 d8
 clear hk hz ho
 go_wp2_with fail
 clear d0 f0 d1 f1 d2 f2 d3 f3 d4 f4 d5 f5 d6 f6 d7 f7 d8 f8
 have hb:=((((((((((oo HZ).set 0 (.slice (some ⟨q1,0,none⟩) 9 9)).set 1 (.slice a2 l2 k2)).set 2 (.slice a3 l3 k3)).set 3 (.slice a4 l4 k4)).set 4 (.slice a5 l5 k5)).set 5 (.slice a6 l6 k6)).set 6 (.bool false)).set 7 (.slice a7 l7 k7)).set 8 (.int .i64 32))
 simp only [Ls2,Ls0,Ls1] at hb
 have hkk:=((((((((((Keep.refl (·=q) w7).setCell (p:=⟨q,0,none⟩) rfl (.slice (some ⟨q1,0,none⟩) 9 9)).setCell (p:=⟨q,1,none⟩) rfl (.slice a2 l2 k2)).setCell (p:=⟨q,2,none⟩) rfl (.slice a3 l3 k3)).setCell (p:=⟨q,3,none⟩) rfl (.slice a4 l4 k4)).setCell (p:=⟨q,4,none⟩) rfl (.slice a5 l5 k5)).setCell (p:=⟨q,5,none⟩) rfl (.slice a6 l6 k6)).setCell (p:=⟨q,6,none⟩) rfl (.bool false)).setCell (p:=⟨q,7,none⟩) rfl (.slice a7 l7 k7)).setCell (p:=⟨q,8,none⟩) rfl (.int .i64 32))
 generalize (((((((((w7.setCell ⟨q,0,none⟩ (.slice (some ⟨q1,0,none⟩) 9 9)).setCell ⟨q,1,none⟩ (.slice a2 l2 k2)).setCell ⟨q,2,none⟩ (.slice a3 l3 k3)).setCell ⟨q,3,none⟩ (.slice a4 l4 k4)).setCell ⟨q,4,none⟩ (.slice a5 l5 k5)).setCell ⟨q,5,none⟩ (.slice a6 l6 k6)).setCell ⟨q,6,none⟩ (.bool false)).setCell ⟨q,7,none⟩ (.slice a7 l7 k7)).setCell ⟨q,8,none⟩ (.int .i64 32))=wz at *
 (try simp only [Exit.inBlock,Exit.then])
 refine bodyPost_ret (results_cell_row rfl _ _ q 33 #[.slice (some ⟨q1,0,none⟩) 9 9,.slice a2 l2 k2,.slice a3 l3 k3,.slice a4 l4 k4,.slice a5 l5 k5,.slice a6 l6 k6,.bool false,.slice a7 l7 k7,.int .i64 32] (0,0) _ rfl hb Tryz.underlying33 rfl (by kernel_rfl)) rfl ?_
 have hs:∃a l k,(#[.slice none 0 0,.slice none 0 0,.slice none 0 0,.slice none 0 0,.slice none 0 0,.slice none 0 0,.bool false,.slice none 0 0,.int .i64 0]:Array Value)[0]?=some (.slice a l k):=⟨none,0,0,rfl⟩
 refine⟨q1,a2,a3,a4,a5,a6,a7,l2,k2,l3,k3,l4,k4,l5,k5,l6,k6,l7,k7,rfl,?_,?_,?_,?_,?_,?_⟩
 ·have h:=(oo HO).keep hkk (fun e=>(oo HN) e.symm)
  refine⟨⟨Nat.le_refl _,by omega⟩,fun i hi=>⟨q1,rfl,?_,?_⟩⟩
  ·rw [h.cell i]
   (rcases i with _ | _ | _ | _ | _ | _ | _ | _ | _ | i)<;>first | rfl | omega
  ·exact(by decide +kernel:∀i,i<9→(#[43,36,3,3,2,8,1,1,7]:Array Nat).getD i 0<256) i hi
 ·exact((oo I2).nope (((((oo K3).trans (oo K4)).trans (oo K5)).trans (oo K6)).trans (oo K7))).past (by decide +kernel) (oo HZ) hs hkk
 ·exact((oo I3).nope ((((oo K4).trans (oo K5)).trans (oo K6)).trans (oo K7))).past (by decide +kernel) (oo HZ) hs hkk
 ·exact((oo I5).nope ((oo K6).trans (oo K7))).past (by decide +kernel) (oo HZ) hs hkk
 ·exact((oo I6).nope (oo K7)).past (by decide +kernel) (oo HZ) hs hkk
 ·exact(((oo K1).trans (oo HK)).fresh hkk (oo HQ))
theorem curveC_any (w:World):Calls Tryz.prog 4 #[.int .i64 2] w fun e w'=>∃(qO:Nat) (a1 a2 a3 a4 a5 a6:Option Addr) (l1 k1 l2 k2 l3 k3 l4 k4 l5 k5 l6 k6:Nat),e = .returned (.agg #[.slice (some ⟨qO,0,none⟩) 9 9,.slice a1 l1 k1,.slice a2 l2 k2,.slice a3 l3 k3,.slice a4 l4 k4,.slice a5 l5 k5,.bool false,.slice a6 l6 k6,.int .i64 48]) ∧
  Db w' (some ⟨qO,0,none⟩) 9 9 (fun i=>(#[43,36,3,3,2,8,1,1,11]:Array Nat).getD i 0)∧IsB w' a1 l1 k1 Ec.C.p∧IsB w' a2 l2 k2 Ec.C.ra.val∧IsB w' a4 l4 k4 Ec.C.rx.val∧IsB w' a5 l5 k5 Ec.C.ry.val∧Keep Nope w w':=by
 have z0:Blk (w.alloc (.cells #[.slice none 0 0,.slice none 0 0,.slice none 0 0,.slice none 0 0,.slice none 0 0,.slice none 0 0,.bool false,.slice none 0 0,.int .i64 0] 33 (0,0))) w.heap.size #[.slice none 0 0,.slice none 0 0,.slice none 0 0,.slice none 0 0,.slice none 0 0,.slice none 0 0,.bool false,.slice none 0 0,.int .i64 0] 33:=Blk.new w _ 33
 have k0:Keep Nope w (w.alloc (.cells #[.slice none 0 0,.slice none 0 0,.slice none 0 0,.slice none 0 0,.slice none 0 0,.slice none 0 0,.bool false,.slice none 0 0,.int .i64 0] 33 (0,0))):=(Keep.refl Nope w).alloc _
 have o1:Blk ((w.alloc (.cells #[.slice none 0 0,.slice none 0 0,.slice none 0 0,.slice none 0 0,.slice none 0 0,.slice none 0 0,.bool false,.slice none 0 0,.int .i64 0] 33 (0,0))).alloc (.cells #[.int .u8 43,.int .u8 36,.int .u8 3,.int .u8 3,.int .u8 2,.int .u8 8,.int .u8 1,.int .u8 1,.int .u8 11] 5 (0,0))) (w.alloc (.cells #[.slice none 0 0,.slice none 0 0,.slice none 0 0,.slice none 0 0,.slice none 0 0,.slice none 0 0,.bool false,.slice none 0 0,.int .i64 0] 33 (0,0))).heap.size #[.int .u8 43,.int .u8 36,.int .u8 3,.int .u8 3,.int .u8 2,.int .u8 8,.int .u8 1,.int .u8 1,.int .u8 11] 5:=Blk.new _ _ 5
 have z1:Blk ((w.alloc (.cells #[.slice none 0 0,.slice none 0 0,.slice none 0 0,.slice none 0 0,.slice none 0 0,.slice none 0 0,.bool false,.slice none 0 0,.int .i64 0] 33 (0,0))).alloc (.cells #[.int .u8 43,.int .u8 36,.int .u8 3,.int .u8 3,.int .u8 2,.int .u8 8,.int .u8 1,.int .u8 1,.int .u8 11] 5 (0,0))) w.heap.size #[.slice none 0 0,.slice none 0 0,.slice none 0 0,.slice none 0 0,.slice none 0 0,.slice none 0 0,.bool false,.slice none 0 0,.int .i64 0] 33:=z0.keep ((Keep.refl Nope _).alloc _) id
 have K1:Hid (Keep Nope w ((w.alloc (.cells #[.slice none 0 0,.slice none 0 0,.slice none 0 0,.slice none 0 0,.slice none 0 0,.slice none 0 0,.bool false,.slice none 0 0,.int .i64 0] 33 (0,0))).alloc (.cells #[.int .u8 43,.int .u8 36,.int .u8 3,.int .u8 3,.int .u8 2,.int .u8 8,.int .u8 1,.int .u8 1,.int .u8 11] 5 (0,0)))):=k0.alloc _
 rw [alloc_size] at o1
 have O1:Hid (Blk _ _ _ _):=o1
 have Z1:Hid (Blk _ _ _ _):=z1
 clear z0 k0 o1 z1
 go_enter Tryz.func4,Tryz.ntmps4
 go_wp2_with fail
 generalize hw1:(w.alloc (.cells #[.slice none 0 0,.slice none 0 0,.slice none 0 0,.slice none 0 0,.slice none 0 0,.slice none 0 0,.bool false,.slice none 0 0,.int .i64 0] 33 (0,0))).alloc (.cells #[.int .u8 43,.int .u8 36,.int .u8 3,.int .u8 3,.int .u8 2,.int .u8 8,.int .u8 1,.int .u8 1,.int .u8 11] 5 (0,0))=w1 at *
 generalize hq:w.heap.size=q at *
 generalize hq1:q+1=q1 at *
 have HQ:Hid (w.heap.size≤q):=by show _≤_;omega
 have HN:Hid (q≠q1):=by show _≠_;omega
 clear hw1 hq hq1
 refine(hexed_any _ _ 48 (by rfl) (by omega) (by decide +kernel)).mono ?_
 rintro e w2 ⟨a2,l2,k2,rfl,h2,kk⟩
 replace h2:IsB w2 a2 l2 k2 21659270770119316173069236842332604979796116387017648600081618503821089934025961822236561982844534088440708417973331:=by
  refine Eq.mp (congrArg (IsB w2 a2 l2 k2) ?_) h2
  decide +kernel
 have I2:Hid (IsB _ _ _ _ _):=h2
 have K2:Hid (Keep Nope w1 w2):=kk
 clear h2 kk
 go_wp2_with fail
 refine(hexed_any _ _ 48 (by rfl) (by omega) (by decide +kernel)).mono ?_
 rintro e w3 ⟨a3,l3,k3,rfl,h3,kk⟩
 replace h3:IsB w3 a3 l3 k3 19048979039598244295279281525021548448223459855185222892089532512446337024935426033638342846977861914875721218402342:=by
  refine Eq.mp (congrArg (IsB w3 a3 l3 k3) ?_) h3
  decide +kernel
 have I3:Hid (IsB _ _ _ _ _):=h3
 have K3:Hid (Keep Nope w2 w3):=kk
 clear h3 kk
 go_wp2_with fail
 refine(hexed_any _ _ 48 (by rfl) (by omega) (by decide +kernel)).mono ?_
 rintro e w4 ⟨a4,l4,k4,rfl,h4,kk⟩
 replace h4:IsB w4 a4 l4 k4 717131854892629093329172042053689661426642816397448020844407951239049616491589607702456460799758882466071646850065:=by
  refine Eq.mp (congrArg (IsB w4 a4 l4 k4) ?_) h4
  decide +kernel
 have I4:Hid (IsB _ _ _ _ _):=h4
 have K4:Hid (Keep Nope w3 w4):=kk
 clear h4 kk
 go_wp2_with fail
 refine(hexed_any _ _ 48 (by rfl) (by omega) (by decide +kernel)).mono ?_
 rintro e w5 ⟨a5,l5,k5,rfl,h5,kk⟩
 replace h5:IsB w5 a5 l5 k5 4480579927441533893329522230328287337018133311029754539518372936441756157459087304048546502931308754738349656551198:=by
  refine Eq.mp (congrArg (IsB w5 a5 l5 k5) ?_) h5
  decide +kernel
 have I5:Hid (IsB _ _ _ _ _):=h5
 have K5:Hid (Keep Nope w4 w5):=kk
 clear h5 kk
 go_wp2_with fail
 refine(hexed_any _ _ 48 (by rfl) (by omega) (by decide +kernel)).mono ?_
 rintro e w6 ⟨a6,l6,k6,rfl,h6,kk⟩
 replace h6:IsB w6 a6 l6 k6 21354446258743982691371413536748675410974765754620216137225614281636810686961198361153695003859088327367976229294869:=by
  refine Eq.mp (congrArg (IsB w6 a6 l6 k6) ?_) h6
  decide +kernel
 have I6:Hid (IsB _ _ _ _ _):=h6
 have K6:Hid (Keep Nope w5 w6):=kk
 clear h6 kk
 go_wp2_with fail
 refine(hexed_any _ _ 48 (by rfl) (by omega) (by decide +kernel)).mono ?_
 rintro e w7 ⟨a7,l7,k7,rfl,h7,kk⟩
 replace h7:IsB w7 a7 l7 k7 21659270770119316173069236842332604979796116387017648600075645274821611501358515537962695117368903252229601718723941:=by
  refine Eq.mp (congrArg (IsB w7 a7 l7 k7) ?_) h7
  decide +kernel
 have I7:Hid (IsB _ _ _ _ _):=h7
 have K7:Hid (Keep Nope w6 w7):=kk
 clear h7 kk
 have hk:=((((((oo K2).trans (oo K3)).trans (oo K4)).trans (oo K5)).trans (oo K6)).trans (oo K7))
 have hz:=(oo Z1).keep hk id
 have ho:=(oo O1).keep hk id
 have HK:Hid (Keep Nope w1 w7):=hk
 have HZ:Hid (Blk _ _ _ _):=hz
 have HO:Hid (Blk _ _ _ _):=ho
 have d0:=hz.cell 0
 have f0:=hz.frozen 0
 have d1:=hz.cell 1
 have f1:=hz.frozen 1
 have d2:=hz.cell 2
 have f2:=hz.frozen 2
 have d3:=hz.cell 3
 have f3:=hz.frozen 3
 have d4:=hz.cell 4
 have f4:=hz.frozen 4
 have d5:=hz.cell 5
 have f5:=hz.frozen 5
 have d6:=hz.cell 6
 have f6:=hz.frozen 6
 have d7:=hz.cell 7
 have f7:=hz.frozen 7
 have d8:=hz.cell 8
 have f8:=hz.frozen 8
 simp only [Ls5,Ls3,Ls4] at d0 d1 d2 d3 d4 d5 d6 d7 d8
 clear hk hz ho
 go_wp2_with fail
 clear d0 f0 d1 f1 d2 f2 d3 f3 d4 f4 d5 f5 d6 f6 d7 f7 d8 f8
 have hb:=((((((((((oo HZ).set 0 (.slice (some ⟨q1,0,none⟩) 9 9)).set 1 (.slice a2 l2 k2)).set 2 (.slice a3 l3 k3)).set 3 (.slice a4 l4 k4)).set 4 (.slice a5 l5 k5)).set 5 (.slice a6 l6 k6)).set 6 (.bool false)).set 7 (.slice a7 l7 k7)).set 8 (.int .i64 48))
 simp only [Ls2,Ls0,Ls1] at hb
 have hkk:=((((((((((Keep.refl (·=q) w7).setCell (p:=⟨q,0,none⟩) rfl (.slice (some ⟨q1,0,none⟩) 9 9)).setCell (p:=⟨q,1,none⟩) rfl (.slice a2 l2 k2)).setCell (p:=⟨q,2,none⟩) rfl (.slice a3 l3 k3)).setCell (p:=⟨q,3,none⟩) rfl (.slice a4 l4 k4)).setCell (p:=⟨q,4,none⟩) rfl (.slice a5 l5 k5)).setCell (p:=⟨q,5,none⟩) rfl (.slice a6 l6 k6)).setCell (p:=⟨q,6,none⟩) rfl (.bool false)).setCell (p:=⟨q,7,none⟩) rfl (.slice a7 l7 k7)).setCell (p:=⟨q,8,none⟩) rfl (.int .i64 48))
 generalize (((((((((w7.setCell ⟨q,0,none⟩ (.slice (some ⟨q1,0,none⟩) 9 9)).setCell ⟨q,1,none⟩ (.slice a2 l2 k2)).setCell ⟨q,2,none⟩ (.slice a3 l3 k3)).setCell ⟨q,3,none⟩ (.slice a4 l4 k4)).setCell ⟨q,4,none⟩ (.slice a5 l5 k5)).setCell ⟨q,5,none⟩ (.slice a6 l6 k6)).setCell ⟨q,6,none⟩ (.bool false)).setCell ⟨q,7,none⟩ (.slice a7 l7 k7)).setCell ⟨q,8,none⟩ (.int .i64 48))=wz at *
 (try simp only [Exit.inBlock,Exit.then])
 refine bodyPost_ret (results_cell_row rfl _ _ q 33 #[.slice (some ⟨q1,0,none⟩) 9 9,.slice a2 l2 k2,.slice a3 l3 k3,.slice a4 l4 k4,.slice a5 l5 k5,.slice a6 l6 k6,.bool false,.slice a7 l7 k7,.int .i64 48] (0,0) _ rfl hb Tryz.underlying33 rfl (by kernel_rfl)) rfl ?_
 have hs:∃a l k,(#[.slice none 0 0,.slice none 0 0,.slice none 0 0,.slice none 0 0,.slice none 0 0,.slice none 0 0,.bool false,.slice none 0 0,.int .i64 0]:Array Value)[0]?=some (.slice a l k):=⟨none,0,0,rfl⟩
 refine⟨q1,a2,a3,a4,a5,a6,a7,l2,k2,l3,k3,l4,k4,l5,k5,l6,k6,l7,k7,rfl,?_,?_,?_,?_,?_,?_⟩
 ·have h:=(oo HO).keep hkk (fun e=>(oo HN) e.symm)
  refine⟨⟨Nat.le_refl _,by omega⟩,fun i hi=>⟨q1,rfl,?_,?_⟩⟩
  ·rw [h.cell i]
   (rcases i with _ | _ | _ | _ | _ | _ | _ | _ | _ | i)<;>first | rfl | omega
  ·exact(by decide +kernel:∀i,i<9→(#[43,36,3,3,2,8,1,1,11]:Array Nat).getD i 0<256) i hi
 ·exact((oo I2).nope (((((oo K3).trans (oo K4)).trans (oo K5)).trans (oo K6)).trans (oo K7))).past (by decide +kernel) (oo HZ) hs hkk
 ·exact((oo I3).nope ((((oo K4).trans (oo K5)).trans (oo K6)).trans (oo K7))).past (by decide +kernel) (oo HZ) hs hkk
 ·exact((oo I5).nope ((oo K6).trans (oo K7))).past (by decide +kernel) (oo HZ) hs hkk
 ·exact((oo I6).nope (oo K7)).past (by decide +kernel) (oo HZ) hs hkk
 ·exact(((oo K1).trans (oo HK)).fresh hkk (oo HQ))
end Go.Proofs.YtofkehhflkdabaaGreatDoor
