/- A part of the proof of FnCurveOf. -/
import Derived.Test.YtofkehhflkdabaaGreatDoorP14
import Derived.Test.YtofkehhflkdabaaGreatDoorP20
import Derived.Test.YtofkehhflkdabaaGreatDoorP28
import Derived.Test.YtofkehhflkdabaaGreatDoorP29
set_option maxRecDepth 100000
set_option maxHeartbeats 8000000
namespace Go.Proofs.YtofkehhflkdabaaGreatDoor
open Go Go.RowKit
theorem neq_err (w:World) (a:Addr):(binOp .neq 119 (.iface 220 (.pointer (some a))) (.iface 220 (.pointer (some a)))).run Tryz.prog w = .ok (.bool false) w:=by
 obtain⟨ms,h1⟩:=under119
 obtain⟨te,h2,j,h3⟩:=under220
 obtain⟨i,h4,h5⟩:=info220
 simp only [binOp]
 simp [Op.equal,Op.maxDepth,run_equalIn_iface_ptr_same w 9998 a h1 h2 h4 h5 h3]
def Got (w00 w:World) (p N:Nat):Prop:=∃a l k,Two w p (.bool false) (.slice a l k)∧IsNat w a l k N∧(∀b,At a b→w00.heap.size≤b)∧Keep (·=p) w00 w
theorem Got.anew {w00 w w':World} {p N q:Nat} (h:Got w00 w p N) (k:Keep (·=q) w w') (hq:w00.heap.size≤q) (hp:p<w00.heap.size) (hna:∀n c,¬Row w q n c):Got w00 w' p N:=by
 obtain⟨a,l,c,h1,h2,h3,h4⟩:=h
 refine⟨a,l,c,h1.keep k (by omega),h2.keep k (fun b e e'=>?_),h3,⟨k.os.trans h4.os,k.tape.trans h4.tape,k.output.trans h4.output,Nat.le_trans h4.size k.size,fun i h5 h6=>(k.block i (Nat.lt_of_lt_of_le h5 h4.size) (by omega)).trans (h4.block i h5 h6)⟩⟩
 subst e'
 rcases h2 with⟨h,_⟩ | ⟨b',c',h,_,_,h7,_⟩
 ·rw [h] at e;cases e
 ·rw [h] at e;cases e
  exact hna _ _ h7
theorem Rdr.noRow {w:World} {q i n:Nat} {s:ByteArray} {c:Nat→Nat} (h:Rdr w q s i):¬Row w q n c:=by
 intro hr
 obtain⟨pr,T,h⟩:=h
 obtain⟨T',h'⟩:=hr.blk
 rw [h] at h'
 simp only [Option.some.injEq,Obj.cells.injEq] at h'
 have e1:=congrArg Array.size h'.1
 simp only [Array.size_ofFn] at e1
 have e2:=congrArg (fun a=>a[0]?) h'.1
 simp only [Ls5,Ls4] at e2
 rw [Array.getElem?_ofFn] at e2
 split at e2<;>cases e2
theorem Keep.anew {w00 w w':World} {b:Nat} (h:Keep Nope w00 w) (k:Keep (·=b) w w') (hb:w00.heap.size≤b):Keep Nope w00 w':=
 ⟨k.os.trans h.os,k.tape.trans h.tape,k.output.trans h.output,Nat.le_trans h.size k.size,fun i h1 h2=>(k.block i (Nat.lt_of_lt_of_le h1 h.size) (by omega)).trans (h.block i h1 h2)⟩
theorem intScan_any (w00 w:World) (hk0:Keep Nope w00 w) (p q:Nat) (bE:Addr) (n:Nat) (s:ByteArray) (ht:Two w00 p (.bool false) (.slice none 0 0)) (h:Rdr w q s 0) (hq:w00.heap.size≤q) (hE:w00.cell? ⟨0,0,none⟩=some (.iface 220 (.pointer (some bE)))) (hn0:0<n) (hn:n<100) (hs:s.size=16*n) (hok:∀i,i<s.size→hexUok (byteAt s i)) :
  Calls Tryz.prog 64 #[pt p,.iface 109 (.pointer (some ⟨q,0,none⟩)),.int .i64 16] w fun e w'=>e = .returned (.tuple #[pt p,.int .i64 16,.nilIface])∧Got w00 w' p (hexQ s 0 (16*n))∧Rdr w' q s (16*n):=by
 have hp:=ht.inHeap
 have h0:=hok 0 (by omega)
 have HOK:Hid (∀i,i<s.size→hexUok (byteAt s i)):=hok
 clear hok
 go_enter Tryz.func64,Tryz.ntmps64
 go_wp2_with fail
 refine(scanSign_any _ q s h (by omega) (by omega) (by unfold hexUok at h0;omega) (by unfold hexUok at h0;omega)).mono ?_
 rintro e w1 ⟨rfl,hr1,hk1⟩
 have hk01:=hk0.anew hk1 hq
 have ht1:=ht.keep hk01 id
 have d1:=ht1.cell1
 go_wp2_with fail
 refine(scan_any w00 w1 hk01 q bE n s hr1 hq hE hn0 hn hs HOK.out).mono ?_
 rintro e w2 ⟨a,l,k,m,rfl,hn2,hf2,hk2,hr2⟩
 have ht2:=ht.keep hk2 id
 have f1:=ht2.cell1
 have ff1:=ht2.frozen 1
 have ht3:=ht2.set1 (.slice a l k)
 have g1:=ht3.cell1
 have g0:=ht3.cell0
 have gg0:=ht3.frozen 0
 have ht4:=ht3.set0 (.bool false)
 have hkk:Keep (·=p) w2 ((w2.setCell ⟨p,1,none⟩ (.slice a l k)).setCell ⟨p,0,none⟩ (.bool false)):=((Keep.refl (·=p) w2).setCell (p:=⟨p,1,none⟩) rfl _).setCell (p:=⟨p,0,none⟩) rfl _
 have hn4:=hn2.keep hkk (fun b e e'=>by have:=hf2 b e;omega)
 have hr4:=hr2.keep hkk (by omega)
 have HN4:Hid (IsNat _ a l k (hexQ s 0 (16*n))):=hn4
 have HR4:Hid (Rdr _ q s (16*n)):=hr4
 have HKK:Hid _:=hkk
 have HT4:Hid (Two _ p (.bool false) (.slice a l k)):=ht4
 clear hn4 hr4 hkk ht4 hn2 hr2
 by_cases hl:0<l
 ·have t0:(0:Int)<(l:Int):=by omega
  go_wp2_with fail
  go_ret3
  exact⟨rfl,⟨a,_,k,oo HT4,oo HN4,hf2,(hk2.mono fun _ _ h=>h.elim).trans (oo HKK)⟩,oo HR4⟩
 ·obtain rfl:l=0:=by omega
  go_wp2_with fail
  go_ret3
  exact⟨rfl,⟨a,_,k,oo HT4,oo HN4,hf2,(hk2.mono fun _ _ h=>h.elim).trans (oo HKK)⟩,oo HR4⟩
theorem setFrom_any (w00 w:World) (hk0:Keep Nope w00 w) (p q:Nat) (bE:Addr) (n:Nat) (s:ByteArray) (ht:Two w00 p (.bool false) (.slice none 0 0)) (h:Rdr w q s 0) (hq:w00.heap.size≤q) (hE:w00.cell? ⟨0,0,none⟩=some (.iface 220 (.pointer (some bE)))) (hn0:0<n) (hn:n<100) (hs:s.size=16*n) (hok:∀i,i<s.size→hexUok (byteAt s i)) :
  Calls Tryz.prog 59 #[pt p,.iface 109 (.pointer (some ⟨q,0,none⟩)),.int .i64 16] w fun e w'=>e = .returned (.tuple #[pt p,.bool true])∧Got w00 w' p (hexQ s 0 (16*n)):=by
 have hp:=ht.inHeap
 have h00:0<w00.heap.size:=World.block_lt_of_cell? w00 _ hE
 have HQ0:Hid (q≠0∧s.size≤16*n∧16*n<100000):=⟨by omega,by omega,by omega⟩
 have hp0:p≠0:=by
  rintro rfl
  have h1:=ht.cell0
  rw [hE] at h1
  cases h1
 have HOK:Hid (∀i,i<s.size→hexUok (byteAt s i)):=hok
 clear hok
 go_enter Tryz.func59,Tryz.ntmps59
 go_wp2_with fail
 refine(intScan_any w00 w hk0 p q bE n s ht h hq hE hn0 hn hs HOK.out).mono ?_
 rintro e w1 ⟨rfl,hg,hr1⟩
 have HG:Hid (Got w00 w1 p (hexQ s 0 (16*n))):=hg
 have hE1:w1.cell? ⟨0,0,none⟩=some (.iface 220 (.pointer (some bE))):=by
  obtain⟨_,_,_,_,_,_,h4⟩:=hg
  exact h4.cell hE (fun e=>hp0 e.symm)
 clear hg
 go_wp2_with fail
 refine(readByte_end _ q (16*n) s _ hr1 HQ0.out.2.1 HQ0.out.2.2 hE1 HQ0.out.1).mono ?_
 rintro e w2 ⟨rfl,hr2,hk2⟩
 have hE2:=hk2.cell hE1 (fun e=>HQ0.out.1 e.symm)
 have heq:=neq_err w2 bE
 have HG2:Hid (Got w00 w2 p (hexQ s 0 (16*n))):=Got.anew (oo HG) hk2 hq hp (fun n c=>hr1.noRow)
 clear hr2 hk2 hr1 hE1
 go_wp2_with fail
 go_ret2
 exact⟨rfl,oo HG2⟩
theorem setString_any (w:World) (p:Nat) (bE:Addr) (n:Nat) (s:ByteArray) (ht:Two w p (.bool false) (.slice none 0 0)) (hE:w.cell? ⟨0,0,none⟩=some (.iface 220 (.pointer (some bE)))) (hn0:0<n) (hn:n<100) (hs:s.size=16*n) (hok:∀i,i<s.size→hexUok (byteAt s i)) :
  Calls Tryz.prog 54 #[pt p,.string s,.int .i64 16] w fun e w'=>e = .returned (.tuple #[pt p,.bool true])∧Got w w' p (hexQ s 0 (16*n)):=by
 have HOK:Hid (∀i,i<s.size→hexUok (byteAt s i)):=hok
 clear hok
 go_enter Tryz.func54,Tryz.ntmps54
 go_wp2_with fail
 refine(newReader_any w s).mono ?_
 rintro e w1 ⟨q,rfl,hq,hr1,hk1⟩
 go_wp2_with fail
 refine(setFrom_any w w1 hk1 p q bE n s ht hr1 hq hE hn0 hn hs HOK.out).mono ?_
 rintro e w2 ⟨rfl,hg⟩
 have HG:Hid (Got w w2 p (hexQ s 0 (16*n))):=hg
 clear hg
 go_wp2_with fail
 go_ret2
 exact⟨rfl,oo HG⟩
instance (x:Nat):Decidable (hexUok x):=by unfold hexUok;exact inferInstance
theorem St.nil {F:Nat→Prop} {w:World} (h:Base F w):St F w []:=⟨h,[],rfl,fun c hc=>by simp at hc,fun i j ci cj hi=>by simp at hi⟩
theorem St.wide {F F':Nat→Prop} {w w':World} {L:List (Nat×E)} (h:St F w L) (k:Keep Nope w w') (h1:∀b,F b→F' b) (h2:∀b,F' b→F b∨(w.heap.size≤b∧b<w'.heap.size)):St F' w' L:=by
 obtain⟨hb,C,e,hg,hd⟩:=h
 have hb':=hb.keep (k.mono fun _ _ h=>h.elim)
 refine⟨⟨fun b h=>?_,h1 _ hb.three,h1 _ hb.four,h1 _ hb.five,h1 _ hb.six,hb'.c3,hb'.c4,hb'.c5,hb'.c6⟩,C,e,fun c hc=>?_,hd⟩
 ·rcases h2 b h with h | h
  ·exact hb'.lt b h
  ·exact h.2
 ·have g:=(hg c hc).keep k (fun _ _=>id)
  refine⟨g.two,g.nat,fun b hb h=>?_⟩
  rcases h2 b h with h | h
  ·exact g.out b hb h
  ·have:=(hg c hc).has b hb
   omega
theorem Keep.freshN {w w1 w2:World} {S:Nat→Prop} (h:Keep Nope w w1) (k:Keep S w1 w2) (hS:∀b,S b→w.heap.size≤b):Keep Nope w w2:=
 ⟨k.os.trans h.os,k.tape.trans h.tape,k.output.trans h.output,Nat.le_trans h.size k.size,fun i h1 h2=>(k.block i (Nat.lt_of_lt_of_le h1 h.size) (fun e=>by have:=hS _ e;omega)).trans (h.block i h1 h2)⟩
theorem Got.keep {w w':World} {N:Nat} (hg:Got (w.alloc iz) w' w.heap.size N):Keep Nope w w':=by
 obtain⟨a,l,k,-,-,-,hk⟩:=hg
 exact((Keep.refl Nope w).alloc _).freshN hk (fun b h=>by omega)
theorem St.got {F:Nat→Prop} {w w':World} {L:List (Nat×E)} {N:Nat} (h:St F w L) (hg:Got (w.alloc iz) w' w.heap.size N):St F w' ((w.heap.size,ofI (N:Int))::L):=by
 have hk:=hg.keep
 obtain⟨a,l,k,h1,h2,h3,-⟩:=hg
 refine h.new hk (Nat.le_refl _) (fun b hb=>?_) (a:=a) (l:=l) (k:=k) ?_ h2
 ·have:=h3 b hb
  simp only [World.alloc,Array.size_push] at this
  omega
 ·have e:decide ((N:Int)<0)=false:=decide_eq_false (by omega)
  simp only [ofI,e]
  exact h1
theorem Base.cellP {F:Nat→Prop} {w:World} {b:Nat} {cs:Array Value} {T:TypeId} (h:Base F w) (hb:Blk w b cs T) (h0:∀x,cs[0]?≠some (.int .i64 x)) (w':World) (k:Keep (·=b) w w'):Base F w':=by
 have hn:∀(g:Nat) (x:Int),w.cell? ⟨g,0,none⟩=some (.int .i64 x)→¬g=b:=by
  rintro g x hg rfl
  rw [hb.cell 0] at hg
  exact h0 _ hg
 exact⟨fun b hb=>Nat.lt_of_lt_of_le (h.lt b hb) k.size,h.three,h.four,h.five,h.six,k.cell h.c3 (hn _ _ h.c3),k.cell h.c4 (hn _ _ h.c4),k.cell h.c5 (hn _ _ h.c5),k.cell h.c6 (hn _ _ h.c6)⟩
structure Mk (F:Nat→Prop) (w0:World) (q:Nat) (cs:Array Value) (T:TypeId) (L:List (Nat×E)) (w:World):Prop where
 st:St F w L
 blk:Blk w q cs T
 keep:Keep Nope w0 w
 new:w0.heap.size≤q
 fq:F q
 head:∀x,cs[0]?≠some (.int .i64 x)
theorem Mk.got {F:Nat→Prop} {w0 w w':World} {q N:Nat} {cs:Array Value} {T:TypeId} {L:List (Nat×E)} (h:Mk F w0 q cs T L w) (hg:Got (w.alloc iz) w' w.heap.size N):Mk F w0 q cs T ((w.heap.size,ofI (N:Int))::L) w':=
 ⟨h.st.got hg,h.blk.keep hg.keep id,h.keep.trans hg.keep,h.new,h.fq,h.head⟩
theorem Mk.set {F:Nat→Prop} {w0 w:World} {q:Nat} {cs:Array Value} {T:TypeId} {L:List (Nat×E)} (h:Mk F w0 q cs T L w) (i:Nat) (v:Value) (hh:∀x,(cs.setIfInBounds i v)[0]?≠some (.int .i64 x)):Mk F w0 q (cs.setIfInBounds i v) T L (w.setCell ⟨q,i,none⟩ v):=by
 have k:Keep (·=q) w (w.setCell ⟨q,i,none⟩ v):=(Keep.refl (·=q) w).setCell (p:=⟨q,i,none⟩) rfl v
 exact⟨h.st.keepF (h.st.base.cellP h.blk h.head _ k) (k.mono fun _ _ e=>e▸h.fq),h.blk.set i v,h.keep.freshN k (fun b e=>e▸h.new),h.new,h.fq,hh⟩
theorem Mk.start {F:Nat→Prop} {w:World} {L:List (Nat×E)} (h:St F w L) (cs:Array Value) (T:TypeId) (hh:∀x,cs[0]?≠some (.int .i64 x)):Mk (fun b=>F b∨b=w.heap.size) w w.heap.size cs T L (w.alloc (.cells cs T (0,0))) where
 st:=h.wide ((Keep.refl _ _).alloc _) (fun _ h=>.inl h) (fun b h=>by
  rcases h with h | h
  ·exact .inl h
  ·refine .inr ⟨by omega,?_⟩
   simp only [World.alloc,Array.size_push];omega)
 blk:=Blk.new w cs T
 keep:=(Keep.refl _ _).alloc _
 new:=Nat.le_refl _
 fq:=.inr rfl
 head:=hh
theorem Mk.inHeap {F:Nat→Prop} {w0 w:World} {q:Nat} {cs:Array Value} {T:TypeId} {L:List (Nat×E)} (h:Mk F w0 q cs T L w):q<w.heap.size:=h.blk.inHeap
theorem exp_any (w:World) (p q r pm:Nat) (ax ay am:Option Addr) (lx kx ky lm km X n M:Nat) (tz:Two w p (.bool false) (.slice none 0 0)) (tx:Two w q (.bool false) (.slice ax lx kx)) (ty:Two w r (.bool false) (.slice ay 1 ky)) (tm:Two w pm (.bool false) (.slice am lm km)) (hpm:p≠pm)
  (hx:IsNat w ax lx kx X) (hlx:1<lx) (hlx2:lx<12) (hy:IsNat w ay 1 ky n) (hn:n=2∨n=3) (hm:IsNat w am lm km M) (hlm:1<lm) (hlm2:lm<12) (hM:0<M)
  (hg3:w.cell? ⟨3,0,none⟩=some (.int .i64 12)) (hg4:w.cell? ⟨4,0,none⟩=some (.int .i64 80)) (hg5:w.cell? ⟨5,0,none⟩=some (.int .i64 40)) (hg6:w.cell? ⟨6,0,none⟩=some (.int .i64 40)) :
  Calls Tryz.prog 72 #[pt p,pt q,pt r,pt pm,.bool false] w fun e w'=>e = .returned (pt p)∧Got w w' p (X^n%M):=by
 have HP:∀w':World,Keep Nope w w'→Calls Tryz.prog 86 #[.slice none 0 0,.pointer none,.slice ax lx kx,.slice ay 1 ky,.slice am lm km,.bool false] w' fun e w2=>∃a l k,e = .returned (.slice a l k)∧IsNat w2 a l k (X^n%M)∧(∀b,At a b→w'.heap.size≤b)∧Keep Nope w' w2:=by
  intro w' kk
  rcases hn with rfl | rfl
  ·exact exp2_any w' ax ay am lx kx ky lm km X M (hx.keep kk (fun _ _=>id)) hlx hlx2 (hy.keep kk (fun _ _=>id)) (hm.keep kk (fun _ _=>id)) hlm hlm2 hM (kk.cell hg3 id) (kk.cell hg4 id) (kk.cell hg5 id) (kk.cell hg6 id)
  ·exact exp3_any w' ax ay am lx kx ky lm km X M (hx.keep kk (fun _ _=>id)) hlx hlx2 (hy.keep kk (fun _ _=>id)) (hm.keep kk (fun _ _=>id)) hlm hlm2 hM (kk.cell hg3 id) (kk.cell hg4 id) (kk.cell hg5 id) (kk.cell hg6 id)
 have HPP:Hid _:=HP
 have hA:=alias_any w.drew none am 0 0 lm km (.inl ⟨rfl,rfl,rfl⟩) (hm.keep ((Keep.refl Nope w).drew) (fun _ _=>id)).buf
 have HA:Hid _:=hA
 have s1:sameA none am=false:=by cases am<;>rfl
 have hne:=eql_int_other w.drew (tz.keep ((Keep.refl Nope w).drew) id) (tm.keep ((Keep.refl Nope w).drew) id) hpm
 have z0:=tz.cell0
 have z1:=tz.cell1
 have x0:=tx.cell0
 have x1:=tx.cell1
 have y0:=ty.cell0
 have y1:=ty.cell1
 have m1:=tm.cell1
 clear HP hA hx hy hm hg3 hg4 hg5 hg6 hM hn
 go_enter Tryz.func72,Tryz.ntmps72
 go_upto_region 12 with fail
 refine RS (fun w'=>Two w' p (.bool false) (.slice none 0 0)∧Two w' pm (.bool false) (.slice am lm km)) [2,7,11] ?_
 have HS:(fun w':World=>Two w' p (.bool false) (.slice none 0 0)∧Two w' pm (.bool false) (.slice am lm km)) w.drew:=⟨tz.keep ((Keep.refl Nope w).drew) id,tm.keep ((Keep.refl Nope w).drew) id⟩
 refine AP 0 ?_
 refine AP 1 ?_
 refine AL 2 HS ?_ (hy:=fun w2 hw2=>by have he:=eql_int_other w2 hw2.1 hw2.2 hpm;go_simp;all_goals (with_reducible rfl))
 refine AP 3 ?_
 refine AP 4 ?_
 refine AP 5 ?_
 refine AP 6 ?_
 refine AL 7 HS ?_ (hy:=fun w2 hw2=>by have y1:=hw2.1.cell1;have y2:=hw2.2.cell1;go_simp;all_goals (with_reducible rfl))
 refine AP 8 ?_
 refine AP 9 ?_
 refine AP 10 ?_
 refine AL 11 HS ?_ (hy:=fun w2 hw2=>by have y1:=hw2.1.cell1;have y2:=hw2.2.cell1;go_simp;all_goals (with_reducible rfl))
 refine RO 12 (fun K hK=>?_)
 go_simp
 refine Calls.mono (oo HA) ?_
 rintro e w2 ⟨rfl,hk⟩
 rw [s1]
 have K2:Hid _:=hk
 refine hK.out _ _ (.inr ⟨HS.1.keep hk id,HS.2.keep hk id⟩) ?_
 clear hK K
 refine AP 13 ?_
 try simp only [Ls0,Ls1,List.getElem_toArray,List.getElem_cons_succ,List.getElem_cons_zero]
 refine AnyL_done (by kernel_rfl) ?_
 clear hk
 have kw:Keep Nope w w2:=(oo K2).undrew
 have x0':=kw.cell x0 id
 have y1':=kw.cell y1 id
 have z1':=kw.cell z1 id
 have m1':=kw.cell m1 id
 have y0':=kw.cell y0 id
 have KW:Hid _:=kw
 have TZ:Hid (Two w2 p (.bool false) (.slice none 0 0)):=tz.keep kw id
 clear K2 z0 z1 x0 x1 y0 y1 m1 hne HS kw
 go_wp2_with fail
 refine Calls.mono ((oo HPP) w2 (oo KW)) ?_
 rintro e w3 ⟨a,l,k,rfl,hn3,hf3,hk3⟩
 have tz3:=(oo TZ).keep hk3 id
 have zz1:=tz3.cell1
 have zf1:=tz3.frozen 1
 have x3:=hk3.cell x0' id
 have g1:=tz3.set1 (.slice a l k)
 have gg1:=g1.cell1
 have gg0:=g1.cell0
 have gf0:=g1.frozen 0
 have k4:Keep (·=p) w3 ((w3.setCell ⟨p,1,none⟩ (.slice a l k)).setCell ⟨p,0,none⟩ (.bool false)):=((Keep.refl (·=p) w3).setCell (p:=⟨p,1,none⟩) rfl _).setCell (p:=⟨p,0,none⟩) rfl _
 have g4:=g1.set0 (.bool false)
 have hh0:=g4.cell0
 have hx4:q=p∨(w3.setCell ⟨p,1,none⟩ (.slice a l k)).cell? ⟨q,0,none⟩=some (.bool false):=by
  by_cases e:q=p
  ·exact .inl e
  ·exact .inr (((Keep.refl (·=p) w3).setCell (p:=⟨p,1,none⟩) rfl (.slice a l k)).cell x3 e)
 have hx5:(w3.setCell ⟨p,1,none⟩ (.slice a l k)).cell? ⟨q,0,none⟩=some (.bool false):=by
  rcases hx4 with e | e
  ·subst e;exact gg0
  ·exact e
 have hn4:=hn3.keep k4 (fun b e e'=>by have:=hf3 b e;have:=tz.inHeap;have:=(oo KW).size;omega)
 have HN4:Hid (IsNat _ a l k (X^n%M)):=hn4
 have HG4:Hid (Two _ p (.bool false) (.slice a l k)):=g4
 have HF3:Hid _:=hf3
 have HK3:Hid _:=hk3
 have HK4:Hid _:=k4
 clear hn3 hf3 hk3 tz3 g1 k4 g4 hn4 hx4
 have fin:Got w ((w3.setCell ⟨p,1,none⟩ (.slice a l k)).setCell ⟨p,0,none⟩ (.bool false)) p (X^n%M):=
  ⟨a,l,k,oo HG4,oo HN4,fun b hb=>Nat.le_trans (oo KW).size ((oo HF3) b hb),(((oo KW).trans (oo HK3)).mono fun _ _ h=>h.elim).trans (oo HK4)⟩
 have FIN:Hid _:=fin
 clear fin HG4 HN4 HF3 HK3 HK4 KW TZ
 by_cases hl:0<l
 ·have t0:(0:Int)<(l:Int):=by omega
  go_wp2_with fail
  go_ret
  exact⟨rfl,oo FIN⟩
 ·obtain rfl:l=0:=by omega
  go_wp2_with fail
  go_ret
  exact⟨rfl,oo FIN⟩
theorem expE_any (w:World) (v1 v2 v3 v4:Value) (p:Nat) {G:World→Prop} (h:Calls Tryz.prog 72 #[v1,v2,v3,v4,.bool false] w fun e w'=>e = .returned (pt p)∧G w') :
  Calls Tryz.prog 62 #[v1,v2,v3,v4] w fun e w'=>e = .returned (pt p)∧G w':=by
 have H:Hid _:=h
 clear h
 go_enter Tryz.func62,Tryz.ntmps62
 go_wp2_with fail
 refine Calls.mono (oo H) ?_
 rintro e w1 ⟨rfl,hg⟩
 have HG:Hid _:=hg
 clear hg
 go_wp2_with fail
 go_ret
 exact⟨rfl,oo HG⟩
section
variable {P:Program} {md:Region.Mode} {ops:Array Oper} {Q:Exit→Act→World→Prop} {S:World→Prop}
def zerosOf (s:Nat):Nat:=((List.range 4).filter fun k=>!s.testBit k).length
theorem zerosOf_set:∀s,s<16→∀k,k<4→s.testBit k=false→s+2^k<16∧zerosOf (s+2^k)+1=zerosOf s:=by decide +kernel
theorem testBit_set:∀s,s<16→∀k,k<4→s.testBit k=false→∀i,i<4→(s+2^k).testBit i=(i==k||s.testBit i):=by decide +kernel
theorem zerosOf_none:∀s,s<16→zerosOf s=0→s=15:=by decide +kernel
theorem chain_alloc {ls:List Nat} {f:Nat} (call al:Nat→Nat) (en:Nat→Nat→Bool) (L:Nat→Nat→Array Bool) (J:Nat→Nat→Act→World→Prop)
  (ok:Nat→Nat→Bool) (hok:∀c s a v,J c s a v→ok c s=true)
  (hr:∀c,c<9→∀s,s<16→(!ok c s||c==8&&s==15||(!(Region.ready md ops (L c s)).isEmpty&&(Region.ready md ops (L c s)).all fun i=>decide (c<8)&&i==call c&&en c s||(List.range 4).any fun k=>!s.testBit k&&i==al k))=true)
  (lC:∀c,c<8→∀s,s<16→(L c s).setIfInBounds (call c) true=L (c+1) s)
  (lA:∀c,c<9→∀s,s<16→∀k,k<4→s.testBit k=false→(L c s).setIfInBounds (al k) true=L c (s+2^k))
  (sC:∀c s a v,c<8→s<16→en c s=true→J c s a v→wpOp P ops Q (call c) (fun a' v'=>S v'∧J (c+1) s a' v') a v)
  (sA:∀c s k a v,c<9→s<16→k<4→s.testBit k=false→J c s a v→wpOp P ops Q (al k) (fun a' v'=>S v'∧J c (s+2^k) a' v') a v)
  (fin:∀a v,J 8 15 a v→AnyL P md ops Q S ls f (L 8 15) a v) :
  ∀n c s a v,c<9→s<16→(8-c)+zerosOf s=n→J c s a v→AnyL P md ops Q S ls (f+n) (L c s) a v:=by
 intro n
 induction n with
 | zero=>
  intro c s a v hc hs h0 h
  obtain rfl:c=8:=by omega
  obtain rfl:s=15:=zerosOf_none s hs (by omega)
  exact fin a v h
 | succ n ih=>
  intro c s a v hc hs h0 h
  have h1:=hr c hc s hs
  rw [hok c s a v h,Bool.not_true,Bool.false_or,Bool.or_eq_true] at h1
  rcases h1 with h1 | h1
  ·simp only [Bool.and_eq_true,beq_iff_eq] at h1
   obtain⟨rfl,rfl⟩:=h1
   have:zerosOf 15=0:=by decide +kernel
   omega
  simp only [Bool.and_eq_true,Bool.not_eq_true',List.all_eq_true,Bool.or_eq_true,decide_eq_true_eq,beq_iff_eq,List.any_eq_true,List.mem_range] at h1
  refine⟨fun he=>by rw [he] at h1;simp at h1,fun i hi=>?_⟩
  rcases h1.2 i hi with⟨⟨h2,rfl⟩,h3⟩ | ⟨k,hk,hb,rfl⟩
  ·refine wpOp_mono (fun a' v' h'=>⟨.inr (.inr h'.1),?_⟩) (sC c s a v h2 hs h3 h)
   rw [lC c h2 s hs]
   exact ih (c+1) s a' v' (by omega) hs (by omega) h'.2
  ·obtain⟨z1,z2⟩:=zerosOf_set s hs k hk hb
   refine wpOp_mono (fun a' v' h'=>⟨.inr (.inr h'.1),?_⟩) (sA c s k a v hc hs hk hb h)
   rw [lA c hc s hs k hk hb]
   exact ih c (s+2^k) a' v' hc z1 (by omega) h'.2
end
theorem St.gotI {F:Nat→Prop} {w w':World} {L:List (Nat×E)} {p N:Nat} {v:E} (h:St F w L) (hm:(p,v)∈L) (hz:Two w p (.bool false) (.slice none 0 0)) (hg:Got w w' p N) :
  ∃L',St F w' L'∧(p,ofI (N:Int))∈L'∧∀x∈L,x.1≠p→x∈L':=by
 obtain⟨i,hi⟩:=List.mem_iff_getElem?.1 hm
 obtain⟨a,l,k,hgd,-,hput⟩:=h.put hi
 obtain⟨a',l',k',h1,h2,h3,h4⟩:=hg
 have ha:a=none:=by
  have e1:=hgd.two.cell1
  rw [hz.cell1] at e1
  simp only [Option.some.injEq,Value.slice.injEq] at e1
  exact e1.1.symm
 subst ha
 have e:decide ((N:Int)<0)=false:=decide_eq_false (by omega)
 have h5:=hput w' (ofI (N:Int)) a' l' k' (h4.mono fun b _ e=>.inl e) (by simp only [ofI,e];exact h1) (by exact h2) (by
  cases a' with
  | none=>exact .inl rfl
  | some x=>
   rcases h2 with⟨hx,_⟩ | ⟨b',c,hx,_⟩
   ·cases hx
   ·cases hx
    exact .inr ⟨b',rfl,h3 b' rfl⟩)
 refine⟨L.set i (p,ofI (N:Int)),h5.1,?_,fun x hx hne=>?_⟩
 ·exact List.mem_of_getElem? (i:=i) (by rw [List.getElem?_set_self (List.getElem?_eq_some_iff.1 hi).1])
 ·obtain⟨j,hj⟩:=List.mem_iff_getElem?.1 hx
  refine List.mem_of_getElem? (i:=j) ?_
  rw [List.getElem?_set_ne (fun e=>hne ?_)]
  ·exact hj
  ·subst e
   rw [hi] at hj
   cases hj
   rfl
def exOf (j:Nat):Nat:=if j%2=0 then 2 else 3
def upf (f:Nat→Value) (j:Nat) (x:Value):Nat→Value:=fun i=>if i=j then x else f i
structure Nj (F:Nat→Prop) (w1:World) (L0:List (Nat×E)) (Z:Nat→Nat) (c s:Nat) (P R O:Nat→Value) (v:World):Prop where
 keep:Keep Nope w1 v
 st:∃L,St F v L∧(∀x∈L0,x∈L)∧∀i,i<4→s.testBit i=true→∃q,P i=pt q∧w1.heap.size≤q∧(2*i+2≤c→(q,ofI (Z i:Int))∈L)∧(c<2*i+2→(q,ofI 0)∈L∧Two v q (.bool false) (.slice none 0 0))
 ne:∀i j,i<4→j<4→s.testBit i=true→s.testBit j=true→i≠j→P i≠P j
 new:∀j,c=2*j+1→∃r a k,R j=pt r∧Two v r (.bool false) (.slice a 1 k)∧IsNat v a 1 k (exOf j)
 out:∀j,j<4→2*j+2≤c→O j=P j
 ord:∀j,j<4→s.testBit j=false→c≤2*j+1
theorem pt_inj {a b:Nat} (h:pt a=pt b):a=b:=by simpa [pt] using h
theorem Nj.num {F:Nat→Prop} {w1:World} {L0:List (Nat×E)} {Z:Nat→Nat} {s:Nat} {P R O:Nat→Value} {v v':World} {j r:Nat} {a:Option Addr} {k:Nat} (h:Nj F w1 L0 Z (2*j) s P R O v) (hk:Keep Nope v v') (hT:Two v' r (.bool false) (.slice a 1 k)) (hN:IsNat v' a 1 k (exOf j)) :
  Nj F w1 L0 Z (2*j+1) s P (upf R j (pt r)) O v' where
 keep:=h.keep.trans hk
 st:=by
  obtain⟨L,h1,h2,h3⟩:=h.st
  refine⟨L,h1.keep hk,h2,fun i hi hb=>?_⟩
  obtain⟨q,e,hq,h4,h5⟩:=h3 i hi hb
  exact⟨q,e,hq,fun hc=>h4 (by omega),fun hc=>⟨(h5 (by omega)).1,(h5 (by omega)).2.keep hk id⟩⟩
 ne:=h.ne
 new:=fun i hi=>by
  obtain rfl:i=j:=by omega
  exact⟨r,a,k,by simp [upf],hT,hN⟩
 out:=fun i hi hc=>h.out i hi (by omega)
 ord:=fun i hi hb=>by have:=h.ord i hi hb;omega
theorem Nj.exp {F:Nat→Prop} {w1:World} {L0:List (Nat×E)} {Z:Nat→Nat} {s:Nat} {P R O:Nat→Value} {v v':World} {j q:Nat} (h:Nj F w1 L0 Z (2*j+1) s P R O v) (hj:j<4) (hb:s.testBit j=true) (hq:P j=pt q) (hL:∀x∈L0,x.1<w1.heap.size) (hg:Got v v' q (Z j)) :
  Nj F w1 L0 Z (2*j+1+1) s P R (upf O j (pt q)) v':=by
 obtain⟨L,h1,h2,h3⟩:=h.st
 obtain⟨q',e,hq1,-,h5⟩:=h3 j hj hb
 obtain rfl:q'=q:=pt_inj (e.symm.trans hq)
 obtain⟨h6,h7⟩:=h5 (by omega)
 obtain⟨L',g1,g2,g3⟩:=h1.gotI h6 h7 hg
 have hk:Keep (·=q') v v':=by
  obtain⟨_,_,_,_,_,_,hk⟩:=hg
  exact hk
 refine⟨h.keep.freshN hk (fun b e=>e▸hq1),⟨L',g1,fun x hx=>g3 x (h2 x hx) (by have:=hL x hx;omega),fun i hi hb'=>?_⟩,h.ne,fun i hi=>by omega,fun i hi hc=>?_,fun i hi hb'=>?_⟩
 ·obtain⟨qi,ei,hqi,h4,h5⟩:=h3 i hi hb'
  by_cases hij:i=j
  ·subst hij
   obtain rfl:qi=q':=pt_inj (ei.symm.trans hq)
   exact⟨qi,ei,hqi,fun _=>g2,fun hc=>by omega⟩
  ·have hne:qi≠q':=fun e=>h.ne i j hi hj hb' hb hij (by rw [ei,hq,e])
   exact⟨qi,ei,hqi,fun hc=>g3 _ (h4 (by omega)) hne,fun hc=>⟨g3 _ (h5 (by omega)).1 hne,(h5 (by omega)).2.keep hk hne⟩⟩
 ·by_cases hij:i=j
  ·subst hij;simp [upf,hq]
  ·simp only [upf,if_neg hij]
   exact h.out i hi (by omega)
 ·have:=h.ord i hi hb'
  rcases Nat.lt_or_ge j i with h' | h'
  ·omega
  ·obtain rfl:i=j:=by omega
   rw [hb] at hb';cases hb'
theorem Nj.alloc {F:Nat→Prop} {w1:World} {L0:List (Nat×E)} {Z:Nat→Nat} {c s k:Nat} {P R O:Nat→Value} {v:World} (h:Nj F w1 L0 Z c s P R O v) (hs:s<16) (hk:k<4) (hb:s.testBit k=false) :
  Nj F w1 L0 Z c (s+2^k) (upf P k (pt v.heap.size)) R O (v.alloc iz):=by
 have kk:Keep Nope v (v.alloc iz):=(Keep.refl Nope v).alloc _
 have hbit:=testBit_set s hs k hk hb
 have hord:=h.ord k hk hb
 obtain⟨L,h1,h2,h3⟩:=h.st
 have hlt:∀i,i<4→s.testBit i=true→∃q,P i=pt q∧q<v.heap.size:=fun i hi hb'=>by
  obtain⟨q,e,_,h4,h5⟩:=h3 i hi hb'
  rcases Nat.lt_or_ge c (2*i+2) with hc | hc
  ·exact⟨q,e,(h5 hc).2.inHeap⟩
  ·exact⟨q,e,h1.in (h4 hc)⟩
 refine⟨h.keep.trans kk,⟨(v.heap.size,ofI 0)::L,h1.alloc 85,fun x hx=>.tail _ (h2 x hx),fun i hi hb'=>?_⟩,fun i j hi hj hbi hbj hij=>?_,fun j hj=>?_,fun j hj hc=>?_,fun j hj hb'=>?_⟩
 ·by_cases hik:i=k
  ·subst hik
   exact⟨v.heap.size,by simp [upf],h.keep.size,fun hc=>by omega,fun _=>⟨.head _,Two.new v _ _ 85⟩⟩
  ·rw [hbit i hi] at hb'
   have hb2:s.testBit i=true:=by simpa [hik] using hb'
   obtain⟨q,e,hq,h4,h5⟩:=h3 i hi hb2
   exact⟨q,by simp [upf,hik,e],hq,fun hc=>.tail _ (h4 hc),fun hc=>⟨.tail _ (h5 hc).1,(h5 hc).2.keep kk id⟩⟩
 ·rw [hbit i hi] at hbi
  rw [hbit j hj] at hbj
  by_cases hik:i=k
  ·subst hik
   have hji:j≠i:=fun e=>hij e.symm
   have hb2:s.testBit j=true:=by simpa [hji] using hbj
   obtain⟨q,e,hq⟩:=hlt j hj hb2
   simp only [upf,if_true,if_neg hji,e]
   intro e'
   have:=pt_inj e'
   omega
  ·have hb1:s.testBit i=true:=by simpa [hik] using hbi
   by_cases hjk:j=k
   ·subst hjk
    obtain⟨q,e,hq⟩:=hlt i hi hb1
    simp only [upf,if_true,if_neg hik,e]
    intro e'
    have:=pt_inj e'
    omega
   ·have hb2:s.testBit j=true:=by simpa [hjk] using hbj
    simp only [upf,if_neg hik,if_neg hjk]
    exact h.ne i j hi hj hb1 hb2 hij
 ·obtain⟨r,a,x,e,hT,hN⟩:=h.new j hj
  exact⟨r,a,x,e,hT.keep kk id,hN.keep kk (fun _ _=>id)⟩
 ·by_cases hjk:j=k
  ·omega
  ·simp only [upf,if_neg hjk]
   exact h.out j hj hc
 ·rw [hbit j hj] at hb'
  refine h.ord j hj ?_
  by_cases hjk:j=k
  ·simp [hjk] at hb'
  ·simpa [hjk] using hb'
theorem initP256t1_any (w:World) (bE:Addr) (hE:w.cell? ⟨0,0,none⟩=some (.iface 220 (.pointer (some bE)))) (hb:Base (· < w.heap.size) w) :
  Calls Tryz.prog 55 #[] w fun e w'=>∃(q p0 p1 p2 p3 p4:Nat),e = .returned (pt q)∧Mk (fun b=>b<w.heap.size∨b=q) w q #[pt p0,pt p1,pt p2,pt p3,pt p4,.int .i64 256,.string { data:=#[98,114,97,105,110,112,111,111,108,80,50,53,54,116,49] }] 88 [(p4,ofI 20625154686056605250529482107801269759951443923312408063441227608803066104254),(p3,ofI 74138526386500101787937404544159543470173440588427591213843535686338908194292),(p2,ofI 46214326585032579593829631435610129746736367449296220983687490401182983727876),(p1,ofI 76884956397045344220809746629001649092737531784414529538755519063063536359079),(p0,ofI 76884956397045344220809746629001649093037950200943055203735601445031516197751)] w':=by
 have m0:=Mk.start (St.nil hb) #[.pointer none,.pointer none,.pointer none,.pointer none,.pointer none,.int .i64 0,.string { data:=#[98,114,97,105,110,112,111,111,108,80,50,53,54,116,49] }] 88 (by intro x;simp)
 have E0:=((Keep.refl Nope w).alloc (.cells #[.pointer none,.pointer none,.pointer none,.pointer none,.pointer none,.int .i64 0,.string { data:=#[98,114,97,105,110,112,111,111,108,80,50,53,54,116,49] }] 88 (0,0))).cell hE id
 go_enter Tryz.func55,Tryz.ntmps55
 go_upto_region 2 with fail
 generalize hw:w.alloc (.cells #[.pointer none,.pointer none,.pointer none,.pointer none,.pointer none,.int .i64 0,.string { data:=#[98,114,97,105,110,112,111,111,108,80,50,53,54,116,49] }] 88 (0,0))=v0 at *
 generalize hq:w.heap.size=q at *
 have hq0:0<q:=Nat.lt_trans (by decide) (show 3<q from hb.three)
 have HQ:Hid (w.heap.size=q):=hq
 clear hw hE hb hq
 have M0:Hid (Mk _ _ _ _ _ _ _):=m0
 clear m0
 go_wp2_with fail
 refine(setString_any _ _ bE 4 _ (Two.new _ _ _ 85) (((Keep.refl Nope _).alloc _).cell E0 id) (by omega) (by omega) (by rfl) (by decide +kernel)).mono ?_
 rintro e u0 ⟨rfl,hg⟩
 replace hg:Got (v0.alloc iz) u0 v0.heap.size 76884956397045344220809746629001649093037950200943055203735601445031516197751:=Eq.mp (congrArg (Got (v0.alloc iz) u0 v0.heap.size) (by decide +kernel)) hg
 have E0':=hg.keep.cell E0 id
 have g0:=M0.out.got hg
 generalize v0.heap.size=p0 at *
 have G0:Hid (Mk _ _ _ _ _ _ _):=g0
 have c0:=g0.blk.cell 0
 have f0:=g0.blk.frozen 0
 simp only [Ls5,Ls4] at c0
 clear hg g0 M0 E0
 go_upto_region 3 with fail
 have m1:=G0.out.set 0 (pt p0) (by intro x;simp)
 simp only [Ls2,Ls0] at m1
 have E1:(u0.setCell ⟨q,0,none⟩ (pt p0)).cell? ⟨0,0,none⟩=some (.iface 220 (.pointer (some bE))):=((Keep.refl (·=q) u0).setCell (p:=⟨q,0,none⟩) rfl (pt p0)).cell E0' (by show ¬(0=q);omega)
 generalize hw:u0.setCell ⟨q,0,none⟩ (pt p0)=v1 at *
 clear hw c0 f0 E0'
 have M1:Hid (Mk _ _ _ _ _ _ _):=m1
 clear m1
 go_wp2_with fail
 refine(setString_any _ _ bE 4 _ (Two.new _ _ _ 85) (((Keep.refl Nope _).alloc _).cell E1 id) (by omega) (by omega) (by rfl) (by decide +kernel)).mono ?_
 rintro e u1 ⟨rfl,hg⟩
 replace hg:Got (v1.alloc iz) u1 v1.heap.size 76884956397045344220809746629001649092737531784414529538755519063063536359079:=Eq.mp (congrArg (Got (v1.alloc iz) u1 v1.heap.size) (by decide +kernel)) hg
 have E1':=hg.keep.cell E1 id
 have g1:=M1.out.got hg
 generalize v1.heap.size=p1 at *
 have G1:Hid (Mk _ _ _ _ _ _ _):=g1
 have c1:=g1.blk.cell 1
 have f1:=g1.blk.frozen 1
 simp only [Ls5,Ls3,Ls4] at c1
 clear hg g1 M1 E1
 go_upto_region 4 with fail
 have m2:=G1.out.set 1 (pt p1) (by intro x;simp)
 simp only [Ls2,Ls0,Ls1] at m2
 have E2:(u1.setCell ⟨q,1,none⟩ (pt p1)).cell? ⟨0,0,none⟩=some (.iface 220 (.pointer (some bE))):=((Keep.refl (·=q) u1).setCell (p:=⟨q,1,none⟩) rfl (pt p1)).cell E1' (by show ¬(0=q);omega)
 generalize hw:u1.setCell ⟨q,1,none⟩ (pt p1)=v2 at *
 clear hw c1 f1 E1'
 have M2:Hid (Mk _ _ _ _ _ _ _):=m2
 clear m2
 go_wp2_with fail
 refine(setString_any _ _ bE 4 _ (Two.new _ _ _ 85) (((Keep.refl Nope _).alloc _).cell E2 id) (by omega) (by omega) (by rfl) (by decide +kernel)).mono ?_
 rintro e u2 ⟨rfl,hg⟩
 replace hg:Got (v2.alloc iz) u2 v2.heap.size 46214326585032579593829631435610129746736367449296220983687490401182983727876:=Eq.mp (congrArg (Got (v2.alloc iz) u2 v2.heap.size) (by decide +kernel)) hg
 have E2':=hg.keep.cell E2 id
 have g2:=M2.out.got hg
 generalize v2.heap.size=p2 at *
 have G2:Hid (Mk _ _ _ _ _ _ _):=g2
 have c2:=g2.blk.cell 2
 have f2:=g2.blk.frozen 2
 simp only [Ls5,Ls3,Ls4] at c2
 clear hg g2 M2 E2
 go_upto_region 5 with fail
 have m3:=G2.out.set 2 (pt p2) (by intro x;simp)
 simp only [Ls2,Ls0,Ls1] at m3
 have E3:(u2.setCell ⟨q,2,none⟩ (pt p2)).cell? ⟨0,0,none⟩=some (.iface 220 (.pointer (some bE))):=((Keep.refl (·=q) u2).setCell (p:=⟨q,2,none⟩) rfl (pt p2)).cell E2' (by show ¬(0=q);omega)
 generalize hw:u2.setCell ⟨q,2,none⟩ (pt p2)=v3 at *
 clear hw c2 f2 E2'
 have M3:Hid (Mk _ _ _ _ _ _ _):=m3
 clear m3
 go_wp2_with fail
 refine(setString_any _ _ bE 4 _ (Two.new _ _ _ 85) (((Keep.refl Nope _).alloc _).cell E3 id) (by omega) (by omega) (by rfl) (by decide +kernel)).mono ?_
 rintro e u3 ⟨rfl,hg⟩
 replace hg:Got (v3.alloc iz) u3 v3.heap.size 74138526386500101787937404544159543470173440588427591213843535686338908194292:=Eq.mp (congrArg (Got (v3.alloc iz) u3 v3.heap.size) (by decide +kernel)) hg
 have E3':=hg.keep.cell E3 id
 have g3:=M3.out.got hg
 generalize v3.heap.size=p3 at *
 have G3:Hid (Mk _ _ _ _ _ _ _):=g3
 have c3:=g3.blk.cell 3
 have f3:=g3.blk.frozen 3
 simp only [Ls5,Ls3,Ls4] at c3
 clear hg g3 M3 E3
 go_upto_region 6 with fail
 have m4:=G3.out.set 3 (pt p3) (by intro x;simp)
 simp only [Ls2,Ls0,Ls1] at m4
 have E4:(u3.setCell ⟨q,3,none⟩ (pt p3)).cell? ⟨0,0,none⟩=some (.iface 220 (.pointer (some bE))):=((Keep.refl (·=q) u3).setCell (p:=⟨q,3,none⟩) rfl (pt p3)).cell E3' (by show ¬(0=q);omega)
 generalize hw:u3.setCell ⟨q,3,none⟩ (pt p3)=v4 at *
 clear hw c3 f3 E3'
 have M4:Hid (Mk _ _ _ _ _ _ _):=m4
 clear m4
 go_wp2_with fail
 refine(setString_any _ _ bE 4 _ (Two.new _ _ _ 85) (((Keep.refl Nope _).alloc _).cell E4 id) (by omega) (by omega) (by rfl) (by decide +kernel)).mono ?_
 rintro e u4 ⟨rfl,hg⟩
 replace hg:Got (v4.alloc iz) u4 v4.heap.size 20625154686056605250529482107801269759951443923312408063441227608803066104254:=Eq.mp (congrArg (Got (v4.alloc iz) u4 v4.heap.size) (by decide +kernel)) hg
 have E4':=hg.keep.cell E4 id
 have g4:=M4.out.got hg
 generalize v4.heap.size=p4 at *
 have G4:Hid (Mk _ _ _ _ _ _ _):=g4
 have c4:=g4.blk.cell 4
 have f4:=g4.blk.frozen 4
 simp only [Ls5,Ls3,Ls4] at c4
 clear hg g4 M4 E4
 go_upto_region 7 with fail
 have m5:=G4.out.set 4 (pt p4) (by intro x;simp)
 simp only [Ls2,Ls0,Ls1] at m5
 have E5:(u4.setCell ⟨q,4,none⟩ (pt p4)).cell? ⟨0,0,none⟩=some (.iface 220 (.pointer (some bE))):=((Keep.refl (·=q) u4).setCell (p:=⟨q,4,none⟩) rfl (pt p4)).cell E4' (by show ¬(0=q);omega)
 generalize hw:u4.setCell ⟨q,4,none⟩ (pt p4)=v5 at *
 clear hw c4 f4 E4'
 have M5:Hid (Mk _ _ _ _ _ _ _):=m5
 have c5:=m5.blk.cell 5
 have f5:=m5.blk.frozen 5
 simp only [Ls5,Ls3,Ls4] at c5
 go_wp2_with fail
 have m6:=M5.out.set 5 (.int .i64 256) (by intro x;simp)
 simp only [Ls2,Ls0,Ls1] at m6
 go_ret
 exact⟨q,p0,p1,p2,p3,p4,rfl,by rw [HQ.out];exact m6⟩
theorem initP384t1_any (w:World) (bE:Addr) (hE:w.cell? ⟨0,0,none⟩=some (.iface 220 (.pointer (some bE)))) (hb:Base (· < w.heap.size) w) :
  Calls Tryz.prog 57 #[] w fun e w'=>∃(q p0 p1 p2 p3 p4:Nat),e = .returned (pt q)∧Mk (fun b=>b<w.heap.size∨b=q) w q #[pt p0,pt p1,pt p2,pt p3,pt p4,.int .i64 384,.string { data:=#[98,114,97,105,110,112,111,111,108,80,51,56,52,116,49] }] 88 [(p4,ofI 5797643717699939326787282953388004860198302425468870641753455602553471777319089854136002629714659021021358409132328),(p3,ofI 3827769047710394604076870463731979903132904572714069494181204655675960538951736634566672590576020545838501853661388),(p2,ofI 19596161053329239268181228455226581162286252326261019516900162717091837027531392576647644262320816848087868142547438),(p1,ofI 21659270770119316173069236842332604979796116387017648600075645274821611501358515537962695117368903252229601718723941),(p0,ofI 21659270770119316173069236842332604979796116387017648600081618503821089934025961822236561982844534088440708417973331)] w':=by
 have m0:=Mk.start (St.nil hb) #[.pointer none,.pointer none,.pointer none,.pointer none,.pointer none,.int .i64 0,.string { data:=#[98,114,97,105,110,112,111,111,108,80,51,56,52,116,49] }] 88 (by intro x;simp)
 have E0:=((Keep.refl Nope w).alloc (.cells #[.pointer none,.pointer none,.pointer none,.pointer none,.pointer none,.int .i64 0,.string { data:=#[98,114,97,105,110,112,111,111,108,80,51,56,52,116,49] }] 88 (0,0))).cell hE id
 go_enter Tryz.func57,Tryz.ntmps57
 go_upto_region 2 with fail
 generalize hw:w.alloc (.cells #[.pointer none,.pointer none,.pointer none,.pointer none,.pointer none,.int .i64 0,.string { data:=#[98,114,97,105,110,112,111,111,108,80,51,56,52,116,49] }] 88 (0,0))=v0 at *
 generalize hq:w.heap.size=q at *
 have hq0:0<q:=Nat.lt_trans (by decide) (show 3<q from hb.three)
 have HQ:Hid (w.heap.size=q):=hq
 clear hw hE hb hq
 have M0:Hid (Mk _ _ _ _ _ _ _):=m0
 clear m0
 go_wp2_with fail
 refine(setString_any _ _ bE 6 _ (Two.new _ _ _ 85) (((Keep.refl Nope _).alloc _).cell E0 id) (by omega) (by omega) (by rfl) (by decide +kernel)).mono ?_
 rintro e u0 ⟨rfl,hg⟩
 replace hg:Got (v0.alloc iz) u0 v0.heap.size 21659270770119316173069236842332604979796116387017648600081618503821089934025961822236561982844534088440708417973331:=Eq.mp (congrArg (Got (v0.alloc iz) u0 v0.heap.size) (by decide +kernel)) hg
 have E0':=hg.keep.cell E0 id
 have g0:=M0.out.got hg
 generalize v0.heap.size=p0 at *
 have G0:Hid (Mk _ _ _ _ _ _ _):=g0
 have c0:=g0.blk.cell 0
 have f0:=g0.blk.frozen 0
 simp only [Ls5,Ls4] at c0
 clear hg g0 M0 E0
 go_upto_region 3 with fail
 have m1:=G0.out.set 0 (pt p0) (by intro x;simp)
 simp only [Ls2,Ls0] at m1
 have E1:(u0.setCell ⟨q,0,none⟩ (pt p0)).cell? ⟨0,0,none⟩=some (.iface 220 (.pointer (some bE))):=((Keep.refl (·=q) u0).setCell (p:=⟨q,0,none⟩) rfl (pt p0)).cell E0' (by show ¬(0=q);omega)
 generalize hw:u0.setCell ⟨q,0,none⟩ (pt p0)=v1 at *
 clear hw c0 f0 E0'
 have M1:Hid (Mk _ _ _ _ _ _ _):=m1
 clear m1
 go_wp2_with fail
 refine(setString_any _ _ bE 6 _ (Two.new _ _ _ 85) (((Keep.refl Nope _).alloc _).cell E1 id) (by omega) (by omega) (by rfl) (by decide +kernel)).mono ?_
 rintro e u1 ⟨rfl,hg⟩
 replace hg:Got (v1.alloc iz) u1 v1.heap.size 21659270770119316173069236842332604979796116387017648600075645274821611501358515537962695117368903252229601718723941:=Eq.mp (congrArg (Got (v1.alloc iz) u1 v1.heap.size) (by decide +kernel)) hg
 have E1':=hg.keep.cell E1 id
 have g1:=M1.out.got hg
 generalize v1.heap.size=p1 at *
 have G1:Hid (Mk _ _ _ _ _ _ _):=g1
 have c1:=g1.blk.cell 1
 have f1:=g1.blk.frozen 1
 simp only [Ls5,Ls3,Ls4] at c1
 clear hg g1 M1 E1
 go_upto_region 4 with fail
 have m2:=G1.out.set 1 (pt p1) (by intro x;simp)
 simp only [Ls2,Ls0,Ls1] at m2
 have E2:(u1.setCell ⟨q,1,none⟩ (pt p1)).cell? ⟨0,0,none⟩=some (.iface 220 (.pointer (some bE))):=((Keep.refl (·=q) u1).setCell (p:=⟨q,1,none⟩) rfl (pt p1)).cell E1' (by show ¬(0=q);omega)
 generalize hw:u1.setCell ⟨q,1,none⟩ (pt p1)=v2 at *
 clear hw c1 f1 E1'
 have M2:Hid (Mk _ _ _ _ _ _ _):=m2
 clear m2
 go_wp2_with fail
 refine(setString_any _ _ bE 6 _ (Two.new _ _ _ 85) (((Keep.refl Nope _).alloc _).cell E2 id) (by omega) (by omega) (by rfl) (by decide +kernel)).mono ?_
 rintro e u2 ⟨rfl,hg⟩
 replace hg:Got (v2.alloc iz) u2 v2.heap.size 19596161053329239268181228455226581162286252326261019516900162717091837027531392576647644262320816848087868142547438:=Eq.mp (congrArg (Got (v2.alloc iz) u2 v2.heap.size) (by decide +kernel)) hg
 have E2':=hg.keep.cell E2 id
 have g2:=M2.out.got hg
 generalize v2.heap.size=p2 at *
 have G2:Hid (Mk _ _ _ _ _ _ _):=g2
 have c2:=g2.blk.cell 2
 have f2:=g2.blk.frozen 2
 simp only [Ls5,Ls3,Ls4] at c2
 clear hg g2 M2 E2
 go_upto_region 5 with fail
 have m3:=G2.out.set 2 (pt p2) (by intro x;simp)
 simp only [Ls2,Ls0,Ls1] at m3
 have E3:(u2.setCell ⟨q,2,none⟩ (pt p2)).cell? ⟨0,0,none⟩=some (.iface 220 (.pointer (some bE))):=((Keep.refl (·=q) u2).setCell (p:=⟨q,2,none⟩) rfl (pt p2)).cell E2' (by show ¬(0=q);omega)
 generalize hw:u2.setCell ⟨q,2,none⟩ (pt p2)=v3 at *
 clear hw c2 f2 E2'
 have M3:Hid (Mk _ _ _ _ _ _ _):=m3
 clear m3
 go_wp2_with fail
 refine(setString_any _ _ bE 6 _ (Two.new _ _ _ 85) (((Keep.refl Nope _).alloc _).cell E3 id) (by omega) (by omega) (by rfl) (by decide +kernel)).mono ?_
 rintro e u3 ⟨rfl,hg⟩
 replace hg:Got (v3.alloc iz) u3 v3.heap.size 3827769047710394604076870463731979903132904572714069494181204655675960538951736634566672590576020545838501853661388:=Eq.mp (congrArg (Got (v3.alloc iz) u3 v3.heap.size) (by decide +kernel)) hg
 have E3':=hg.keep.cell E3 id
 have g3:=M3.out.got hg
 generalize v3.heap.size=p3 at *
 have G3:Hid (Mk _ _ _ _ _ _ _):=g3
 have c3:=g3.blk.cell 3
 have f3:=g3.blk.frozen 3
 simp only [Ls5,Ls3,Ls4] at c3
 clear hg g3 M3 E3
 go_upto_region 6 with fail
 have m4:=G3.out.set 3 (pt p3) (by intro x;simp)
 simp only [Ls2,Ls0,Ls1] at m4
 have E4:(u3.setCell ⟨q,3,none⟩ (pt p3)).cell? ⟨0,0,none⟩=some (.iface 220 (.pointer (some bE))):=((Keep.refl (·=q) u3).setCell (p:=⟨q,3,none⟩) rfl (pt p3)).cell E3' (by show ¬(0=q);omega)
 generalize hw:u3.setCell ⟨q,3,none⟩ (pt p3)=v4 at *
 clear hw c3 f3 E3'
 have M4:Hid (Mk _ _ _ _ _ _ _):=m4
 clear m4
 go_wp2_with fail
 refine(setString_any _ _ bE 6 _ (Two.new _ _ _ 85) (((Keep.refl Nope _).alloc _).cell E4 id) (by omega) (by omega) (by rfl) (by decide +kernel)).mono ?_
 rintro e u4 ⟨rfl,hg⟩
 replace hg:Got (v4.alloc iz) u4 v4.heap.size 5797643717699939326787282953388004860198302425468870641753455602553471777319089854136002629714659021021358409132328:=Eq.mp (congrArg (Got (v4.alloc iz) u4 v4.heap.size) (by decide +kernel)) hg
 have E4':=hg.keep.cell E4 id
 have g4:=M4.out.got hg
 generalize v4.heap.size=p4 at *
 have G4:Hid (Mk _ _ _ _ _ _ _):=g4
 have c4:=g4.blk.cell 4
 have f4:=g4.blk.frozen 4
 simp only [Ls5,Ls3,Ls4] at c4
 clear hg g4 M4 E4
 go_upto_region 7 with fail
 have m5:=G4.out.set 4 (pt p4) (by intro x;simp)
 simp only [Ls2,Ls0,Ls1] at m5
 have E5:(u4.setCell ⟨q,4,none⟩ (pt p4)).cell? ⟨0,0,none⟩=some (.iface 220 (.pointer (some bE))):=((Keep.refl (·=q) u4).setCell (p:=⟨q,4,none⟩) rfl (pt p4)).cell E4' (by show ¬(0=q);omega)
 generalize hw:u4.setCell ⟨q,4,none⟩ (pt p4)=v5 at *
 clear hw c4 f4 E4'
 have M5:Hid (Mk _ _ _ _ _ _ _):=m5
 have c5:=m5.blk.cell 5
 have f5:=m5.blk.frozen 5
 simp only [Ls5,Ls3,Ls4] at c5
 go_wp2_with fail
 have m6:=M5.out.set 5 (.int .i64 384) (by intro x;simp)
 simp only [Ls2,Ls0,Ls1] at m6
 go_ret
 exact⟨q,p0,p1,p2,p3,p4,rfl,by rw [HQ.out];exact m6⟩
theorem initP512t1_any (w:World) (bE:Addr) (hE:w.cell? ⟨0,0,none⟩=some (.iface 220 (.pointer (some bE)))) (hb:Base (· < w.heap.size) w) :
  Calls Tryz.prog 58 #[] w fun e w'=>∃(q p0 p1 p2 p3 p4:Nat),e = .returned (pt q)∧Mk (fun b=>b<w.heap.size∨b=q) w q #[pt p0,pt p1,pt p2,pt p3,pt p4,.int .i64 512,.string { data:=#[98,114,97,105,110,112,111,111,108,80,53,49,50,116,49] }] 88 [(p4,ofI 4783098043208509222858478731459039446855297686825168822962919559100076900387655035060042118755576220187973470126780576052258118403094460341772613532037938),(p3,ofI 5240454105373391383446315535930423532243726242869439206480578543706358506399554673205583372921814351137736817888782671966171301927338369930113338349467098),(p2,ofI 6532815740455945129522030162820444801309011444717674409730083343052139800841847092116476221316466234404847931899409316558007222582458822004777353814164030),(p1,ofI 8948962207650232551656602815159153422162609644098354511344597187200057010413418528378981730643524959857451398370029280583094215613882043973354392115544169),(p0,ofI 8948962207650232551656602815159153422162609644098354511344597187200057010413552439917934304191956942765446530386427345937963894309923928536070534607816947)] w':=by
 have m0:=Mk.start (St.nil hb) #[.pointer none,.pointer none,.pointer none,.pointer none,.pointer none,.int .i64 0,.string { data:=#[98,114,97,105,110,112,111,111,108,80,53,49,50,116,49] }] 88 (by intro x;simp)
 have E0:=((Keep.refl Nope w).alloc (.cells #[.pointer none,.pointer none,.pointer none,.pointer none,.pointer none,.int .i64 0,.string { data:=#[98,114,97,105,110,112,111,111,108,80,53,49,50,116,49] }] 88 (0,0))).cell hE id
 go_enter Tryz.func58,Tryz.ntmps58
 go_upto_region 2 with fail
 generalize hw:w.alloc (.cells #[.pointer none,.pointer none,.pointer none,.pointer none,.pointer none,.int .i64 0,.string { data:=#[98,114,97,105,110,112,111,111,108,80,53,49,50,116,49] }] 88 (0,0))=v0 at *
 generalize hq:w.heap.size=q at *
 have hq0:0<q:=Nat.lt_trans (by decide) (show 3<q from hb.three)
 have HQ:Hid (w.heap.size=q):=hq
 clear hw hE hb hq
 have M0:Hid (Mk _ _ _ _ _ _ _):=m0
 clear m0
 go_wp2_with fail
 refine(setString_any _ _ bE 8 _ (Two.new _ _ _ 85) (((Keep.refl Nope _).alloc _).cell E0 id) (by omega) (by omega) (by rfl) (by decide +kernel)).mono ?_
 rintro e u0 ⟨rfl,hg⟩
 replace hg:Got (v0.alloc iz) u0 v0.heap.size 8948962207650232551656602815159153422162609644098354511344597187200057010413552439917934304191956942765446530386427345937963894309923928536070534607816947:=Eq.mp (congrArg (Got (v0.alloc iz) u0 v0.heap.size) (by decide +kernel)) hg
 have E0':=hg.keep.cell E0 id
 have g0:=M0.out.got hg
 generalize v0.heap.size=p0 at *
 have G0:Hid (Mk _ _ _ _ _ _ _):=g0
 have c0:=g0.blk.cell 0
 have f0:=g0.blk.frozen 0
 simp only [Ls5,Ls4] at c0
 clear hg g0 M0 E0
 go_upto_region 3 with fail
 have m1:=G0.out.set 0 (pt p0) (by intro x;simp)
 simp only [Ls2,Ls0] at m1
 have E1:(u0.setCell ⟨q,0,none⟩ (pt p0)).cell? ⟨0,0,none⟩=some (.iface 220 (.pointer (some bE))):=((Keep.refl (·=q) u0).setCell (p:=⟨q,0,none⟩) rfl (pt p0)).cell E0' (by show ¬(0=q);omega)
 generalize hw:u0.setCell ⟨q,0,none⟩ (pt p0)=v1 at *
 clear hw c0 f0 E0'
 have M1:Hid (Mk _ _ _ _ _ _ _):=m1
 clear m1
 go_wp2_with fail
 refine(setString_any _ _ bE 8 _ (Two.new _ _ _ 85) (((Keep.refl Nope _).alloc _).cell E1 id) (by omega) (by omega) (by rfl) (by decide +kernel)).mono ?_
 rintro e u1 ⟨rfl,hg⟩
 replace hg:Got (v1.alloc iz) u1 v1.heap.size 8948962207650232551656602815159153422162609644098354511344597187200057010413418528378981730643524959857451398370029280583094215613882043973354392115544169:=Eq.mp (congrArg (Got (v1.alloc iz) u1 v1.heap.size) (by decide +kernel)) hg
 have E1':=hg.keep.cell E1 id
 have g1:=M1.out.got hg
 generalize v1.heap.size=p1 at *
 have G1:Hid (Mk _ _ _ _ _ _ _):=g1
 have c1:=g1.blk.cell 1
 have f1:=g1.blk.frozen 1
 simp only [Ls5,Ls3,Ls4] at c1
 clear hg g1 M1 E1
 go_upto_region 4 with fail
 have m2:=G1.out.set 1 (pt p1) (by intro x;simp)
 simp only [Ls2,Ls0,Ls1] at m2
 have E2:(u1.setCell ⟨q,1,none⟩ (pt p1)).cell? ⟨0,0,none⟩=some (.iface 220 (.pointer (some bE))):=((Keep.refl (·=q) u1).setCell (p:=⟨q,1,none⟩) rfl (pt p1)).cell E1' (by show ¬(0=q);omega)
 generalize hw:u1.setCell ⟨q,1,none⟩ (pt p1)=v2 at *
 clear hw c1 f1 E1'
 have M2:Hid (Mk _ _ _ _ _ _ _):=m2
 clear m2
 go_wp2_with fail
 refine(setString_any _ _ bE 8 _ (Two.new _ _ _ 85) (((Keep.refl Nope _).alloc _).cell E2 id) (by omega) (by omega) (by rfl) (by decide +kernel)).mono ?_
 rintro e u2 ⟨rfl,hg⟩
 replace hg:Got (v2.alloc iz) u2 v2.heap.size 6532815740455945129522030162820444801309011444717674409730083343052139800841847092116476221316466234404847931899409316558007222582458822004777353814164030:=Eq.mp (congrArg (Got (v2.alloc iz) u2 v2.heap.size) (by decide +kernel)) hg
 have E2':=hg.keep.cell E2 id
 have g2:=M2.out.got hg
 generalize v2.heap.size=p2 at *
 have G2:Hid (Mk _ _ _ _ _ _ _):=g2
 have c2:=g2.blk.cell 2
 have f2:=g2.blk.frozen 2
 simp only [Ls5,Ls3,Ls4] at c2
 clear hg g2 M2 E2
 go_upto_region 5 with fail
 have m3:=G2.out.set 2 (pt p2) (by intro x;simp)
 simp only [Ls2,Ls0,Ls1] at m3
 have E3:(u2.setCell ⟨q,2,none⟩ (pt p2)).cell? ⟨0,0,none⟩=some (.iface 220 (.pointer (some bE))):=((Keep.refl (·=q) u2).setCell (p:=⟨q,2,none⟩) rfl (pt p2)).cell E2' (by show ¬(0=q);omega)
 generalize hw:u2.setCell ⟨q,2,none⟩ (pt p2)=v3 at *
 clear hw c2 f2 E2'
 have M3:Hid (Mk _ _ _ _ _ _ _):=m3
 clear m3
 go_wp2_with fail
 refine(setString_any _ _ bE 8 _ (Two.new _ _ _ 85) (((Keep.refl Nope _).alloc _).cell E3 id) (by omega) (by omega) (by rfl) (by decide +kernel)).mono ?_
 rintro e u3 ⟨rfl,hg⟩
 replace hg:Got (v3.alloc iz) u3 v3.heap.size 5240454105373391383446315535930423532243726242869439206480578543706358506399554673205583372921814351137736817888782671966171301927338369930113338349467098:=Eq.mp (congrArg (Got (v3.alloc iz) u3 v3.heap.size) (by decide +kernel)) hg
 have E3':=hg.keep.cell E3 id
 have g3:=M3.out.got hg
 generalize v3.heap.size=p3 at *
 have G3:Hid (Mk _ _ _ _ _ _ _):=g3
 have c3:=g3.blk.cell 3
 have f3:=g3.blk.frozen 3
 simp only [Ls5,Ls3,Ls4] at c3
 clear hg g3 M3 E3
 go_upto_region 6 with fail
 have m4:=G3.out.set 3 (pt p3) (by intro x;simp)
 simp only [Ls2,Ls0,Ls1] at m4
 have E4:(u3.setCell ⟨q,3,none⟩ (pt p3)).cell? ⟨0,0,none⟩=some (.iface 220 (.pointer (some bE))):=((Keep.refl (·=q) u3).setCell (p:=⟨q,3,none⟩) rfl (pt p3)).cell E3' (by show ¬(0=q);omega)
 generalize hw:u3.setCell ⟨q,3,none⟩ (pt p3)=v4 at *
 clear hw c3 f3 E3'
 have M4:Hid (Mk _ _ _ _ _ _ _):=m4
 clear m4
 go_wp2_with fail
 refine(setString_any _ _ bE 8 _ (Two.new _ _ _ 85) (((Keep.refl Nope _).alloc _).cell E4 id) (by omega) (by omega) (by rfl) (by decide +kernel)).mono ?_
 rintro e u4 ⟨rfl,hg⟩
 replace hg:Got (v4.alloc iz) u4 v4.heap.size 4783098043208509222858478731459039446855297686825168822962919559100076900387655035060042118755576220187973470126780576052258118403094460341772613532037938:=Eq.mp (congrArg (Got (v4.alloc iz) u4 v4.heap.size) (by decide +kernel)) hg
 have E4':=hg.keep.cell E4 id
 have g4:=M4.out.got hg
 generalize v4.heap.size=p4 at *
 have G4:Hid (Mk _ _ _ _ _ _ _):=g4
 have c4:=g4.blk.cell 4
 have f4:=g4.blk.frozen 4
 simp only [Ls5,Ls3,Ls4] at c4
 clear hg g4 M4 E4
 go_upto_region 7 with fail
 have m5:=G4.out.set 4 (pt p4) (by intro x;simp)
 simp only [Ls2,Ls0,Ls1] at m5
 have E5:(u4.setCell ⟨q,4,none⟩ (pt p4)).cell? ⟨0,0,none⟩=some (.iface 220 (.pointer (some bE))):=((Keep.refl (·=q) u4).setCell (p:=⟨q,4,none⟩) rfl (pt p4)).cell E4' (by show ¬(0=q);omega)
 generalize hw:u4.setCell ⟨q,4,none⟩ (pt p4)=v5 at *
 clear hw c4 f4 E4'
 have M5:Hid (Mk _ _ _ _ _ _ _):=m5
 have c5:=m5.blk.cell 5
 have f5:=m5.blk.frozen 5
 simp only [Ls5,Ls3,Ls4] at c5
 go_wp2_with fail
 have m6:=M5.out.set 5 (.int .i64 512) (by intro x;simp)
 simp only [Ls2,Ls0,Ls1] at m6
 go_ret
 exact⟨q,p0,p1,p2,p3,p4,rfl,by rw [HQ.out];exact m6⟩
end Go.Proofs.YtofkehhflkdabaaGreatDoor
