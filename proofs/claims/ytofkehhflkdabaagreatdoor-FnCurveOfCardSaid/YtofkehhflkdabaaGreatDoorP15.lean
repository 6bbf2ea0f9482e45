/- A part of the proof of FnCurveOf. -/
import Derived.Test.YtofkehhflkdabaaGreatDoorP10
import Derived.Defers
import Derived.Deep.LoopGhost
import Derived.Deep.CutBlock
set_option maxRecDepth 100000
set_option maxHeartbeats 8000000
namespace Go.Proofs.YtofkehhflkdabaaGreatDoor
open Go Go.RowKit
theorem restore_d (u:FrameMode) (w:World) (p L n:Nat) (B:Nat→Prop) (h:Stk w p L B) (hn:n≤L):CallsD Tryz.prog 129 #[.pointer (some ⟨p,0,none⟩),.int .i64 (n:Int)] u w fun e u' w'=>
  u'=u∧e = .returned (.tuple #[])∧Stk w' p n B∧Keep B w w':=by
 rcases h with⟨h1,rfl,h3⟩ | ⟨q,B',h1,h2,h3,h4⟩
 ·obtain rfl:n=0:=by omega
  have hc:=h1.cell
  go_enter_d Tryz.func129,Tryz.ntmps129
  go_wp2_with fail
  first | go_end0 | ((try simp only [Exit.inBlock,Exit.then]);refine bodyPost_ret (results_none rfl _ _ _) rfl ?_)
  exact⟨rfl,.inl ⟨h1,rfl,h3⟩,Keep.refl _ _⟩
 ·have hc:=h1.cell
  go_enter_d Tryz.func129,Tryz.ntmps129
  go_wp2_with fail
  refine(inner_restore _ q L n B' h2 hn).mono ?_
  rintro e w1 ⟨rfl,hs,hk⟩
  go_wp2_with fail
  first | go_end0 | ((try simp only [Exit.inBlock,Exit.then]);refine bodyPost_ret (results_none rfl _ _ _) rfl ?_)
  have hp:=h2.noPtr h1 (by simp) h3
  exact⟨rfl,.inr ⟨q,B',h1.keep hk hp,hs,h3,h4⟩,hk.mono fun k _ hb=>(h4 k).2 (.inr hb)⟩
theorem free_d (u:FrameMode) (w:World) (p L:Nat) (B:Nat→Prop) (h:Stk w p L B):CallsD Tryz.prog 109 #[.pointer (some ⟨p,0,none⟩)] u w fun e u' w'=>
  u'=u∧e = .returned (.tuple #[])∧Keep B w w':=by
 rcases h with⟨h1,rfl,h3⟩ | ⟨q,B',h1,h2,h3,h4⟩
 ·have hc:=h1.cell
  go_enter_d Tryz.func109,Tryz.ntmps109
  go_wp2_with fail
  first | go_end0 | ((try simp only [Exit.inBlock,Exit.then]);refine bodyPost_ret (results_none rfl _ _ _) rfl ?_)
  exact⟨rfl,Keep.refl _ _⟩
 ·have hc:=h1.cell
  go_enter_d Tryz.func109,Tryz.ntmps109
  go_wp2_with fail
  refine(inner_free _ q L B' h2).mono ?_
  rintro e w1 ⟨rfl,hk⟩
  go_wp2_with fail
  first | go_end0 | ((try simp only [Exit.inBlock,Exit.then]);refine bodyPost_ret (results_none rfl _ _ _) rfl ?_)
  exact⟨rfl,hk.mono fun k _ hb=>(h4 k).2 (.inr hb)⟩
theorem Stk.rowed {S:Nat→Prop} {w w':World} {p L b N:Nat} {B:Nat→Prop} {c c':Nat→Nat} (h:Stk w p L B) (k:Keep S w w') (hs:∀k,B k→S k→k=b) (hr:Row w b N c) (hr':Row w' b N c'):Stk w' p L B:=by
 have ho:∀x v,One w x v→B x→(∀y:Int,v≠.int .u64 y)→One w' x v:=fun x v hx hb hv=>hx.keep k fun hS=>by
  have e:=hs x hb hS
  subst e
  obtain⟨y,hy⟩:=hx.row hr
  exact hv _ hy
 rcases h with⟨h1,h2,h3⟩ | ⟨q,B',h1,⟨a,K,c0,g1,g2,g3⟩,h3,h4⟩
 ·exact .inl ⟨ho _ _ h1 ((h3 p).2 rfl) (by simp),h2,h3⟩
 ·refine .inr ⟨q,B',ho _ _ h1 ((h4 p).2 (.inl rfl)) (by simp),?_,h3,h4⟩
  have hq:=ho _ _ g1 ((h4 q).2 (.inr ((g3 q).2 (.inl rfl)))) (by simp)
  rcases g2 with g2 | ⟨b',e1,e2,e3,e4,e5⟩
  ·exact⟨a,K,c0,hq,.inl g2,g3⟩
  ·by_cases hb:b'=b
   ·subst hb
    obtain⟨rfl,_⟩:=e5.same hr
    exact⟨a,K,c',hq,.inr ⟨b',e1,e2,e3,e4,hr'⟩,g3⟩
   ·exact⟨a,K,c0,hq,.inr ⟨b',e1,e2,e3,e4,e5.keep k fun hS=>hb (hs b' ((h4 b').2 (.inr ((g3 b').2 (.inr e1)))) hS)⟩,g3⟩
theorem val_top2 (c:Nat→Nat) (j t:Nat):val c j (t+2)=(c (j+t+1)*W64+c (j+t))*W64^t+val c j t:=by
 show val c j t+c (j+t)*W64^t+c (j+(t+1))*W64^(t+1)=_
 rw [Nat.pow_succ,← Nat.add_assoc]
 grind
theorem guess_init {u0 u1 u2 vn1 vn2:Nat} (hv:0<vn1) (hu2:u2<W64):(u0*W64+u1)*W64+u2<(qW u0 u1 vn1+1)*(vn1*W64+vn2):=by
 obtain⟨h1,h2⟩:=qr_eq u0 u1 vn1 hv
 generalize qW u0 u1 vn1=q at *
 have h3:u0*W64+u1+1≤(q+1)*vn1:=by rw [Nat.succ_mul];omega
 have h4:=Nat.mul_le_mul_right W64 h3
 rw [Nat.succ_mul] at h4
 have h5:(q+1)*(vn1*W64+vn2)=(q+1)*vn1*W64+(q+1)*vn2:=by rw [Nat.mul_add,Nat.mul_assoc]
 omega
theorem guess_done {u0 u1 u2 vn1 vn2 qh rh:Nat} (h1:qh*vn1+rh=u0*W64+u1) (h2:qh*vn2≤rh*W64+u2):qh*(vn1*W64+vn2)≤(u0*W64+u1)*W64+u2:=by
 have h5:qh*(vn1*W64+vn2)=qh*vn1*W64+qh*vn2:=by rw [Nat.mul_add,Nat.mul_assoc]
 rw [h5,← h1,Nat.add_mul]
 omega
theorem guess_more {u0 u1 u2 vn1 vn2 qh rh:Nat} (h1:qh*vn1+rh=u0*W64+u1) (h2:rh*W64+u2<qh*vn2):(u0*W64+u1)*W64+u2<qh*(vn1*W64+vn2):=by
 have h5:qh*(vn1*W64+vn2)=qh*vn1*W64+qh*vn2:=by rw [Nat.mul_add,Nat.mul_assoc]
 rw [h5,← h1,Nat.add_mul]
 omega
theorem guess_fit {c cv:Nat→Nat} {j ov t u0 qh:Nat} (hv1:9223372036854775808≤cv (ov+t+1)) (hcv:∀i,i<t→cv (ov+i)<W64) (hc:∀i,i<t→c (j+i)<W64) (hqh:qh<W64)
  (h1:qh*(cv (ov+t+1)*W64+cv (ov+t))≤(u0*W64+c (j+t+1))*W64+c (j+t)) (h2:(u0*W64+c (j+t+1))*W64+c (j+t)<(qh+1)*(cv (ov+t+1)*W64+cv (ov+t))) :
  (val c j (t+2)+u0*W64^(t+2)) / val cv ov (t+2)≤qh∧qh≤(val c j (t+2)+u0*W64^(t+2)) / val cv ov (t+2)+1:=by
 have e1:val c j (t+2)+u0*W64^(t+2)=((u0*W64+c (j+t+1))*W64+c (j+t))*W64^t+val c j t:=by
  rw [val_top2,Nat.pow_add];grind
 rw [e1,val_top2 cv ov t]
 refine knuth_fit (Nat.pow_pos W64_pos) (by have:=W64_pos;have:0<cv (ov+t+1)*W64:=Nat.mul_pos (by omega) this;omega) (val_lt hcv) (val_lt hc) h1 h2 ?_
 have:1*W64≤cv (ov+t+1)*W64:=Nat.mul_le_mul_right _ (by omega)
 omega
theorem guess_fit' {c cv:Nat→Nat} {j ov n u0 qh vn1 vn2 u1 u2:Nat} (hn:2≤n) (e1:cv (ov+n-1)=vn1) (e2:cv (ov+n-2)=vn2) (e3:c (j+n-1)=u1) (e4:c (j+n-2)=u2)
  (hv1:9223372036854775808≤vn1) (hcv:∀i,i<n→cv (ov+i)<W64) (hc:∀i,i<n→c (j+i)<W64) (hqh:qh<W64)
  (h1:qh*(vn1*W64+vn2)≤(u0*W64+u1)*W64+u2) (h2:(u0*W64+u1)*W64+u2<(qh+1)*(vn1*W64+vn2)) :
  (val c j n+u0*W64^n) / val cv ov n≤qh∧qh≤(val c j n+u0*W64^n) / val cv ov n+1:=by
 obtain⟨t,rfl⟩:∃t,n=t+2:=⟨n-2,by omega⟩
 have a1:ov+(t+2)-1=ov+t+1:=by omega
 have a2:ov+(t+2)-2=ov+t:=by omega
 have a3:j+(t+2)-1=j+t+1:=by omega
 have a4:j+(t+2)-2=j+t:=by omega
 rw [a1] at e1
 rw [a2] at e2
 rw [a3] at e3
 rw [a4] at e4
 subst e1 e2 e3 e4
 exact guess_fit hv1 (fun i hi=>hcv i (by omega)) (fun i hi=>hc i (by omega)) hqh h1 h2
theorem max_fit {c cv:Nat→Nat} {j ov n u0 vn1:Nat} (hn:2≤n) (e1:cv (ov+n-1)=vn1) (hv1:9223372036854775808≤vn1) (hcv:∀i,i<n→cv (ov+i)<W64) (h0:u0=vn1)
  (hU:val c j n+u0*W64^n<val cv ov n*W64) :
  (val c j n+u0*W64^n) / val cv ov n≤W64-1∧W64-1≤(val c j n+u0*W64^n) / val cv ov n+1:=by
 obtain⟨t,rfl⟩:∃t,n=t+1:=⟨n-1,by omega⟩
 have a1:ov+(t+1)-1=ov+t:=by omega
 rw [a1] at e1
 subst h0 e1
 refine knuth_max (P:=W64^t) (vn1:=cv (ov+t)) (lv:=val cv ov t) (Nat.pow_pos W64_pos) hv1 (by rw [val_one];omega) (val_lt fun i hi=>hcv i (by omega)) ?_ hU
 rw [Nat.pow_succ,Nat.mul_comm W64]
 omega
theorem top_le {c cv:Nat→Nat} {j ov n u0 vn1:Nat} (hn:2≤n) (e1:cv (ov+n-1)=vn1) (hcv:∀i,i<n→cv (ov+i)<W64) (hU:val c j n+u0*W64^n<val cv ov n*W64):u0≤vn1:=by
 obtain⟨t,rfl⟩:∃t,n=t+1:=⟨n-1,by omega⟩
 have a1:ov+(t+1)-1=ov+t:=by omega
 rw [a1] at e1
 subst e1
 refine Classical.byContradiction fun h=>?_
 have h1:=Nat.mul_le_mul_right (W64^(t+1)) (show cv (ov+t)+1≤u0 by omega)
 have h2:val cv ov (t+1)≤(cv (ov+t)+1)*W64^t:=by
  have:=val_lt (c:=cv) (o:=ov) (n:=t) (fun i hi=>hcv i (by omega))
  rw [val_one,Nat.succ_mul];omega
 have h3:=Nat.mul_le_mul_right W64 h2
 rw [Nat.mul_assoc,← Nat.pow_succ] at h3
 generalize W64^(t+1)=P at *
 generalize val cv ov (t+1)*W64=V at *
 generalize (cv (ov+t)+1)*P=X at *
 generalize u0*P=Y at *
 omega
theorem sec_lt {c:Nat→Nat} {j n u0 v:Nat} (h0:u0=c (j+n)) (hc:c j<W64) (h:val c (j+1) n<v):val c j n+u0*W64^n<v*W64:=by
 rw [h0,← val_one,val_cons,Nat.mul_comm v]
 have:=Nat.mul_le_mul_left W64 (show val c (j+1) n+1≤v from h)
 rw [Nat.mul_add,Nat.mul_one] at this
 omega
theorem Row.beside {w w':World} {bv Nv bh Nh ov oh n:Nat} {cv ch ch':Nat→Nat} (hv:Row w bv Nv cv) (hh:Row w bh Nh ch) (hh':Row w' bh Nh ch') (hk:Keep (·=bh) w w') (hs:∀i,i<oh→ch' i=ch i) (hl:bv=bh→ov+n≤oh) (hN:ov+n≤Nv) :
  ∃cv',Row w' bv Nv cv'∧∀i,i<n→cv' (ov+i)=cv (ov+i):=by
 by_cases e:bv=bh
 ·subst e
  have hl:=hl rfl
  obtain⟨rfl,h2⟩:=hv.same hh
  exact⟨ch',hh',fun i hi=>by rw [hs _ (by omega),h2 _ (by omega)]⟩
 ·exact⟨cv,hv.keep hk e,fun _ _=>rfl⟩
theorem Keep.andThen {A C S:Nat→Prop} {a b c:World} (h1:Keep A a b) (h2:Keep C b c) (hA:∀k,k<a.heap.size→A k→S k) (hC:∀k,k<a.heap.size→C k→S k):Keep S a c:=
 ⟨h2.os.trans h1.os,h2.tape.trans h1.tape,h2.output.trans h1.output,Nat.le_trans h1.size h2.size,fun k hk hs=>
  (h2.block k (Nat.lt_of_lt_of_le hk h1.size) fun h=>hs (hC k hk h)).trans (h1.block k hk fun h=>hs (hA k hk h))⟩
theorem round_in {c c' q':Nat→Nat} {m n j v T:Nat} (hjm:j<m) (hv0:0<v) (h1:∀i,i<j→c' i=c i) (h2:val c' j n=val c j (n+1)%v) (h3:c' (j+n)=0) (h4:∀i,j+(n+1)≤i→c' i=c i)
  (hrel:T=val q' (j+1) (m-(j+1))*v*W64^(j+1)+val c 0 (j+1+n)) (hz:∀i,j+1+n≤i→i<m+n→c i=0) :
  val c' j n<v∧T=val (upd q' j (val c j (n+1) / v)) j (m-j)*v*W64^j+val c' 0 (j+n)∧∀i,j+n≤i→i<m+n→c' i=0:=by
 refine⟨by rw [h2];exact Nat.mod_lt _ hv0,?_,fun i hi hi2=>?_⟩
 ·obtain⟨t,ht⟩:∃t,m-j=t+1:=⟨m-j-1,by omega⟩
  rw [ht,val_cons,upd_same,val_upd _ _ _ _ _ (by omega),val_add c' 0 j n,Nat.zero_add,h2,val_ext (c:=c') (d:=c) (o:=0) (p:=0) (n:=j) (fun i hi=>by rw [Nat.zero_add];exact h1 i hi)]
  rw [hrel,show m-(j+1)=t from by omega,show j+1+n=j+(n+1) from by omega,val_add c 0 j (n+1),Nat.zero_add]
  have hm:=Nat.div_add_mod (val c j (n+1)) v
  generalize val c j (n+1)=U at *
  generalize U / v=q at *
  generalize U%v=r at *
  subst hm
  rw [Nat.pow_succ]
  grind
 ·by_cases e:i=j+n
  ·rw [e,h3]
  ·rw [h4 i (by omega)]
   exact hz i (by omega) hi2
theorem round_top {c c' q' cu:Nat→Nat} {m n v:Nat} (h1:∀i,i<m→c' i=c i) (h2:val c' m n=val c m n) (hc:∀i,i<m+n→c i=cu i) (hU:val cu m n<v) :
  val c' m n<v∧val cu 0 (m+n)=val q' m (m-m)*v*W64^m+val c' 0 (m+n)∧∀i,m+n≤i→i<m+n→c' i=0:=by
 have e:=val_ext (c:=c) (d:=cu) (o:=m) (p:=m) (n:=n) (fun i hi=>hc _ (by omega))
 refine⟨by rw [h2,e];exact hU,?_,fun i hi hi2=>by omega⟩
 rw [Nat.sub_self]
 simp only [val,Nat.zero_mul,Nat.zero_add]
 rw [val_add,val_add,Nat.zero_add,h2,e,val_ext (c:=c') (d:=cu) (o:=0) (p:=0) (n:=m) (fun i hi=>by rw [Nat.zero_add,h1 i hi,hc i (by omega)])]
theorem divBasic_any (w:World) (p L:Nat) (B:Nat→Prop) (hs:Stk w p L B) (hL:L<1000) (bq kq m:Nat) (cq:Nat→Nat) (hq:Row w bq kq cq) (hmq:m≤kq) (bu ku n:Nat) (cu:Nat→Nat) (hu:Row w bu ku cu) (hmu:m+n≤ku)
  (bv ov kv Nv:Nat) (cv:Nat→Nat) (hv:Row w bv Nv cv) (hvl:ov+n≤Nv) (_hvk:n≤kv) (huq:bu≠bq) (huv:bu≠bv) (hqv:bq≠bv) (hBu:¬B bu) (hBq:¬B bq) (hBv:B bv→ov+n≤L)
  (hn2:2≤n) (hn:n<40) (hm0:0<m) (hm:m<1000) (htop:9223372036854775808≤cv (ov+n-1)) (hU:val cu m n<val cv ov n) (hku:ku≤9223372036854775807) (_hkq:kq≤9223372036854775807) :
  Calls Tryz.prog 150 #[.slice (some ⟨bq,0,none⟩) m kq,.pointer (some ⟨p,0,none⟩),.slice (some ⟨bu,0,none⟩) (m+n) ku,.slice (some ⟨bv,ov,none⟩) n kv] w fun e w'=>
   ∃cq' cu' B',e = .returned (.tuple #[])∧Row w' bq kq cq'∧Row w' bu ku cu'∧val cu 0 (m+n)=val cq' 0 m*val cv ov n+val cu' 0 n∧val cu' 0 n<val cv ov n∧(∀i,n≤i→i<m+n→cu' i=0) ∧
    Keep (fun k=>k=bq∨k=bu∨B k) w w'∧Stk w' p L B'∧(∀k,B' k→B k∨w.heap.size≤k):=by
 obtain⟨vn1,hvn1⟩:∃x,cv (ov+n-1)=x:=⟨_,rfl⟩
 obtain⟨vn2,hvn2⟩:∃x,cv (ov+n-2)=x:=⟨_,rfl⟩
 have HV1:Hid (cv (ov+n-1)=vn1):=hvn1
 have HV2:Hid (cv (ov+n-2)=vn2):=hvn2
 have HT:Hid (9223372036854775808≤vn1):=by rw [hvn1] at htop;exact htop
 have HU:Hid (val cu m n<val cv ov n):=hU
 clear hvn1 hvn2 htop hU
 have HBv:Hid (B bv→ov+n≤L):=hBv
 clear hBv
 go_enter_defers Tryz.func150,Tryz.ntmps150
 go_wp2_with fail
 refine(save_any _ p L B hs).mono ?_
 rintro e w0 ⟨rfl,rfl⟩
 go_wp2_with fail
 rw [show ((n:Int)+1)=((n+1:Nat):Int) from by omega]
 refine(nat_any _ p L (n+1) B hs (by omega) (by omega) (by omega)).mono ?_
 rintro e w1 ⟨bh,oh,Nh,ch,kh,L1,B1,rfl,hkh,hh,hhl,hs1,hL1,hL2,hBh,hk1,hB1,hlent,hbh⟩
 obtain⟨cv1,hv1,hcv1,hovl⟩:=hlent bv Nv cv hv
 have hu1:=hu.keep hk1 hBu
 have hq1:=hq.keep hk1 hBq
 have hv1lt:vn1<W64:=by rw [← HV1.out];exact hv.lt _ (by omega)
 have hv2lt:vn2<W64:=by rw [← HV2.out];exact hv.lt _ (by omega)
 have HCV1:Hid (∀i,i<n→cv1 (ov+i)=cv (ov+i)):=by
  intro i hi
  by_cases hb:B bv
  ·exact hcv1 _ (by have:=HBv.out hb;omega)
  ·exact(hv1.same (hv.keep hk1 hb)).2 _ (by omega)
 have fv1:w1.cell? ⟨bv,ov+(n-1),none⟩=some (.int .u64 (vn1:Int)):=by
  rw [hv1.cell (by omega),HCV1.out _ (by omega),← HV1.out,Nat.add_sub_assoc (by omega)]
 have HCV:Hid _:=hcv1
 have HOV:Hid _:=hovl
 clear hcv1 hovl
 go_wp2_with fail
 refine(reciprocalWord_any vn1 hv1lt (by have:=HT.out;omega) _).mono ?_
 rintro e w2 ⟨rfl,hk2⟩
 have hdv:=fun x1 x0 (hx1:x1<vn1) (hx0:x0<W64) w=>divWW_any x1 x0 vn1 (by omega) hv1lt hx1 hx0 w
 generalize recN (vn1*2^nlzN vn1)=rec at *
 have HDV:Hid _:=hdv
 clear hdv
 go_wp2_with fail
 go_loopg [13,14] (m+1) (fun g ujn j wr=>∃(u0:Nat) (c q' ch' cv':Nat→Nat),ujn = .int .u64 (u0:Int)∧j = .int .i64 ((g:Int)-1)∧Row wr bu ku c∧Row wr bq kq q'∧Row wr bh Nh ch'∧Row wr bv Nv cv'∧(∀i,i<n→cv' (ov+i)=cv (ov+i)) ∧
  Keep (fun k=>k=bq∨k=bu∨k=bh) w1 wr∧((g=m+1∧u0=0∧∀i,i<m+n→c i=cu i)∨(g≤m∧u0=c (g+n-1)∧val c g n<val cv ov n∧val cu 0 (m+n)=val q' g (m-g)*val cv ov n*W64^g+val c 0 (g+n)∧∀i,g+n≤i→i<m+n→c i=0)))
 case atStart=>
  exact⟨0,cu,cq,ch,cv1,rfl,by congr 1;omega,hu1.keep hk2 id,hq1.keep hk2 id,hh.keep hk2 id,hv1.keep hk2 id,HCV1.out,hk2.mono fun _ _ h=>h.elim,.inl ⟨rfl,rfl,fun _ _=>rfl⟩⟩
 case round=>
  obtain⟨u0,c,q',ch',cv',rfl,hj,hu2,hq2,hh2,hv2,hcv2,hkeep,hrel⟩:=hrel
  have HC:Hid (∀i,i<n→cv' (ov+i)=cv (ov+i)):=hcv2
  have HREL:Hid _:=hrel
  clear hrel hcv2
  rcases gk with _ | j
  ·subst hj
   clear HV1 HV2
   go_wp2_with fail
   have hst:Stk wr p L1 B1:=hs1.rowed hkeep (by
    rintro k hk (rfl | rfl | rfl)
    ·rcases hB1 k hk with h | h
     ·exact absurd h hBq
     ·have:=hq.inHeap;omega
    ·rcases hB1 k hk with h | h
     ·exact absurd h hBu
     ·have:=hu.inHeap;omega
    ·rfl) hh hh2
   have nq:¬B1 bq:=fun h=>by
    rcases hB1 _ h with h | h
    ·exact hBq h
    ·have:=hq.inHeap;omega
   have nu:¬B1 bu:=fun h=>by
    rcases hB1 _ h with h | h
    ·exact hBu h
    ·have:=hu.inHeap;omega
   refine leaves_cons (f:=129) (args:=#[.pointer (some ⟨p,0,none⟩),.int .i64 (L:Int)]) (by simp) (by simp [go_sem]) ?_
   refine(restore_d .returning _ p L1 L B1 hst hL1).mono ?_
   rintro e u' w' ⟨rfl,rfl,hs',hk'⟩
   refine⟨_,results_none rfl _ _ _,q',c,B1,rfl,hq2.keep hk' nq,hu2.keep hk' nu,?_⟩
   rcases HREL.out with⟨h1,_⟩ | ⟨_,h2,h3,h4,h5⟩
   ·exact absurd h1 (by omega)
   ·rw [Nat.sub_zero,Nat.pow_zero,Nat.mul_one,Nat.zero_add] at h4
    rw [Nat.zero_add] at h5
    refine⟨h4,h3,h5,?_,hs',hB1⟩
    refine(hk1.andThen hkeep (S:=fun k=>k=bq∨k=bu∨B k) (fun k _ h=>.inr (.inr h)) ?_).andThen hk' (fun k _ h=>h) ?_
    ·rintro k hk (h | h | rfl)
     ·exact .inl h
     ·exact .inr (.inl h)
     ·rcases hbh with h | h
      ·exact .inr (.inr h)
      ·omega
    ·intro k hk h
     rcases hB1 k h with h | h
     ·exact .inr (.inr h)
     ·omega
  ·have hj2:=hj.trans (show Value.int .i64 (((j+1:Nat):Int)-1) = .int .i64 (j:Int) from by congr 1;omega)
   clear hj
   subst hj2
   have hjm:j≤m:=by
    rcases HREL.out with h | h
    ·omega
    ·omega
   have HUW:Hid (val c j n+u0*W64^n<val cv ov n*W64):=by
    rcases HREL.out with⟨h1,h2,h3⟩ | ⟨h1,h2,h3,_⟩
    ·obtain rfl:j=m:=by omega
     rw [h2,Nat.zero_mul,Nat.add_zero,val_ext (c:=c) (d:=cu) (o:=j) (p:=j) (n:=n) (fun i hi=>h3 _ (by omega))]
     exact Nat.lt_of_lt_of_le HU.out (Nat.le_mul_of_pos_right _ W64_pos)
    ·exact sec_lt (by rw [h2];congr 1;omega) (hu2.lt j (by omega)) h3
   have hu0le:u0≤vn1:=top_le hn2 HV1.out (fun i hi=>hv.lt _ (by omega)) HUW.out
   go_upto_if 51 with fail
   go_cut [15] from 45 to 200 (fun qh wx=>∃q:Nat,qh = .int .u64 (q:Int)∧q<W64∧(val c j n+u0*W64^n) / val cv ov n≤q∧q≤(val c j n+u0*W64^n) / val cv ov n+1∧Keep Nope wr wx)
   case first=>
    by_cases h0:u0=vn1
    ·have tb:((u0:Int) != (vn1:Int))=false:=by simp [h0]
     have H0:Hid (u0=vn1):=h0
     clear h0
     go_wp2_with fail
     go_meet
     obtain⟨g1,g2⟩:=max_fit hn2 HV1.out HT.out (fun i hi=>hv.lt _ (by omega)) H0.out HUW.out
     exact⟨W64-1,rfl,by decide,g1,g2,Keep.refl _ _⟩
    ·have tb:((u0:Int) != (vn1:Int))=true:=by rw [bne_iff_ne];omega
     have hu0:u0<vn1:=by omega
     clear h0
     have fu1:wr.cell? ⟨bu,j+n-1,none⟩=some (.int .u64 (c (j+n-1):Nat)):=hu2.cell (by omega)
     have fu2:wr.cell? ⟨bu,j+n-2,none⟩=some (.int .u64 (c (j+n-2):Nat)):=hu2.cell (by omega)
     have fv2:wr.cell? ⟨bv,ov+(n-2),none⟩=some (.int .u64 (vn2:Int)):=by
      rw [hv2.cell (by omega),HC.out _ (by omega),← HV2.out,Nat.add_sub_assoc (by omega)]
     have hu1lt:=hu2.lt (j+n-1) (by omega)
     have hu2lt:=hu2.lt (j+n-2) (by omega)
     generalize hu1e:c (j+n-1)=u1 at *
     generalize hu2e:c (j+n-2)=u2' at *
     have HU1:Hid (c (j+n-1)=u1):=hu1e
     have HU2:Hid (c (j+n-2)=u2'):=hu2e
     clear hu1e hu2e
     have b1:((j:Int)+(n:Int)-1).toNat=j+n-1:=by omega
     have b2:((j:Int)+(n:Int)-2).toNat=j+n-2:=by omega
     have b3:((n:Int)-2).toNat=n-2:=by omega
     go_wp2_with fail
     refine Calls.mono (oo HDV u0 u1 hu0 hu1lt _) ?_
     rintro e w3 ⟨rfl,hk3⟩
     have hqlt:=qW_lt hu0 hu1lt
     have HQR:=qr_eq u0 u1 vn1 (by omega)
     have HGI:Hid _:=guess_init (u0:=u0) (u1:=u1) (vn1:=vn1) (vn2:=vn2) (by omega) hu2lt
     generalize qW u0 u1 vn1=qh0 at *
     generalize rW u0 u1 vn1=rh0 at *
     have hrh0:rh0<vn1:=HQR.2
     have HQR1:Hid (qh0*vn1+rh0=u0*W64+u1):=HQR.1
     clear HQR
     have fv2':=hk3.cell fv2 id
     have fu2':=hk3.cell fu2 id
     go_wp2_with fail
     refine(mulWW_any qh0 vn2 hqlt hv2lt _).mono ?_
     rintro e w4 ⟨rfl,rfl⟩
     have hml:=mulLo_lt qh0 vn2 0
     have hmh:=mulHi_lt hqlt hv2lt W64_pos
     have HME:Hid _:=mul_eq qh0 vn2 0
     generalize mulLo qh0 vn2 0=x20 at *
     generalize mulHi qh0 vn2 0=x10 at *
     go_wp2_with fail
     go_loopg [15,16,18,19] qh0 (fun g s15 s16 s18 s19 wx=>∃(rh a b:Nat),s15 = .int .u64 (g:Int)∧s16 = .int .u64 (rh:Int)∧s18 = .int .u64 (a:Int)∧s19 = .int .u64 (b:Int)∧rh<W64∧a<W64∧b<W64∧g<W64∧wx=w3 ∧
      Hid (g*vn1+rh=u0*W64+u1∧a*W64+b=g*vn2∧(u0*W64+u1)*W64+u2'<(g+1)*(vn1*W64+vn2)))
     case atStart=>
      exact⟨rh0,x10,x20,rfl,rfl,rfl,rfl,by omega,hmh,hml,hqlt,rfl,HQR1.out,by have:=HME.out;rw [Nat.mul_comm x10 W64];omega,HGI.out⟩
     case round=>
      obtain⟨rh,a,b,rfl,rfl,rfl,rfl,hrh,ha,hb,hg,rfl,hI⟩:=hrel
      go_wp2_with fail
      refine(greaterThan_any a b rh u2' hb hu2lt _).mono ?_
      rintro e w5 ⟨rfl,rfl⟩
      obtain⟨hI1,hI2,hI3⟩:=hI.out
      rw [hI2]
      by_cases hgt:rh*W64+u2'<gk*vn2
      ·have hd:decide (rh*W64+u2'<gk*vn2)=true:=decide_eq_true hgt
       rw [hd]
       have HM:Hid _:=guess_more hI1 hgt
       have hg0:gk≠0:=by rintro rfl;simp at hgt
       obtain⟨g,rfl⟩:∃g,gk=g+1:=⟨gk-1,by omega⟩
       have z1:IntKind.u64.wrap (((g+1:Nat):Int)-1)=(g:Int):=wrap_is (by omega) (by omega)
       have z1':=wrap_id g (by omega)
       have hI1':g*vn1+(rh+vn1)=u0*W64+u1:=by rw [← hI1,Nat.succ_mul];omega
       have HI1:Hid (g*vn1+(rh+vn1)=u0*W64+u1):=hI1'
       have HI2:Hid (a*W64+b=(g+1)*vn2):=hI2
       clear hI1' hI1 hI2 hI3 hI hd hgt hg0
       by_cases ho:rh+vn1<W64
       ·have z2:IntKind.u64.wrap ((rh:Int)+(vn1:Int))=((rh+vn1:Nat):Int):=wrap_is (by omega) ho
        have z3:vn1≤rh+vn1:=by omega
        by_cases hx:b<vn2
        ·have ha0:a≠0:=by
          rintro rfl
          have:=HI2.out
          rw [Nat.zero_mul,Nat.succ_mul] at this
          omega
         obtain⟨a,rfl⟩:∃a',a=a'+1:=⟨a-1,by omega⟩
         have z4:IntKind.u64.wrap (((a+1:Nat):Int)-1)=(a:Int):=wrap_is (by omega) (by omega)
         have z4':=wrap_id a (by omega)
         have z5:IntKind.u64.wrap ((b:Int)-(vn2:Int))=((b+W64-vn2:Nat):Int):=by
          rw [IntKind.wrap_u64]
          have hW:W64=18446744073709551616:=rfl
          omega
         obtain⟨rh2,hr2⟩:∃x,rh+vn1=x:=⟨_,rfl⟩
         obtain⟨b2,hb2⟩:∃x,b+W64-vn2=x:=⟨_,rfl⟩
         rw [hr2] at z2 z3 ho HI1
         rw [hb2] at z5
         have hb2':b2<W64:=by omega
         have HB2:Hid (b+W64-vn2=b2):=hb2
         clear hr2 hb2
         go_wp2_with fail
         go_roundg g
         case measure=>omega
         case rel=>
          refine⟨rh2,a,b2,rfl,rfl,rfl,rfl,ho,by omega,hb2',by omega,rfl,HI1.out,?_,oo HM⟩
          have h1:=HI2.out
          have h2:=HB2.out
          rw [Nat.succ_mul,Nat.succ_mul] at h1
          omega
        ·have z5:IntKind.u64.wrap ((b:Int)-(vn2:Int))=((b-vn2:Nat):Int):=wrap_is (by omega) (by omega)
         have hx':vn2≤b:=by omega
         obtain⟨rh2,hr2⟩:∃x,rh+vn1=x:=⟨_,rfl⟩
         obtain⟨b2,hb2⟩:∃x,b-vn2=x:=⟨_,rfl⟩
         rw [hr2] at z2 z3 ho HI1
         rw [hb2] at z5
         have hb2':b2<W64:=by omega
         have HB2:Hid (b-vn2=b2):=hb2
         clear hr2 hb2 hx
         go_wp2_with fail
         go_roundg g
         case measure=>omega
         case rel=>
          refine⟨rh2,a,b2,rfl,rfl,rfl,rfl,ho,by omega,hb2',by omega,rfl,HI1.out,?_,oo HM⟩
          have h1:=HI2.out
          have h2:=HB2.out
          rw [Nat.succ_mul] at h1
          omega
       ·obtain⟨r3,hr3⟩:∃x,rh+vn1-W64=x:=⟨_,rfl⟩
        have z2:IntKind.u64.wrap ((rh:Int)+(vn1:Int))=(r3:Int):=by
         rw [IntKind.wrap_u64]
         have hW:W64=18446744073709551616:=rfl
         omega
        have z3:r3<vn1:=by omega
        have HGE:Hid (W64≤rh+vn1):=Nat.le_of_not_lt ho
        clear ho hr3
        go_wp2_with fail
        go_meet
        have hover:g*vn2≤(rh+vn1)*W64+u2':=by
         have a1:g*vn2≤W64*W64:=Nat.mul_le_mul (by omega) (by omega)
         have a2:=Nat.mul_le_mul_right W64 HGE.out
         omega
        obtain⟨g1,g2⟩:=guess_fit' hn2 HV1.out HV2.out HU1.out HU2.out HT.out (fun i hi=>hv.lt _ (by omega)) (fun i hi=>hu2.lt _ (by omega)) (by omega) (guess_done HI1.out hover) (oo HM)
        exact⟨g,rfl,by omega,g1,g2,hk3⟩
      ·have hd:decide (rh*W64+u2'<gk*vn2)=false:=decide_eq_false hgt
       rw [hd]
       have HDN:Hid _:=guess_done hI1 (Nat.le_of_not_lt hgt)
       have HI3:Hid _:=hI3
       clear hI hI1 hI2 hI3 hgt
       go_wp2_with fail
       go_meet
       obtain⟨g1,g2⟩:=guess_fit' hn2 HV1.out HV2.out HU1.out HU2.out HT.out (fun i hi=>hv.lt _ (by omega)) (fun i hi=>hu2.lt _ (by omega)) hg (oo HDN) (oo HI3)
       exact⟨gk,rfl,hg,g1,g2,hk3⟩
   case rest=>
    obtain⟨qh,rfl,hqh,hg1,hg2,hkx⟩:=hcut
    have HCW:Hid (∀i,i<m+n→c i<W64):=fun i hi=>hu2.lt i (by omega)
    have hu3:=hu2.keep hkx id
    have hq3:=hq2.keep hkx id
    have hh3:=hh2.keep hkx id
    have hv3:=hv2.keep hkx id
    have hkw:Keep (fun k=>k=bq∨k=bu∨k=bh) w1 wc:=hkeep.trans (hkx.mono fun _ _ h=>h.elim)
    clear hkx hu2 hh2 hv2 hkeep
    have l1:Later bh oh bv ov n:=fun e=>.inr (by have:=(oo HOV) e;have:=HBv.out (e▸this.2);omega)
    go_wp2_with fail
    refine(mulAddVWW_any wc bh oh kh Nh ch' bv ov kv Nv cv' qh 0 n hh3 hv3 (by omega) (by omega) (by omega) hqh W64_pos l1).mono ?_
    rintro e w4 ⟨r,ch4,rfl,hh4,hk4,hrlt,hout4,hval4⟩
    obtain⟨cv4,hv4,hcv4⟩:=Row.beside hv3 hh3 hh4 hk4 (fun i hi=>hout4 i (.inl hi)) (fun e=>by have:=(oo HOV) e;have:=HBv.out (e▸this.2);omega) hvl
    have fz:=hh4.cell (i:=oh+n) (by omega)
    have ff:=hh4.frozen (oh+n)
    have HV4:Hid (val ch4 oh n+r*W64^n=val cv ov n*qh):=by rw [hval4,val_ext (c:=cv') (d:=cv) (o:=ov) (p:=ov) (n:=n) HC.out,Nat.add_zero];rfl
    have HO4:Hid _:=hout4
    have HC4:Hid _:=hcv4
    clear hval4 hout4 hcv4
    have hubh:bu≠bh:=fun e=>by
     rcases hbh with h | h
     ·exact hBu (e▸h)
     ·have:=hu.inHeap;omega
    have hqbh:bq≠bh:=fun e=>by
     rcases hbh with h | h
     ·exact hBq (e▸h)
     ·have:=hq.inHeap;omega
    have hu4:=hu3.keep hk4 hubh
    have hq4:=hq3.keep hk4 hqbh
    by_cases hjm2:j=m
    ·subst hjm2
     have HT0:Hid (u0=0∧∀i,i<j+n→c i=cu i):=by
      rcases HREL.out with⟨_,h2,h3⟩ | ⟨h1,_⟩
      ·exact⟨h2,h3⟩
      ·omega
     have HUC:Hid (val c j n<val cv ov n):=by
      show _<_
      rw [val_ext (c:=c) (d:=cu) (o:=j) (p:=j) (n:=n) (fun i hi=>HT0.out.2 _ (by omega))];exact HU.out
     have hvl2:val cv ov n<W64^n:=val_lt fun i hi=>hv.lt _ (by omega)
     simp only [HT0.out.1,Nat.zero_mul,Nat.add_zero] at hg1 hg2
     have hqh1:qh≤1:=by rw [Nat.div_eq_of_lt HUC.out] at hg2;exact hg2
     have hr0:r=0:=by
      refine Nat.eq_zero_of_not_pos fun h=>?_
      have h1:=HV4.out
      have h2:=Nat.mul_le_mul_right (W64^n) h
      have h3:=Nat.mul_le_mul_left (val cv ov n) hqh1
      rw [Nat.mul_one] at h3
      omega
     subst hr0
     have HVL:Hid (val cv ov n<W64^n):=hvl2
     clear hvl2
     have q2:(j:Int)+(n:Int)≤(ku:Int):=by omega
     have q3:¬ku=j:=by omega
     have q4:((j:Int)+(n:Int)).toNat=j+n:=by omega
     have q5:j+n-j=n:=by omega
     have q6:(0:Int)≤(j:Int)+(n:Int):=by omega
     have q7:(j:Int)≤(j:Int)+(n:Int):=by omega
     have q9:IntKind.i64.wrap ((j:Int)+(n:Int))=(j:Int)+(n:Int):=IntWalk.i64_in _ (by omega)
     have q10:j+n≤ku:=by omega
     have q11:j≤j+n:=by omega
     have q15:(j:Int)+(n:Int)<(j:Int)+((n:Int)+1):=by omega
     have q16:n≤kh:=by omega
     go_wp2_with fail
     go_still_tail 15,(by kernel_rfl)
     have hh5:=(hh4.set (oh+n) 0 hrlt).drew
     have hu5:=(hu4.setOther (p:=⟨bh,oh+n,none⟩) (fun e=>hubh e.symm) (.int .u64 0)).drew
     have hq5:=(hq4.setOther (p:=⟨bh,oh+n,none⟩) (fun e=>hqbh e.symm) (.int .u64 0)).drew
     have hk5:=((Keep.refl (·=bh) w4).setCell (p:=⟨bh,oh+n,none⟩) rfl (.int .u64 0)).drew
     obtain⟨cv5,hv5,hcv5⟩:=Row.beside (oh:=oh) (ov:=ov) (n:=n) hv4 hh4 hh5 hk5 (fun i hi=>upd_ne ch4 0 (show i≠oh+n by omega)) (fun e=>by have:=(oo HOV) e;have:=HBv.out (e▸this.2);omega) hvl
     have HC5:Hid (∀i,i<n→cv5 (ov+i)=cv (ov+i)):=fun i hi=>(hcv5 i hi).trans ((oo HC4 i hi).trans (HC.out i hi))
     have HH5:Hid (val (upd ch4 (oh+n) 0) oh n=val cv ov n*qh):=by
      show _=_
      rw [val_upd _ _ _ _ _ (by omega)];have:=HV4.out;rw [Nat.zero_mul] at this;exact this
     clear hcv5
     change wpList _ _ _ _ _ (World.drew (w4.setCell ⟨bh,oh+n,none⟩ (.int .u64 0)))
     generalize World.drew (w4.setCell ⟨bh,oh+n,none⟩ (.int .u64 0))=w5 at *
     have hkw5:=hkw.trans ((hk4.trans hk5).mono (S':=fun k=>k=bq∨k=bu∨k=bh) fun _ _ h=>.inr (.inr h))
     generalize upd ch4 (oh+n) 0=ch5 at *
     clear hk4 hk5 hh4 hu4 hq4 hv4 hkw fz ff hu3 hq3 hh3 hv3
     go_wp2_with fail
     clear q2 q4 q5 q6 q7 q9 q10 q11 q15
     refine(subVV_any _ bu j (ku-j) ku c bu j (ku-j) ku c bh oh kh Nh ch5 n hu5 hu5 hh5 hmu hmu (by omega) (by omega) (fun _=>.inl (Nat.le_refl _)) (fun e=>absurd e.symm hubh)).mono ?_
     rintro e w6 ⟨b,c6,rfl,hu6,hk6,hb,hout6,hval6⟩
     have hq6:=hq5.keep hk6 (fun e=>huq e.symm)
     have hh6:=hh5.keep hk6 (fun e=>hubh e.symm)
     have hv6:=hv5.keep hk6 (fun e=>huv e.symm)
     have hkw6:=hkw5.trans (hk6.mono (S':=fun k=>k=bq∨k=bu∨k=bh) fun _ _ h=>.inr (.inl h))
     have HO6:Hid _:=hout6
     obtain⟨HD1,HD2⟩:=digit_top (lo:=val c6 j n) HVL.out HUC.out hg1 hg2 (val_lt fun i hi=>hu6.lt _ (by omega)) (by rw [← HH5.out];exact hval6) hb
     have HD1:Hid _:=HD1
     have HD2:Hid _:=HD2
     clear hval6 hout6 hkw5 hq5 hh5 hv5 hu5 hg1 hg2 hk6
     have b1:((j:Int)+(n:Int)-1).toNat=j+n-1:=by omega
     by_cases hb0:b=0
     ·have tb:((b:Int) != 0)=false:=by simp [hb0]
      have HB0:Hid (b=0):=hb0
      obtain⟨d1,d2⟩:=oo HD1 hb0
      subst d1
      have D2:Hid (val c6 j n=val c j n):=d2
      clear hb0 d2
      have fj:w6.cell? ⟨bu,j+n-1,none⟩=some (.int .u64 (c6 (j+n-1):Nat)):=hu6.cell (by omega)
      go_wp2_with fail
      go_roundg j
      case measure=>omega
      case rel=>
       clear b1 fj tb
       refine⟨c6 (j+n-1),c6,q',ch5,cv5,rfl,rfl,hu6,hq6,hh6,hv6,HC5.out,hkw6,.inr ⟨Nat.le_refl _,rfl,?_⟩⟩
       exact round_top (fun i hi=>oo HO6 i (.inl hi)) D2.out HT0.out.2 HU.out
     ·have tb:((b:Int) != 0)=true:=by rw [bne_iff_ne];omega
      have HB0:Hid (b≠0):=hb0
      obtain⟨d1,d2⟩:=oo HD2 hb0
      subst d1
      have D2:Hid _:=d2
      clear hb0 d2
      have r2:(j:Int)+(n:Int)≤(ku:Int):=by omega
      have r4:((j:Int)+(n:Int)).toNat=j+n:=by omega
      have r5:j+n-j=n:=by omega
      have r6:(0:Int)≤(j:Int)+(n:Int):=by omega
      have r7:(j:Int)≤(j:Int)+(n:Int):=by omega
      have r9:IntKind.i64.wrap ((j:Int)+(n:Int))=(j:Int)+(n:Int):=IntWalk.i64_in _ (by omega)
      have r10:j+n≤ku:=by omega
      have r11:j≤j+n:=by omega
      go_wp2_with fail
      go_still_tail 13,(by kernel_rfl)
      change wpList _ _ _ _ _ (World.drew w6)
      go_wp2_with fail
      clear r2 r4 r5 r6 r7 r10 r11 tb
      refine(addVV_any _ bu j (ku-j) ku c6 bu j (ku-j) ku c6 bv ov kv Nv cv5 n hu6.drew hu6.drew hv6.drew hmu hmu hvl (by omega) (fun _=>.inl (Nat.le_refl _)) (fun e=>absurd e.symm huv)).mono ?_
      rintro e w7 ⟨cc,c7,rfl,hu7,hk7,hcc,hout7,hval7⟩
      have hk7:=hk7.undrew
      have hq7:=hq6.keep hk7 (fun e=>huq e.symm)
      have hh7:=hh6.keep hk7 (fun e=>hubh e.symm)
      have hv7:=hv6.keep hk7 (fun e=>huv e.symm)
      have hkw7:=hkw6.trans (hk7.mono (S':=fun k=>k=bq∨k=bu∨k=bh) fun _ _ h=>.inr (.inl h))
      have HV7:Hid (val c7 j n=val c j n):=oo D2 (val c7 j n) cc (val_lt fun i hi=>hu7.lt _ (by omega)) hcc (by rw [hval7,val_ext (c:=cv5) (d:=cv) (o:=ov) (p:=ov) (n:=n) HC5.out])
      have HO7:Hid (∀i,i<j→c7 i=c i):=fun i hi=>(hout7 i (.inl hi)).trans (oo HO6 i (.inl hi))
      clear hval7 hout7 hk7 hu6 hq6 hh6 hv6 hkw6
      have fj:w7.cell? ⟨bu,j+n-1,none⟩=some (.int .u64 (c7 (j+n-1):Nat)):=hu7.cell (by omega)
      go_wp2_with fail
      go_roundg j
      case measure=>omega
      case rel=>
       clear b1 fj
       refine⟨c7 (j+n-1),c7,q',ch5,cv5,rfl,rfl,hu7,hq7,hh7,hv7,HC5.out,hkw7,.inr ⟨Nat.le_refl _,rfl,?_⟩⟩
       exact round_top HO7.out HV7.out HT0.out.2 HU.out
    ·have hjlt:j<m:=by omega
     have q1:((j:Int)+((n:Int)+1))≤(m:Int)+(n:Int):=by omega
     go_wp2_with fail
     have q2:(j:Int)+((n:Int)+1)≤(ku:Int):=by omega
     have q3:¬ku=j:=by omega
     have q4:((j:Int)+((n:Int)+1)).toNat=j+(n+1):=by omega
     have q5:j+(n+1)-j=n+1:=by omega
     have q6:(0:Int)≤(j:Int)+((n:Int)+1):=by omega
     have q7:(j:Int)≤(j:Int)+((n:Int)+1):=by omega
     have q8:n+1≤kh:=hkh
     have q9:IntKind.i64.wrap ((j:Int)+((n:Int)+1))=(j:Int)+((n:Int)+1):=IntWalk.i64_in _ (by omega)
     have q10:j+(n+1)≤ku:=by omega
     have q11:j≤j+(n+1):=by omega
     have q12:(0:Int)≤(n:Int)+1:=by omega
     have q13:((n:Int)+1).toNat=n+1:=by omega
     have q14:(n:Int)+1≤(kh:Int):=by omega
     go_still_tail 15,(by kernel_rfl)
     have hh5:=(hh4.set (oh+n) r hrlt).drew
     have hu5:=(hu4.setOther (p:=⟨bh,oh+n,none⟩) (fun e=>hubh e.symm) (.int .u64 (r:Nat))).drew
     have hq5:=(hq4.setOther (p:=⟨bh,oh+n,none⟩) (fun e=>hqbh e.symm) (.int .u64 (r:Nat))).drew
     have hk5:=((Keep.refl (·=bh) w4).setCell (p:=⟨bh,oh+n,none⟩) rfl (.int .u64 (r:Nat))).drew
     obtain⟨cv5,hv5,hcv5⟩:=Row.beside (oh:=oh) (ov:=ov) (n:=n) hv4 hh4 hh5 hk5 (fun i hi=>upd_ne ch4 r (show i≠oh+n by omega)) (fun e=>by have:=(oo HOV) e;have:=HBv.out (e▸this.2);omega) hvl
     have HC5:Hid (∀i,i<n→cv5 (ov+i)=cv (ov+i)):=fun i hi=>(hcv5 i hi).trans ((oo HC4 i hi).trans (HC.out i hi))
     have HH5:Hid (val (upd ch4 (oh+n) r) oh (n+1)=val cv ov n*qh):=by
      show _=_
      rw [val_one,upd_same,val_upd _ _ _ _ _ (by omega)];exact HV4.out
     clear hcv5
     change wpList _ _ _ _ _ (World.drew (w4.setCell ⟨bh,oh+n,none⟩ (.int .u64 (r:Nat))))
     generalize World.drew (w4.setCell ⟨bh,oh+n,none⟩ (.int .u64 (r:Nat)))=w5 at *
     have hkw5:=hkw.trans ((hk4.trans hk5).mono (S':=fun k=>k=bq∨k=bu∨k=bh) fun _ _ h=>.inr (.inr h))
     generalize upd ch4 (oh+n) r=ch5 at *
     clear hk4 hk5 hh4 hu4 hq4 hv4 hkw fz ff hu3 hq3 hh3 hv3
     go_wp2_with fail
     refine(subVV_any _ bu j (ku-j) ku c bu j (ku-j) ku c bh oh kh Nh ch5 (n+1) hu5 hu5 hh5 (by omega) (by omega) (by omega) (by omega) (fun _=>.inl (Nat.le_refl _)) (fun e=>absurd e.symm hubh)).mono ?_
     rintro e w6 ⟨b,c6,rfl,hu6,hk6,hb,hout6,hval6⟩
     have hq6:=hq5.keep hk6 (fun e=>huq e.symm)
     have hh6:=hh5.keep hk6 (fun e=>hubh e.symm)
     have hv6:=hv5.keep hk6 (fun e=>huv e.symm)
     have hkw6:=hkw5.trans (hk6.mono (S':=fun k=>k=bq∨k=bu∨k=bh) fun _ _ h=>.inr (.inl h))
     have HO6:Hid _:=hout6
     have HV6:Hid (val c6 j (n+1)+val cv ov n*qh=val c j (n+1)+b*W64^(n+1)):=by rw [← HH5.out];exact hval6
     clear hval6 hout6 hkw5 hq5 hh5 hv5 hu5
     have fj:w6.cell? ⟨bu,j+n-1,none⟩=some (.int .u64 (c6 (j+n-1):Nat)):=hu6.cell (by omega)
     have fzq:=hq6.cell (i:=j) (by omega)
     have ffq:=hq6.frozen j
     have b1:((j:Int)+(n:Int)-1).toNat=j+n-1:=by omega
     have b2:((j:Int)==(m:Int))=false:=beq_eq_false_iff_ne.2 (by omega)
     by_cases hb0:b=0
     ·have tb:((b:Int) != 0)=false:=by simp [hb0]
      have HB0:Hid (b=0):=hb0
      clear hb0
      go_wp2_with fail
      go_roundg j
      case measure=>omega
      case rel=>
       refine⟨c6 (j+n-1),c6,upd q' j qh,ch5,cv5,rfl,rfl,hu6.setOther (fun e=>huq e.symm) _,hq6.set j qh hqh,hh6.setOther (fun e=>hqbh e) _,hv6.setOther (fun e=>hqv e) _,HC5.out,hkw6.setCell (.inl rfl) _,.inr ⟨hjm,rfl,?_⟩⟩
       clear q1 q2 q3 q4 q5 q6 q7 q8 q9 q10 q11 q12 q13 q14 b1 b2 tb fj fzq ffq
       rcases HREL.out with⟨h1,_⟩ | ⟨_,h2,h3,h4,h5⟩
       ·exact absurd (Nat.succ.inj h1) hjm2
       have hv0:0<val cv ov n:=Nat.lt_of_le_of_lt (Nat.zero_le _) HU.out
       have hu0e:u0=c (j+n):=by rw [h2];congr 1;omega
       have hvl2:val cv ov n<W64^n:=val_lt fun i hi=>hv.lt _ (by omega)
       rw [hu0e,← val_one] at hg1 hg2
       obtain⟨d1,_⟩:=digit_in hvl2 hv0 hg1 hg2 (val_one c6 j n) (val_lt fun i hi=>hu6.lt _ (by omega)) (oo HV6) hb (hu6.lt _ (by omega)) (val_lt fun i hi=>HCW.out _ (by omega))
       obtain⟨d1,d2,d3⟩:=d1 HB0.out
       rw [d1]
       exact round_in hjlt hv0 (fun i hi=>oo HO6 i (.inl hi)) d2 d3 (fun i hi=>oo HO6 i (.inr hi)) h4 h5
     ·have tb:((b:Int) != 0)=true:=by rw [bne_iff_ne];omega
      have HB0:Hid (b≠0):=hb0
      clear hb0
      have r2:(j:Int)+(n:Int)≤(ku:Int):=by omega
      have r4:((j:Int)+(n:Int)).toNat=j+n:=by omega
      have r5:j+n-j=n:=by omega
      have r6:(0:Int)≤(j:Int)+(n:Int):=by omega
      have r7:(j:Int)≤(j:Int)+(n:Int):=by omega
      have r9:IntKind.i64.wrap ((j:Int)+(n:Int))=(j:Int)+(n:Int):=IntWalk.i64_in _ (by omega)
      have r10:j+n≤ku:=by omega
      have r11:j≤j+n:=by omega
      go_wp2_with fail
      go_still_tail 13,(by kernel_rfl)
      change wpList _ _ _ _ _ (World.drew w6)
      go_wp2_with fail
      clear q1 q2 q3 q4 q5 q6 q7 q8 q9 q10 q11 q12 q13 q14 r2 r5 r6 r7 r10 r11 tb fj fzq ffq b1
      have R4:Hid (((j:Int)+(n:Int)).toNat=j+n):=r4
      clear r4
      refine(addVV_any _ bu j (ku-j) ku c6 bu j (ku-j) ku c6 bv ov kv Nv cv5 n hu6.drew hu6.drew hv6.drew (by omega) (by omega) hvl (by omega) (fun _=>.inl (Nat.le_refl _)) (fun e=>absurd e.symm huv)).mono ?_
      rintro e w7 ⟨cc,c7,rfl,hu7,hk7,hcc,hout7,hval7⟩
      have hk7:=hk7.undrew
      have hq7:=hq6.keep hk7 (fun e=>huq e.symm)
      have hh7:=hh6.keep hk7 (fun e=>hubh e.symm)
      have hv7:=hv6.keep hk7 (fun e=>huv e.symm)
      have hkw7:=hkw6.trans (hk7.mono (S':=fun k=>k=bq∨k=bu∨k=bh) fun _ _ h=>.inr (.inl h))
      have hct:c7 (j+n)=c6 (j+n):=hout7 _ (.inr (Nat.le_refl _))
      have HALL:Hid (qh=val c j (n+1) / val cv ov n+1∧val c7 j n=val c j (n+1)%val cv ov n∧(c7 (j+n)+cc)%W64=0∧(∀i,i<j→c7 i=c i)∧(∀i,j+(n+1)≤i→c7 i=c i)):=by
       rcases HREL.out with⟨h1,_⟩ | ⟨_,h2,h3,h4,h5⟩
       ·exact absurd (Nat.succ.inj h1) hjm2
       have hv0:0<val cv ov n:=Nat.lt_of_le_of_lt (Nat.zero_le _) HU.out
       have hu0e:u0=c (j+n):=by rw [h2];congr 1;omega
       have hvl2:val cv ov n<W64^n:=val_lt fun i hi=>hv.lt _ (by omega)
       rw [hu0e,← val_one] at hg1 hg2
       obtain⟨_,d1⟩:=digit_in hvl2 hv0 hg1 hg2 (val_one c6 j n) (val_lt fun i hi=>hu6.lt _ (by omega)) (oo HV6) hb (hu6.lt _ (by omega)) (val_lt fun i hi=>HCW.out _ (by omega))
       obtain⟨d1,d2⟩:=d1 HB0.out
       obtain⟨d3,d4⟩:=d2 (val c7 j n) cc (val_lt fun i hi=>hu7.lt _ (by omega)) hcc (by rw [hval7,val_ext (c:=cv5) (d:=cv) (o:=ov) (p:=ov) (n:=n) HC5.out])
       refine⟨d1,d3,by rw [hct];exact d4,fun i hi=>?_,fun i hi=>?_⟩
       ·rw [hout7 i (.inl hi)];exact oo HO6 i (.inl hi)
       ·rw [hout7 i (.inr (by omega))];exact oo HO6 i (.inr hi)
      clear hval7 hout7 hct hk7 HV6 HO6 hu6 hq6 hh6 hv6 hkw6 hg1 hg2 hk6
      have ft:=hu7.cell (i:=j+n) (by omega)
      have fft:=hu7.frozen (j+n)
      have htlt:=hu7.lt (j+n) (by omega)
      have hu8:=hu7.set (j+n) 0 W64_pos
      have hq8:=hq7.setOther (p:=⟨bu,j+n,none⟩) huq (.int .u64 ((0:Nat):Int))
      have hh8:=hh7.setOther (p:=⟨bu,j+n,none⟩) hubh (.int .u64 ((0:Nat):Int))
      have hv8:=hv7.setOther (p:=⟨bu,j+n,none⟩) huv (.int .u64 ((0:Nat):Int))
      have hkw8:=hkw7.setCell (p:=⟨bu,j+n,none⟩) (.inr (.inl rfl)) (.int .u64 ((0:Nat):Int))
      obtain⟨t7,ht7⟩:∃x,c7 (j+n)=x:=⟨_,rfl⟩
      rw [ht7] at ft htlt
      have z1:IntKind.u64.wrap ((t7:Int)+(cc:Int))=0:=by
       have h:=HALL.out.2.2.1
       rw [ht7] at h
       rw [IntKind.wrap_u64]
       unfold W64 at h
       omega
      obtain⟨qd,hqd⟩:∃x,val c j (n+1) / val cv ov n=x:=⟨_,rfl⟩
      have hq1:qh=qd+1:=by rw [← hqd];exact HALL.out.1
      subst hq1
      have HQD:Hid (val c j (n+1) / val cv ov n=qd):=hqd
      clear hqd ht7
      have z2:IntKind.u64.wrap (((qd+1:Nat):Int)-1)=(qd:Int):=wrap_is (by omega) (by omega)
      have z2':=wrap_id qd (by omega)
      have z3:(n:Int)<(n:Int)+1:=by omega
      have r4:=R4.out
      go_upto_region 33 with fail
      clear r4
      rw [Int.natCast_zero] at hu8 hq8 hh8 hv8 hkw8
      generalize w7.setCell ⟨bu,j+n,none⟩ (.int .u64 0)=w8 at *
      have fj:w8.cell? ⟨bu,j+n-1,none⟩=some (.int .u64 (c7 (j+n-1):Nat)):=by rw [hu8.cell (by omega),upd_ne _ _ (by omega)]
      have fzq:=hq8.cell (i:=j) (by omega)
      have ffq:=hq8.frozen j
      have b1:((j:Int)+(n:Int)-1).toNat=j+n-1:=by omega
      clear z1 ft fft htlt hu7 hq7 hh7 hv7 hkw7
      go_wp2_with fail
      go_roundg j
      case measure=>omega
      case rel=>
       clear b1 fj fzq ffq
       refine⟨c7 (j+n-1),upd c7 (j+n) 0,upd q' j qd,ch5,cv5,rfl,rfl,hu8.setOther (fun e=>huq e.symm) _,hq8.set j qd (by omega),hh8.setOther (fun e=>hqbh e) _,hv8.setOther (fun e=>hqv e) _,HC5.out,hkw8.setCell (.inl rfl) _,.inr ⟨hjm,by rw [upd_ne _ _ (by omega)],?_⟩⟩
       rcases HREL.out with⟨h1,_⟩ | ⟨_,h2,h3,h4,h5⟩
       ·exact absurd (Nat.succ.inj h1) hjm2
       have hv0:0<val cv ov n:=Nat.lt_of_le_of_lt (Nat.zero_le _) HU.out
       obtain⟨d1,d2,d3,d4,d5⟩:=HALL.out
       rw [← HQD.out]
       exact round_in hjlt hv0 (fun i hi=>by rw [upd_ne _ _ (by omega)];exact d4 i hi) (by rw [val_upd _ _ _ _ _ (by omega)];exact d2) (upd_same _ _ _) (fun i hi=>by rw [upd_ne _ _ (by omega)];exact d5 i hi) h4 h5
end Go.Proofs.YtofkehhflkdabaaGreatDoor
