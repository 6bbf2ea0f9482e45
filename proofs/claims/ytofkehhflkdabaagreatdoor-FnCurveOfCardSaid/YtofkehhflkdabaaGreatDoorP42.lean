/- A part of the proof of FnCurveOf. -/
import Derived.Test.YtofkehhflkdabaaGreatDoorP40
import Derived.Test.YtofkehhflkdabaaGreatDoorP41
import Derived.Recover
set_option maxRecDepth 100000
set_option maxHeartbeats 8000000
namespace Go.Proofs.YtofkehhflkdabaaGreatDoor
open Go Go.RowKit
def oidN (k:Nat):List Int:=match k with | 0=>[43,129,4,0,10] | 1=>[43,36,3,3,2,8,1,1,7] | _=>[43,36,3,3,2,8,1,1,11]
def Fnd (k:Nat) (w w':World) (p:Nat):Prop:=∃g T q,w.heap.size≤p∧p<w'.heap.size∧w'.cell? ⟨p,0,none⟩=some (nameOf k)∧w'.cell? ⟨p,2,none⟩=some (.iface 63 (pt g))∧w'.cell? ⟨g,0,none⟩=some (.iface T (pt q))∧Crv k w w' T q∧Keep Nope w w'
theorem bytesIn_oid {w:World} {d:Nat} {k:Nat} (hk:k<3) (h:Blk w d (oidOf k) 5):Lib.BytesIn w (some ⟨d,0,none⟩) (oidN k).length (oidN k):=by
 refine Lib.BytesIn.of_cells fun i hi=>?_
 have e:(⟨d,0,none⟩:Addr).add i=⟨d,i,none⟩:=by simp [Addr.add];intro h;exact h.symm
 rw [e,h.cell i]
 rcases(by omega:k=0∨k=1∨k=2) with rfl | rfl | rfl<;>(simp only [oidN,List.length_cons,List.length_nil] at hi;rcases i with _ | _ | _ | _ | _ | _ | _ | _ | _ | i<;>first | rfl | omega)
theorem findOid_any (w:World) (bE:Addr) (hE:w.cell? ⟨0,0,none⟩=some (.iface 220 (.pointer (some bE)))) (hb:Base (· < w.heap.size) w) (k:Nat) (hk:k<3) (o kd:Nat) (a:Option Addr)
  (ho:w.cell? ⟨o,0,none⟩=some (.slice a (oidN k).length kd)) (_hd:Lib.BytesIn w a (oidN k).length (oidN k)) (hd':∀w',Keep Nope w w'→Lib.BytesIn w' a (oidN k).length (oidN k)) :
  Calls Tryz.prog 22 #[.iface 57 (pt o)] w fun e w'=>∃p,e = .returned (pt p)∧Fnd k w w' p:=by
 have HD:Hid _:=hd'
 have HC:Hid _:=curves_any w bE hE hb
 clear _hd hd' hE hb
 go_enter Tryz.func22,Tryz.ntmps22
 go_wp2_with fail
 refine(oidBytes_any w o _ ho).mono ?_
 rintro e w0 ⟨rfl,rfl⟩
 go_wp2_with fail
 refine Calls.mono (oo HC) ?_
 rintro e w1 ⟨b,rfl,o0,g0,q0,o1,g1,q1,o2,g2,q2,o3,g3,kw,⟨T,hB⟩,i0,r0,i1,r1,i2,r2⟩
 have KW:Hid _:=kw
 have HB:Hid (Blk w1 b _ T):=hB
 have I0:Hid _:=i0
 have I1:Hid _:=i1
 have I2:Hid _:=i2
 have R0:Hid (Crv 0 w0 w1 92 q0):=r0
 have R1:Hid (Crv 1 w0 w1 100 q1):=r1
 have R2:Hid (Crv 2 w0 w1 100 q2):=r2
 clear kw hB i0 i1 i2 r0 r1 r2 ho
 go_wp2_with fail
 go_loopw [10] (fun s10 wr=>∃i:Nat,s10 = .int .i64 (i:Int)∧i≤k∧Keep Nope w1 wr) (fun s10 _=>k-(intOf s10).toNat)
 case atStart=>exact⟨0,rfl,by omega,Keep.refl _ _⟩
 case round=>
  obtain⟨i,rfl,hi,kr⟩:=hrel
  have hb:=(oo HB).keep kr id
  have KR:Hid _:=kr
  rcases(by omega:i=0∨i=1∨i=2) with rfl | rfl | rfl
  ·have y0:=hb.cell 0
   have y1:=hb.cell 1
   have y2:=hb.cell 2
   simp only [Ls5,Ls3,Ls4,nameOf] at y0 y1 y2
   clear hb kr
   go_wp2_with fail
   have kn:Keep Nope w1 (wr.alloc (.cells #[nameOf 0,pt o0,.iface 63 (pt g0)] 67 (0,0))):=(oo KR).alloc _
   have bn:=Blk.new wr #[nameOf 0,pt o0,.iface 63 (pt g0)] 67
   simp only [nameOf] at kn bn
   have hin:=bn.inHeap
   generalize hwn:wr.alloc _=wn at *
   generalize hqn:wr.heap.size=p at *
   have hp:w1.heap.size≤p:=hqn▸(oo KR).size
   obtain⟨d,hs,hdb⟩:=(oo I0).oid
   refine(oidBytes_any wn o0 _ (kn.cell hs id)).mono ?_
   rintro e w2 ⟨rfl,rfl⟩
   have HDB:Hid (Blk w2 d (oidOf 0) 5):=hdb.keep kn id
   have KN:Hid _:=kn
   have BN:Hid (Blk w2 p _ 67):=bn
   have HP:Hid (w1.heap.size≤p∧p<w2.heap.size):=⟨hp,hin⟩
   clear hs hdb kn bn y0 y1 y2 hwn hqn hp hin
   go_wp2_with fail
   refine(Tryz.bytes_Equal_all _ _ _ _ _ _ (oidN 0) (oidN k) w2 rfl rfl (bytesIn_oid (k:=0) (by omega) (oo HDB)) ((oo HD) _ ((oo KW).trans (oo KN)))).mono ?_
   rintro e w3 ⟨rfl,hw⟩
   subst hw
   rcases(by omega:k=0∨0<k) with rfl | hlt
   ·have e:(Lib.bytesOf (oidN 0)==Lib.bytesOf (oidN 0))=true:=by decide +kernel
    rw [e]
    clear e
    go_wp2_with fail
    go_ret
    refine⟨p,rfl,g0,92,q0,Nat.le_trans (oo KW).size (oo HP).1,(oo HP).2,(oo BN).cell 0,(oo BN).cell 2,(oo KN).cell (oo I0).cur id,(oo R0).nope (oo KN),(oo KW).trans (oo KN)⟩
   ·have e:(Lib.bytesOf (oidN 0)==Lib.bytesOf (oidN k))=false:=by
     rcases(by omega:k=1∨k=2) with rfl | rfl<;>decide +kernel
    rw [e]
    clear e
    go_wp2_with fail
    go_roundw
    case rel=>exact⟨1,by go_num,by omega,oo KN⟩
    case measure=>simp [intOf]<;>omega
  ·have y0:=hb.cell 3
   have y1:=hb.cell 4
   have y2:=hb.cell 5
   simp only [Ls5,Ls3,Ls4,nameOf] at y0 y1 y2
   clear hb kr
   go_wp2_with fail
   have kn:Keep Nope w1 (wr.alloc (.cells #[nameOf 1,pt o1,.iface 63 (pt g1)] 67 (0,0))):=(oo KR).alloc _
   have bn:=Blk.new wr #[nameOf 1,pt o1,.iface 63 (pt g1)] 67
   simp only [nameOf] at kn bn
   have hin:=bn.inHeap
   generalize hwn:wr.alloc _=wn at *
   generalize hqn:wr.heap.size=p at *
   have hp:w1.heap.size≤p:=hqn▸(oo KR).size
   obtain⟨d,hs,hdb⟩:=(oo I1).oid
   refine(oidBytes_any wn o1 _ (kn.cell hs id)).mono ?_
   rintro e w2 ⟨rfl,rfl⟩
   have HDB:Hid (Blk w2 d (oidOf 1) 5):=hdb.keep kn id
   have KN:Hid _:=kn
   have BN:Hid (Blk w2 p _ 67):=bn
   have HP:Hid (w1.heap.size≤p∧p<w2.heap.size):=⟨hp,hin⟩
   clear hs hdb kn bn y0 y1 y2 hwn hqn hp hin
   go_wp2_with fail
   refine(Tryz.bytes_Equal_all _ _ _ _ _ _ (oidN 1) (oidN k) w2 rfl rfl (bytesIn_oid (k:=1) (by omega) (oo HDB)) ((oo HD) _ ((oo KW).trans (oo KN)))).mono ?_
   rintro e w3 ⟨rfl,hw⟩
   subst hw
   rcases(by omega:k=1∨1<k) with rfl | hlt
   ·have e:(Lib.bytesOf (oidN 1)==Lib.bytesOf (oidN 1))=true:=by decide +kernel
    rw [e]
    clear e
    go_wp2_with fail
    go_ret
    refine⟨p,rfl,g1,100,q1,Nat.le_trans (oo KW).size (oo HP).1,(oo HP).2,(oo BN).cell 0,(oo BN).cell 2,(oo KN).cell (oo I1).cur id,(oo R1).nope (oo KN),(oo KW).trans (oo KN)⟩
   ·have e:(Lib.bytesOf (oidN 1)==Lib.bytesOf (oidN k))=false:=by
     rcases(by omega:k=2) with rfl<;>decide +kernel
    rw [e]
    clear e
    go_wp2_with fail
    go_roundw
    case rel=>exact⟨2,by go_num,by omega,oo KN⟩
    case measure=>simp [intOf]<;>omega
  ·have y0:=hb.cell 6
   have y1:=hb.cell 7
   have y2:=hb.cell 8
   simp only [Ls5,Ls3,Ls4,nameOf] at y0 y1 y2
   clear hb kr
   go_wp2_with fail
   have kn:Keep Nope w1 (wr.alloc (.cells #[nameOf 2,pt o2,.iface 63 (pt g2)] 67 (0,0))):=(oo KR).alloc _
   have bn:=Blk.new wr #[nameOf 2,pt o2,.iface 63 (pt g2)] 67
   simp only [nameOf] at kn bn
   have hin:=bn.inHeap
   generalize hwn:wr.alloc _=wn at *
   generalize hqn:wr.heap.size=p at *
   have hp:w1.heap.size≤p:=hqn▸(oo KR).size
   obtain⟨d,hs,hdb⟩:=(oo I2).oid
   refine(oidBytes_any wn o2 _ (kn.cell hs id)).mono ?_
   rintro e w2 ⟨rfl,rfl⟩
   have HDB:Hid (Blk w2 d (oidOf 2) 5):=hdb.keep kn id
   have KN:Hid _:=kn
   have BN:Hid (Blk w2 p _ 67):=bn
   have HP:Hid (w1.heap.size≤p∧p<w2.heap.size):=⟨hp,hin⟩
   clear hs hdb kn bn y0 y1 y2 hwn hqn hp hin
   go_wp2_with fail
   refine(Tryz.bytes_Equal_all _ _ _ _ _ _ (oidN 2) (oidN k) w2 rfl rfl (bytesIn_oid (k:=2) (by omega) (oo HDB)) ((oo HD) _ ((oo KW).trans (oo KN)))).mono ?_
   rintro e w3 ⟨rfl,hw⟩
   subst hw
   rcases(by omega:k=2∨2<k) with rfl | hlt
   ·have e:(Lib.bytesOf (oidN 2)==Lib.bytesOf (oidN 2))=true:=by decide +kernel
    rw [e]
    clear e
    go_wp2_with fail
    go_ret
    refine⟨p,rfl,g2,100,q2,Nat.le_trans (oo KW).size (oo HP).1,(oo HP).2,(oo BN).cell 0,(oo BN).cell 2,(oo KN).cell (oo I2).cur id,(oo R2).nope (oo KN),(oo KW).trans (oo KN)⟩
   ·omega
theorem St.text {F:Nat→Prop} {w:World} {L:List (Nat×E)} {p:Nat} {s:ByteArray} (h:St F w L) (hp:w.cell? ⟨p,0,none⟩=some (.string s)):St (fun b=>F b∨b=p) w L:=by
 obtain⟨hb,C,e,hg,hd⟩:=h
 refine⟨⟨fun b h=>?_,.inl hb.three,.inl hb.four,.inl hb.five,.inl hb.six,hb.c3,hb.c4,hb.c5,hb.c6⟩,C,e,fun c hc=>?_,hd⟩
 ·rcases h with h | rfl
  ·exact hb.lt b h
  ·exact World.block_lt_of_cell? w _ hp
 ·have g:=hg c hc
  refine⟨g.two,g.nat,fun b hb h=>?_⟩
  rcases h with h | rfl
  ·exact g.out b hb h
  ·rcases hb with rfl | hb
   ·rw [g.two.cell0] at hp;cases hp
   ·obtain⟨n,x,hr⟩:=g.nat.row b hb
    obtain⟨T,hT⟩:=hr.blk
    unfold World.cell? at hp
    rw [hT] at hp
    simp only [Array.getElem?_ofFn] at hp
    split at hp<;>simp at hp
def Gk (k m x y:Nat):Prop:=match k with
 | 0=>x<Ec.K.p∧y<Ec.K.p∧Ec.lin Ec.K.a (some (Ec.K.gx,Ec.K.gy)) m=some (Ec.fi Ec.K.p x,Ec.fi Ec.K.p y)
 | 1=>x<Ec.B.p∧y<Ec.B.p∧Ec.lin Ec.B.ra (some (Ec.B.rx,Ec.B.ry)) m=some (Ec.fi Ec.B.p x,Ec.fi Ec.B.p y)
 | _=>x<Ec.C.p∧y<Ec.C.p∧Ec.lin Ec.C.ra (some (Ec.C.rx,Ec.C.ry)) m=some (Ec.fi Ec.C.p x,Ec.fi Ec.C.p y)
def Out (T n:Nat) (w w2:World) (p:Nat) (nm:ByteArray) (q a b x y:Nat):Prop:=∃(F:Nat→Prop) (L:List (Nat×E)),St F w2 L∧(a,ofI (x:Int))∈L∧(b,ofI (y:Int))∈L∧(x=0→y≠0)∧F p∧(∀b,b<w.heap.size→F b)∧Keep Nope w w2∧w2.cell? ⟨p,0,none⟩=some (.string nm) ∧
 ∀w3,Keep Nope w2 w3→Calls Tryz.prog 25 #[.iface T (pt q),pt a,pt b] w3 fun e w'=>∃bb c,e = .returned (.slice (some ⟨bb,0,none⟩) (2*n+1) (2*n+1))∧Rwb w' bb (2*n+1) c∧c 0=4∧(∀j,j<n→c (1+j)=byt x (n-1-j))∧(∀j,j<n→c (1+n+j)=byt y (n-1-j))∧Keep (fun b=>¬F b) w3 w'
namespace Ec
section
variable {p:Nat} [NeZero p]
theorem on_int0 {a b:Fin p} (ha:a=0) {x y bI:Int} (eb:fi p bI=b) (h:on a b (some (fi p x,fi p y))):(x*x*x+bI)%(p:Int)=(y*y)%(p:Int):=by
 have h:fi p y*fi p y=fi p x*fi p x*fi p x+a*fi p x+b:=h
 rw [ha,Fin.zero_mul,Fin.add_zero,← eb] at h
 exact fi_eq.1 (by rw [fi_add,fi_mul,fi_mul,fi_mul,h])
theorem on_int3 {a b:Fin p} (ha:a = -3) {x y bI:Int} (eb:fi p bI=b) (h:on a b (some (fi p x,fi p y))):(x*x*x-3*x+bI)%(p:Int)=(y*y)%(p:Int):=by
 have h:fi p y*fi p y=fi p x*fi p x*fi p x+a*fi p x+b:=h
 rw [ha,← eb] at h
 refine fi_eq.1 ?_
 rw [fi_add,fi_sub,fi_mul,fi_mul,fi_mul,fi_mul,h,show fi p (3:Int)=(3:Fin p) from fi_nat 3]
 grind
theorem on_nz {a b:Fin p} (hb:b≠0) {x y:Int} (h:on a b (some (fi p x,fi p y))) (hx:x=0):y≠0:=by
 rintro rfl
 subst hx
 have h:fi p 0*fi p 0=fi p 0*fi p 0*fi p 0+a*fi p 0+b:=h
 rw [fi_zero,Fin.mul_zero,Fin.mul_zero,Fin.mul_zero,Fin.zero_add,Fin.zero_add] at h
 exact hb h.symm
end
end Ec
theorem base0_any (w w1:World) (p q:Nat) (nm:ByteArray) (hB:Bcv w w1 q 115792089237316195423570985008687907853269984665640564039457584007908834671663 7 55066263022277343669578718895168534326250603453777594175500187360389116729240 32670510020758816978083085130507043184471273380659243275938904335757337482424) (hp:w1.cell? ⟨p,0,none⟩=some (.string nm)) (bk ok m kk:Nat) (c:Nat→Nat) (hb:Bts w1 bk ok m c) (hbk:bk<w.heap.size) (hm:m<1000) (h0:0<preN c m) (hN:preN c m<Ec.K.N) :
  Calls Tryz.prog 217 #[pt q,.slice (some ⟨bk,ok,none⟩) m kk] w1 fun e w2=>∃a b x y:Nat,e = .returned (.tuple #[pt a,pt b])∧Out 92 32 w w2 p nm q a b x y∧Gk 0 (preN c m) x y:=by
 obtain⟨F0,L,nm',pP,pN,pB,pX,pY,kw,hst,hF,fq,hblk,mP,mB,mX,mY⟩:=hB
 have h1:=hst.text hp
 refine(bitBase_any _ w1 L h1 q pP pX pY _ _ Ec.K.p Ec.K.a Ec.K.b Ec.K.gx Ec.K.gy Ec.K.N Ec.K.good Ec.K.ha mX mY mP (hblk.cell 1) (hblk.cell 4) (hblk.cell 5) (.inl fq) ⟨by decide +kernel⟩ ⟨by decide +kernel⟩ ⟨by decide +kernel⟩ (by decide +kernel) (by decide +kernel) bk ok m kk c hb (.inl (hF _ hbk)) hm h0 hN).mono ?_
 rintro e w2 ⟨a,b,X,Y,rfl,h2,k2,hl,bX,bY⟩
 obtain⟨x,rfl⟩:=Int.eq_ofNat_of_zero_le bX.1
 obtain⟨y,rfl⟩:=Int.eq_ofNat_of_zero_le bY.1
 have hon:=Ec.on_lin Ec.K.hp Ec.K.two Ec.K.on_G (preN c m)
 rw [hl] at hon
 have sP:Sz 256 (Ec.K.p:Int):=⟨by decide +kernel⟩
 have hcv:=Ec.on_int0 Ec.K.ha (bI:=7) (by decide +kernel) hon
 refine⟨a,b,x,y,rfl,⟨_,_,h2,.head _,.tail _ (.head _),fun e=>?_,.inr rfl,fun b h=>.inl (hF b h),Keep.freshN kw k2 (fun b h=>Nat.le_of_not_lt fun h'=>h (.inl (hF _ h'))),k2.cell hp (fun h=>h (.inr rfl)),fun w3 k3=>?_⟩,by omega,by omega,hl⟩
 ·have:=Ec.on_nz (by decide +kernel) hon (by omega)
  omega
 ·have k13:=k2.trans (k3.mono fun _ _ h=>h.elim)
  have hbl:=hblk.keep k13 (fun h=>h (.inl fq))
  have hx256:x<256^32:=Nat.lt_trans (by omega:x<Ec.K.p) (by decide +kernel)
  have hy256:y<256^32:=Nat.lt_trans (by omega:y<Ec.K.p) (by decide +kernel)
  refine mar92_32 _ w3 ((a,ofI (x:Int))::(b,ofI (y:Int))::L) q a b x y (.head _) (.tail _ (.head _)) hx256 hy256 ((sP.below bX).mono (by omega)) ((sP.below bY).mono (by omega)) ?_ ?_
  ·refine poc92_any _ w3 _ (h2.keep k3) q a b x y (.head _) (.tail _ (.head _)) (fun e=>Ec.on_nz (by decide +kernel) hon e) ?_
   exact bitOn_any _ w3 _ (h2.keep k3) q pP pB a b x y _ Ec.K.p (.head _) (.tail _ (.head _)) (tl2 mP) (tl2 mB) (hbl.cell 1) (hbl.cell 3) (.inl fq) (sP.below bX) (sP.below bY) ⟨by decide +kernel⟩ sP hcv
  ·intro w4 k4
   have hb4:=hbl.keep k4 (fun h=>h (.inl fq))
   refine(bitParams_any w4 q pP pN pX pY nm' 256 (hb4.cell 0) (hb4.cell 1) (hb4.cell 2) (hb4.cell 4) (hb4.cell 5) (hb4.cell 6)).mono ?_
   rintro e w5 ⟨q5,rfl,-,hb5,k5⟩
   exact⟨q5,rfl,hb5.cell 5,k5⟩
theorem base1_any (w w1:World) (p q:Nat) (nm:ByteArray) (hB:Rcv w w1 q 76884956397045344220809746629001649093037950200943055203735601445031516197751 46214326585032579593829631435610129746736367449296220983687490401182983727876 74138526386500101787937404544159543470173440588427591213843535686338908194292 20625154686056605250529482107801269759951443923312408063441227608803066104254 28123428220785514697368680836677246068983143020657302029348941275368411959024 58239756104430253693729960745254188089333581754121613125284549297740921489762 256) (hp:w1.cell? ⟨p,0,none⟩=some (.string nm)) (bk ok m kk:Nat) (c:Nat→Nat) (hb:Bts w1 bk ok m c) (hbk:bk<w.heap.size) (hm:m<1000) (h0:0<preN c m) (hN:preN c m<Ec.B.N) :
  Calls Tryz.prog 226 #[pt q,.slice (some ⟨bk,ok,none⟩) m kk] w1 fun e w2=>∃a b x y:Nat,e = .returned (.tuple #[pt a,pt b])∧Out 100 32 w w2 p nm q a b x y∧Gk 1 (preN c m) x y:=by
 obtain⟨F0,L,pc,pr,pP,pB,pX,pY,q1,q2,q3,q4,kw,hst,hF,fq,fc,fr,c0,c1,c4,c5,c6,c7,d0,d2,d3,d4,e0,e5,mP,mB,mX,mY,m1,m2,m3,m4⟩:=hB
 have h1:=hst.text hp
 have sP:Sz 384 (Ec.B.p:Int):=⟨by decide +kernel⟩
 have hBase:=ellBaseMult_any _ w1 L h1 pc pP pB pX pY _ _ _ Ec.B.p Ec.B.a Ec.B.b Ec.B.gx Ec.B.gy Ec.B.N Ec.B.good Ec.B.ha mX mY mP mB d0 d2 d3 d4 (.inl fc) ⟨by decide +kernel⟩ sP (by decide +kernel) (by decide +kernel) (by decide +kernel) (by decide +kernel) (by decide +kernel) bk ok m kk c hb (.inl (hF _ hbk)) hm h0 hN
 refine(rBase_any _ w1 L q pc pr pP q3 q4 _ _ _ Ec.B.p (fun X Y=>Ec.lin Ec.B.a (some (Ec.B.gx,Ec.B.gy)) (preN c m)=some (Ec.fi Ec.B.p X,Ec.fi Ec.B.p Y)) m3 m4 mP c0 c1 e0 c6 c7 (.inl fq) (.inl fr) ⟨by decide +kernel⟩ ⟨by decide +kernel⟩ sP hBase).mono ?_
 rintro e w2 ⟨a,b,X,Y,x,y,L',rfl,h2,hin,ma,mb,k2,hl,ex,ey⟩
 have bX:0≤x∧x<(Ec.B.p:Int):=by rw [ex];exact⟨Int.emod_nonneg _ (by decide +kernel),Int.emod_lt_of_pos _ (by decide +kernel)⟩
 have bY:0≤y∧y<(Ec.B.p:Int):=by rw [ey];exact⟨Int.emod_nonneg _ (by decide +kernel),Int.emod_lt_of_pos _ (by decide +kernel)⟩
 have fx:Ec.fi Ec.B.p x=Ec.fi Ec.B.p X*(Ec.B.zi*Ec.B.zi):=by
  rw [ex,Ec.fi_mod,Ec.fi_mul,show Ec.fi Ec.B.p ((58239756104430253693729960745254188089333581754121613125284549297740921489762^2%76884956397045344220809746629001649093037950200943055203735601445031516197751:Nat):Int)=Ec.B.zi*Ec.B.zi from by decide +kernel]
 have fy:Ec.fi Ec.B.p y=Ec.fi Ec.B.p Y*(Ec.B.zi*Ec.B.zi*Ec.B.zi):=by
  rw [ey,Ec.fi_mod,Ec.fi_mul,show Ec.fi Ec.B.p ((58239756104430253693729960745254188089333581754121613125284549297740921489762^3%76884956397045344220809746629001649093037950200943055203735601445031516197751:Nat):Int)=Ec.B.zi*Ec.B.zi*Ec.B.zi from by decide +kernel]
 have hl2:=Ec.Good.twist_lin Ec.B.good Ec.B.zi0 Ec.B.ra_eq Ec.B.rg_eq hl
 rw [← fx,← fy] at hl2
 have hon:=Ec.on_lin Ec.B.hp Ec.B.two Ec.B.rgood.hG (preN c m)
 rw [hl2] at hon
 have hon1:=Ec.on_lin Ec.B.hp Ec.B.two Ec.B.on_G (preN c m)
 rw [hl] at hon1
 have hcv:∀X' Y':Int,X'=x*((28123428220785514697368680836677246068983143020657302029348941275368411959024^2%76884956397045344220809746629001649093037950200943055203735601445031516197751:Nat):Int)%(Ec.B.p:Int)→Y'=y*((28123428220785514697368680836677246068983143020657302029348941275368411959024^3%76884956397045344220809746629001649093037950200943055203735601445031516197751:Nat):Int)%(Ec.B.p:Int)→(X'*X'*X' - 3*X'+((46214326585032579593829631435610129746736367449296220983687490401182983727876:Nat):Int))%(Ec.B.p:Int)=(Y'*Y')%(Ec.B.p:Int):=by
  intro X' Y' eX eY
  have gX:Ec.fi Ec.B.p X'=Ec.fi Ec.B.p X:=by
   rw [eX,Ec.fi_mod,Ec.fi_mul,fx,Fin.mul_assoc,show Ec.B.zi*Ec.B.zi*Ec.fi Ec.B.p ((28123428220785514697368680836677246068983143020657302029348941275368411959024^2%76884956397045344220809746629001649093037950200943055203735601445031516197751:Nat):Int)=1 from by decide +kernel,Fin.mul_one]
  have gY:Ec.fi Ec.B.p Y'=Ec.fi Ec.B.p Y:=by
   rw [eY,Ec.fi_mod,Ec.fi_mul,fy,Fin.mul_assoc,show Ec.B.zi*Ec.B.zi*Ec.B.zi*Ec.fi Ec.B.p ((28123428220785514697368680836677246068983143020657302029348941275368411959024^3%76884956397045344220809746629001649093037950200943055203735601445031516197751:Nat):Int)=1 from by decide +kernel,Fin.mul_one]
  exact Ec.on_int3 Ec.B.ha (b:=Ec.B.b) (by decide +kernel) (by rw [gX,gY];exact hon1)
 obtain⟨x,rfl⟩:=Int.eq_ofNat_of_zero_le bX.1
 obtain⟨y,rfl⟩:=Int.eq_ofNat_of_zero_le bY.1
 refine⟨a,b,x,y,rfl,⟨_,_,h2,ma,mb,fun e=>?_,.inr rfl,fun b h=>.inl (hF b h),Keep.freshN kw k2 (fun b h=>Nat.le_of_not_lt fun h'=>h (.inl (hF _ h'))),k2.cell hp (fun h=>h (.inr rfl)),fun w3 k3=>?_⟩,by omega,by omega,hl2⟩
 ·have:=Ec.on_nz (by decide +kernel) hon (by omega)
  omega
 ·have k13:=k2.trans (k3.mono fun _ _ h=>h.elim)
  have hx256:x<256^32:=Nat.lt_trans (by omega:x<Ec.B.p) (by decide +kernel)
  have hy256:y<256^32:=Nat.lt_trans (by omega:y<Ec.B.p) (by decide +kernel)
  refine mar100_32 _ w3 L' q a b x y ma mb hx256 hy256 (sP.below bX) (sP.below bY) ?_ ?_
  ·refine poc100_any _ w3 L' (h2.keep k3) q a b x y ma mb (fun e=>Ec.on_nz (by decide +kernel) hon e) ?_
   exact rOn_any _ w3 L' (h2.keep k3) q pc pr pP pB q1 q2 a b x y _ _ _ Ec.B.p ma mb (hin _ m1) (hin _ m2) (hin _ mP) (hin _ mB) (k13.cell c0 (fun h=>h (.inl fq))) (k13.cell c1 (fun h=>h (.inl fq))) (k13.cell e0 (fun h=>h (.inl fr))) (k13.cell c4 (fun h=>h (.inl fq))) (k13.cell c5 (fun h=>h (.inl fq))) (k13.cell d0 (fun h=>h (.inl fc))) (k13.cell d2 (fun h=>h (.inl fc))) (.inl fq) (.inl fr) (.inl fc) (sP.below bX) (sP.below bY) ⟨by decide +kernel⟩ ⟨by decide +kernel⟩ sP ⟨by decide +kernel⟩ hcv
  ·intro w4 k4
   refine(rParams_any w4 q (pt pr) ((k13.trans k4).cell c1 (fun h=>h (.inl fq)))).mono ?_
   rintro e w5 ⟨rfl,rfl⟩
   exact⟨pr,rfl,(k13.trans k4).cell e5 (fun h=>h (.inl fr)),Keep.refl _ _⟩
theorem base2_any (w w1:World) (p q:Nat) (nm:ByteArray) (hB:Rcv w w1 q 21659270770119316173069236842332604979796116387017648600081618503821089934025961822236561982844534088440708417973331 19596161053329239268181228455226581162286252326261019516900162717091837027531392576647644262320816848087868142547438 3827769047710394604076870463731979903132904572714069494181204655675960538951736634566672590576020545838501853661388 5797643717699939326787282953388004860198302425468870641753455602553471777319089854136002629714659021021358409132328 10139036126163910574620687986475896248191461332265326844160406748298975174383177910892554122725859199832993833756956 973627063668808908405119953403190617781083117973111934932605366589716638945462640219437826753836874579179290523624 384) (hp:w1.cell? ⟨p,0,none⟩=some (.string nm)) (bk ok m kk:Nat) (c:Nat→Nat) (hb:Bts w1 bk ok m c) (hbk:bk<w.heap.size) (hm:m<1000) (h0:0<preN c m) (hN:preN c m<Ec.C.N) :
  Calls Tryz.prog 226 #[pt q,.slice (some ⟨bk,ok,none⟩) m kk] w1 fun e w2=>∃a b x y:Nat,e = .returned (.tuple #[pt a,pt b])∧Out 100 48 w w2 p nm q a b x y∧Gk 2 (preN c m) x y:=by
 obtain⟨F0,L,pc,pr,pP,pB,pX,pY,q1,q2,q3,q4,kw,hst,hF,fq,fc,fr,c0,c1,c4,c5,c6,c7,d0,d2,d3,d4,e0,e5,mP,mB,mX,mY,m1,m2,m3,m4⟩:=hB
 have h1:=hst.text hp
 have sP:Sz 384 (Ec.C.p:Int):=⟨by decide +kernel⟩
 have hBase:=ellBaseMult_any _ w1 L h1 pc pP pB pX pY _ _ _ Ec.C.p Ec.C.a Ec.C.b Ec.C.gx Ec.C.gy Ec.C.N Ec.C.good Ec.C.ha mX mY mP mB d0 d2 d3 d4 (.inl fc) ⟨by decide +kernel⟩ sP (by decide +kernel) (by decide +kernel) (by decide +kernel) (by decide +kernel) (by decide +kernel) bk ok m kk c hb (.inl (hF _ hbk)) hm h0 hN
 refine(rBase_any _ w1 L q pc pr pP q3 q4 _ _ _ Ec.C.p (fun X Y=>Ec.lin Ec.C.a (some (Ec.C.gx,Ec.C.gy)) (preN c m)=some (Ec.fi Ec.C.p X,Ec.fi Ec.C.p Y)) m3 m4 mP c0 c1 e0 c6 c7 (.inl fq) (.inl fr) ⟨by decide +kernel⟩ ⟨by decide +kernel⟩ sP hBase).mono ?_
 rintro e w2 ⟨a,b,X,Y,x,y,L',rfl,h2,hin,ma,mb,k2,hl,ex,ey⟩
 have bX:0≤x∧x<(Ec.C.p:Int):=by rw [ex];exact⟨Int.emod_nonneg _ (by decide +kernel),Int.emod_lt_of_pos _ (by decide +kernel)⟩
 have bY:0≤y∧y<(Ec.C.p:Int):=by rw [ey];exact⟨Int.emod_nonneg _ (by decide +kernel),Int.emod_lt_of_pos _ (by decide +kernel)⟩
 have fx:Ec.fi Ec.C.p x=Ec.fi Ec.C.p X*(Ec.C.zi*Ec.C.zi):=by
  rw [ex,Ec.fi_mod,Ec.fi_mul,show Ec.fi Ec.C.p ((973627063668808908405119953403190617781083117973111934932605366589716638945462640219437826753836874579179290523624^2%21659270770119316173069236842332604979796116387017648600081618503821089934025961822236561982844534088440708417973331:Nat):Int)=Ec.C.zi*Ec.C.zi from by decide +kernel]
 have fy:Ec.fi Ec.C.p y=Ec.fi Ec.C.p Y*(Ec.C.zi*Ec.C.zi*Ec.C.zi):=by
  rw [ey,Ec.fi_mod,Ec.fi_mul,show Ec.fi Ec.C.p ((973627063668808908405119953403190617781083117973111934932605366589716638945462640219437826753836874579179290523624^3%21659270770119316173069236842332604979796116387017648600081618503821089934025961822236561982844534088440708417973331:Nat):Int)=Ec.C.zi*Ec.C.zi*Ec.C.zi from by decide +kernel]
 have hl2:=Ec.Good.twist_lin Ec.C.good Ec.C.zi0 Ec.C.ra_eq Ec.C.rg_eq hl
 rw [← fx,← fy] at hl2
 have hon:=Ec.on_lin Ec.C.hp Ec.C.two Ec.C.rgood.hG (preN c m)
 rw [hl2] at hon
 have hon1:=Ec.on_lin Ec.C.hp Ec.C.two Ec.C.on_G (preN c m)
 rw [hl] at hon1
 have hcv:∀X' Y':Int,X'=x*((10139036126163910574620687986475896248191461332265326844160406748298975174383177910892554122725859199832993833756956^2%21659270770119316173069236842332604979796116387017648600081618503821089934025961822236561982844534088440708417973331:Nat):Int)%(Ec.C.p:Int)→Y'=y*((10139036126163910574620687986475896248191461332265326844160406748298975174383177910892554122725859199832993833756956^3%21659270770119316173069236842332604979796116387017648600081618503821089934025961822236561982844534088440708417973331:Nat):Int)%(Ec.C.p:Int)→(X'*X'*X' - 3*X'+((19596161053329239268181228455226581162286252326261019516900162717091837027531392576647644262320816848087868142547438:Nat):Int))%(Ec.C.p:Int)=(Y'*Y')%(Ec.C.p:Int):=by
  intro X' Y' eX eY
  have gX:Ec.fi Ec.C.p X'=Ec.fi Ec.C.p X:=by
   rw [eX,Ec.fi_mod,Ec.fi_mul,fx,Fin.mul_assoc,show Ec.C.zi*Ec.C.zi*Ec.fi Ec.C.p ((10139036126163910574620687986475896248191461332265326844160406748298975174383177910892554122725859199832993833756956^2%21659270770119316173069236842332604979796116387017648600081618503821089934025961822236561982844534088440708417973331:Nat):Int)=1 from by decide +kernel,Fin.mul_one]
  have gY:Ec.fi Ec.C.p Y'=Ec.fi Ec.C.p Y:=by
   rw [eY,Ec.fi_mod,Ec.fi_mul,fy,Fin.mul_assoc,show Ec.C.zi*Ec.C.zi*Ec.C.zi*Ec.fi Ec.C.p ((10139036126163910574620687986475896248191461332265326844160406748298975174383177910892554122725859199832993833756956^3%21659270770119316173069236842332604979796116387017648600081618503821089934025961822236561982844534088440708417973331:Nat):Int)=1 from by decide +kernel,Fin.mul_one]
  exact Ec.on_int3 Ec.C.ha (b:=Ec.C.b) (by decide +kernel) (by rw [gX,gY];exact hon1)
 obtain⟨x,rfl⟩:=Int.eq_ofNat_of_zero_le bX.1
 obtain⟨y,rfl⟩:=Int.eq_ofNat_of_zero_le bY.1
 refine⟨a,b,x,y,rfl,⟨_,_,h2,ma,mb,fun e=>?_,.inr rfl,fun b h=>.inl (hF b h),Keep.freshN kw k2 (fun b h=>Nat.le_of_not_lt fun h'=>h (.inl (hF _ h'))),k2.cell hp (fun h=>h (.inr rfl)),fun w3 k3=>?_⟩,by omega,by omega,hl2⟩
 ·have:=Ec.on_nz (by decide +kernel) hon (by omega)
  omega
 ·have k13:=k2.trans (k3.mono fun _ _ h=>h.elim)
  have hx256:x<256^48:=Nat.lt_trans (by omega:x<Ec.C.p) (by decide +kernel)
  have hy256:y<256^48:=Nat.lt_trans (by omega:y<Ec.C.p) (by decide +kernel)
  refine mar100_48 _ w3 L' q a b x y ma mb hx256 hy256 (sP.below bX) (sP.below bY) ?_ ?_
  ·refine poc100_any _ w3 L' (h2.keep k3) q a b x y ma mb (fun e=>Ec.on_nz (by decide +kernel) hon e) ?_
   exact rOn_any _ w3 L' (h2.keep k3) q pc pr pP pB q1 q2 a b x y _ _ _ Ec.C.p ma mb (hin _ m1) (hin _ m2) (hin _ mP) (hin _ mB) (k13.cell c0 (fun h=>h (.inl fq))) (k13.cell c1 (fun h=>h (.inl fq))) (k13.cell e0 (fun h=>h (.inl fr))) (k13.cell c4 (fun h=>h (.inl fq))) (k13.cell c5 (fun h=>h (.inl fq))) (k13.cell d0 (fun h=>h (.inl fc))) (k13.cell d2 (fun h=>h (.inl fc))) (.inl fq) (.inl fr) (.inl fc) (sP.below bX) (sP.below bY) ⟨by decide +kernel⟩ ⟨by decide +kernel⟩ sP ⟨by decide +kernel⟩ hcv
  ·intro w4 k4
   refine(rParams_any w4 q (pt pr) ((k13.trans k4).cell c1 (fun h=>h (.inl fq)))).mono ?_
   rintro e w5 ⟨rfl,rfl⟩
   exact⟨pr,rfl,(k13.trans k4).cell e5 (fun h=>h (.inl fr)),Keep.refl _ _⟩
theorem assert63 (w:World) (v:Value):(Instr.typeAssert (.iface 63 v) 65 63 false).run Tryz.prog w = .ok v w:=by kernel_rfl
def Zpost (k n m:Nat) (w w':World) (s:Value):Prop:=∃bb c x y,s = .slice (some ⟨bb,0,none⟩) (2*n+1) (2*n+1)∧Rwb w' bb (2*n+1) c∧c 0=4∧(∀j,j<n→c (1+j)=byt x (n-1-j))∧(∀j,j<n→c (1+n+j)=byt y (n-1-j))∧Gk k m x y∧Keep Nope w w'
theorem zz0_any (w:World) (bE:Addr) (hE:w.cell? ⟨0,0,none⟩=some (.iface 220 (.pointer (some bE)))) (hb:Base (· < w.heap.size) w) (da:Addr) (kd:Nat) (hd:∀w',Keep Nope w w'→Lib.BytesIn w' (some da) 5 (oidN 0))
  (bk ok m kk:Nat) (c:Nat→Nat) (hB:Bts w bk ok m c) (hbk:bk<w.heap.size) (hm:m<1000) (h0:0<preN c m) (hN:preN c m<Ec.K.N) :
  Calls Tryz.prog 14 #[.slice (some da) 5 kd,.slice (some ⟨bk,ok,none⟩) m kk] w fun e w'=>∃s,e = .returned (.tuple #[nameOf 0,s,.bool true])∧Zpost 0 32 (preN c m) w w' s:=by
 have HE:Hid _:=hE
 have HB0:Hid (Base (· < w.heap.size) w):=hb
 have HD:Hid _:=hd
 have HB:Hid (Bts w bk ok m c):=hB
 have H0:Hid (0<preN c m∧preN c m<Ec.K.N):=⟨h0,hN⟩
 have HBK:Hid (bk<w.heap.size):=hbk
 have HMM:Hid (m<1000):=hm
 clear hE hb hd hB h0 hN hbk hm
 go_enter Tryz.func14,Tryz.ntmps14
 go_wp2_with fail
 refine(newOid_any w da 5 kd (by omega) (by omega)).mono ?_
 rintro e w1' ⟨rfl,rfl⟩
 go_wp2_with fail
 have k1:Keep Nope w (w.alloc (.cells #[.slice (some da) 5 kd] 81 (0,0))):=(Keep.refl _ _).alloc _
 have b1:=Blk.new w #[.slice (some da) 5 kd] 81
 obtain⟨w1,hw1⟩:∃w1,w1=w.alloc (.cells #[.slice (some da) 5 kd] 81 (0,0)):=⟨_,rfl⟩
 obtain⟨o,ho⟩:∃o,o=w.heap.size:=⟨_,rfl⟩
 rw [← hw1,← ho]
 rw [← hw1] at k1 b1
 rw [← ho] at b1
 have K1:Hid (Keep Nope w w1):=k1
 refine(findOid_any w1 bE (k1.cell HE.out id) (HB0.out.later k1) 0 (by omega) o kd (some da) (b1.cell 0) ((oo HD) w1 k1) (fun w' kk=>(oo HD) w' (k1.trans kk))).mono ?_
 rintro e w2 ⟨p,rfl,g,T,q,hp1,hp2,n0,n2,g0,⟨rfl,hc⟩,kk2⟩
 simp only [nameOf] at n0
 have K2:Hid (Keep Nope w1 w2):=kk2
 have HC:Hid _:=hc
 clear hw1 ho k1 b1 kk2 hc hp1 hp2
 have ta:=assert63 w2 (pt g)
 go_upto_region 5 with fail
 clear n2 g0 ta
 have N0:Hid _:=n0
 clear n0
 go_wp2_with fail
 have hs1:=(oo K1).size
 refine(base0_any w1 w2 p q { data:=#[83,101,99,80,50,53,54,107,49] } (oo HC) (oo N0) bk ok m kk c (fun i hi=>⟨((oo K1).trans (oo K2)).cell ((oo HB) i hi).1 id,((oo HB) i hi).2⟩) (Nat.lt_of_lt_of_le HBK.out hs1) HMM.out H0.out.1 H0.out.2).mono ?_
 clear hs1
 rintro e w3 ⟨a,b,x,y,rfl,⟨F,L,hst,ma,mb,hne,fp,hF,k3,n3,hmar⟩,hg⟩
 have SA:Hid _:=sign_any F w3 L hst a x ma
 have SB:Hid _:=sign_any F w3 L hst b y mb
 have HMAR:Hid (Calls Tryz.prog 25 #[.iface 92 (pt q),pt a,pt b] w3.drew _):=hmar w3.drew ((Keep.refl _ _).drew)
 have HG:Hid (Gk 0 _ x y):=hg
 have HFN:Hid _:=hF
 have FP:Hid (F p):=fp
 have K3:Hid (Keep Nope w1 w3):=k3
 have NE:Hid _:=hne
 clear hst ma mb hne fp hF k3 hmar hg
 have HX:(∃sx:Int,sgn (x:Int)=sx∧(sx==0)=false)∨(sgn (x:Int)=0∧∃sy:Int,sgn (y:Int)=sy∧(sy==0)=false):=by
  by_cases e0:x=0
  ·refine .inr ⟨by rw [e0];rfl,_,rfl,?_⟩
   have:=NE.out e0
   rw [beq_eq_false_iff_ne,sgn,if_neg (by omega),if_neg (by omega)]
   omega
  ·refine .inl ⟨_,rfl,?_⟩
   rw [beq_eq_false_iff_ne,sgn,if_neg (by omega),if_neg (by omega)]
   omega
 clear NE
 rcases HX with⟨sx,e1,e2⟩ | ⟨e1,sy,e3,e4⟩
 ·have E1:Hid _:=e1
  clear e1
  go_wp2_with fail
  refine Calls.mono (oo SA) ?_
  rintro e ws ⟨rfl,hws⟩
  rw [hws,E1.out]
  clear hws ws E1
  go_upto_region 8 with fail
  refine RS (fun w'=>w'.cell? ⟨p,0,none⟩=some (.string { data:=#[83,101,99,80,50,53,54,107,49] })) [3] ?_
  have HS:(fun w':World=>w'.cell? ⟨p,0,none⟩=some (.string { data:=#[83,101,99,80,50,53,54,107,49] })) w3.drew:=n3
  refine AP 0 ?_
  refine AP 1 ?_
  refine AP 2 ?_
  refine AL 3 HS ?_ (hy:=fun w2 hw2=>by have y0:=(show w2.cell? ⟨p,0,none⟩=_ from hw2);go_simp;all_goals (with_reducible rfl))
  refine AP 4 ?_
  refine AP 5 ?_
  refine AP 6 ?_
  refine RO 7 (fun K hK=>?_)
  go_simp
  refine Calls.mono (oo HMAR) ?_
  rintro e w4 ⟨bb,cc,rfl,hr,h4,hx,hy,k4⟩
  have N4:=k4.cell n3 (fun h=>h FP.out)
  have HALL:Hid (Zpost 0 32 (preN c m) w w4 (.slice (some ⟨bb,0,none⟩) (2*32+1) (2*32+1))):=⟨bb,cc,x,y,rfl,hr,h4,hx,hy,oo HG,(oo K1).trans (Keep.freshN ((oo K3).drew) k4 (fun b h=>Nat.le_of_not_lt fun h'=>h (HFN.out b h')))⟩
  clear hr h4 hx hy k4
  refine hK.out _ _ (.inr N4) ?_
  clear hK K
  refine AP 8 ?_
  refine AP 9 ?_
  refine AP 10 ?_
  try simp only [Ls2,Ls0,Ls1,List.getElem_toArray,List.getElem_cons_succ,List.getElem_cons_zero]
  refine AnyL_done (by kernel_rfl) ?_
  go_wp2_with fail
  go_ret3
  exact⟨_,rfl,oo HALL⟩
 ·have E1:Hid _:=e1
  have E3:Hid _:=e3
  clear e1 e3
  go_wp2_with fail
  refine Calls.mono (oo SA) ?_
  rintro e ws ⟨rfl,hws⟩
  rw [hws,E1.out]
  clear hws ws E1
  go_wp2_with fail
  refine Calls.mono (oo SB) ?_
  rintro e ws ⟨rfl,hws⟩
  rw [hws,E3.out]
  clear hws ws E3
  go_upto_region 8 with fail
  refine RS (fun w'=>w'.cell? ⟨p,0,none⟩=some (.string { data:=#[83,101,99,80,50,53,54,107,49] })) [3] ?_
  have HS:(fun w':World=>w'.cell? ⟨p,0,none⟩=some (.string { data:=#[83,101,99,80,50,53,54,107,49] })) w3.drew:=n3
  refine AP 0 ?_
  refine AP 1 ?_
  refine AP 2 ?_
  refine AL 3 HS ?_ (hy:=fun w2 hw2=>by have y0:=(show w2.cell? ⟨p,0,none⟩=_ from hw2);go_simp;all_goals (with_reducible rfl))
  refine AP 4 ?_
  refine AP 5 ?_
  refine AP 6 ?_
  refine RO 7 (fun K hK=>?_)
  go_simp
  refine Calls.mono (oo HMAR) ?_
  rintro e w4 ⟨bb,cc,rfl,hr,h4,hx,hy,k4⟩
  have N4:=k4.cell n3 (fun h=>h FP.out)
  have HALL:Hid (Zpost 0 32 (preN c m) w w4 (.slice (some ⟨bb,0,none⟩) (2*32+1) (2*32+1))):=⟨bb,cc,x,y,rfl,hr,h4,hx,hy,oo HG,(oo K1).trans (Keep.freshN ((oo K3).drew) k4 (fun b h=>Nat.le_of_not_lt fun h'=>h (HFN.out b h')))⟩
  clear hr h4 hx hy k4
  refine hK.out _ _ (.inr N4) ?_
  clear hK K
  refine AP 8 ?_
  refine AP 9 ?_
  refine AP 10 ?_
  try simp only [Ls2,Ls0,Ls1,List.getElem_toArray,List.getElem_cons_succ,List.getElem_cons_zero]
  refine AnyL_done (by kernel_rfl) ?_
  go_wp2_with fail
  go_ret3
  exact⟨_,rfl,oo HALL⟩
theorem zz1_any (w:World) (bE:Addr) (hE:w.cell? ⟨0,0,none⟩=some (.iface 220 (.pointer (some bE)))) (hb:Base (· < w.heap.size) w) (da:Addr) (kd:Nat) (hd:∀w',Keep Nope w w'→Lib.BytesIn w' (some da) 9 (oidN 1))
  (bk ok m kk:Nat) (c:Nat→Nat) (hB:Bts w bk ok m c) (hbk:bk<w.heap.size) (hm:m<1000) (h0:0<preN c m) (hN:preN c m<Ec.B.N) :
  Calls Tryz.prog 14 #[.slice (some da) 9 kd,.slice (some ⟨bk,ok,none⟩) m kk] w fun e w'=>∃s,e = .returned (.tuple #[nameOf 1,s,.bool true])∧Zpost 1 32 (preN c m) w w' s:=by
 have HE:Hid _:=hE
 have HB0:Hid (Base (· < w.heap.size) w):=hb
 have HD:Hid _:=hd
 have HB:Hid (Bts w bk ok m c):=hB
 have H0:Hid (0<preN c m∧preN c m<Ec.B.N):=⟨h0,hN⟩
 have HBK:Hid (bk<w.heap.size):=hbk
 have HMM:Hid (m<1000):=hm
 clear hE hb hd hB h0 hN hbk hm
 go_enter Tryz.func14,Tryz.ntmps14
 go_wp2_with fail
 refine(newOid_any w da 9 kd (by omega) (by omega)).mono ?_
 rintro e w1' ⟨rfl,rfl⟩
 go_wp2_with fail
 have k1:Keep Nope w (w.alloc (.cells #[.slice (some da) 9 kd] 81 (0,0))):=(Keep.refl _ _).alloc _
 have b1:=Blk.new w #[.slice (some da) 9 kd] 81
 obtain⟨w1,hw1⟩:∃w1,w1=w.alloc (.cells #[.slice (some da) 9 kd] 81 (0,0)):=⟨_,rfl⟩
 obtain⟨o,ho⟩:∃o,o=w.heap.size:=⟨_,rfl⟩
 rw [← hw1,← ho]
 rw [← hw1] at k1 b1
 rw [← ho] at b1
 have K1:Hid (Keep Nope w w1):=k1
 refine(findOid_any w1 bE (k1.cell HE.out id) (HB0.out.later k1) 1 (by omega) o kd (some da) (b1.cell 0) ((oo HD) w1 k1) (fun w' kk=>(oo HD) w' (k1.trans kk))).mono ?_
 rintro e w2 ⟨p,rfl,g,T,q,hp1,hp2,n0,n2,g0,⟨rfl,hc⟩,kk2⟩
 simp only [nameOf] at n0
 have K2:Hid (Keep Nope w1 w2):=kk2
 have HC:Hid _:=hc
 clear hw1 ho k1 b1 kk2 hc hp1 hp2
 have ta:=assert63 w2 (pt g)
 go_upto_region 5 with fail
 clear n2 g0 ta
 have N0:Hid _:=n0
 clear n0
 go_wp2_with fail
 have hs1:=(oo K1).size
 refine(base1_any w1 w2 p q { data:=#[66,114,97,105,110,112,111,111,108,80,50,53,54] } (oo HC) (oo N0) bk ok m kk c (fun i hi=>⟨((oo K1).trans (oo K2)).cell ((oo HB) i hi).1 id,((oo HB) i hi).2⟩) (Nat.lt_of_lt_of_le HBK.out hs1) HMM.out H0.out.1 H0.out.2).mono ?_
 clear hs1
 rintro e w3 ⟨a,b,x,y,rfl,⟨F,L,hst,ma,mb,hne,fp,hF,k3,n3,hmar⟩,hg⟩
 have SA:Hid _:=sign_any F w3 L hst a x ma
 have SB:Hid _:=sign_any F w3 L hst b y mb
 have HMAR:Hid (Calls Tryz.prog 25 #[.iface 100 (pt q),pt a,pt b] w3.drew _):=hmar w3.drew ((Keep.refl _ _).drew)
 have HG:Hid (Gk 1 _ x y):=hg
 have HFN:Hid _:=hF
 have FP:Hid (F p):=fp
 have K3:Hid (Keep Nope w1 w3):=k3
 have NE:Hid _:=hne
 clear hst ma mb hne fp hF k3 hmar hg
 have HX:(∃sx:Int,sgn (x:Int)=sx∧(sx==0)=false)∨(sgn (x:Int)=0∧∃sy:Int,sgn (y:Int)=sy∧(sy==0)=false):=by
  by_cases e0:x=0
  ·refine .inr ⟨by rw [e0];rfl,_,rfl,?_⟩
   have:=NE.out e0
   rw [beq_eq_false_iff_ne,sgn,if_neg (by omega),if_neg (by omega)]
   omega
  ·refine .inl ⟨_,rfl,?_⟩
   rw [beq_eq_false_iff_ne,sgn,if_neg (by omega),if_neg (by omega)]
   omega
 clear NE
 rcases HX with⟨sx,e1,e2⟩ | ⟨e1,sy,e3,e4⟩
 ·have E1:Hid _:=e1
  clear e1
  go_wp2_with fail
  refine Calls.mono (oo SA) ?_
  rintro e ws ⟨rfl,hws⟩
  rw [hws,E1.out]
  clear hws ws E1
  go_upto_region 8 with fail
  refine RS (fun w'=>w'.cell? ⟨p,0,none⟩=some (.string { data:=#[66,114,97,105,110,112,111,111,108,80,50,53,54] })) [3] ?_
  have HS:(fun w':World=>w'.cell? ⟨p,0,none⟩=some (.string { data:=#[66,114,97,105,110,112,111,111,108,80,50,53,54] })) w3.drew:=n3
  refine AP 0 ?_
  refine AP 1 ?_
  refine AP 2 ?_
  refine AL 3 HS ?_ (hy:=fun w2 hw2=>by have y0:=(show w2.cell? ⟨p,0,none⟩=_ from hw2);go_simp;all_goals (with_reducible rfl))
  refine AP 4 ?_
  refine AP 5 ?_
  refine AP 6 ?_
  refine RO 7 (fun K hK=>?_)
  go_simp
  refine Calls.mono (oo HMAR) ?_
  rintro e w4 ⟨bb,cc,rfl,hr,h4,hx,hy,k4⟩
  have N4:=k4.cell n3 (fun h=>h FP.out)
  have HALL:Hid (Zpost 1 32 (preN c m) w w4 (.slice (some ⟨bb,0,none⟩) (2*32+1) (2*32+1))):=⟨bb,cc,x,y,rfl,hr,h4,hx,hy,oo HG,(oo K1).trans (Keep.freshN ((oo K3).drew) k4 (fun b h=>Nat.le_of_not_lt fun h'=>h (HFN.out b h')))⟩
  clear hr h4 hx hy k4
  refine hK.out _ _ (.inr N4) ?_
  clear hK K
  refine AP 8 ?_
  refine AP 9 ?_
  refine AP 10 ?_
  try simp only [Ls2,Ls0,Ls1,List.getElem_toArray,List.getElem_cons_succ,List.getElem_cons_zero]
  refine AnyL_done (by kernel_rfl) ?_
  go_wp2_with fail
  go_ret3
  exact⟨_,rfl,oo HALL⟩
 ·have E1:Hid _:=e1
  have E3:Hid _:=e3
  clear e1 e3
  go_wp2_with fail
  refine Calls.mono (oo SA) ?_
  rintro e ws ⟨rfl,hws⟩
  rw [hws,E1.out]
  clear hws ws E1
  go_wp2_with fail
  refine Calls.mono (oo SB) ?_
  rintro e ws ⟨rfl,hws⟩
  rw [hws,E3.out]
  clear hws ws E3
  go_upto_region 8 with fail
  refine RS (fun w'=>w'.cell? ⟨p,0,none⟩=some (.string { data:=#[66,114,97,105,110,112,111,111,108,80,50,53,54] })) [3] ?_
  have HS:(fun w':World=>w'.cell? ⟨p,0,none⟩=some (.string { data:=#[66,114,97,105,110,112,111,111,108,80,50,53,54] })) w3.drew:=n3
  refine AP 0 ?_
  refine AP 1 ?_
  refine AP 2 ?_
  refine AL 3 HS ?_ (hy:=fun w2 hw2=>by have y0:=(show w2.cell? ⟨p,0,none⟩=_ from hw2);go_simp;all_goals (with_reducible rfl))
  refine AP 4 ?_
  refine AP 5 ?_
  refine AP 6 ?_
  refine RO 7 (fun K hK=>?_)
  go_simp
  refine Calls.mono (oo HMAR) ?_
  rintro e w4 ⟨bb,cc,rfl,hr,h4,hx,hy,k4⟩
  have N4:=k4.cell n3 (fun h=>h FP.out)
  have HALL:Hid (Zpost 1 32 (preN c m) w w4 (.slice (some ⟨bb,0,none⟩) (2*32+1) (2*32+1))):=⟨bb,cc,x,y,rfl,hr,h4,hx,hy,oo HG,(oo K1).trans (Keep.freshN ((oo K3).drew) k4 (fun b h=>Nat.le_of_not_lt fun h'=>h (HFN.out b h')))⟩
  clear hr h4 hx hy k4
  refine hK.out _ _ (.inr N4) ?_
  clear hK K
  refine AP 8 ?_
  refine AP 9 ?_
  refine AP 10 ?_
  try simp only [Ls2,Ls0,Ls1,List.getElem_toArray,List.getElem_cons_succ,List.getElem_cons_zero]
  refine AnyL_done (by kernel_rfl) ?_
  go_wp2_with fail
  go_ret3
  exact⟨_,rfl,oo HALL⟩
theorem zz2_any (w:World) (bE:Addr) (hE:w.cell? ⟨0,0,none⟩=some (.iface 220 (.pointer (some bE)))) (hb:Base (· < w.heap.size) w) (da:Addr) (kd:Nat) (hd:∀w',Keep Nope w w'→Lib.BytesIn w' (some da) 9 (oidN 2))
  (bk ok m kk:Nat) (c:Nat→Nat) (hB:Bts w bk ok m c) (hbk:bk<w.heap.size) (hm:m<1000) (h0:0<preN c m) (hN:preN c m<Ec.C.N) :
  Calls Tryz.prog 14 #[.slice (some da) 9 kd,.slice (some ⟨bk,ok,none⟩) m kk] w fun e w'=>∃s,e = .returned (.tuple #[nameOf 2,s,.bool true])∧Zpost 2 48 (preN c m) w w' s:=by
 have HE:Hid _:=hE
 have HB0:Hid (Base (· < w.heap.size) w):=hb
 have HD:Hid _:=hd
 have HB:Hid (Bts w bk ok m c):=hB
 have H0:Hid (0<preN c m∧preN c m<Ec.C.N):=⟨h0,hN⟩
 have HBK:Hid (bk<w.heap.size):=hbk
 have HMM:Hid (m<1000):=hm
 clear hE hb hd hB h0 hN hbk hm
 go_enter Tryz.func14,Tryz.ntmps14
 go_wp2_with fail
 refine(newOid_any w da 9 kd (by omega) (by omega)).mono ?_
 rintro e w1' ⟨rfl,rfl⟩
 go_wp2_with fail
 have k1:Keep Nope w (w.alloc (.cells #[.slice (some da) 9 kd] 81 (0,0))):=(Keep.refl _ _).alloc _
 have b1:=Blk.new w #[.slice (some da) 9 kd] 81
 obtain⟨w1,hw1⟩:∃w1,w1=w.alloc (.cells #[.slice (some da) 9 kd] 81 (0,0)):=⟨_,rfl⟩
 obtain⟨o,ho⟩:∃o,o=w.heap.size:=⟨_,rfl⟩
 rw [← hw1,← ho]
 rw [← hw1] at k1 b1
 rw [← ho] at b1
 have K1:Hid (Keep Nope w w1):=k1
 refine(findOid_any w1 bE (k1.cell HE.out id) (HB0.out.later k1) 2 (by omega) o kd (some da) (b1.cell 0) ((oo HD) w1 k1) (fun w' kk=>(oo HD) w' (k1.trans kk))).mono ?_
 rintro e w2 ⟨p,rfl,g,T,q,hp1,hp2,n0,n2,g0,⟨rfl,hc⟩,kk2⟩
 simp only [nameOf] at n0
 have K2:Hid (Keep Nope w1 w2):=kk2
 have HC:Hid _:=hc
 clear hw1 ho k1 b1 kk2 hc hp1 hp2
 have ta:=assert63 w2 (pt g)
 go_upto_region 5 with fail
 clear n2 g0 ta
 have N0:Hid _:=n0
 clear n0
 go_wp2_with fail
 have hs1:=(oo K1).size
 refine(base2_any w1 w2 p q { data:=#[66,114,97,105,110,112,111,111,108,80,51,56,52] } (oo HC) (oo N0) bk ok m kk c (fun i hi=>⟨((oo K1).trans (oo K2)).cell ((oo HB) i hi).1 id,((oo HB) i hi).2⟩) (Nat.lt_of_lt_of_le HBK.out hs1) HMM.out H0.out.1 H0.out.2).mono ?_
 clear hs1
 rintro e w3 ⟨a,b,x,y,rfl,⟨F,L,hst,ma,mb,hne,fp,hF,k3,n3,hmar⟩,hg⟩
 have SA:Hid _:=sign_any F w3 L hst a x ma
 have SB:Hid _:=sign_any F w3 L hst b y mb
 have HMAR:Hid (Calls Tryz.prog 25 #[.iface 100 (pt q),pt a,pt b] w3.drew _):=hmar w3.drew ((Keep.refl _ _).drew)
 have HG:Hid (Gk 2 _ x y):=hg
 have HFN:Hid _:=hF
 have FP:Hid (F p):=fp
 have K3:Hid (Keep Nope w1 w3):=k3
 have NE:Hid _:=hne
 clear hst ma mb hne fp hF k3 hmar hg
 have HX:(∃sx:Int,sgn (x:Int)=sx∧(sx==0)=false)∨(sgn (x:Int)=0∧∃sy:Int,sgn (y:Int)=sy∧(sy==0)=false):=by
  by_cases e0:x=0
  ·refine .inr ⟨by rw [e0];rfl,_,rfl,?_⟩
   have:=NE.out e0
   rw [beq_eq_false_iff_ne,sgn,if_neg (by omega),if_neg (by omega)]
   omega
  ·refine .inl ⟨_,rfl,?_⟩
   rw [beq_eq_false_iff_ne,sgn,if_neg (by omega),if_neg (by omega)]
   omega
 clear NE
 rcases HX with⟨sx,e1,e2⟩ | ⟨e1,sy,e3,e4⟩
 ·have E1:Hid _:=e1
  clear e1
  go_wp2_with fail
  refine Calls.mono (oo SA) ?_
  rintro e ws ⟨rfl,hws⟩
  rw [hws,E1.out]
  clear hws ws E1
  go_upto_region 8 with fail
  refine RS (fun w'=>w'.cell? ⟨p,0,none⟩=some (.string { data:=#[66,114,97,105,110,112,111,111,108,80,51,56,52] })) [3] ?_
  have HS:(fun w':World=>w'.cell? ⟨p,0,none⟩=some (.string { data:=#[66,114,97,105,110,112,111,111,108,80,51,56,52] })) w3.drew:=n3
  refine AP 0 ?_
  refine AP 1 ?_
  refine AP 2 ?_
  refine AL 3 HS ?_ (hy:=fun w2 hw2=>by have y0:=(show w2.cell? ⟨p,0,none⟩=_ from hw2);go_simp;all_goals (with_reducible rfl))
  refine AP 4 ?_
  refine AP 5 ?_
  refine AP 6 ?_
  refine RO 7 (fun K hK=>?_)
  go_simp
  refine Calls.mono (oo HMAR) ?_
  rintro e w4 ⟨bb,cc,rfl,hr,h4,hx,hy,k4⟩
  have N4:=k4.cell n3 (fun h=>h FP.out)
  have HALL:Hid (Zpost 2 48 (preN c m) w w4 (.slice (some ⟨bb,0,none⟩) (2*48+1) (2*48+1))):=⟨bb,cc,x,y,rfl,hr,h4,hx,hy,oo HG,(oo K1).trans (Keep.freshN ((oo K3).drew) k4 (fun b h=>Nat.le_of_not_lt fun h'=>h (HFN.out b h')))⟩
  clear hr h4 hx hy k4
  refine hK.out _ _ (.inr N4) ?_
  clear hK K
  refine AP 8 ?_
  refine AP 9 ?_
  refine AP 10 ?_
  try simp only [Ls2,Ls0,Ls1,List.getElem_toArray,List.getElem_cons_succ,List.getElem_cons_zero]
  refine AnyL_done (by kernel_rfl) ?_
  go_wp2_with fail
  go_ret3
  exact⟨_,rfl,oo HALL⟩
 ·have E1:Hid _:=e1
  have E3:Hid _:=e3
  clear e1 e3
  go_wp2_with fail
  refine Calls.mono (oo SA) ?_
  rintro e ws ⟨rfl,hws⟩
  rw [hws,E1.out]
  clear hws ws E1
  go_wp2_with fail
  refine Calls.mono (oo SB) ?_
  rintro e ws ⟨rfl,hws⟩
  rw [hws,E3.out]
  clear hws ws E3
  go_upto_region 8 with fail
  refine RS (fun w'=>w'.cell? ⟨p,0,none⟩=some (.string { data:=#[66,114,97,105,110,112,111,111,108,80,51,56,52] })) [3] ?_
  have HS:(fun w':World=>w'.cell? ⟨p,0,none⟩=some (.string { data:=#[66,114,97,105,110,112,111,111,108,80,51,56,52] })) w3.drew:=n3
  refine AP 0 ?_
  refine AP 1 ?_
  refine AP 2 ?_
  refine AL 3 HS ?_ (hy:=fun w2 hw2=>by have y0:=(show w2.cell? ⟨p,0,none⟩=_ from hw2);go_simp;all_goals (with_reducible rfl))
  refine AP 4 ?_
  refine AP 5 ?_
  refine AP 6 ?_
  refine RO 7 (fun K hK=>?_)
  go_simp
  refine Calls.mono (oo HMAR) ?_
  rintro e w4 ⟨bb,cc,rfl,hr,h4,hx,hy,k4⟩
  have N4:=k4.cell n3 (fun h=>h FP.out)
  have HALL:Hid (Zpost 2 48 (preN c m) w w4 (.slice (some ⟨bb,0,none⟩) (2*48+1) (2*48+1))):=⟨bb,cc,x,y,rfl,hr,h4,hx,hy,oo HG,(oo K1).trans (Keep.freshN ((oo K3).drew) k4 (fun b h=>Nat.le_of_not_lt fun h'=>h (HFN.out b h')))⟩
  clear hr h4 hx hy k4
  refine hK.out _ _ (.inr N4) ?_
  clear hK K
  refine AP 8 ?_
  refine AP 9 ?_
  refine AP 10 ?_
  try simp only [Ls2,Ls0,Ls1,List.getElem_toArray,List.getElem_cons_succ,List.getElem_cons_zero]
  refine AnyL_done (by kernel_rfl) ?_
  go_wp2_with fail
  go_ret3
  exact⟨_,rfl,oo HALL⟩
theorem catch_idle (p1 p2 p3:Value) (w:World) :
  CallsD Tryz.prog 13 #[p1,p2,p3] .returning w fun e u' w'=>e = .returned (.tuple #[])∧u' = .returning∧w'=w:=by
 refine callsD_of_wpS Tryz.func13 rfl fun c₀ cs hu=>?_
 apply wpS_seq
 apply wpS_region
 simp [wpOpsS,go_sem,recoverD,hu,Tryz.ntmps13,Exit.thenS]
 refine wpS_cond (t:=false) (by simp [Act.eval,Array.replicate]) ?_
 simp only [Bool.false_eq_true,if_false]
 refine wpS_of_wp (wp_skip ?_)
 cases c₀
 simp_all [bodyPostS,results,Tryz.results13]
theorem Db.bytesIn {w w':World} {a:Addr} {n k:Nat} {c:Nat→Nat} {xs:List Int} (h:Db w (some a) n k c) (hx:∀i,i<n→xs.getD i 0=(c i:Int)) (kk:Keep Nope w w'):Lib.BytesIn w' (some a) n xs:=by
 refine Lib.BytesIn.of_cells fun i hi=>?_
 obtain⟨b,e,h1,-⟩:=h.get i hi
 cases e
 have e:(⟨b,0,none⟩:Addr).add i=⟨b,i,none⟩:=by simp [Addr.add];intro h;exact h.symm
 rw [e,hx i hi]
 exact kk.cell h1 id
theorem co0_any (w:World) (bE:Addr) (hE:w.cell? ⟨0,0,none⟩=some (.iface 220 (.pointer (some bE)))) (hb:Base (· < w.heap.size) w) (ao:Option Addr) (ko:Nat) (hO:Db w ao 5 ko (fun i=>(#[43,129,4,0,10]:Array Nat).getD i 0))
  (bk ok m kk:Nat) (c:Nat→Nat) (hB:Bts w bk ok m c) (hbk:bk<w.heap.size) (hm:m<1000) (h0:0<preN c m) (hN:preN c m<Ec.K.N) :
  Calls Tryz.prog 6 #[.slice ao 5 ko,.slice (some ⟨bk,ok,none⟩) m kk] w fun e w'=>∃s,e = .returned (.tuple #[nameOf 0,s,.bool true])∧Zpost 0 32 (preN c m) w w' s:=by
 have hmf:∀(fn:Fn) (first cap:Array Value) (w:World),(Instr.makeFunc fn first cap).run Tryz.prog w = .ok (.func fn first cap) w:=fun _ _ _ _=>rfl
 have z1:=Blk.new w #[.string { data:=#[] }] 9
 have z2:=Blk.new (w.alloc (.cells #[.string { data:=#[] }] 9 (0,0))) #[.slice none 0 0] 23
 have z3:=Blk.new ((w.alloc (.cells #[.string { data:=#[] }] 9 (0,0))).alloc (.cells #[.slice none 0 0] 23 (0,0))) #[.bool false] 4
 have k0:Keep Nope w (((w.alloc (.cells #[.string { data:=#[] }] 9 (0,0))).alloc (.cells #[.slice none 0 0] 23 (0,0))).alloc (.cells #[.bool false] 4 (0,0))):=(((Keep.refl _ _).alloc _).alloc _).alloc _
 have z1:=z1.keep (((Keep.refl Nope _).alloc (.cells #[.slice none 0 0] 23 (0,0))).alloc (.cells #[.bool false] 4 (0,0))) id
 have z2:=z2.keep ((Keep.refl Nope _).alloc (.cells #[.bool false] 4 (0,0))) id
 have HE:Hid _:=hE
 have HBS:Hid (Base (· < w.heap.size) w):=hb
 have HO:Hid (Db w ao 5 ko _):=hO
 have HB:Hid (Bts w bk ok m c):=hB
 have H0:Hid (0<preN c m∧preN c m<Ec.K.N):=⟨h0,hN⟩
 have HBK:Hid (bk<w.heap.size):=hbk
 have HMM:Hid (m<1000):=hm
 clear hE hb hO hB h0 hN hbk hm
 rw [alloc_size,alloc_size] at z3
 rw [alloc_size] at z2
 go_enter_defers Tryz.func6,Tryz.ntmps6
 go_wp2_with fail
 obtain⟨w0,hw0⟩:∃w0,w0=(((w.alloc (.cells #[.string { data:=#[] }] 9 (0,0))).alloc (.cells #[.slice none 0 0] 23 (0,0))).alloc (.cells #[.bool false] 4 (0,0))):=⟨_,rfl⟩
 obtain⟨q1,hq1⟩:∃q,q=w.heap.size:=⟨_,rfl⟩
 obtain⟨q2,hq2⟩:∃q,q=q1+1:=⟨_,rfl⟩
 obtain⟨q3,hq3⟩:∃q,q=q2+1:=⟨_,rfl⟩
 rw [← hw0,← hq1,← hq2,← hq3]
 rw [← hw0] at z1 z2 z3 k0
 rw [← hq1] at z1 z2 z3
 rw [← hq2] at z2 z3
 rw [← hq3] at z3
 have HQ:Hid (w.heap.size≤q1∧w.heap.size≤q2∧w.heap.size≤q3∧q1≠q2∧q1≠q3∧q2≠q3):=by show _∧_;omega
 clear hw0 hq1 hq2 hq3
 have K0:Hid (Keep Nope w w0):=k0
 refine(own_any w0 ao 5 ko _ ((oo HO).keep k0 (fun _ _=>id)).dbo (by omega)).mono ?_
 rintro e w1 ⟨a1,k1,rfl,hd1,kk1⟩
 obtain⟨b1,rfl,-,-⟩:=hd1.get 0 (by omega)
 have k01:=k0.trans kk1
 have K01:Hid (Keep Nope w w1):=k01
 have Z1:Hid (Blk w1 q1 _ 9):=z1.keep kk1 id
 have Z2:Hid (Blk w1 q2 _ 23):=z2.keep kk1 id
 have Z3:Hid (Blk w1 q3 _ 4):=z3.keep kk1 id
 have HD1:Hid (Db w1 (some ⟨b1,0,none⟩) 5 k1 _):=hd1
 clear z1 z2 z3 k0 kk1 k01 hd1
 go_wp2_with fail
 refine(zz0_any w1 bE ((oo K01).cell HE.out id) (HBS.out.later (oo K01)) ⟨b1,0,none⟩ k1 (fun w' kk=>(oo HD1).bytesIn (by decide +kernel) kk) bk ok m kk c (fun i hi=>⟨(oo K01).cell ((oo HB) i hi).1 id,((oo HB) i hi).2⟩) (Nat.lt_of_lt_of_le HBK.out (oo K01).size) HMM.out H0.out.1 H0.out.2).mono ?_
 rintro e w2 ⟨s,rfl,bb,cc,x,y,rfl,hr,h4,hx,hy,hg,kz⟩
 simp only [nameOf]
 have k02:Keep Nope w w2:=(oo K01).trans kz
 have z1:=(oo Z1).keep kz id
 have z2:=(oo Z2).keep kz id
 have z3:=(oo Z3).keep kz id
 have c1:=z1.cell 0
 have f1:=z1.frozen 0
 have s1:=z1.set 0 (.string { data:=#[83,101,99,80,50,53,54,107,49] })
 have ka:Keep (·=q1) w2 _:=(Keep.refl (·=q1) w2).setCell (p:=⟨q1,0,none⟩) rfl (.string { data:=#[83,101,99,80,50,53,54,107,49] })
 have z2:=z2.keep ka (fun e=>HQ.out.2.2.2.1 e.symm)
 have z3:=z3.keep ka (fun e=>HQ.out.2.2.2.2.1 e.symm)
 have c2:=z2.cell 0
 have f2:=z2.frozen 0
 have s2:=z2.set 0 (.slice (some ⟨bb,0,none⟩) (2*32+1) (2*32+1))
 have kb:Keep (·=q2) (w2.setCell ⟨q1,0,none⟩ (.string { data:=#[83,101,99,80,50,53,54,107,49] })) _:=(Keep.refl (·=q2) _).setCell (p:=⟨q2,0,none⟩) rfl (.slice (some ⟨bb,0,none⟩) (2*32+1) (2*32+1))
 have s1:=s1.keep kb (fun e=>HQ.out.2.2.2.1 e)
 have z3:=z3.keep kb (fun e=>HQ.out.2.2.2.2.2 e.symm)
 have c3:=z3.cell 0
 have f3:=z3.frozen 0
 have s3:=z3.set 0 (.bool true)
 have kc:Keep (·=q3) ((w2.setCell ⟨q1,0,none⟩ (.string { data:=#[83,101,99,80,50,53,54,107,49] })).setCell ⟨q2,0,none⟩ (.slice (some ⟨bb,0,none⟩) (2*32+1) (2*32+1))) _:=(Keep.refl (·=q3) _).setCell (p:=⟨q3,0,none⟩) rfl (.bool true)
 have s1:=s1.keep kc (fun e=>HQ.out.2.2.2.2.1 e)
 have s2:=s2.keep kc (fun e=>HQ.out.2.2.2.2.2 e)
 have hkk:=(((k02.freshN ka (fun b e=>e▸HQ.out.1)).freshN kb (fun b e=>e▸HQ.out.2.1)).freshN kc (fun b e=>e▸HQ.out.2.2.1))
 have r0:=hr.cell (i:=0) (by omega)
 have n1:bb≠q1:=fun e=>by rw [e,c1] at r0;cases r0
 have n2:bb≠q2:=fun e=>by
  have c2':=((oo Z2).keep kz id).cell 0
  rw [e,c2'] at r0;cases r0
 have n3:bb≠q3:=fun e=>by
  have c3':=((oo Z3).keep kz id).cell 0
  rw [e,c3'] at r0;cases r0
 have hr':=((hr.keep ka n1).keep kb n2).keep kc n3
 have HALL:Hid (Zpost 0 32 (preN c m) w _ (.slice (some ⟨bb,0,none⟩) (2*32+1) (2*32+1))):=⟨bb,cc,x,y,rfl,hr',h4,hx,hy,hg,hkk⟩
 simp only [Ls5,Ls4] at c1 c2 c3
 have g1:(((w2.setCell ⟨q1,0,none⟩ (.string { data:=#[83,101,99,80,50,53,54,107,49] })).setCell ⟨q2,0,none⟩ (.slice (some ⟨bb,0,none⟩) 65 65)).setCell ⟨q3,0,none⟩ (.bool true)).cell? ⟨q1,0,none⟩=some (.string { data:=#[83,101,99,80,50,53,54,107,49] }):=s1.cell 0
 have g2:(((w2.setCell ⟨q1,0,none⟩ (.string { data:=#[83,101,99,80,50,53,54,107,49] })).setCell ⟨q2,0,none⟩ (.slice (some ⟨bb,0,none⟩) 65 65)).setCell ⟨q3,0,none⟩ (.bool true)).cell? ⟨q2,0,none⟩=some (.slice (some ⟨bb,0,none⟩) 65 65):=s2.cell 0
 have g3:(((w2.setCell ⟨q1,0,none⟩ (.string { data:=#[83,101,99,80,50,53,54,107,49] })).setCell ⟨q2,0,none⟩ (.slice (some ⟨bb,0,none⟩) 65 65)).setCell ⟨q3,0,none⟩ (.bool true)).cell? ⟨q3,0,none⟩=some (.bool true):=s3.cell 0
 clear hr h4 hx hy hg kz k02 z1 z2 z3 s1 s2 s3 ka kb kc hkk r0 n1 n2 n3 hr'
 go_wp2_with fail
 refine leaves_cons (f:=13) (args:=#[.pointer (some ⟨q1,0,none⟩),.pointer (some ⟨q2,0,none⟩),.pointer (some ⟨q3,0,none⟩)]) (by simp) (by simp [go_sem]) ?_
 refine(catch_idle _ _ _ _).mono ?_
 rintro e u' w'' ⟨rfl,rfl,rfl⟩
 simp [Leaves,settle,results,Tryz.results6,go_sem,g1,g2,g3]
 first | exact⟨_,rfl,rfl,oo HALL⟩ | exact⟨rfl,oo HALL⟩ | exact⟨_,⟨rfl,rfl⟩,oo HALL⟩
theorem co1_any (w:World) (bE:Addr) (hE:w.cell? ⟨0,0,none⟩=some (.iface 220 (.pointer (some bE)))) (hb:Base (· < w.heap.size) w) (ao:Option Addr) (ko:Nat) (hO:Db w ao 9 ko (fun i=>(#[43,36,3,3,2,8,1,1,7]:Array Nat).getD i 0))
  (bk ok m kk:Nat) (c:Nat→Nat) (hB:Bts w bk ok m c) (hbk:bk<w.heap.size) (hm:m<1000) (h0:0<preN c m) (hN:preN c m<Ec.B.N) :
  Calls Tryz.prog 6 #[.slice ao 9 ko,.slice (some ⟨bk,ok,none⟩) m kk] w fun e w'=>∃s,e = .returned (.tuple #[nameOf 1,s,.bool true])∧Zpost 1 32 (preN c m) w w' s:=by
 have hmf:∀(fn:Fn) (first cap:Array Value) (w:World),(Instr.makeFunc fn first cap).run Tryz.prog w = .ok (.func fn first cap) w:=fun _ _ _ _=>rfl
 have z1:=Blk.new w #[.string { data:=#[] }] 9
 have z2:=Blk.new (w.alloc (.cells #[.string { data:=#[] }] 9 (0,0))) #[.slice none 0 0] 23
 have z3:=Blk.new ((w.alloc (.cells #[.string { data:=#[] }] 9 (0,0))).alloc (.cells #[.slice none 0 0] 23 (0,0))) #[.bool false] 4
 have k0:Keep Nope w (((w.alloc (.cells #[.string { data:=#[] }] 9 (0,0))).alloc (.cells #[.slice none 0 0] 23 (0,0))).alloc (.cells #[.bool false] 4 (0,0))):=(((Keep.refl _ _).alloc _).alloc _).alloc _
 have z1:=z1.keep (((Keep.refl Nope _).alloc (.cells #[.slice none 0 0] 23 (0,0))).alloc (.cells #[.bool false] 4 (0,0))) id
 have z2:=z2.keep ((Keep.refl Nope _).alloc (.cells #[.bool false] 4 (0,0))) id
 have HE:Hid _:=hE
 have HBS:Hid (Base (· < w.heap.size) w):=hb
 have HO:Hid (Db w ao 9 ko _):=hO
 have HB:Hid (Bts w bk ok m c):=hB
 have H0:Hid (0<preN c m∧preN c m<Ec.B.N):=⟨h0,hN⟩
 have HBK:Hid (bk<w.heap.size):=hbk
 have HMM:Hid (m<1000):=hm
 clear hE hb hO hB h0 hN hbk hm
 rw [alloc_size,alloc_size] at z3
 rw [alloc_size] at z2
 go_enter_defers Tryz.func6,Tryz.ntmps6
 go_wp2_with fail
 obtain⟨w0,hw0⟩:∃w0,w0=(((w.alloc (.cells #[.string { data:=#[] }] 9 (0,0))).alloc (.cells #[.slice none 0 0] 23 (0,0))).alloc (.cells #[.bool false] 4 (0,0))):=⟨_,rfl⟩
 obtain⟨q1,hq1⟩:∃q,q=w.heap.size:=⟨_,rfl⟩
 obtain⟨q2,hq2⟩:∃q,q=q1+1:=⟨_,rfl⟩
 obtain⟨q3,hq3⟩:∃q,q=q2+1:=⟨_,rfl⟩
 rw [← hw0,← hq1,← hq2,← hq3]
 rw [← hw0] at z1 z2 z3 k0
 rw [← hq1] at z1 z2 z3
 rw [← hq2] at z2 z3
 rw [← hq3] at z3
 have HQ:Hid (w.heap.size≤q1∧w.heap.size≤q2∧w.heap.size≤q3∧q1≠q2∧q1≠q3∧q2≠q3):=by show _∧_;omega
 clear hw0 hq1 hq2 hq3
 have K0:Hid (Keep Nope w w0):=k0
 refine(own_any w0 ao 9 ko _ ((oo HO).keep k0 (fun _ _=>id)).dbo (by omega)).mono ?_
 rintro e w1 ⟨a1,k1,rfl,hd1,kk1⟩
 obtain⟨b1,rfl,-,-⟩:=hd1.get 0 (by omega)
 have k01:=k0.trans kk1
 have K01:Hid (Keep Nope w w1):=k01
 have Z1:Hid (Blk w1 q1 _ 9):=z1.keep kk1 id
 have Z2:Hid (Blk w1 q2 _ 23):=z2.keep kk1 id
 have Z3:Hid (Blk w1 q3 _ 4):=z3.keep kk1 id
 have HD1:Hid (Db w1 (some ⟨b1,0,none⟩) 9 k1 _):=hd1
 clear z1 z2 z3 k0 kk1 k01 hd1
 go_wp2_with fail
 refine(zz1_any w1 bE ((oo K01).cell HE.out id) (HBS.out.later (oo K01)) ⟨b1,0,none⟩ k1 (fun w' kk=>(oo HD1).bytesIn (by decide +kernel) kk) bk ok m kk c (fun i hi=>⟨(oo K01).cell ((oo HB) i hi).1 id,((oo HB) i hi).2⟩) (Nat.lt_of_lt_of_le HBK.out (oo K01).size) HMM.out H0.out.1 H0.out.2).mono ?_
 rintro e w2 ⟨s,rfl,bb,cc,x,y,rfl,hr,h4,hx,hy,hg,kz⟩
 simp only [nameOf]
 have k02:Keep Nope w w2:=(oo K01).trans kz
 have z1:=(oo Z1).keep kz id
 have z2:=(oo Z2).keep kz id
 have z3:=(oo Z3).keep kz id
 have c1:=z1.cell 0
 have f1:=z1.frozen 0
 have s1:=z1.set 0 (.string { data:=#[66,114,97,105,110,112,111,111,108,80,50,53,54] })
 have ka:Keep (·=q1) w2 _:=(Keep.refl (·=q1) w2).setCell (p:=⟨q1,0,none⟩) rfl (.string { data:=#[66,114,97,105,110,112,111,111,108,80,50,53,54] })
 have z2:=z2.keep ka (fun e=>HQ.out.2.2.2.1 e.symm)
 have z3:=z3.keep ka (fun e=>HQ.out.2.2.2.2.1 e.symm)
 have c2:=z2.cell 0
 have f2:=z2.frozen 0
 have s2:=z2.set 0 (.slice (some ⟨bb,0,none⟩) (2*32+1) (2*32+1))
 have kb:Keep (·=q2) (w2.setCell ⟨q1,0,none⟩ (.string { data:=#[66,114,97,105,110,112,111,111,108,80,50,53,54] })) _:=(Keep.refl (·=q2) _).setCell (p:=⟨q2,0,none⟩) rfl (.slice (some ⟨bb,0,none⟩) (2*32+1) (2*32+1))
 have s1:=s1.keep kb (fun e=>HQ.out.2.2.2.1 e)
 have z3:=z3.keep kb (fun e=>HQ.out.2.2.2.2.2 e.symm)
 have c3:=z3.cell 0
 have f3:=z3.frozen 0
 have s3:=z3.set 0 (.bool true)
 have kc:Keep (·=q3) ((w2.setCell ⟨q1,0,none⟩ (.string { data:=#[66,114,97,105,110,112,111,111,108,80,50,53,54] })).setCell ⟨q2,0,none⟩ (.slice (some ⟨bb,0,none⟩) (2*32+1) (2*32+1))) _:=(Keep.refl (·=q3) _).setCell (p:=⟨q3,0,none⟩) rfl (.bool true)
 have s1:=s1.keep kc (fun e=>HQ.out.2.2.2.2.1 e)
 have s2:=s2.keep kc (fun e=>HQ.out.2.2.2.2.2 e)
 have hkk:=(((k02.freshN ka (fun b e=>e▸HQ.out.1)).freshN kb (fun b e=>e▸HQ.out.2.1)).freshN kc (fun b e=>e▸HQ.out.2.2.1))
 have r0:=hr.cell (i:=0) (by omega)
 have n1:bb≠q1:=fun e=>by rw [e,c1] at r0;cases r0
 have n2:bb≠q2:=fun e=>by
  have c2':=((oo Z2).keep kz id).cell 0
  rw [e,c2'] at r0;cases r0
 have n3:bb≠q3:=fun e=>by
  have c3':=((oo Z3).keep kz id).cell 0
  rw [e,c3'] at r0;cases r0
 have hr':=((hr.keep ka n1).keep kb n2).keep kc n3
 have HALL:Hid (Zpost 1 32 (preN c m) w _ (.slice (some ⟨bb,0,none⟩) (2*32+1) (2*32+1))):=⟨bb,cc,x,y,rfl,hr',h4,hx,hy,hg,hkk⟩
 simp only [Ls5,Ls4] at c1 c2 c3
 have g1:(((w2.setCell ⟨q1,0,none⟩ (.string { data:=#[66,114,97,105,110,112,111,111,108,80,50,53,54] })).setCell ⟨q2,0,none⟩ (.slice (some ⟨bb,0,none⟩) 65 65)).setCell ⟨q3,0,none⟩ (.bool true)).cell? ⟨q1,0,none⟩=some (.string { data:=#[66,114,97,105,110,112,111,111,108,80,50,53,54] }):=s1.cell 0
 have g2:(((w2.setCell ⟨q1,0,none⟩ (.string { data:=#[66,114,97,105,110,112,111,111,108,80,50,53,54] })).setCell ⟨q2,0,none⟩ (.slice (some ⟨bb,0,none⟩) 65 65)).setCell ⟨q3,0,none⟩ (.bool true)).cell? ⟨q2,0,none⟩=some (.slice (some ⟨bb,0,none⟩) 65 65):=s2.cell 0
 have g3:(((w2.setCell ⟨q1,0,none⟩ (.string { data:=#[66,114,97,105,110,112,111,111,108,80,50,53,54] })).setCell ⟨q2,0,none⟩ (.slice (some ⟨bb,0,none⟩) 65 65)).setCell ⟨q3,0,none⟩ (.bool true)).cell? ⟨q3,0,none⟩=some (.bool true):=s3.cell 0
 clear hr h4 hx hy hg kz k02 z1 z2 z3 s1 s2 s3 ka kb kc hkk r0 n1 n2 n3 hr'
 go_wp2_with fail
 refine leaves_cons (f:=13) (args:=#[.pointer (some ⟨q1,0,none⟩),.pointer (some ⟨q2,0,none⟩),.pointer (some ⟨q3,0,none⟩)]) (by simp) (by simp [go_sem]) ?_
 refine(catch_idle _ _ _ _).mono ?_
 rintro e u' w'' ⟨rfl,rfl,rfl⟩
 simp [Leaves,settle,results,Tryz.results6,go_sem,g1,g2,g3]
 first | exact⟨_,rfl,rfl,oo HALL⟩ | exact⟨rfl,oo HALL⟩ | exact⟨_,⟨rfl,rfl⟩,oo HALL⟩
theorem co2_any (w:World) (bE:Addr) (hE:w.cell? ⟨0,0,none⟩=some (.iface 220 (.pointer (some bE)))) (hb:Base (· < w.heap.size) w) (ao:Option Addr) (ko:Nat) (hO:Db w ao 9 ko (fun i=>(#[43,36,3,3,2,8,1,1,11]:Array Nat).getD i 0))
  (bk ok m kk:Nat) (c:Nat→Nat) (hB:Bts w bk ok m c) (hbk:bk<w.heap.size) (hm:m<1000) (h0:0<preN c m) (hN:preN c m<Ec.C.N) :
  Calls Tryz.prog 6 #[.slice ao 9 ko,.slice (some ⟨bk,ok,none⟩) m kk] w fun e w'=>∃s,e = .returned (.tuple #[nameOf 2,s,.bool true])∧Zpost 2 48 (preN c m) w w' s:=by
 have hmf:∀(fn:Fn) (first cap:Array Value) (w:World),(Instr.makeFunc fn first cap).run Tryz.prog w = .ok (.func fn first cap) w:=fun _ _ _ _=>rfl
 have z1:=Blk.new w #[.string { data:=#[] }] 9
 have z2:=Blk.new (w.alloc (.cells #[.string { data:=#[] }] 9 (0,0))) #[.slice none 0 0] 23
 have z3:=Blk.new ((w.alloc (.cells #[.string { data:=#[] }] 9 (0,0))).alloc (.cells #[.slice none 0 0] 23 (0,0))) #[.bool false] 4
 have k0:Keep Nope w (((w.alloc (.cells #[.string { data:=#[] }] 9 (0,0))).alloc (.cells #[.slice none 0 0] 23 (0,0))).alloc (.cells #[.bool false] 4 (0,0))):=(((Keep.refl _ _).alloc _).alloc _).alloc _
 have z1:=z1.keep (((Keep.refl Nope _).alloc (.cells #[.slice none 0 0] 23 (0,0))).alloc (.cells #[.bool false] 4 (0,0))) id
 have z2:=z2.keep ((Keep.refl Nope _).alloc (.cells #[.bool false] 4 (0,0))) id
 have HE:Hid _:=hE
 have HBS:Hid (Base (· < w.heap.size) w):=hb
 have HO:Hid (Db w ao 9 ko _):=hO
 have HB:Hid (Bts w bk ok m c):=hB
 have H0:Hid (0<preN c m∧preN c m<Ec.C.N):=⟨h0,hN⟩
 have HBK:Hid (bk<w.heap.size):=hbk
 have HMM:Hid (m<1000):=hm
 clear hE hb hO hB h0 hN hbk hm
 rw [alloc_size,alloc_size] at z3
 rw [alloc_size] at z2
 go_enter_defers Tryz.func6,Tryz.ntmps6
 go_wp2_with fail
 obtain⟨w0,hw0⟩:∃w0,w0=(((w.alloc (.cells #[.string { data:=#[] }] 9 (0,0))).alloc (.cells #[.slice none 0 0] 23 (0,0))).alloc (.cells #[.bool false] 4 (0,0))):=⟨_,rfl⟩
 obtain⟨q1,hq1⟩:∃q,q=w.heap.size:=⟨_,rfl⟩
 obtain⟨q2,hq2⟩:∃q,q=q1+1:=⟨_,rfl⟩
 obtain⟨q3,hq3⟩:∃q,q=q2+1:=⟨_,rfl⟩
 rw [← hw0,← hq1,← hq2,← hq3]
 rw [← hw0] at z1 z2 z3 k0
 rw [← hq1] at z1 z2 z3
 rw [← hq2] at z2 z3
 rw [← hq3] at z3
 have HQ:Hid (w.heap.size≤q1∧w.heap.size≤q2∧w.heap.size≤q3∧q1≠q2∧q1≠q3∧q2≠q3):=by show _∧_;omega
 clear hw0 hq1 hq2 hq3
 have K0:Hid (Keep Nope w w0):=k0
 refine(own_any w0 ao 9 ko _ ((oo HO).keep k0 (fun _ _=>id)).dbo (by omega)).mono ?_
 rintro e w1 ⟨a1,k1,rfl,hd1,kk1⟩
 obtain⟨b1,rfl,-,-⟩:=hd1.get 0 (by omega)
 have k01:=k0.trans kk1
 have K01:Hid (Keep Nope w w1):=k01
 have Z1:Hid (Blk w1 q1 _ 9):=z1.keep kk1 id
 have Z2:Hid (Blk w1 q2 _ 23):=z2.keep kk1 id
 have Z3:Hid (Blk w1 q3 _ 4):=z3.keep kk1 id
 have HD1:Hid (Db w1 (some ⟨b1,0,none⟩) 9 k1 _):=hd1
 clear z1 z2 z3 k0 kk1 k01 hd1
 go_wp2_with fail
 refine(zz2_any w1 bE ((oo K01).cell HE.out id) (HBS.out.later (oo K01)) ⟨b1,0,none⟩ k1 (fun w' kk=>(oo HD1).bytesIn (by decide +kernel) kk) bk ok m kk c (fun i hi=>⟨(oo K01).cell ((oo HB) i hi).1 id,((oo HB) i hi).2⟩) (Nat.lt_of_lt_of_le HBK.out (oo K01).size) HMM.out H0.out.1 H0.out.2).mono ?_
 rintro e w2 ⟨s,rfl,bb,cc,x,y,rfl,hr,h4,hx,hy,hg,kz⟩
 simp only [nameOf]
 have k02:Keep Nope w w2:=(oo K01).trans kz
 have z1:=(oo Z1).keep kz id
 have z2:=(oo Z2).keep kz id
 have z3:=(oo Z3).keep kz id
 have c1:=z1.cell 0
 have f1:=z1.frozen 0
 have s1:=z1.set 0 (.string { data:=#[66,114,97,105,110,112,111,111,108,80,51,56,52] })
 have ka:Keep (·=q1) w2 _:=(Keep.refl (·=q1) w2).setCell (p:=⟨q1,0,none⟩) rfl (.string { data:=#[66,114,97,105,110,112,111,111,108,80,51,56,52] })
 have z2:=z2.keep ka (fun e=>HQ.out.2.2.2.1 e.symm)
 have z3:=z3.keep ka (fun e=>HQ.out.2.2.2.2.1 e.symm)
 have c2:=z2.cell 0
 have f2:=z2.frozen 0
 have s2:=z2.set 0 (.slice (some ⟨bb,0,none⟩) (2*48+1) (2*48+1))
 have kb:Keep (·=q2) (w2.setCell ⟨q1,0,none⟩ (.string { data:=#[66,114,97,105,110,112,111,111,108,80,51,56,52] })) _:=(Keep.refl (·=q2) _).setCell (p:=⟨q2,0,none⟩) rfl (.slice (some ⟨bb,0,none⟩) (2*48+1) (2*48+1))
 have s1:=s1.keep kb (fun e=>HQ.out.2.2.2.1 e)
 have z3:=z3.keep kb (fun e=>HQ.out.2.2.2.2.2 e.symm)
 have c3:=z3.cell 0
 have f3:=z3.frozen 0
 have s3:=z3.set 0 (.bool true)
 have kc:Keep (·=q3) ((w2.setCell ⟨q1,0,none⟩ (.string { data:=#[66,114,97,105,110,112,111,111,108,80,51,56,52] })).setCell ⟨q2,0,none⟩ (.slice (some ⟨bb,0,none⟩) (2*48+1) (2*48+1))) _:=(Keep.refl (·=q3) _).setCell (p:=⟨q3,0,none⟩) rfl (.bool true)
 have s1:=s1.keep kc (fun e=>HQ.out.2.2.2.2.1 e)
 have s2:=s2.keep kc (fun e=>HQ.out.2.2.2.2.2 e)
 have hkk:=(((k02.freshN ka (fun b e=>e▸HQ.out.1)).freshN kb (fun b e=>e▸HQ.out.2.1)).freshN kc (fun b e=>e▸HQ.out.2.2.1))
 have r0:=hr.cell (i:=0) (by omega)
 have n1:bb≠q1:=fun e=>by rw [e,c1] at r0;cases r0
 have n2:bb≠q2:=fun e=>by
  have c2':=((oo Z2).keep kz id).cell 0
  rw [e,c2'] at r0;cases r0
 have n3:bb≠q3:=fun e=>by
  have c3':=((oo Z3).keep kz id).cell 0
  rw [e,c3'] at r0;cases r0
 have hr':=((hr.keep ka n1).keep kb n2).keep kc n3
 have HALL:Hid (Zpost 2 48 (preN c m) w _ (.slice (some ⟨bb,0,none⟩) (2*48+1) (2*48+1))):=⟨bb,cc,x,y,rfl,hr',h4,hx,hy,hg,hkk⟩
 simp only [Ls5,Ls4] at c1 c2 c3
 have g1:(((w2.setCell ⟨q1,0,none⟩ (.string { data:=#[66,114,97,105,110,112,111,111,108,80,51,56,52] })).setCell ⟨q2,0,none⟩ (.slice (some ⟨bb,0,none⟩) 97 97)).setCell ⟨q3,0,none⟩ (.bool true)).cell? ⟨q1,0,none⟩=some (.string { data:=#[66,114,97,105,110,112,111,111,108,80,51,56,52] }):=s1.cell 0
 have g2:(((w2.setCell ⟨q1,0,none⟩ (.string { data:=#[66,114,97,105,110,112,111,111,108,80,51,56,52] })).setCell ⟨q2,0,none⟩ (.slice (some ⟨bb,0,none⟩) 97 97)).setCell ⟨q3,0,none⟩ (.bool true)).cell? ⟨q2,0,none⟩=some (.slice (some ⟨bb,0,none⟩) 97 97):=s2.cell 0
 have g3:(((w2.setCell ⟨q1,0,none⟩ (.string { data:=#[66,114,97,105,110,112,111,111,108,80,51,56,52] })).setCell ⟨q2,0,none⟩ (.slice (some ⟨bb,0,none⟩) 97 97)).setCell ⟨q3,0,none⟩ (.bool true)).cell? ⟨q3,0,none⟩=some (.bool true):=s3.cell 0
 clear hr h4 hx hy hg kz k02 z1 z2 z3 s1 s2 s3 ka kb kc hkk r0 n1 n2 n3 hr'
 go_wp2_with fail
 refine leaves_cons (f:=13) (args:=#[.pointer (some ⟨q1,0,none⟩),.pointer (some ⟨q2,0,none⟩),.pointer (some ⟨q3,0,none⟩)]) (by simp) (by simp [go_sem]) ?_
 refine(catch_idle _ _ _ _).mono ?_
 rintro e u' w'' ⟨rfl,rfl,rfl⟩
 simp [Leaves,settle,results,Tryz.results6,go_sem,g1,g2,g3]
 first | exact⟨_,rfl,rfl,oo HALL⟩ | exact⟨rfl,oo HALL⟩ | exact⟨_,⟨rfl,rfl⟩,oo HALL⟩
end Go.Proofs.YtofkehhflkdabaaGreatDoor
