/- A part of the proof of FnCurveOf. -/
import Derived.Test.YtofkehhflkdabaaGreatDoorP02
import Derived.Lib.AppendZerosOnto
import Derived.Laws.BitsLemmas
set_option maxRecDepth 100000
set_option maxHeartbeats 8000000
namespace Go.Proofs.YtofkehhflkdabaaGreatDoor
open Go Go.RowKit
def lenOf:Value→Nat
 | .slice _ l _=>l
 | _=>0
theorem trim_any (w:World) (a:Option Addr) (len cap:Nat) (c:Nat→Nat) (h:Dg w a len cap c) :
  Calls Tryz.prog 21 #[.slice a len cap] w fun e w'=>∃l,e = .returned (.slice a l cap)∧l≤len∧IsB w' a l cap (vb c 0 len)∧w'=w:=by
 have hle:=h.le
 go_enter Tryz.func21,Tryz.ntmps21
 go_wp2_with fail
 go_loopw [0] (fun s0 wr=>wr=w∧∃l,l≤len∧s0 = .slice a l cap∧Hid (vb c 0 l=vb c 0 len)) (fun s0 _=>lenOf s0)
 case atStart=>exact⟨rfl,len,by omega,rfl,rfl⟩
 case round=>
  obtain⟨rfl,l,hl,rfl,hv⟩:=hrel
  rcases Nat.eq_zero_or_pos l with h0 | h0
  ·subst h0
   go_wp2_with fail
   go_ret
   exact⟨0,rfl,by omega,⟨c,h.take (by omega),hv.out,.inl rfl⟩,rfl⟩
  ·obtain⟨b,rfl,hc,hd⟩:=h.get (l-1) (by omega)
   have q1:(0:Int)<(l:Int):=by omega
   have q2:IntKind.i64.wrap ((l:Int)-1)=((l-1:Nat):Int):=by rw [IntWalk.i64_in _ (by omega)];omega
   have q3:l-1≤cap:=by omega
   have q4:l-1<l:=by omega
   by_cases hz:c (l-1)=0
   ·rw [hz] at hc
    go_wp2_with fail
    go_roundw
    case rel=>
     refine⟨by first | trivial | rfl,l-1,by omega,by first | trivial | rfl,?_⟩
     show vb c 0 (l-1)=_
     rw [← hv.out]
     obtain⟨t,rfl⟩:∃t,l=t+1:=⟨l-1,by omega⟩
     simp only [Nat.add_sub_cancel] at hz ⊢
     rw [vb_one,Nat.zero_add,hz];simp
    case measure=>simp only [lenOf];omega
   ·have t1:(((c (l-1):Nat):Int)==0)=false:=beq_eq_false_iff_ne.2 (by omega)
    have HZ:Hid (c (l-1)≠0):=hz
    obtain⟨d,he⟩:∃d,c (l-1)=d:=⟨_,rfl⟩
    rw [he] at hc t1
    clear hz he
    go_wp2_with fail
    go_ret
    exact⟨l,rfl,hl,⟨c,h.take (by omega),hv.out,.inr HZ.out⟩,rfl⟩
theorem and16 (n:Int):bits .and .i64 n 65535=n%65536:=by
 have h127:(BitVec.ofInt 64 65535).toNat=2^16-1:=by decide
 have key:(BitVec.ofInt 64 n &&& BitVec.ofInt 64 65535).toNat=(n%((2^64:Nat):Int)).toNat%2^16:=by
  rw [BitVec.toNat_and,BitVec.toNat_ofInt,h127,Nat.and_two_pow_sub_one_eq_mod]
 show IntKind.i64.wrap ((BitVec.ofInt 64 n &&& BitVec.ofInt 64 65535).toNat:Nat)=n%65536
 rw [key,IntKind.wrap_i64]
 omega
theorem cell_new1 (w:World) (v:Value) (T:TypeId):(w.alloc (.cells #[v] T (0,0))).cell? ⟨w.heap.size,0,none⟩=some v:=by
 have:(w.alloc (.cells #[v] T (0,0))).heap[w.heap.size]?=some (.cells #[v] T (0,0)):=by show (w.heap.push _)[w.heap.size]?=_;simp
 unfold World.cell?;rw [this];rfl
theorem infoI:∃i,Tryz.prog.info? 3=some i∧i.zero=some (.int .i64 0)∧i.size=1∧i.bytes=8:=by
 have h:=(by kernel_rfl:(Tryz.prog.info? 3).map (fun i=>(i.zero,i.size,i.bytes))=some (some (.int .i64 0),1,8))
 cases e:Tryz.prog.info? 3 with
 | none=>rw [e] at h;simp at h
 | some i=>
  rw [e] at h
  simp only [Option.map_some,Option.some.injEq,Prod.mk.injEq] at h
  exact⟨i,rfl,h.1,h.2.1,h.2.2⟩
theorem Ow.app {w0 w:World} {v:Value} {n d:Nat} {c:Nat→Nat} (h:Ow w0 w 3 v n c) (q k:Nat) (hc:w.cell? ⟨q,0,none⟩=some (.int .i64 (d:Nat))) (hd:d<W16) (hn:n<1000000000) (ty:TypeId) :
  ∃v' w',(Builtin.append_ #[25,25] ty #[v,.slice (some ⟨q,0,none⟩) 1 k]).run Tryz.prog w = .ok v' w'∧Ow w0 w' 3 v' (n+1) (upd c n d):=by
 obtain⟨i,h1,h2,h3,h4⟩:=infoI
 exact h.append Tryz.underlying25 h1 h2 h3 h4 q k hc hd hn ty
def ext (c:Nat→Nat) (l:Nat):Nat→Nat:=fun i=>if i<l then c i else 0
theorem vb_ext0 (c:Nat→Nat) (l:Nat):∀n,l≤n→vb (ext c l) 0 n=vb c 0 l:=by
 intro n hn
 induction n with
 | zero=>
  obtain rfl:l=0:=by omega
  rfl
 | succ n ih=>
  rcases Nat.eq_or_lt_of_le hn with e | e
  ·rw [← e]
   exact vb_ext fun i hi=>by rw [ext,if_pos (by omega)]
  ·rw [vb_one,ih (by omega),ext,if_neg (by omega)];simp
theorem plus_any (w:World) (a b:Option Addr) (la ka lb kb A B:Nat) (ha:IsB w a la ka A) (hb:IsB w b lb kb B) (hla:la<1000000) (hlb:lb<1000000) :
  Calls Tryz.prog 38 #[.slice a la ka,.slice b lb kb] w fun e w'=>∃a' l' k',e = .returned (.slice a' l' k')∧IsB w' a' l' k' (A+B)∧Keep Nope w w':=by
 obtain⟨ca,da,va,-⟩:=ha
 obtain⟨cb,db,vb',-⟩:=hb
 have VA:Hid (vb ca 0 la=A):=va
 have VB:Hid (vb cb 0 lb=B):=vb'
 clear va vb'
 go_enter Tryz.func38,Tryz.ntmps38
 go_wp2_with fail
 go_loopw [5,6,7] (fun s5 s6 s7 wr=>∃(i cy:Nat) (c:Nat→Nat),s6 = .int .i64 (cy:Int)∧s7 = .int .i64 (i:Int)∧Ow w wr 3 s5 i c∧cy≤1∧i≤1000000∧Hid (vb c 0 i+cy*W16^i=vb (ext ca la) 0 i+vb (ext cb lb) 0 i)∧(0<cy→i≤max la lb)) (fun _ s6 s7 _=>2*(max la lb-(intOf s7).toNat)+(intOf s6).toNat)
 case atStart=>exact⟨0,0,fun _=>0,rfl,rfl,Ow.nil _ _ _,by omega,by omega,by simp [vb,Hid],by omega⟩
 case round=>
  obtain⟨i,cy,c,rfl,rfl,ho,hcy,hi,hv,hm⟩:=hrel
  have HV:Hid _:=hv
  have HO:Hid _:=ho
  obtain⟨x,hx⟩:∃x,ext ca la i=x:=⟨_,rfl⟩
  obtain⟨y,hy⟩:∃y,ext cb lb i=y:=⟨_,rfl⟩
  have q9:IntKind.i64.wrap ((i:Int)+1)=(i:Int)+1:=IntWalk.i64_in _ (by omega)
  clear hv
  have hxl:x<W16:=by rw [← hx,ext];split;exact da.lt i (by assumption);exact W16_pos
  have hyl:y<W16:=by rw [← hy,ext];split;exact db.lt i (by assumption);exact W16_pos
  rw [W16] at hxl hyl
  obtain⟨d,c2,ht⟩:∃d c2,d<65536∧c2≤1∧d+65536*c2=cy+x+y:=⟨(cy+x+y)%65536,(cy+x+y) / 65536,by omega,by omega,by omega⟩
  obtain⟨hd,hc2,ht⟩:=ht
  have hstep:Hid (vb (upd c i d) 0 (i+1)+c2*W16^(i+1)=vb (ext ca la) 0 (i+1)+vb (ext cb lb) 0 (i+1)):=by
   have h1:=HV.out
   rw [vb_one,vb_one,vb_one,Nat.zero_add,upd_same,vb_upd _ _ _ _ _ (by omega),hx,hy,Nat.pow_succ,show W16=65536 from rfl]
   rw [show W16=65536 from rfl] at h1
   have h3:(d+65536*c2)*65536^i=(cy+x+y)*65536^i:=by rw [ht]
   generalize 65536^i=P at *
   clear ht
   show _=_
   grind
  have hend:Hid (max la lb≤i→cy=0→vb c 0 i=A+B):=by
   intro h1 h2
   have h3:=HV.out
   rw [h2,vb_ext0 _ _ _ (by omega),vb_ext0 _ _ _ (by omega),VA.out,VB.out] at h3
   omega
  by_cases h1:i<la
  ·obtain⟨ba,rfl,fa,-⟩:=da.get i h1
   rw [ext,if_pos h1] at hx
   rw [hx] at fa
   have fa:=(oo HO).keep.cel fa id
   have w1:IntKind.i64.wrap ((cy:Int)+(x:Int))=(cy:Int)+(x:Int):=IntWalk.i64_in _ (by omega)
   by_cases h2:i<lb
   ·obtain⟨bb,rfl,fb,-⟩:=db.get i h2
    rw [ext,if_pos h2] at hy
    rw [hy] at fb
    have fb:=(oo HO).keep.cel fb id
    have w2:IntKind.i64.wrap ((cy:Int)+(x:Int)+(y:Int))=(cy:Int)+(x:Int)+(y:Int):=IntWalk.i64_in _ (by omega)
    have b1:bits .and .i64 ((cy:Int)+(x:Int)+(y:Int)) 65535=(d:Int):=by rw [and16];omega
    have b2:((cy:Int)+(x:Int)+(y:Int)) / 65536=(c2:Int):=by omega
    clear ht hx hy
    go_wp2_with (at_builtin;obtain⟨v',w',hr,ho'⟩:=((oo HO).alloc (.cells #[.int .i64 (d:Int)] 3 (0,0))).app wr.heap.size 1 (d:=d) (cell_new1 _ _ _) (by rw [W16];omega) (by omega) 25;refine Lib.wpList_append_run _ rfl _ _ _ _ rfl _ _ rfl rfl _ _ hr ?_)
    go_roundw
    case rel=>
     exact⟨i+1,c2,_,by go_num,by go_num,ho',by omega,by omega,hstep,by omega⟩
    case measure=>simp [intOf];omega
   ·rw [ext,if_neg h2] at hy
    have b1:bits .and .i64 ((cy:Int)+(x:Int)) 65535=(d:Int):=by rw [and16];omega
    have b2:((cy:Int)+(x:Int)) / 65536=(c2:Int):=by omega
    clear ht hx hy
    go_wp2_with (at_builtin;obtain⟨v',w',hr,ho'⟩:=((oo HO).alloc (.cells #[.int .i64 (d:Int)] 3 (0,0))).app wr.heap.size 1 (d:=d) (cell_new1 _ _ _) (by rw [W16];omega) (by omega) 25;refine Lib.wpList_append_run _ rfl _ _ _ _ rfl _ _ rfl rfl _ _ hr ?_)
    go_roundw
    case rel=>
     exact⟨i+1,c2,_,by go_num,by go_num,ho',by omega,by omega,hstep,by omega⟩
    case measure=>simp [intOf];omega
  ·rw [ext,if_neg h1] at hx
   by_cases h2:i<lb
   ·obtain⟨bb,rfl,fb,-⟩:=db.get i h2
    rw [ext,if_pos h2] at hy
    rw [hy] at fb
    have fb:=(oo HO).keep.cel fb id
    have w2:IntKind.i64.wrap ((cy:Int)+(y:Int))=(cy:Int)+(y:Int):=IntWalk.i64_in _ (by omega)
    have b1:bits .and .i64 ((cy:Int)+(y:Int)) 65535=(d:Int):=by rw [and16];omega
    have b2:((cy:Int)+(y:Int)) / 65536=(c2:Int):=by omega
    clear ht hx hy
    go_wp2_with (at_builtin;obtain⟨v',w',hr,ho'⟩:=((oo HO).alloc (.cells #[.int .i64 (d:Int)] 3 (0,0))).app wr.heap.size 1 (d:=d) (cell_new1 _ _ _) (by rw [W16];omega) (by omega) 25;refine Lib.wpList_append_run _ rfl _ _ _ _ rfl _ _ rfl rfl _ _ hr ?_)
    go_roundw
    case rel=>
     exact⟨i+1,c2,_,by go_num,by go_num,ho',by omega,by omega,hstep,by omega⟩
    case measure=>simp [intOf];omega
   ·rw [ext,if_neg h2] at hy
    by_cases h3:cy=0
    ·subst h3
     clear ht hx hy
     go_wp2_with fail
     obtain⟨a1,k1,rfl,dg⟩:=(oo HO).dg
     refine(trim_any _ a1 i k1 c dg).mono ?_
     rintro e w5 ⟨l,rfl,-,hn,hw⟩
     subst hw
     go_wp2_with fail
     go_ret
     refine⟨_,_,_,rfl,?_,(oo HO).keep⟩
     rw [← oo hend (by omega) (by first | rfl | trivial)]
     exact hn
    ·have b1:bits .and .i64 (cy:Int) 65535=(d:Int):=by rw [and16];omega
     have b2:(cy:Int) / 65536=(c2:Int):=by omega
     clear ht hx hy
     go_wp2_with (at_builtin;obtain⟨v',w',hr,ho'⟩:=((oo HO).alloc (.cells #[.int .i64 (d:Int)] 3 (0,0))).app wr.heap.size 1 (d:=d) (cell_new1 _ _ _) (by rw [W16];omega) (by omega) 25;refine Lib.wpList_append_run _ rfl _ _ _ _ rfl _ _ rfl rfl _ _ hr ?_)
     go_roundw
     case rel=>
      exact⟨i+1,c2,_,by go_num,by go_num,ho',by omega,by omega,hstep,by omega⟩
     case measure=>simp [intOf];omega
end Go.Proofs.YtofkehhflkdabaaGreatDoor
namespace Go.Proofs.YtofkehhflkdabaaGreatDoor.Ec
section
variable {p:Nat} [NeZero p]
def lin (a:Fin p) (G:Pt p):Nat→Pt p
 | 0=>none
 | k+1=>add a (lin a G k) G
def dad (a:Fin p) (G:Pt p):Nat→Nat→Pt p
 | 0,_=>none
 | f+1,k=>if k%2=1 then add a (dbl a (dad a G f (k / 2))) G else dbl a (dad a G f (k / 2))
theorem on_lin (hp:Pr p) {a b:Fin p} (h2:(2:Fin p)≠0) {G:Pt p} (hG:on a b G):∀k,on a b (lin a G k)
 | 0=>trivial
 | k+1=>on_add hp h2 (on_lin hp h2 hG k) hG
theorem add_none {a:Fin p} {P:Pt p} {g h:Fin p} (e:add a P (some (g,h))=none) (hh:h≠0):∃y,P=some (g,y)∧y≠h:=by
 rcases P with _ | ⟨x,y⟩
 ·simp [add] at e
 ·by_cases hx:x=g
  ·subst hx
   by_cases hy:y=h
   ·subst hy
    simp [add,dbl,hh,thru] at e
   ·exact⟨y,rfl,hy⟩
  ·simp [add,hx,thru] at e
theorem add_none' (hp:Pr p) {a b:Fin p} {P:Pt p} {g h:Fin p} (hP:on a b P) (hG:on a b (some (g,h))) (e:add a P (some (g,h))=none) (hh:h≠0):P=neg (some (g,h)):=by
 obtain⟨y,rfl,hy⟩:=add_none e hh
 rw [same_x hp hP hG hy];rfl
theorem none_add_neg {a:Fin p} {g h:Fin p} (hnn:-h≠h):add a (neg (some (g,h))) (some (g,h))=none:=by
 simp [neg,add,hnn]
theorem two_ne_neg (hp:Pr p) (h2:(2:Fin p)≠0) {h:Fin p} (hh:h≠0):-h≠h:=by
 intro e'
 have:2*h=0:=by grind
 exact hh (mul_zero' hp this h2)
theorem dbl_neg (hp:Pr p) {a:Fin p} (h2:(2:Fin p)≠0) (P:Pt p):dbl a (neg P)=neg (dbl a P):=by
 rcases P with _ | ⟨x,y⟩
 ·rfl
 ·by_cases hy:y=0
  ·subst hy
   have e0:-(0:Fin p)=0:=by grind
   simp only [neg,dbl,e0,if_true]
  ·obtain⟨s,c,rfl,ht⟩:=tangent hp a (x:=x) h2 hy
   have e1:-(s*x+c)=(-s)*x+(-c):=by clear ht;grind
   have hy':(-s)*x+(-c)≠0:=by rw [← e1];intro h;apply hy;clear ht e1 hy;grind
   rw [dbl_tan hp a h2 hy ht]
   simp only [neg,e1]
   rw [dbl_tan hp a h2 hy' (by rw [← ht];clear ht e1 hy hy';grind)]
   simp only [Option.some.injEq,Prod.mk.injEq]
   clear ht e1 hy hy'
   constructor<;>grind
section
variable {a b g h:Fin p}
theorem add_eq_G (hp:Pr p) (h2:(2:Fin p)≠0) (hh:h≠0) (hG:on a b (some (g,h))) {P:Pt p} (hP:on a b P) (e:add a P (some (g,h))=some (g,h)):P=none:=by
 have:=third hp h2 hh (Q:=neg (some (g,h))) hP hG (by rw [neg_neg',e])
 rw [none_add_neg (two_ne_neg hp h2 hh)] at this
 rw [← neg_neg' P,← this];rfl
theorem lin_x (hp:Pr p) (h2:(2:Fin p)≠0) (hh:h≠0) (hG:on a b (some (g,h))) {d:Nat} (hd:∀j,0<j→j<d→lin a (some (g,h)) j≠none) {j:Nat} (h1:1<j) (h3:j+1<d) :
  ∃x y,lin a (some (g,h)) j=some (x,y)∧x≠g:=by
 rcases e:lin a (some (g,h)) j with _ | ⟨x,y⟩
 ·exact absurd e (hd j (by omega) (by omega))
 ·refine⟨x,y,rfl,?_⟩
  rintro rfl
  have hon:=on_lin hp h2 hG j
  rw [e] at hon
  by_cases hy:y=h
  ·subst hy
   obtain⟨i,rfl⟩:∃i,j=i+1:=⟨j-1,by omega⟩
   have:=add_eq_G hp h2 hh hG (on_lin hp h2 hG i) e
   exact hd i (by omega) (by omega) this
  ·have:=same_x hp hon hG hy
   subst this
   refine hd (j+1) (by omega) h3 ?_
   show add a (lin a _ j) _=none
   rw [e]
   exact none_add_neg (two_ne_neg hp h2 hh)
theorem dbl_lin (hp:Pr p) (h2:(2:Fin p)≠0) (hh:h≠0) (hG:on a b (some (g,h))) {d:Nat} (hd:∀j,0<j→j<d→lin a (some (g,h)) j≠none)
  (h4:dbl a (dbl a (some (g,h)))=add a (add a (dbl a (some (g,h))) (some (g,h))) (some (g,h))) :
  ∀k,2*k<d→dbl a (lin a (some (g,h)) k)=lin a (some (g,h)) (2*k):=by
 have e1:lin a (some (g,h)) 1=some (g,h):=rfl
 have e2:lin a (some (g,h)) 2=dbl a (some (g,h)):=by show add a (some (g,h)) (some (g,h))=_;simp [add]
 intro k
 induction k with
 | zero=>intro _;rfl
 | succ k ih=>
  intro hk
  by_cases k0:k=0
  ·subst k0;rw [e1,e2]
  by_cases k1:k=1
  ·subst k1
   show dbl a (lin a (some (g,h)) 2)=add a (add a (lin a (some (g,h)) 2) (some (g,h))) (some (g,h))
   rw [e2,h4]
  have ih:=ih (by omega)
  obtain⟨x,y,ek,hx⟩:=lin_x hp h2 hh hG hd (j:=k) (by omega) (by omega)
  obtain⟨x2,y2,ek2,hx2⟩:=lin_x hp h2 hh hG hd (j:=2*k) (by omega) (by omega)
  obtain⟨x3,y3,ek3,hx3⟩:=lin_x hp h2 hh hG hd (j:=2*k+1) (by omega) (by omega)
  have hon:=on_lin hp h2 hG k
  rw [ek] at hon
  rw [ek,ek2] at ih
  have hy:y≠0:=by
   rintro rfl
   simp [dbl] at ih
  have ea:add a (some (x2,y2)) (some (g,h))=some (x3,y3):=by rw [← ek2];exact ek3
  have:=two_point hp h2 hon hG hx hy ih hx2 ea hx3
  show dbl a (add a (lin a _ k) _)=add a (lin a _ (2*k+1)) _
  rw [ek,ek3,this]
theorem lin_neg (hp:Pr p) (h2:(2:Fin p)≠0) (hh:h≠0) (hG:on a b (some (g,h))) {d:Nat} (e:lin a (some (g,h)) d=none):∀j,j≤d→lin a (some (g,h)) (d-j)=neg (lin a (some (g,h)) j):=by
 intro j
 induction j with
 | zero=>intro _;simpa [lin,neg] using e
 | succ j ih=>
  intro hj
  have ih:=ih (by omega)
  obtain⟨i,hi⟩:∃i,d-j=i+1:=⟨d-j-1,by omega⟩
  rw [hi] at ih
  have:=third hp h2 hh (on_lin hp h2 hG i) hG ih
  rw [show d-(j+1)=i from by omega]
  show _=neg (add a (lin a _ j) _)
  rw [this,neg_neg']
theorem lin_add {d:Nat} (e:lin a (some (g,h)) d=none):∀j,lin a (some (g,h)) (d+j)=lin a (some (g,h)) j
 | 0=>e
 | j+1=>by show add a (lin a _ (d+j)) _=add a (lin a _ j) _;rw [lin_add e j]
theorem lin_mul {d:Nat} (e:lin a (some (g,h)) d=none) (r:Nat):∀q,lin a (some (g,h)) (d*q+r)=lin a (some (g,h)) r
 | 0=>by simp
 | q+1=>by rw [Nat.mul_succ,Nat.add_comm (d*q) d,Nat.add_assoc,lin_add e,lin_mul e r q]
theorem dbl_all (hp:Pr p) (h2:(2:Fin p)≠0) (hh:h≠0) (hG:on a b (some (g,h))) {d:Nat} (d0:0<d) (hd:∀j,0<j→j<d→lin a (some (g,h)) j≠none) (e:lin a (some (g,h)) d=none)
  (h4:dbl a (dbl a (some (g,h)))=add a (add a (dbl a (some (g,h))) (some (g,h))) (some (g,h))) (m:Nat) :
  dbl a (lin a (some (g,h)) m)=lin a (some (g,h)) (2*m):=by
 have hr:=Nat.mod_lt m d0
 have hm:=Nat.div_add_mod m d
 have e1:lin a (some (g,h)) m=lin a (some (g,h)) (m%d):=by
  have:=lin_mul e (m%d) (m / d)
  rw [hm] at this;exact this
 have e2:lin a (some (g,h)) (2*m)=lin a (some (g,h)) (2*(m%d)):=by
  have:=lin_mul e (2*(m%d)) (2*(m / d))
  rw [show d*(2*(m / d))+2*(m%d)=2*(d*(m / d)+m%d) from by rw [Nat.mul_add,Nat.mul_left_comm],hm] at this
  exact this
 rw [e1,e2]
 generalize m%d=r at hr
 rcases Nat.lt_trichotomy (2*r) d with hlt | heq | hgt
 ·exact dbl_lin hp h2 hh hG hd h4 r hlt
 ·rw [heq,e]
  have:=lin_neg hp h2 hh hG e r (by omega)
  rw [show d-r=r from by omega] at this
  rcases el:lin a (some (g,h)) r with _ | ⟨x,y⟩
  ·rfl
  ·rw [el] at this
   simp only [neg,Option.some.injEq,Prod.mk.injEq,true_and] at this
   have hy:y=0:=mul_zero' hp (x:=2) (by grind) h2
   simp [dbl,hy]
 ·have a1:=lin_neg hp h2 hh hG e (d-r) (by omega)
  rw [show d-(d-r)=r from by omega] at a1
  rw [a1,dbl_neg hp h2,dbl_lin hp h2 hh hG hd h4 (d-r) (by omega)]
  have a2:=lin_neg hp h2 hh hG e (2*(d-r)) (by omega)
  rw [← a2]
  have a3:=lin_add e (2*r-d)
  rw [show d+(2*r-d)=2*r from by omega] at a3
  rw [a3]
  congr 1
  omega
theorem dad_lin (hall:∀m,dbl a (lin a (some (g,h)) m)=lin a (some (g,h)) (2*m)):∀f k,k<2^f→dad a (some (g,h)) f k=lin a (some (g,h)) k:=by
 intro f
 induction f with
 | zero=>
  intro k hk
  have:k=0:=by simpa using hk
  subst this
  rfl
 | succ f ih=>
  intro k hk
  have h3:k / 2<2^f:=by rw [Nat.pow_succ] at hk;omega
  simp only [dad,ih _ h3,hall]
  split
  ·show lin a (some (g,h)) (2*(k / 2)+1)=_
   congr 1;omega
  ·congr 1;omega
theorem order (hp:Pr p) (h2:(2:Fin p)≠0) (hh:h≠0) (hG:on a b (some (g,h))) {N f:Nat} (hN:Pr N) (hf:N<2^f) (e:dad a (some (g,h)) f N=none)
  (h4:dbl a (dbl a (some (g,h)))=add a (add a (dbl a (some (g,h))) (some (g,h))) (some (g,h))) :
  (∀j,0<j→j<N→lin a (some (g,h)) j≠none)∧(∀m,dbl a (lin a (some (g,h)) m)=lin a (some (g,h)) (2*m)):=by
 by_cases hex:∃d,0<d∧lin a (some (g,h)) d=none
 ·have hmin:∀n,∀d,d≤n→0<d→lin a (some (g,h)) d=none→∃d,0<d∧lin a (some (g,h)) d=none∧∀j,0<j→j<d→lin a (some (g,h)) j≠none:=by
   intro n
   induction n with
   | zero=>intro d h0 h1;omega
   | succ n ih=>
    intro d hn h0 hd
    by_cases hlow:∃j,0<j∧j<d∧lin a (some (g,h)) j=none
    ·obtain⟨j,j0,jd,ej⟩:=hlow
     exact ih j (by omega) j0 ej
    ·exact⟨d,h0,hd,fun j j0 jd ej=>hlow ⟨j,j0,jd,ej⟩⟩
  obtain⟨d',d0',ed'⟩:=hex
  obtain⟨d,d0,ed,hd⟩:=hmin d' d' (Nat.le_refl _) d0' ed'
  have hall:=dbl_all hp h2 hh hG d0 hd ed h4
  rw [dad_lin hall f N hf] at e
  have hr:=Nat.mod_lt N d0
  have hm:=Nat.div_add_mod N d
  have e1:=lin_mul ed (N%d) (N / d)
  rw [hm,e] at e1
  have hz:N%d=0:=by
   rcases Nat.eq_zero_or_pos (N%d) with h0 | h0
   ·exact h0
   ·exact absurd e1.symm (hd _ h0 hr)
  rcases hN.2 d (Nat.dvd_of_mod_eq_zero hz) with h1 | h1
  ·subst h1
   simp [lin,add] at ed
  ·subst h1
   exact⟨hd,hall⟩
 ·have hno:∀j,0<j→lin a (some (g,h)) j≠none:=fun j h0 ej=>hex ⟨j,h0,ej⟩
  have hall:∀m,dbl a (lin a (some (g,h)) m)=lin a (some (g,h)) (2*m):=fun m=>
   dbl_lin hp h2 hh hG (d:=2*m+1) (fun j h0 _=>hno j h0) h4 m (by omega)
  rw [dad_lin hall f N hf] at e
  exact absurd e (hno N (by have:=hN.1;omega))
end
end
end Go.Proofs.YtofkehhflkdabaaGreatDoor.Ec
namespace Go.Proofs.YtofkehhflkdabaaGreatDoor
open Go Go.RowKit
theorem vb_lt0 {c:Nat→Nat} {n:Nat} (h:∀i,i<n→c i<W16):vb c 0 n<W16^n:=vb_lt fun i hi=>by rw [Nat.zero_add];exact h i hi
theorem minus_any (w:World) (a b:Option Addr) (la ka lb kb A B:Nat) (ha:IsB w a la ka A) (hb:IsB w b lb kb B) (hla:la<1000000) (hAB:B≤A) :
  Calls Tryz.prog 39 #[.slice a la ka,.slice b lb kb] w fun e w'=>∃a' l' k',e = .returned (.slice a' l' k')∧IsB w' a' l' k' (A-B)∧Keep Nope w w':=by
 have hlb:lb≤la:=hb.len_le (Nat.lt_of_le_of_lt hAB ha.lt)
 obtain⟨ca,da,va,-⟩:=ha
 obtain⟨cb,db,vb',-⟩:=hb
 have VA:Hid (vb ca 0 la=A):=va
 have VB:Hid (vb cb 0 lb=B):=vb'
 have HAB:Hid (B≤A):=hAB
 clear va vb' hAB
 go_enter Tryz.func39,Tryz.ntmps39
 go_wp2_with fail
 go_loopw [5,6,11] (fun s5 s6 s11 wr=>∃(i cy:Nat) (c:Nat→Nat),s6 = .int .i64 (cy:Int)∧s11 = .int .i64 (i:Int)∧Ow w wr 3 s5 i c∧cy≤1∧i≤la∧Hid (vb c 0 i+vb (ext cb lb) 0 i=vb ca 0 i+cy*W16^i)) (fun _ _ s11 _=>la-(intOf s11).toNat)
 case atStart=>exact⟨0,0,fun _=>0,rfl,rfl,Ow.nil _ _ _,by omega,by omega,by simp [vb,Hid]⟩
 case round=>
  obtain⟨i,cy,c,rfl,rfl,ho,hcy,hi,hv⟩:=hrel
  have HV:Hid _:=hv
  have HO:Hid _:=ho
  clear hv
  have q9:IntKind.i64.wrap ((i:Int)+1)=(i:Int)+1:=IntWalk.i64_in _ (by omega)
  by_cases h0:i=la
  ·subst h0
   have hend:Hid (vb c 0 i=A-B):=by
    have h1:=HV.out
    rw [vb_ext0 _ _ _ hlb,VA.out,VB.out] at h1
    have h2:=vb_lt0 (oo HO).lt
    have h3:=HAB.out
    obtain rfl | rfl:cy=0∨cy=1:=by omega
    ·show _=_;omega
    ·omega
   clear HV
   go_wp2_with fail
   obtain⟨a1,k1,rfl,dg⟩:=(oo HO).dg
   refine(trim_any _ a1 i k1 c dg).mono ?_
   rintro e w5 ⟨l,rfl,-,hn,hw⟩
   subst hw
   go_wp2_with fail
   go_ret
   refine⟨_,_,_,rfl,?_,(oo HO).keep⟩
   rw [← oo hend]
   exact hn
  ·have h1:i<la:=by omega
   obtain⟨ba,rfl,fa,hxl⟩:=da.get i h1
   obtain⟨x,hx⟩:∃x,ca i=x:=⟨_,rfl⟩
   obtain⟨y,hy⟩:∃y,ext cb lb i=y:=⟨_,rfl⟩
   rw [hx] at fa hxl
   have fa:=(oo HO).keep.cel fa id
   have hyl:y<W16:=by rw [← hy,ext];split;exact db.lt i (by assumption);exact W16_pos
   rw [W16] at hxl hyl
   obtain⟨d,c2,ht⟩:∃d c2,d<65536∧c2≤1∧d+y+cy=x+65536*c2:=by
    by_cases h:x<y+cy
    ·exact⟨x+65536-y-cy,1,by omega,by omega,by omega⟩
    ·exact⟨x-y-cy,0,by omega,by omega,by omega⟩
   obtain⟨hd,hc2,ht⟩:=ht
   have hstep:Hid (vb (upd c i d) 0 (i+1)+vb (ext cb lb) 0 (i+1)=vb ca 0 (i+1)+c2*W16^(i+1)):=by
    have h1:=HV.out
    rw [vb_one,vb_one,vb_one,Nat.zero_add,upd_same,vb_upd _ _ _ _ _ (by omega),hx,hy,Nat.pow_succ,show W16=65536 from rfl]
    rw [show W16=65536 from rfl] at h1
    have h3:(d+y+cy)*65536^i=(x+65536*c2)*65536^i:=by rw [ht]
    generalize 65536^i=P at *
    clear ht
    show _=_
    grind
   have HX:Hid (ca i=x):=hx
   have w1:IntKind.i64.wrap ((x:Int)-(cy:Int))=(x:Int)-(cy:Int):=IntWalk.i64_in _ (by omega)
   by_cases h2:i<lb
   ·obtain⟨bb,rfl,fb,-⟩:=db.get i h2
    rw [ext,if_pos h2] at hy
    rw [hy] at fb
    have fb:=(oo HO).keep.cel fb id
    have w2:IntKind.i64.wrap ((x:Int)-(cy:Int)-(y:Int))=(x:Int)-(cy:Int)-(y:Int):=IntWalk.i64_in _ (by omega)
    by_cases h3:(x:Int)-(cy:Int)-(y:Int)<0
    ·have W3:Hid ((x:Int)-(cy:Int)-(y:Int)+65536=(d:Int)):=by show _=_;omega
     obtain rfl:c2=1:=by omega
     clear ht hx hy HV
     go_wp2_with (at_builtin;obtain⟨v',w',hr,ho'⟩:=((oo HO).alloc (.cells #[.int .i64 ((x:Int)-(cy:Int)-(y:Int)+65536)] 3 (0,0))).app wr.heap.size 1 (d:=d) (by rw [← W3.out];exact cell_new1 _ _ _) (by rw [W16];omega) (by omega) 25;refine Lib.wpList_append_run _ rfl _ _ _ _ rfl _ _ rfl rfl _ _ hr ?_)
     go_roundw
     case rel=>
      exact⟨i+1,_,_,by go_num,by go_num,ho',by first | omega | assumption,by omega,hstep⟩
     case measure=>simp [intOf];omega
    ·have W3:Hid ((x:Int)-(cy:Int)-(y:Int)=(d:Int)):=by show _=_;omega
     obtain rfl:c2=0:=by omega
     clear ht hx hy HV
     go_wp2_with (at_builtin;obtain⟨v',w',hr,ho'⟩:=((oo HO).alloc (.cells #[.int .i64 ((x:Int)-(cy:Int)-(y:Int))] 3 (0,0))).app wr.heap.size 1 (d:=d) (by rw [← W3.out];exact cell_new1 _ _ _) (by rw [W16];omega) (by omega) 25;refine Lib.wpList_append_run _ rfl _ _ _ _ rfl _ _ rfl rfl _ _ hr ?_)
     go_roundw
     case rel=>
      exact⟨i+1,_,_,by go_num,by go_num,ho',by first | omega | assumption,by omega,hstep⟩
     case measure=>simp [intOf];omega
   ·rw [ext,if_neg h2] at hy
    by_cases h3:(x:Int)-(cy:Int)<0
    ·have W3:Hid ((x:Int)-(cy:Int)+65536=(d:Int)):=by show _=_;omega
     obtain rfl:c2=1:=by omega
     clear ht hx hy HV
     go_wp2_with (at_builtin;obtain⟨v',w',hr,ho'⟩:=((oo HO).alloc (.cells #[.int .i64 ((x:Int)-(cy:Int)+65536)] 3 (0,0))).app wr.heap.size 1 (d:=d) (by rw [← W3.out];exact cell_new1 _ _ _) (by rw [W16];omega) (by omega) 25;refine Lib.wpList_append_run _ rfl _ _ _ _ rfl _ _ rfl rfl _ _ hr ?_)
     go_roundw
     case rel=>
      exact⟨i+1,_,_,by go_num,by go_num,ho',by first | omega | assumption,by omega,hstep⟩
     case measure=>simp [intOf];omega
    ·have W3:Hid ((x:Int)-(cy:Int)=(d:Int)):=by show _=_;omega
     obtain rfl:c2=0:=by omega
     clear ht hx hy HV
     go_wp2_with (at_builtin;obtain⟨v',w',hr,ho'⟩:=((oo HO).alloc (.cells #[.int .i64 ((x:Int)-(cy:Int))] 3 (0,0))).app wr.heap.size 1 (d:=d) (by rw [← W3.out];exact cell_new1 _ _ _) (by rw [W16];omega) (by omega) 25;refine Lib.wpList_append_run _ rfl _ _ _ _ rfl _ _ rfl rfl _ _ hr ?_)
     go_roundw
     case rel=>
      exact⟨i+1,_,_,by go_num,by go_num,ho',by first | omega | assumption,by omega,hstep⟩
     case measure=>simp [intOf];omega
theorem or_shl (cy x n:Nat) (hn:n≤16) (hcy:cy<2^n) (hx:x<65536):bits .or .i64 (cy:Int) ((x*2^n:Nat):Int)=((x*2^n+cy:Nat):Int):=by
 have hp:2^n≤2^16:=Nat.pow_le_pow_right (by decide) hn
 have h1:x*2^n≤65535*2^n:=Nat.mul_le_mul_right _ (by omega)
 have:=(bits_nat .i64 62 (by decide) (fun m h0 h1=>IntWalk.i64_in _ (by omega)) cy (x*2^n) (by omega) (by omega)).2
 rw [this]
 congr 1
 rw [Nat.or_comm,Nat.mul_comm x,← Nat.two_pow_add_eq_or_of_lt hcy]
theorem or_shl' (cy x n:Nat) (hn:n≤16) (hcy:cy<2^n) (hx:x<65536):bits .or .i64 ((x*2^n:Nat):Int) (cy:Int)=((x*2^n+cy:Nat):Int):=by
 have:bits .or .i64 ((x*2^n:Nat):Int) (cy:Int)=bits .or .i64 (cy:Int) ((x*2^n:Nat):Int):=by simp only [bits,BitVec.or_comm]
 rw [this,or_shl cy x n hn hcy hx]
theorem shifted_any (w:World) (a:Option Addr) (la ka A n:Nat) (ha:IsB w a la ka A) (hla:la<1000000) (hn:n<16) :
  Calls Tryz.prog 47 #[.slice a la ka,.int .i64 (n:Int)] w fun e w'=>∃a' l' k',e = .returned (.slice a' l' k')∧IsB w' a' l' k' (A*2^n)∧Keep Nope w w':=by
 obtain⟨ca,da,va,-⟩:=ha
 have VA:Hid (vb ca 0 la=A):=va
 clear va
 go_enter Tryz.func47,Tryz.ntmps47
 go_wp2_with fail
 go_loopw [5,6,11] (fun s5 s6 s11 wr=>∃(i cy:Nat) (c:Nat→Nat),s6 = .int .i64 (cy:Int)∧s11 = .int .i64 (i:Int)∧Ow w wr 3 s5 i c∧cy<2^n∧i≤la∧Hid (vb c 0 i+cy*W16^i=vb ca 0 i*2^n)) (fun _ _ s11 _=>la-(intOf s11).toNat)
 case atStart=>exact⟨0,0,fun _=>0,rfl,rfl,Ow.nil _ _ _,Nat.two_pow_pos _,by omega,by simp [vb,Hid]⟩
 case round=>
  obtain⟨i,cy,c,rfl,rfl,ho,hcy,hi,hv⟩:=hrel
  have HV:Hid _:=hv
  have HO:Hid _:=ho
  clear hv
  have hp:2^n≤2^15:=Nat.pow_le_pow_right (by decide) (by omega)
  have q9:IntKind.i64.wrap ((i:Int)+1)=(i:Int)+1:=IntWalk.i64_in _ (by omega)
  by_cases h0:i=la
  ·subst h0
   have hend:Hid (vb (upd c i cy) 0 (i+1)=A*2^n):=by
    have h1:=HV.out
    rw [VA.out] at h1
    rw [← h1,vb_one,Nat.zero_add,upd_same,vb_upd _ _ _ _ _ (by omega)]
    rfl
   have hcw:cy<W16:=by rw [W16];omega
   clear HV hp hcy
   go_wp2_with (at_builtin;obtain⟨v',w',hr,ho'⟩:=((oo HO).alloc (.cells #[.int .i64 (cy:Int)] 3 (0,0))).app wr.heap.size 1 (d:=cy) (cell_new1 _ _ _) hcw (by omega) 25;refine Lib.wpList_append_run _ rfl _ _ _ _ rfl _ _ rfl rfl _ _ hr ?_)
   obtain⟨a1,k1,rfl,dg⟩:=ho'.dg
   refine(trim_any _ a1 (i+1) k1 _ dg).mono ?_
   rintro e w5 ⟨l,rfl,-,hn',hw⟩
   subst hw
   go_wp2_with fail
   go_ret
   refine⟨_,_,_,rfl,?_,ho'.keep⟩
   rw [← oo hend]
   exact hn'
  ·have h1:i<la:=by omega
   obtain⟨ba,rfl,fa,hxl⟩:=da.get i h1
   obtain⟨x,hx⟩:∃x,ca i=x:=⟨_,rfl⟩
   rw [hx] at fa hxl
   have fa:=(oo HO).keep.cel fa id
   rw [W16] at hxl
   obtain⟨t,ht⟩:∃t,t=x*2^n+cy:=⟨_,rfl⟩
   have ht1:x*2^n≤65535*2^n:=Nat.mul_le_mul_right _ (by omega)
   have b0:bits .or .i64 (cy:Int) ((x:Int)*2^n)=(t:Int):=by
    have:=or_shl cy x n (by omega) hcy (by omega)
    rw [ht,← this];push_cast;rfl
   have hwx:IntKind.i64.wrap ((x:Int)*2^n)=(x:Int)*2^n:=by
    have e:(x:Int)*2^n=((x*2^n:Nat):Int):=by push_cast;rfl
    rw [e,IntWalk.i64_in _ (by omega)]
   obtain⟨d,c2,ht2⟩:∃d c2,d<65536∧d+65536*c2=t:=⟨t%65536,t / 65536,by omega,by omega⟩
   obtain⟨hd,ht2⟩:=ht2
   have hc2:c2<2^n:=by omega
   have b1:bits .and .i64 (t:Int) 65535=(d:Int):=by rw [and16];omega
   have b2:(t:Int) / 65536=(c2:Int):=by omega
   have hstep:Hid (vb (upd c i d) 0 (i+1)+c2*W16^(i+1)=vb ca 0 (i+1)*2^n):=by
    have h1:=HV.out
    rw [vb_one,vb_one,Nat.zero_add,upd_same,vb_upd _ _ _ _ _ (by omega),hx,Nat.pow_succ,show W16=65536 from rfl]
    rw [show W16=65536 from rfl] at h1
    have h3:(d+65536*c2)*65536^i=(x*2^n+cy)*65536^i:=by rw [ht2,ht]
    generalize 65536^i=P at *
    generalize 2^n=M at *
    clear ht ht1 b0 hwx b1 b2
    show _=_
    grind
   have n16:(n:Int)<64:=by omega
   clear ht ht1 hx HV ht2 hp hcy
   go_wp2_with (at_builtin;obtain⟨v',w',hr,ho'⟩:=((oo HO).alloc (.cells #[.int .i64 (d:Int)] 3 (0,0))).app wr.heap.size 1 (d:=d) (cell_new1 _ _ _) (by rw [W16];omega) (by omega) 25;refine Lib.wpList_append_run _ rfl _ _ _ _ rfl _ _ rfl rfl _ _ hr ?_)
   go_roundw
   case rel=>
    exact⟨i+1,_,_,by go_num,by go_num,ho',by first | omega | assumption,by omega,hstep⟩
   case measure=>simp [intOf];omega
end Go.Proofs.YtofkehhflkdabaaGreatDoor
namespace Go.Proofs.YtofkehhflkdabaaGreatDoor.Ec
section
variable {p:Nat} [NeZero p]
structure Tri (p:Nat) where
 x:Fin p
 y:Fin p
 z:Fin p
def rep (T:Tri p):Pt p→Prop
 | none=>T.z=0
 | some (x,y)=>T.z≠0∧T.x=x*(T.z*T.z)∧T.y=y*(T.z*T.z*T.z)
def jdbl (a:Fin p) (T:Tri p):Tri p:=
 if T.z=0∨T.y=0 then ⟨1,1,0⟩ else
 let yy:=T.y*T.y
 let s:=4*(T.x*yy)
 let zz:=T.z*T.z
 let m:=3*(T.x*T.x)+a*(zz*zz)
 let x:=m*m-(s+s)
 ⟨x,m*(s-x)-8*(yy*yy),2*(T.y*T.z)⟩
def jadd (a:Fin p) (T U:Tri p):Tri p:=
 if T.z=0 then U else if U.z=0 then T else
 let pp:=T.z*T.z
 let qq:=U.z*U.z
 let u:=T.x*qq
 let v:=U.x*pp
 let s:=T.y*(qq*U.z)
 let t:=U.y*(pp*T.z)
 let h:=v-u
 let r:=t-s
 if h=0 then (if r=0 then jdbl a T else ⟨1,1,0⟩) else
 let hh:=h*h
 let hhh:=hh*h
 let w:=u*hh
 let x:=r*r-hhh-(w+w)
 ⟨x,r*(w-x)-s*hhh,h*(T.z*U.z)⟩
theorem rep_jdbl (hp:Pr p) (h2:(2:Fin p)≠0) {a:Fin p} {T:Tri p} {P:Pt p} (h:rep T P):rep (jdbl a T) (dbl a P):=by
 obtain⟨X,Y,Z⟩:=T
 rcases P with _ | ⟨x,y⟩
 ·simp only [rep] at h
  subst h
  simp [jdbl,dbl,rep]
 ·simp only [rep] at h
  obtain⟨hz,rfl,rfl⟩:=h
  by_cases hy:y=0
  ·subst hy
   have:(0:Fin p)*(Z*Z*Z)=0:=by grind
   simp [jdbl,dbl,rep,this]
  ·have hY:y*(Z*Z*Z)≠0:=mul_ne hp hy (mul_ne hp (mul_ne hp hz hz) hz)
   obtain⟨s,c,rfl,ht⟩:=tangent hp a (x:=x) h2 hy
   rw [dbl_tan hp a h2 hy ht]
   have hno:¬(Z=0∨(s*x+c)*(Z*Z*Z)=0):=fun h=>h.elim hz hY
   simp only [jdbl,if_neg hno,rep]
   have hm:3*(x*(Z*Z)*(x*(Z*Z)))+a*(Z*Z*(Z*Z))=2*(s*x+c)*s*(Z*Z*(Z*Z)):=by rw [ht];clear ht hno hY hy hz;grind
   rw [hm]
   refine⟨mul_ne hp h2 (mul_ne hp hY hz),?_,?_⟩
   ·clear hm ht hno hY hy hz;grind
   ·clear hm ht hno hY hy hz;grind
theorem rep_jadd (hp:Pr p) (h2:(2:Fin p)≠0) {a:Fin p} {T U:Tri p} {P Q:Pt p} (h:rep T P) (h':rep U Q):rep (jadd a T U) (add a P Q):=by
 rcases P with _ | ⟨x,y⟩
 ·have:T.z=0:=h
  simp only [jadd,if_pos this,add];exact h'
 have hz:T.z≠0:=h.1
 rcases Q with _ | ⟨g,k⟩
 ·have:U.z=0:=h'
  simp only [jadd,if_neg hz,if_pos this,add];exact h
 have hz':U.z≠0:=h'.1
 have hT:=h
 obtain⟨X,Y,Z⟩:=T
 obtain⟨X',Y',Z'⟩:=U
 simp only [rep] at h h' hz hz'
 obtain⟨-,rfl,rfl⟩:=h
 obtain⟨-,rfl,rfl⟩:=h'
 have hzz:=mul_ne hp (mul_ne hp hz hz') (mul_ne hp hz hz')
 have hzzz:=mul_ne hp hzz (mul_ne hp hz hz')
 have eh:g*(Z'*Z')*(Z*Z)-x*(Z*Z)*(Z'*Z')=(Z*Z'*(Z*Z'))*(g-x):=by clear hzz hzzz hz hz' hT;grind
 have er:k*(Z'*Z'*Z')*(Z*Z*Z)-y*(Z*Z*Z)*(Z'*Z'*Z')=(Z*Z'*(Z*Z')*(Z*Z'))*(k-y):=by clear hzz hzzz hz hz' hT eh;grind
 simp only [jadd,if_neg hz,if_neg hz',eh,er]
 by_cases hx:x=g
 ·subst hx
  have e0:(Z*Z'*(Z*Z'))*(x-x)=0:=by clear hzz hzzz hz hz' hT eh er;grind
  rw [if_pos e0]
  by_cases hy:y=k
  ·subst hy
   have e1:(Z*Z'*(Z*Z')*(Z*Z'))*(y-y)=0:=by clear hzz hzzz hz hz' hT eh er e0;grind
   rw [if_pos e1]
   simp only [add,if_true]
   exact rep_jdbl hp h2 hT
  ·have e1:(Z*Z'*(Z*Z')*(Z*Z'))*(k-y)≠0:=mul_ne hp hzzz (by clear hzz hzzz hz hz' hT eh er e0;grind)
   rw [if_neg e1]
   simp [add,hy,rep]
 ·have e0:(Z*Z'*(Z*Z'))*(g-x)≠0:=mul_ne hp hzz (by clear hzz hzzz hz hz' hT eh er;grind)
  rw [if_neg e0]
  obtain⟨s,c,rfl,rfl⟩:=chord hp (y1:=y) (y2:=k) hx
  rw [add_chord hp a hx]
  have e2:s*g+c-(s*x+c)=s*(g-x):=by clear hzz hzzz hz hz' hT eh er e0;grind
  rw [e2]
  simp only [rep]
  refine⟨mul_ne hp e0 (mul_ne hp hz hz'),?_,?_⟩
  ·clear hzz hzzz hz hz' hT eh er e0 e2;grind
  ·clear hzz hzzz hz hz' hT eh er e0 e2;grind
def jdad (a:Fin p) (G:Tri p):Nat→Nat→Tri p
 | 0,_=>⟨1,1,0⟩
 | f+1,k=>if k%2=1 then jadd a (jdbl a (jdad a G f (k / 2))) G else jdbl a (jdad a G f (k / 2))
theorem rep_jdad (hp:Pr p) (h2:(2:Fin p)≠0) {a:Fin p} {T:Tri p} {P:Pt p} (h:rep T P):∀f k,rep (jdad a T f k) (dad a P f k):=by
 intro f
 induction f with
 | zero=>intro k;rfl
 | succ f ih=>
  intro k
  simp only [jdad,dad]
  split
  ·exact rep_jadd hp h2 (rep_jdbl hp h2 (ih _)) h
  ·exact rep_jdbl hp h2 (ih _)
theorem rep_one (P:Fin p×Fin p) (h1:(1:Fin p)≠0):rep ⟨P.1,P.2,1⟩ (some P):=by
 obtain⟨x,y⟩:=P
 simp only [rep]
 refine⟨h1,?_,?_⟩<;>grind
theorem rep_eq (hp:Pr p) {T U:Tri p} {P Q:Pt p} (h:rep T P) (h':rep U Q) (hz:T.z≠0) (hz':U.z≠0)
  (hx:T.x*(U.z*U.z)=U.x*(T.z*T.z)) (hy:T.y*(U.z*U.z*U.z)=U.y*(T.z*T.z*T.z)):P=Q:=by
 rcases P with _ | ⟨x,y⟩
 ·exact absurd h hz
 rcases Q with _ | ⟨g,k⟩
 ·exact absurd h' hz'
 simp only [rep] at h h'
 obtain⟨-,e1,e2⟩:=h
 obtain⟨-,e3,e4⟩:=h'
 rw [e1,e3] at hx
 rw [e2,e4] at hy
 have hzz:=mul_ne hp (mul_ne hp hz hz) (mul_ne hp hz' hz')
 have hzzz:=mul_ne hp hzz (mul_ne hp hz hz')
 have a1:x=g:=cancel hp hzz (by clear hy hzz hzzz e1 e2 e3 e4;grind)
 have a2:y=k:=cancel hp hzzz (by clear hx hzz hzzz e1 e2 e3 e4 a1;grind)
 rw [a1,a2]
end
section
variable {p:Nat} [NeZero p]
def iso (t:Fin p):Pt p→Pt p
 | none=>none
 | some (x,y)=>some (x*(t*t),y*(t*t*t))
theorem iso_dbl (hp:Pr p) (h2:(2:Fin p)≠0) {a t:Fin p} (ht:t≠0) (P:Pt p):iso t (dbl a P)=dbl (a*(t*t*(t*t))) (iso t P):=by
 rcases P with _ | ⟨x,y⟩
 ·rfl
 by_cases hy:y=0
 ·subst hy
  have e0:(0:Fin p)*(t*t*t)=0:=by clear ht;grind
  simp only [iso,dbl,if_true,e0]
 ·obtain⟨s,c,rfl,hs⟩:=tangent hp a (x:=x) h2 hy
  rw [dbl_tan hp a h2 hy hs]
  have hty:=mul_ne hp hy (mul_ne hp (mul_ne hp ht ht) ht)
  have e1:(s*x+c)*(t*t*t)=(s*t)*(x*(t*t))+c*(t*t*t):=by clear hs hty;grind
  simp only [iso,e1]
  rw [e1] at hty
  rw [dbl_tan hp _ h2 hty (by
   have:2*((s*t)*(x*(t*t))+c*(t*t*t))*(s*t)=(2*(s*x+c)*s)*(t*t*(t*t)):=by clear hs hty e1;grind
   rw [this,hs];clear this hs hty e1;grind)]
  simp only [Option.some.injEq,Prod.mk.injEq]
  clear hs hty e1 hy ht
  constructor<;>grind
theorem iso_add (hp:Pr p) (h2:(2:Fin p)≠0) {a t:Fin p} (ht:t≠0) (P Q:Pt p):iso t (add a P Q)=add (a*(t*t*(t*t))) (iso t P) (iso t Q):=by
 rcases P with _ | ⟨x,y⟩
 ·cases Q<;>rfl
 rcases Q with _ | ⟨g,k⟩
 ·rfl
 have h3:=mul_ne hp ht ht
 have h4:=mul_ne hp h3 ht
 by_cases hx:x=g
 ·subst hx
  by_cases hy:y=k
  ·subst hy
   have:=iso_dbl hp h2 (a:=a) ht (some (x,y))
   simp only [add,if_true,iso] at this ⊢
   exact this
  ·have hne:y*(t*t*t)≠k*(t*t*t):=by
    intro h
    exact hy (cancel hp h4 (by clear h3 h4;grind))
   simp [add,hy,iso,hne]
 ·have hne:x*(t*t)≠g*(t*t):=by
   intro h
   exact hx (cancel hp h3 (by clear h3 h4;grind))
  obtain⟨s,c,rfl,rfl⟩:=chord hp (y1:=y) (y2:=k) hx
  rw [add_chord hp a hx]
  have e1:(s*x+c)*(t*t*t)=(s*t)*(x*(t*t))+c*(t*t*t):=by clear hx h3 h4 hne ht;grind
  have e2:(s*g+c)*(t*t*t)=(s*t)*(g*(t*t))+c*(t*t*t):=by clear hx h3 h4 hne e1 ht;grind
  simp only [iso,e1,e2]
  rw [add_chord hp _ hne]
  simp only [Option.some.injEq,Prod.mk.injEq]
  clear e1 e2 hne hx h3 h4 ht
  constructor<;>grind
theorem iso_dad (hp:Pr p) (h2:(2:Fin p)≠0) {a t:Fin p} (ht:t≠0) (G:Pt p):∀f k,iso t (dad a G f k)=dad (a*(t*t*(t*t))) (iso t G) f k:=by
 intro f
 induction f with
 | zero=>intro k;rfl
 | succ f ih=>
  intro k
  simp only [dad]
  split
  ·rw [iso_add hp h2 ht,iso_dbl hp h2 ht,ih]
  ·rw [iso_dbl hp h2 ht,ih]
end
section
variable {p:Nat} [NeZero p]
theorem on_of {q:Nat} {a b x y:Fin q} (h:y*y=x*x*x+a*x+b):on a b (some (x,y)):=h
theorem dad_none (hp:Pr p) (h2:(2:Fin p)≠0) (h1:(1:Fin p)≠0) {a x y:Fin p} {f N:Nat} (h:(jdad a ⟨x,y,1⟩ f N).z=0):dad a (some (x,y)) f N=none:=by
 have h':=rep_jdad hp h2 (a:=a) (rep_one (x,y) h1) f N
 rcases e:dad a (some (x,y)) f N with _ | ⟨x',y'⟩
 ·rfl
 ·rw [e] at h'
  exact absurd h h'.1
def sameTri (T U:Tri p):Bool:=
 T.z != 0&&U.z != 0&&T.x*(U.z*U.z)==U.x*(T.z*T.z)&&T.y*(U.z*U.z*U.z)==U.y*(T.z*T.z*T.z)
theorem four_of (hp:Pr p) (h2:(2:Fin p)≠0) (h1:(1:Fin p)≠0) {a x y:Fin p}
  (h:sameTri (jdbl a (jdbl a ⟨x,y,1⟩)) (jadd a (jadd a (jdbl a ⟨x,y,1⟩) ⟨x,y,1⟩) ⟨x,y,1⟩)=true) :
  dbl a (dbl a (some (x,y)))=add a (add a (dbl a (some (x,y))) (some (x,y))) (some (x,y)):=by
 have h1:=rep_one (x,y) h1
 have hd:=rep_jdbl hp h2 (a:=a) h1
 simp only [sameTri,Bool.and_eq_true,bne_iff_ne,beq_iff_eq] at h
 exact rep_eq hp (rep_jdbl hp h2 (a:=a) hd) (rep_jadd hp h2 (a:=a) (rep_jadd hp h2 (a:=a) hd h1) h1) h.1.1.1 h.1.1.2 h.1.2 h.2
end
section
variable {p:Nat} [NeZero p]
def gdbl (T:Tri p):Tri p:=
 let delta:=T.z*T.z
 let gamma:=T.y*T.y
 let a0:=(T.x-delta)*(T.x+delta)
 let alpha:=a0+a0+a0
 let beta:=T.x*gamma
 let x3:=alpha*alpha-8*beta
 ⟨x3,alpha*(4*beta-x3)-8*(gamma*gamma),(T.y+T.z)*(T.y+T.z)-gamma-delta⟩
def bdbl (T:Tri p):Tri p:=
 let a:=T.x*T.x
 let b:=T.y*T.y
 let c:=b*b
 let d:=((T.x+b)*(T.x+b)-a-c)*2
 let e:=3*a
 let x3:=e*e-2*d
 ⟨x3,e*(d-x3)-8*c,2*(T.y*T.z)⟩
def gsum (T U:Tri p):Tri p:=
 let pp:=T.z*T.z
 let qq:=U.z*U.z
 let u1:=T.x*qq
 let u2:=U.x*pp
 let h:=u2-u1
 let i:=(2*h)*(2*h)
 let j:=h*i
 let s1:=T.y*U.z*qq
 let s2:=U.y*T.z*pp
 let r:=2*(s2-s1)
 let v:=u1*i
 let x3:=r*r-j-v-v
 ⟨x3,r*(v-x3)-2*(s1*j),((T.z+U.z)*(T.z+U.z)-pp-qq)*h⟩
theorem rep_none {T:Tri p} {P:Pt p} (h:rep T P) (hz:T.z=0):P=none:=by
 rcases P with _ | ⟨x,y⟩
 ·rfl
 ·exact absurd hz h.1
theorem rep_gdbl (hp:Pr p) (h2:(2:Fin p)≠0) {a:Fin p} (ha:a = -3) {T:Tri p} {P:Pt p} (h:rep T P):rep (gdbl T) (dbl a P):=by
 have hj:=rep_jdbl hp h2 (a:=a) h
 by_cases h0:T.z=0∨T.y=0
 ·simp only [jdbl,if_pos h0] at hj
  rw [rep_none hj rfl]
  show (T.y+T.z)*(T.y+T.z)-T.y*T.y-T.z*T.z=0
  rcases h0 with h0 | h0<;>rw [h0]<;>grind
 ·simp only [jdbl,if_neg h0] at hj
  have e:gdbl T=⟨(3*(T.x*T.x)+a*(T.z*T.z*(T.z*T.z)))*(3*(T.x*T.x)+a*(T.z*T.z*(T.z*T.z)))-(4*(T.x*(T.y*T.y))+4*(T.x*(T.y*T.y))),
    (3*(T.x*T.x)+a*(T.z*T.z*(T.z*T.z)))*(4*(T.x*(T.y*T.y))-((3*(T.x*T.x)+a*(T.z*T.z*(T.z*T.z)))*(3*(T.x*T.x)+a*(T.z*T.z*(T.z*T.z)))-(4*(T.x*(T.y*T.y))+4*(T.x*(T.y*T.y)))))-8*(T.y*T.y*(T.y*T.y)),2*(T.y*T.z)⟩:=by
   subst ha
   simp only [gdbl,Tri.mk.injEq]
   clear hj h0 h
   refine⟨?_,?_,?_⟩<;>grind
  rw [e];exact hj
theorem rep_bdbl (hp:Pr p) (h2:(2:Fin p)≠0) {a:Fin p} (ha:a=0) {T:Tri p} {P:Pt p} (h:rep T P):rep (bdbl T) (dbl a P):=by
 have hj:=rep_jdbl hp h2 (a:=a) h
 by_cases h0:T.z=0∨T.y=0
 ·simp only [jdbl,if_pos h0] at hj
  rw [rep_none hj rfl]
  show 2*(T.y*T.z)=0
  rcases h0 with h0 | h0<;>rw [h0]<;>grind
 ·simp only [jdbl,if_neg h0] at hj
  have e:bdbl T=⟨(3*(T.x*T.x)+a*(T.z*T.z*(T.z*T.z)))*(3*(T.x*T.x)+a*(T.z*T.z*(T.z*T.z)))-(4*(T.x*(T.y*T.y))+4*(T.x*(T.y*T.y))),
    (3*(T.x*T.x)+a*(T.z*T.z*(T.z*T.z)))*(4*(T.x*(T.y*T.y))-((3*(T.x*T.x)+a*(T.z*T.z*(T.z*T.z)))*(3*(T.x*T.x)+a*(T.z*T.z*(T.z*T.z)))-(4*(T.x*(T.y*T.y))+4*(T.x*(T.y*T.y)))))-8*(T.y*T.y*(T.y*T.y)),2*(T.y*T.z)⟩:=by
   subst ha
   simp only [bdbl,Tri.mk.injEq]
   clear hj h0 h
   refine⟨?_,?_,?_⟩<;>grind
  rw [e];exact hj
theorem rep_scale (hp:Pr p) {t:Fin p} (ht:t≠0) {T:Tri p} {P:Pt p} (h:rep T P):rep ⟨t*t*T.x,t*t*t*T.y,t*T.z⟩ P:=by
 rcases P with _ | ⟨x,y⟩
 ·simp only [rep] at h ⊢;rw [h];grind
 ·obtain⟨h1,h2,h3⟩:=h
  refine⟨mul_ne hp ht h1,?_,?_⟩
  ·show t*t*T.x=_;rw [h2];show _=x*(t*T.z*(t*T.z));clear h1 h2 h3;grind
  ·show t*t*t*T.y=_;rw [h3];show _=y*(t*T.z*(t*T.z)*(t*T.z));clear h1 h2 h3;grind
theorem rep_gsum (hp:Pr p) (h2:(2:Fin p)≠0) {a:Fin p} {T U:Tri p} {P Q:Pt p} (h:rep T P) (h':rep U Q) (hz:T.z≠0) (hz':U.z≠0)
  (hne:¬(U.x*(T.z*T.z)-T.x*(U.z*U.z)=0∧U.y*T.z*(T.z*T.z)-T.y*U.z*(U.z*U.z)=0)):rep (gsum T U) (add a P Q):=by
 have hj:=rep_jadd hp h2 (a:=a) h h'
 simp only [jadd,if_neg hz,if_neg hz'] at hj
 by_cases h0:U.x*(T.z*T.z)-T.x*(U.z*U.z)=0
 ·rw [if_pos h0,if_neg (fun e=>hne ⟨h0,by rw [← e];clear hj hne h0;grind⟩)] at hj
  rw [rep_none hj rfl]
  show ((T.z+U.z)*(T.z+U.z)-T.z*T.z-U.z*U.z)*(U.x*(T.z*T.z)-T.x*(U.z*U.z))=0
  rw [h0];clear hj hne h0;grind
 ·rw [if_neg h0] at hj
  have:=rep_scale hp h2 hj
  clear hj
  refine Eq.mp (congrArg (fun x=>rep x _) ?_) this
  clear this
  simp only [gsum,Tri.mk.injEq]
  clear hne h0
  refine⟨?_,?_,?_⟩<;>grind
def gadd (T U:Tri p):Tri p:=
 if T.z=0 then U else if U.z=0 then T else
 if U.x*(T.z*T.z)-T.x*(U.z*U.z)=0∧U.y*T.z*(T.z*T.z)-T.y*U.z*(U.z*U.z)=0 then gdbl T else gsum T U
theorem rep_gadd (hp:Pr p) (h2:(2:Fin p)≠0) {a:Fin p} (ha:a = -3) {T U:Tri p} {P Q:Pt p} (h:rep T P) (h':rep U Q):rep (gadd T U) (add a P Q):=by
 by_cases hz:T.z=0
 ·rw [rep_none h hz]
  simp only [gadd,if_pos hz,add];exact h'
 by_cases hz':U.z=0
 ·rw [rep_none h' hz']
  simp only [gadd,if_neg hz,if_pos hz']
  rcases P with _ | ⟨x,y⟩
  ·exact h
  ·exact h
 by_cases hne:U.x*(T.z*T.z)-T.x*(U.z*U.z)=0∧U.y*T.z*(T.z*T.z)-T.y*U.z*(U.z*U.z)=0
 ·simp only [gadd,if_neg hz,if_neg hz',if_pos hne]
  have e:P=Q:=by
   refine rep_eq hp h h' hz hz' ?_ ?_
   ·have:=hne.1;clear hne;grind
   ·have:=hne.2;clear hne;grind
  subst e
  have:add a P P=dbl a P:=by
   rcases P with _ | ⟨x,y⟩
   ·rfl
   ·simp only [add,if_true]
  rw [this]
  exact rep_gdbl hp h2 ha h
 ·simp only [gadd,if_neg hz,if_neg hz',if_neg hne]
  exact rep_gsum hp h2 h h' hz hz' hne
theorem rep_ne (hp:Pr p) {T U:Tri p} {P Q:Pt p} (h:rep T P) (h':rep U Q) (hz:T.z≠0) (hz':U.z≠0) (hPQ:P≠Q) :
  ¬(U.x*(T.z*T.z)-T.x*(U.z*U.z)=0∧U.y*T.z*(T.z*T.z)-T.y*U.z*(U.z*U.z)=0):=fun hne=>
 hPQ (rep_eq hp h h' hz hz' (by have:=hne.1;clear hne;grind) (by have:=hne.2;clear hne;grind))
theorem rep_affine (_hp:Pr p) {T:Tri p} {x y:Fin p} (h:rep T (some (x,y))) {i:Fin p} (hi:T.z*i=1):x=T.x*(i*i)∧y=T.y*(i*i*i):=by
 obtain⟨_,h2,h3⟩:=h
 rw [h2,h3]
 constructor
 ·have:x*(T.z*T.z)*(i*i)=x*((T.z*i)*(T.z*i)):=by clear h2 h3 hi;grind
  rw [this,hi];clear h2 h3 this hi;grind
 ·have:y*(T.z*T.z*T.z)*(i*i*i)=y*((T.z*i)*(T.z*i)*(T.z*i)):=by clear h2 h3 hi;grind
  rw [this,hi];clear h2 h3 this hi;grind
def fi (p:Nat) [NeZero p] (v:Int):Fin p:=Fin.ofNat p (v%(p:Int)).toNat
theorem fi_val (v:Int):((fi p v).val:Int)=v%(p:Int):=by
 have hp:(p:Int)≠0:=by have:=NeZero.ne p;omega
 have h0:=Int.emod_nonneg v hp
 have h1:=Int.emod_lt_of_pos v (show (0:Int)<p by omega)
 show (((v%(p:Int)).toNat%p:Nat):Int)=_
 rw [Nat.mod_eq_of_lt (by omega)];omega
theorem fi_eq {u v:Int}:fi p u=fi p v↔u%(p:Int)=v%(p:Int):=by
 constructor
 ·intro h;rw [← fi_val,← fi_val,h]
 ·intro h
  apply Fin.ext
  have a:=fi_val (p:=p) u
  have b:=fi_val (p:=p) v
  omega
theorem fi_of (x:Fin p) (v:Int) (h:(x.val:Int)=v%(p:Int)):x=fi p v:=by
 apply Fin.ext
 have:=fi_val (p:=p) v
 omega
theorem fi_mod (v:Int):fi p (v%(p:Int))=fi p v:=fi_eq.2 (Int.emod_emod_of_dvd _ (Int.dvd_refl _))
theorem fi_add (u v:Int):fi p (u+v)=fi p u+fi p v:=by
 symm;apply fi_of
 rw [Fin.val_add,Int.natCast_emod,Int.natCast_add,fi_val,fi_val,← Int.add_emod]
theorem fi_mul (u v:Int):fi p (u*v)=fi p u*fi p v:=by
 symm;apply fi_of
 rw [Fin.val_mul,Int.natCast_emod,Int.natCast_mul,fi_val,fi_val,← Int.mul_emod]
theorem fi_zero:fi p 0=0:=by
 symm;apply fi_of;simp
theorem fi_one:fi p 1=1:=by
 symm;apply fi_of
 show ((1%p:Nat):Int)=_
 rw [Int.natCast_emod];rfl
theorem fi_sub (u v:Int):fi p (u-v)=fi p u-fi p v:=by
 have h:fi p (u-v)+fi p v=fi p u:=by rw [← fi_add];congr 1;omega
 rw [← h];grind
theorem fi_nat (n:Nat):fi p (n:Int)=(OfNat.ofNat n:Fin p):=by
 symm;apply fi_of
 show ((n%p:Nat):Int)=_
 rw [Int.natCast_emod]
theorem fi_p:fi p (p:Int)=0:=by
 rw [← fi_zero];apply fi_eq.2;simp
theorem fi_fix (u:Int):fi p (if u<0 then u+(p:Int) else u)=fi p u:=by
 split
 ·rw [fi_add,fi_p];grind
 ·rfl
theorem fi_small {u v:Int} (hu:0≤u) (hu':u<p) (hv:0≤v) (hv':v<p) (h:fi p u=fi p v):u=v:=by
 have:=fi_eq.1 h
 rwa [Int.emod_eq_of_lt hu hu',Int.emod_eq_of_lt hv hv'] at this
theorem fi_zero_iff {u:Int}:fi p u=0↔u%(p:Int)=0:=by
 rw [← fi_zero,fi_eq,Int.zero_emod]
end
namespace K
def p:Nat:=115792089237316195423570985008687907853269984665640564039457584007908834671663
def N:Nat:=115792089237316195423570985008687907852837564279074904382605163141518161494337
instance:NeZero p:=⟨by decide +kernel⟩
def a:Fin p:=0
def b:Fin p:=7
def gx:Fin p:=55066263022277343669578718895168534326250603453777594175500187360389116729240
def gy:Fin p:=32670510020758816978083085130507043184471273380659243275938904335757337482424
theorem hp:Pr p:=pq46
theorem hN:Pr N:=pq38
theorem two:(2:Fin p)≠0:=by decide +kernel
theorem one:(1:Fin p)≠0:=by decide +kernel
theorem gy0:gy≠0:=by decide +kernel
theorem on_eq:gy*gy=gx*gx*gx+a*gx+b:=by decide +kernel
theorem on_G:on a b (some (gx,gy)):=on_of on_eq
theorem NG_z:(jdad a ⟨gx,gy,1⟩ 256 N).z=0:=by decide +kernel
theorem NG:dad a (some (gx,gy)) 256 N=none:=dad_none hp two one NG_z
theorem four_b:sameTri (jdbl a (jdbl a ⟨gx,gy,1⟩)) (jadd a (jadd a (jdbl a ⟨gx,gy,1⟩) ⟨gx,gy,1⟩) ⟨gx,gy,1⟩)=true:=by decide +kernel
theorem lt:N<2^256:=by decide +kernel
theorem ord:(∀j,0<j→j<N→lin a (some (gx,gy)) j≠none)∧(∀m,dbl a (lin a (some (gx,gy)) m)=lin a (some (gx,gy)) (2*m)):=
 order hp two gy0 on_G hN lt NG (four_of hp two one four_b)
end K
namespace B
def p:Nat:=76884956397045344220809746629001649093037950200943055203735601445031516197751
def N:Nat:=76884956397045344220809746629001649092737531784414529538755519063063536359079
instance:NeZero p:=⟨by decide +kernel⟩
def a:Fin p:=76884956397045344220809746629001649093037950200943055203735601445031516197748
def b:Fin p:=46214326585032579593829631435610129746736367449296220983687490401182983727876
def gx:Fin p:=74138526386500101787937404544159543470173440588427591213843535686338908194292
def gy:Fin p:=20625154686056605250529482107801269759951443923312408063441227608803066104254
theorem hp:Pr p:=pq15
theorem hN:Pr N:=pq6
theorem two:(2:Fin p)≠0:=by decide +kernel
theorem one:(1:Fin p)≠0:=by decide +kernel
theorem gy0:gy≠0:=by decide +kernel
theorem on_eq:gy*gy=gx*gx*gx+a*gx+b:=by decide +kernel
theorem on_G:on a b (some (gx,gy)):=on_of on_eq
theorem NG_z:(jdad a ⟨gx,gy,1⟩ 256 N).z=0:=by decide +kernel
theorem NG:dad a (some (gx,gy)) 256 N=none:=dad_none hp two one NG_z
theorem four_b:sameTri (jdbl a (jdbl a ⟨gx,gy,1⟩)) (jadd a (jadd a (jdbl a ⟨gx,gy,1⟩) ⟨gx,gy,1⟩) ⟨gx,gy,1⟩)=true:=by decide +kernel
theorem lt:N<2^256:=by decide +kernel
theorem ord:(∀j,0<j→j<N→lin a (some (gx,gy)) j≠none)∧(∀m,dbl a (lin a (some (gx,gy)) m)=lin a (some (gx,gy)) (2*m)):=
 order hp two gy0 on_G hN lt NG (four_of hp two one four_b)
end B
namespace C
def p:Nat:=21659270770119316173069236842332604979796116387017648600081618503821089934025961822236561982844534088440708417973331
def N:Nat:=21659270770119316173069236842332604979796116387017648600075645274821611501358515537962695117368903252229601718723941
instance:NeZero p:=⟨by decide +kernel⟩
def a:Fin p:=21659270770119316173069236842332604979796116387017648600081618503821089934025961822236561982844534088440708417973328
def b:Fin p:=19596161053329239268181228455226581162286252326261019516900162717091837027531392576647644262320816848087868142547438
def gx:Fin p:=3827769047710394604076870463731979903132904572714069494181204655675960538951736634566672590576020545838501853661388
def gy:Fin p:=5797643717699939326787282953388004860198302425468870641753455602553471777319089854136002629714659021021358409132328
theorem hp:Pr p:=pq61
theorem hN:Pr N:=pq26
theorem two:(2:Fin p)≠0:=by decide +kernel
theorem one:(1:Fin p)≠0:=by decide +kernel
theorem gy0:gy≠0:=by decide +kernel
theorem on_eq:gy*gy=gx*gx*gx+a*gx+b:=by decide +kernel
theorem on_G:on a b (some (gx,gy)):=on_of on_eq
theorem NG_z:(jdad a ⟨gx,gy,1⟩ 384 N).z=0:=by decide +kernel
theorem NG:dad a (some (gx,gy)) 384 N=none:=dad_none hp two one NG_z
theorem four_b:sameTri (jdbl a (jdbl a ⟨gx,gy,1⟩)) (jadd a (jadd a (jdbl a ⟨gx,gy,1⟩) ⟨gx,gy,1⟩) ⟨gx,gy,1⟩)=true:=by decide +kernel
theorem lt:N<2^384:=by decide +kernel
theorem ord:(∀j,0<j→j<N→lin a (some (gx,gy)) j≠none)∧(∀m,dbl a (lin a (some (gx,gy)) m)=lin a (some (gx,gy)) (2*m)):=
 order hp two gy0 on_G hN lt NG (four_of hp two one four_b)
end C
section
variable {p:Nat} [NeZero p] {a b g h:Fin p}
structure Good (p:Nat) [NeZero p] (a b g h:Fin p) (N:Nat):Prop where
 hp:Pr p
 two:(2:Fin p)≠0
 one:(1:Fin p)≠0
 hh:h≠0
 hG:on a b (some (g,h))
 ord:∀j,0<j→j<N→lin a (some (g,h)) j≠none
 dbl:∀m,dbl a (lin a (some (g,h)) m)=lin a (some (g,h)) (2*m)
theorem rep_z {T:Tri p} {P:Pt p} (h:rep T P) (hP:P≠none):T.z≠0:=by
 rcases P with _ | ⟨x,y⟩
 ·exact absurd rfl hP
 ·exact h.1
theorem Good.base {N:Nat} (G:Good p a b g h N):rep (⟨g,h,1⟩:Tri p) (lin a (some (g,h)) 1):=by
 have:lin a (some (g,h)) 1=some (g,h):=rfl
 rw [this]
 exact rep_one (g,h) G.one
theorem Good.bdbl {N n:Nat} (G:Good p a b g h N) (ha:a=0) {T:Tri p} (hT:rep T (lin a (some (g,h)) n)):rep (bdbl T) (lin a (some (g,h)) (2*n)):=by
 rw [← G.dbl]
 exact rep_bdbl G.hp G.two ha hT
theorem Good.badd {N n:Nat} (G:Good p a b g h N) (hn:0<n) (hN:2*n+1<N) {T:Tri p} (hT:rep T (lin a (some (g,h)) (2*n))):rep (gsum ⟨g,h,1⟩ T) (lin a (some (g,h)) (2*n+1)):=by
 have e:lin a (some (g,h)) (2*n+1)=add a (some (g,h)) (lin a (some (g,h)) (2*n)):=by
  show add a (lin a (some (g,h)) (2*n)) (some (g,h))=_
  exact add_comm' G.hp
 rw [e]
 have hb:=rep_one (g,h) G.one
 have hne:=G.ord (2*n) (by omega) (by omega)
 have hz:=rep_z hT hne
 refine rep_gsum G.hp G.two hb hT G.one hz (rep_ne G.hp hb hT G.one hz ?_)
 intro e2
 obtain⟨k,hk⟩:∃k,2*n=k+1:=⟨2*n-1,by omega⟩
 rw [hk] at e2
 have e3:add a (lin a (some (g,h)) k) (some (g,h))=some (g,h):=e2.symm
 exact G.ord k (by omega) (by omega) (add_eq_G G.hp G.two G.hh G.hG (on_lin G.hp G.two G.hG k) e3)
theorem Good.gdbl {N n:Nat} (G:Good p a b g h N) (ha:a = -3) {T:Tri p} (hT:rep T (lin a (some (g,h)) n)):rep (gdbl T) (lin a (some (g,h)) (2*n)):=by
 rw [← G.dbl]
 exact rep_gdbl G.hp G.two ha hT
theorem Good.gadd {N n:Nat} (G:Good p a b g h N) (ha:a = -3) {T:Tri p} (hT:rep T (lin a (some (g,h)) n)):rep (gadd ⟨g,h,1⟩ T) (lin a (some (g,h)) (n+1)):=by
 have e:lin a (some (g,h)) (n+1)=add a (some (g,h)) (lin a (some (g,h)) n):=by
  show add a (lin a (some (g,h)) n) (some (g,h))=_
  exact add_comm' G.hp
 rw [e]
 exact rep_gadd G.hp G.two ha (rep_one (g,h) G.one) hT
theorem bezout (hp:Pr p) {z:Nat} (h0:0<z) (h1:z<p):∃m n:Int,m*p+n*z=1:=by
 have hc:Nat.Coprime p z:=hp.coprime (fun hd=>by have:=Nat.le_of_dvd h0 hd;omega)
 have hne:Fin.ofNat p z≠0:=by
  intro e
  have:=congrArg Fin.val e
  simp [Fin.ofNat,Nat.mod_eq_of_lt h1] at this
  omega
 have hm:=mul_inv hp hne
 have hv:=congrArg (fun x:Fin p=>(x.val:Int)) hm
 obtain⟨i,hi⟩:∃i:Nat,(inv (Fin.ofNat p z)).val=i:=⟨_,rfl⟩
 have e1:((Fin.ofNat p z*inv (Fin.ofNat p z)).val:Int)=((z:Int)*i)%p:=by
  rw [Fin.val_mul,hi]
  show (((z%p)*i%p:Nat):Int)=_
  rw [Nat.mod_eq_of_lt h1];push_cast;rfl
 have e2:(((1:Fin p).val:Nat):Int)=1%(p:Int):=by
  show (((1%p:Nat)):Int)=_
  push_cast;rfl
 rw [e1,e2] at hv
 have hp2:(2:Int)≤p:=by have:=hp.1;omega
 have h1m:(1:Int)%(p:Int)=1:=Int.emod_eq_of_lt (by omega) (by omega)
 rw [h1m] at hv
 have:=Int.emod_add_mul_ediv ((z:Int)*i) p
 refine⟨-((z:Int)*i / p),i,?_⟩
 rw [hv] at this
 grind
end
section
variable {p:Nat} [NeZero p]
theorem iso_lin (hp:Pr p) (h2:(2:Fin p)≠0) {a t:Fin p} (ht:t≠0) (G:Pt p):∀k,iso t (lin a G k)=lin (a*(t*t*(t*t))) (iso t G) k
 | 0=>rfl
 | k+1=>by
  show iso t (add a (lin a G k) G)=add _ (lin _ (iso t G) k) (iso t G)
  rw [iso_add hp h2 ht,iso_lin hp h2 ht G k]
theorem iso_none {q:Nat} {t:Fin q} {P:Pt q} (h:iso t P=none):P=none:=by
 rcases P with _ | ⟨x,y⟩
 ·rfl
 ·simp [iso] at h
theorem Good.twist {a b g h a' b' g' h' t:Fin p} {N:Nat} (G:Good p a b g h N) (ht:t≠0) (ha:a*(t*t*(t*t))=a') (hg:iso t (some (g,h))=some (g',h')) (hh:h'≠0) (hG:on a' b' (some (g',h'))) :
  Good p a' b' g' h' N where
 hp:=G.hp
 two:=G.two
 one:=G.one
 hh:=hh
 hG:=hG
 ord:=fun j h0 h1 e=>G.ord j h0 h1 (by
  rw [← hg,← ha,← iso_lin G.hp G.two ht] at e
  exact iso_none e)
 dbl:=fun m=>by
  rw [← hg,← ha,← iso_lin G.hp G.two ht,← iso_lin G.hp G.two ht,← iso_dbl G.hp G.two ht,G.dbl]
theorem Good.twist_lin {a b g h a' g' h' t:Fin p} {N:Nat} (G:Good p a b g h N) (ht:t≠0) (ha:a*(t*t*(t*t))=a') (hg:iso t (some (g,h))=some (g',h')) {k:Nat} {x y:Fin p}
  (hk:lin a (some (g,h)) k=some (x,y)):lin a' (some (g',h')) k=some (x*(t*t),y*(t*t*t)):=by
 rw [← hg,← ha,← iso_lin G.hp G.two ht,hk]
 rfl
end
theorem K.good:Good K.p K.a K.b K.gx K.gy K.N:=⟨K.hp,K.two,K.one,K.gy0,K.on_G,K.ord.1,K.ord.2⟩
theorem B.good:Good B.p B.a B.b B.gx B.gy B.N:=⟨B.hp,B.two,B.one,B.gy0,B.on_G,B.ord.1,B.ord.2⟩
theorem C.good:Good C.p C.a C.b C.gx C.gy C.N:=⟨C.hp,C.two,C.one,C.gy0,C.on_G,C.ord.1,C.ord.2⟩
theorem K.ha:K.a=0:=rfl
theorem B.ha:B.a = -3:=by decide +kernel
theorem C.ha:C.a = -3:=by decide +kernel
namespace B
def z:Fin p:=28123428220785514697368680836677246068983143020657302029348941275368411959024
def zi:Fin p:=58239756104430253693729960745254188089333581754121613125284549297740921489762
def ra:Fin p:=56698187605326110043627228396178346077120614539475214109386828188763884139993
def rb:Fin p:=17577232497321838841075697789794520262950426058923084567046852300633325438902
def rx:Fin p:=63243729749562333355292243550312970334778175571054726587095381623627144114786
def ry:Fin p:=38218615093753523893122277964030810387585405539772602581557831887485717997975
theorem z_zi:z*zi=1:=by decide +kernel
theorem zi0:zi≠0:=by decide +kernel
theorem ra_eq:a*(zi*zi*(zi*zi))=ra:=by decide +kernel
theorem rx_eq:gx*(zi*zi)=rx:=by decide +kernel
theorem ry_eq:gy*(zi*zi*zi)=ry:=by decide +kernel
theorem rg_eq:iso zi (some (gx,gy))=some (rx,ry):=by rw [← rx_eq,← ry_eq];rfl
theorem ry0:ry≠0:=by decide +kernel
theorem ron:ry*ry=rx*rx*rx+ra*rx+rb:=by decide +kernel
theorem rgood:Good p ra rb rx ry N:=good.twist zi0 ra_eq rg_eq ry0 (on_of ron)
end B
namespace C
def z:Fin p:=10139036126163910574620687986475896248191461332265326844160406748298975174383177910892554122725859199832993833756956
def zi:Fin p:=973627063668808908405119953403190617781083117973111934932605366589716638945462640219437826753836874579179290523624
def ra:Fin p:=19048979039598244295279281525021548448223459855185222892089532512446337024935426033638342846977861914875721218402342
def rb:Fin p:=717131854892629093329172042053689661426642816397448020844407951239049616491589607702456460799758882466071646850065
def rx:Fin p:=4480579927441533893329522230328287337018133311029754539518372936441756157459087304048546502931308754738349656551198
def ry:Fin p:=21354446258743982691371413536748675410974765754620216137225614281636810686961198361153695003859088327367976229294869
theorem z_zi:z*zi=1:=by decide +kernel
theorem zi0:zi≠0:=by decide +kernel
theorem ra_eq:a*(zi*zi*(zi*zi))=ra:=by decide +kernel
theorem rx_eq:gx*(zi*zi)=rx:=by decide +kernel
theorem ry_eq:gy*(zi*zi*zi)=ry:=by decide +kernel
theorem rg_eq:iso zi (some (gx,gy))=some (rx,ry):=by rw [← rx_eq,← ry_eq];rfl
theorem ry0:ry≠0:=by decide +kernel
theorem ron:ry*ry=rx*rx*rx+ra*rx+rb:=by decide +kernel
theorem rgood:Good p ra rb rx ry N:=good.twist zi0 ra_eq rg_eq ry0 (on_of ron)
end C
end Go.Proofs.YtofkehhflkdabaaGreatDoor.Ec
namespace Go.Proofs.YtofkehhflkdabaaGreatDoor
open Go Go.RowKit
theorem rwi_alloc (w:World) (n:Nat) (T:TypeId):Rwi (w.alloc (.cells (Array.ofFn fun _:Fin n=>Value.int .i64 0) T (0,0))) w.heap.size n (fun _=>0):=
 ⟨⟨T,by show (w.heap.push _)[w.heap.size]?=_;simp⟩,fun _ _=>W16_pos⟩
theorem run_make_i64 (T:TypeId) (hT:Tryz.prog.underlying T=some (.slice 3)) (w:World) (l c:Nat) (hlc:l≤c) (hc:c<2000000) (kl kc:IntKind) :
  ∃b w',(Instr.makeSlice T (.int kl (l:Int)) (.int kc (c:Int))).run Tryz.prog w = .ok (.slice (some ⟨b,0,none⟩) l c) w'∧w.heap.size≤b∧Rwi w' b c (fun _=>0)∧Keep Nope w w':=by
 have h:=(by kernel_rfl:(Tryz.prog.info? 3).map (fun i=>(i.zero,i.size,i.bytes))=some (some (.int .i64 0),1,8))
 cases e:Tryz.prog.info? 3 with
 | none=>rw [e] at h;simp at h
 | some i=>
  rw [e] at h
  simp only [Option.map_some,Option.some.injEq,Prod.mk.injEq] at h
  have hr:=run_make (P:=Tryz.prog) w T 3 i (.int .i64 0) hT e h.1 kl kc l c (by omega) (by omega) (by rw [h.2.2];omega) (by omega)
  rw [h.2.1] at hr
  simp only [Int.toNat_natCast,Nat.mul_one] at hr
  have e1:madeCells (Value.int .i64 0).cells c=Array.ofFn fun _:Fin c=>Value.int .i64 0:=by
   have e3:(Value.int .i64 0).cells=#[Value.int .i64 0]:=rfl
   rw [e3]
   apply Array.ext
   ·simp [madeCells]
   ·intro i h1 h2
    simp [madeCells,Nat.mod_one]
  rw [e1] at hr
  exact⟨_,_,hr,Nat.le_refl _,rwi_alloc w c 3,(Keep.refl _ _).alloc _⟩
theorem Rwi.setRow {w:World} {b N:Nat} {c:Nat→Nat} (h:Rwi w b N c) (o n:Nat) (d:Nat→Nat) (hl:o+n≤N) (hd:∀i,i<n→d i<W16) (T:TypeId)
  (hT:w.heap[b]?=some (.cells (Array.ofFn fun i:Fin N=>Value.int .i64 (c i:Nat)) T (0,0))) :
  Rwi (w.setRow b ((Array.ofFn fun i:Fin N=>Value.int .i64 (c i:Nat)).toList.take o++(List.range n).map (fun i=>Value.int .i64 (d i:Nat)) ++
   (Array.ofFn fun i:Fin N=>Value.int .i64 (c i:Nat)).toList.drop (o+n)).toArray) b N (lay c o n d):=by
 refine⟨⟨T,?_⟩,?_⟩
 ·rw [setRow_heap w b _ _ T (0,0) hT]
  congr 2
  apply Array.ext
  ·simp;omega
  ·intro j h1 h2
   simp only [Array.size_ofFn] at h2
   have hlen:((Array.ofFn fun i:Fin N=>Value.int .i64 (c i:Nat)).toList).length=N:=by simp
   simp only [Array.getElem_ofFn,List.getElem_toArray]
   by_cases hj:j<o
   ·rw [List.getElem_append_left (by simp;omega),List.getElem_append_left (by simp;omega)]
    simp [lay_out c o n d (.inl hj)]
   ·by_cases hj2:j<o+n
    ·rw [List.getElem_append_left (by simp;omega),List.getElem_append_right (by simp;omega)]
     have e:=lay_in c o n d (i:=j-o) (by omega)
     rw [show o+(j-o)=j from by omega] at e
     simp only [List.getElem_map,List.getElem_range,List.length_take,hlen,Nat.min_eq_left (show o≤N by omega),e]
    ·rw [List.getElem_append_right (by simp;omega)]
     simp only [List.getElem_drop,List.length_append,List.length_take,List.length_map,List.length_range,hlen,Nat.min_eq_left (show o≤N by omega)]
     have e:o+n+(j-(o+n))=j:=by omega
     simp [e,lay_out c o n d (i:=j) (.inr (by omega))]
 ·intro i hi
  simp only [lay]
  split
  ·exact hd _ (by omega)
  ·exact h.lt i hi
theorem size3:(Tryz.prog.info? 3).map (·.size)=some 1:=by kernel_rfl
theorem run_copy_i64 (dT sT ty:TypeId) (hu:Tryz.prog.underlying dT=some (.slice 3)) {w:World} {bz oz dL dK Nz bx ox sL sK Nx:Nat} {cz cx:Nat→Nat}
  (hz:Rwi w bz Nz cz) (hx:Rwi w bx Nx cx) (n:Nat) (hn:n=Nat.min sL dL) (lz:oz+n≤Nz) (lx:ox+n≤Nx) :
  ∃w' c',(Builtin.copy_ #[dT,sT] ty #[.slice (some ⟨bz,oz,none⟩) dL dK,.slice (some ⟨bx,ox,none⟩) sL sK]).run Tryz.prog w = .ok (goInt n) w' ∧
   Rwi w' bz Nz c'∧Keep (·=bz) w w'∧(∀i,i<n→c' (oz+i)=cx (ox+i))∧(∀i,i<oz∨oz+n≤i→c' i=cz i):=by
 obtain⟨T,hT⟩:=hz.blk
 have hrow:=hz.setRow oz n (fun i=>cx (ox+i)) lz (fun i hi=>hx.lt _ (by omega)) T hT
 have hrun:=run_copy_row Tryz.prog w dT sT ty 3 bz oz dL dK ⟨bx,ox,none⟩ sL sK _ T ((List.range n).map (fun i=>Value.int .i64 (cx (ox+i):Nat))) hu size3 hT
  (by simp [hn]) (fun j v hj=>by
   simp only [List.getElem?_map] at hj
   by_cases hjn:j<n
   ·simp only [List.getElem?_range hjn,Option.map_some,Option.some.injEq] at hj
    subst hj
    have:(⟨bx,ox,none⟩:Addr).add j=⟨bx,ox+j,none⟩:=by unfold Addr.add;split<;>simp_all
    rw [this];exact hx.cell (by omega)
   ·rw [List.getElem?_eq_none (by simp;omega)] at hj;simp at hj) (by simp;omega) (fun v hv=>by
   simp only [List.mem_map] at hv
   obtain⟨i,_,rfl⟩:=hv;rfl)
 simp only [List.length_map,List.length_range] at hrun
 exact⟨_,_,hrun,hrow,keep_setRow _ _ _,fun i hi=>lay_in _ _ _ _ hi,fun i hi=>lay_out _ _ _ _ hi⟩
theorem vb_zero {c:Nat→Nat} {o n:Nat} (h:∀i,i<n→c (o+i)=0):vb c o n=0:=by
 induction n with
 | zero=>rfl
 | succ n ih=>rw [vb_one,ih (fun i hi=>h i (by omega)),h n (by omega)];simp
theorem product_any (w:World) (a b:Option Addr) (la ka lb kb A B:Nat) (ha:IsB w a la ka A) (hb:IsB w b lb kb B) (hla:la<500000) (hlb:lb<500000) :
  Calls Tryz.prog 37 #[.slice a la ka,.slice b lb kb] w fun e w'=>∃a' l' k',e = .returned (.slice a' l' k')∧IsB w' a' l' k' (A*B)∧Keep Nope w w':=by
 obtain⟨ca,da,va,-⟩:=ha
 obtain⟨cb,db,vb',-⟩:=hb
 have VA:Hid (vb ca 0 la=A):=va
 have VB:Hid (vb cb 0 lb=B):=vb'
 clear va vb'
 obtain⟨br,w1,hrun,hbr,hrow,hkeep⟩:=run_make_i64 25 Tryz.underlying25 w (la+lb) (la+lb) (Nat.le_refl _) (by omega) .i64 .i64
 rw [show ((la+lb:Nat):Int)=(la:Int)+(lb:Int) from by omega] at hrun
 have q0:IntKind.i64.wrap ((la:Int)+(lb:Int))=(la:Int)+(lb:Int):=IntWalk.i64_in _ (by omega)
 have HBR:Hid (w.heap.size≤br):=hbr
 have HK1:Hid _:=hkeep
 clear hbr hkeep
 go_enter Tryz.func37,Tryz.ntmps37
 go_wp2_with fail
 clear hrun q0
 go_loopw [19] (fun s19 wr=>∃(i:Nat) (c:Nat→Nat),s19 = .int .i64 (i:Int)∧i≤la∧Rwi wr br (la+lb) c∧Keep (·=br) w1 wr∧Hid (vb c 0 (i+lb)=vb ca 0 i*vb cb 0 lb)∧Hid (∀j,i+lb≤j→c j=0)) (fun s19 _=>la-(intOf s19).toNat)
 case atStart=>
  refine⟨0,fun _=>0,rfl,by omega,hrow,Keep.refl _ _,?_,fun _ _=>rfl⟩
  show vb _ _ _=_
  rw [vb_zero (fun _ _=>rfl)];simp [vb]
 case round=>
  obtain⟨i,c,rfl,hi,hr,hk,hv,hz⟩:=hrel
  have HV:Hid _:=hv
  have HZ:Hid _:=hz
  have HKK:Hid (Keep (fun k=>k=br) w1 wr):=hk
  have q9:IntKind.i64.wrap ((i:Int)+1)=(i:Int)+1:=IntWalk.i64_in _ (by omega)
  have HN:Hid (Keep Nope w wr):=⟨hk.os.trans (oo HK1).os,hk.tape.trans (oo HK1).tape,hk.output.trans (oo HK1).output,Nat.le_trans (oo HK1).size hk.size,fun k h1 h2=>(hk.block k (Nat.lt_of_lt_of_le h1 (oo HK1).size) (by have:=HBR.out;omega)).trans ((oo HK1).block k h1 h2)⟩
  clear hv hz hk
  by_cases h0:i=la
  ·subst h0
   have hend:Hid (vb c 0 (i+lb)=A*B):=by
    have h1:=HV.out
    rw [VA.out,VB.out] at h1
    exact h1
   clear HV HZ
   go_wp2_with fail
   refine(trim_any _ (some ⟨br,0,none⟩) (i+lb) (i+lb) c (hr.dg _ (Nat.le_refl _) (by omega))).mono ?_
   rintro e w5 ⟨l,rfl,-,hn,hw⟩
   subst hw
   go_wp2_with fail
   go_ret
   refine⟨_,_,_,rfl,?_,oo HN⟩
   rw [← oo hend]
   exact hn
  ·have h1:i<la:=by omega
   obtain⟨ba,rfl,fa,hxl⟩:=da.get i h1
   obtain⟨x,hx⟩:∃x,ca i=x:=⟨_,rfl⟩
   rw [hx] at fa hxl
   have fa:=(oo HN).cel fa id
   rw [W16] at hxl
   have HX:Hid (ca i=x):=hx
   clear hx h0
   go_wp2_with fail
   go_loopw [8,26] (fun s8 s26 wx=>∃(k cy:Nat) (c2:Nat→Nat),s8 = .int .i64 (cy:Int)∧s26 = .int .i64 (k:Int)∧k≤lb∧cy<65536∧Rwi wx br (la+lb) c2∧Keep (·=br) wr wx∧Hid (vb c2 i k+cy*W16^k=vb c i k+x*vb cb 0 k)∧Hid (∀j,j<i∨i+k≤j→c2 j=c j)) (fun _ s26 _=>lb-(intOf s26).toNat)
   case atStart=>exact⟨0,0,c,rfl,rfl,by omega,by omega,hr,Keep.refl _ _,by simp [vb,Hid],fun _ _=>rfl⟩
   case round=>
    obtain⟨k,cy,c2,rfl,rfl,hkb,hcy,hr2,hk2,hv2,ho2⟩:=hrel
    have HV2:Hid _:=hv2
    have HO2:Hid _:=ho2
    clear hv2 ho2
    have p0:IntKind.i64.wrap ((i:Int)+(k:Int))=(i:Int)+(k:Int):=IntWalk.i64_in _ (by omega)
    have p1:((i:Int)+(k:Int)).toNat=i+k:=by omega
    have p2:(0:Int)≤(i:Int)+(k:Int):=by omega
    by_cases h2:k=lb
    ·subst h2
     have p3:(i:Int)+(k:Int)<(la:Int)+(k:Int):=by omega
     have fz:=hr2.cell (i:=i+k) (by omega)
     have ff:=hr2.frozen (i+k)
     have ez:c2 (i+k)=0:=by rw [HO2.out _ (.inr (Nat.le_refl _)),HZ.out _ (Nat.le_refl _)]
     rw [ez] at fz
     clear ez
     go_wp2_with fail
     go_roundw
     case rel=>
      refine⟨i+1,upd c2 (i+k) cy,by go_num,by omega,hr2.set _ _ (by rw [W16];omega),(oo HKK).trans (hk2.setCell rfl _),?_,?_⟩
      ·have:=prod_row (o:=c) (o2:=c2) (b:=cb) (A:=vb ca 0 i) (i:=i) (lb:=k) (x:=x) (cc:=cy) HV.out HV2.out (fun j hj=>HO2.out j (.inl hj))
       show _=_
       rw [this,vb_one,Nat.zero_add,HX.out]
      ·intro j hj
       rw [upd_ne _ _ (by omega),HO2.out j (.inr (by omega))]
       exact HZ.out j (by omega)
     case measure=>simp [intOf];omega
    ·have h3:k<lb:=by omega
     obtain⟨bb,rfl,fb,hyl⟩:=db.get k h3
     obtain⟨y,hy⟩:∃y,cb k=y:=⟨_,rfl⟩
     rw [hy] at fb hyl
     have fb:=hk2.cel ((oo HN).cel fb id) (fun e=>by have:=World.block_lt_of_cell? w _ fb;have:=HBR.out;simp only at *;omega)
     rw [W16] at hyl
     have fz:=hr2.cell (i:=i+k) (by omega)
     have ff:=hr2.frozen (i+k)
     have hul:=hr2.lt (i+k) (by omega)
     obtain⟨u,hu⟩:∃u,c2 (i+k)=u:=⟨_,rfl⟩
     rw [hu] at fz hul
     rw [W16] at hul
     have hxy:x*y≤65535*65535:=Nat.mul_le_mul (by omega) (by omega)
     obtain⟨t,ht⟩:∃t:Nat,(t:Int)=(cy:Int)+((u:Int)+(x:Int)*(y:Int)):=⟨cy+(u+x*y),by push_cast;rfl⟩
     have htl:t≤65535+(65535+65535*65535):=by
      have e:(x:Int)*(y:Int)=((x*y:Nat):Int):=by push_cast;rfl
      rw [e] at ht;omega
     have m1:IntKind.i64.wrap ((x:Int)*(y:Int))=(x:Int)*(y:Int):=by
      have e:(x:Int)*(y:Int)=((x*y:Nat):Int):=by push_cast;rfl
      rw [e,IntWalk.i64_in _ (by omega)]
     have m2:IntKind.i64.wrap ((u:Int)+(x:Int)*(y:Int))=(u:Int)+(x:Int)*(y:Int):=by
      have e:(x:Int)*(y:Int)=((x*y:Nat):Int):=by push_cast;rfl
      rw [e,IntWalk.i64_in _ (by omega)]
     have m3:IntKind.i64.wrap ((cy:Int)+((u:Int)+(x:Int)*(y:Int)))=(t:Int):=by rw [← ht,IntWalk.i64_in _ (by omega)]
     obtain⟨d,c3,ht2⟩:∃d c3,d<65536∧d+65536*c3=t:=⟨t%65536,t / 65536,by omega,by omega⟩
     obtain⟨hd,ht2⟩:=ht2
     have hc3:c3<65536:=by omega
     have b1:bits .and .i64 (t:Int) 65535=(d:Int):=by rw [and16];omega
     have b2:(t:Int) / 65536=(c3:Int):=by omega
     have p3:(i:Int)+(k:Int)<(la:Int)+(lb:Int):=by omega
     have q10:IntKind.i64.wrap ((k:Int)+1)=(k:Int)+1:=IntWalk.i64_in _ (by omega)
     have hstep:Hid (vb (upd c2 (i+k) d) i (k+1)+c3*W16^(k+1)=vb c i (k+1)+x*vb cb 0 (k+1)):=by
      have h1:=HV2.out
      have e0:c (i+k)=u:=by rw [← hu];exact(HO2.out _ (.inr (Nat.le_refl _))).symm
      rw [vb_one,vb_one,vb_one,Nat.zero_add,upd_same,vb_upd _ _ _ _ _ (by omega),hy,e0,Nat.pow_succ,show W16=65536 from rfl]
      rw [show W16=65536 from rfl] at h1
      have e1:d+65536*c3=cy+(u+x*y):=by
       have:((x*y:Nat):Int)=(x:Int)*(y:Int):=by push_cast;rfl
       rw [← this] at ht;omega
      have h3:(d+65536*c3)*65536^k=(cy+(u+x*y))*65536^k:=by rw [e1]
      generalize 65536^k=P at *
      clear ht ht2 m1 m2 m3 b1 b2 hxy htl
      show _=_
      grind
     clear ht ht2 hy hu h2 hxy
     go_wp2_with fail
     go_roundw
     case rel=>
      refine⟨k+1,c3,upd c2 (i+k) d,by go_num,by go_num,by omega,hc3,hr2.set _ _ (by rw [W16];omega),hk2.setCell rfl _,hstep,?_⟩
      intro j hj
      rw [upd_ne _ _ (by omega)]
      exact HO2.out j (by omega)
     case measure=>simp [intOf];omega
end Go.Proofs.YtofkehhflkdabaaGreatDoor
