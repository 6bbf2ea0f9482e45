/- A part of the proof of FnCurveOf. -/
import Derived.Test.YtofkehhflkdabaaGreatDoorP06
import Derived.Test.YtofkehhflkdabaaGreatDoorP09
import Derived.Deep.LoopGhost
import Derived.Deep.DeepCutAuto
set_option maxRecDepth 100000
set_option maxHeartbeats 8000000
namespace Go.Proofs.YtofkehhflkdabaaGreatDoor
open Go Go.RowKit
def upS (ca:Nat→Nat) (la n t:Nat):Nat:=vb (ext ca la) t (la+1-t)*2^n+(if t=0 then 0 else ext ca la (t-1)) / 2^(16-n)
theorem upS_step (ca:Nat→Nat) (la n t:Nat) (hn:n<16) (ht:t≤la) :
  upS ca la n t=W16*upS ca la n (t+1)+shD n (ext ca la t) (if t=0 then 0 else ext ca la (t-1)):=by
 have e:vb (ext ca la) t (la+1-t)=ext ca la t+W16*vb (ext ca la) (t+1) (la+1-(t+1)):=by
  rw [show la+1-t=(la+1-(t+1))+1 from by omega,vb_cons]
 simp only [upS,e,shD_step hn,Nat.add_sub_cancel,Nat.add_one_ne_zero,if_false]
theorem upS_top (ca:Nat→Nat) (la n:Nat):upS ca la n (la+1)=0:=by
 rw [upS,Nat.sub_self,if_neg (by omega),Nat.add_sub_cancel,ext,if_neg (by omega)];simp [vb]
theorem upS_zero (ca:Nat→Nat) (la n:Nat):upS ca la n 0=vb ca 0 la*2^n:=by
 rw [upS,if_pos rfl,Nat.sub_zero,vb_ext0 _ _ _ (by omega)];simp
theorem Keep.fresh {a b c:World} {k:Nat} (h:Keep Nope a b) (h':Keep (·=k) b c) (hk:a.heap.size≤k):Keep Nope a c:=
 ⟨h'.os.trans h.os,h'.tape.trans h.tape,h'.output.trans h.output,Nat.le_trans h.size h'.size,fun i h1 h2=>(h'.block i (Nat.lt_of_lt_of_le h1 h.size) (by omega)).trans (h.block i h1 h2)⟩
theorem rest_any (w:World) (a b:Option Addr) (la ka lb kb A M:Nat) (ha:IsB w a la ka A) (hb:IsB w b lb kb M) (hla:la<100000) (hlb:lb<100000) (hM:0<M) :
  Calls Tryz.prog 36 #[.slice a la ka,.slice b lb kb] w fun e w'=>∃a' l' k',e = .returned (.slice a' l' k')∧IsB w' a' l' k' (A%M)∧Keep Nope w w':=by
 obtain⟨cb,db,vb',htop⟩:=hb
 have HB:Hid (IsB w b lb kb M):=⟨cb,db,vb',htop⟩
 have hlb0:0<lb:=by
  rcases Nat.eq_zero_or_pos lb with h | h
  ·subst h;simp only [vb] at vb';omega
  ·exact h
 obtain⟨bb,rfl,fb,htl⟩:=db.get (lb-1) (by omega)
 have ht0:cb (lb-1)≠0:=htop.resolve_left (by omega)
 obtain⟨tp,htp⟩:∃x,cb (lb-1)=x:=⟨_,rfl⟩
 rw [htp] at fb htl ht0
 rw [W16] at htl
 have HM:Hid (0<M):=hM
 clear htop vb' htp hM db
 have q1:IntKind.i64.wrap ((lb:Int)-1)=(lb:Int)-1:=IntWalk.i64_in _ (by omega)
 have q2:((lb:Int)-1).toNat=lb-1:=by omega
 have q3:(0:Int)≤(lb:Int)-1:=by omega
 have q4:(lb:Int)-1<(lb:Int):=by omega
 go_enter Tryz.func36,Tryz.ntmps36
 go_wp2_with fail
 go_loopw [5] (fun s5 wr=>∃n:Nat,s5 = .int .i64 (n:Int)∧n≤15∧(n=0∨tp*2^(n-1)<32768)∧wr=w) (fun s5 _=>15-(intOf s5).toNat)
 case atStart=>exact⟨0,rfl,by omega,.inl rfl,rfl⟩
 case round=>
  obtain⟨n,rfl,hn,hn2,rfl⟩:=hrel
  have hw1:IntKind.i64.wrap ((tp:Int)*2^n)=(tp:Int)*2^n:=by
   have e:(tp:Int)*2^n=((tp*2^n:Nat):Int):=by push_cast;rfl
   have hp:2^n≤2^15:=Nat.pow_le_pow_right (by decide) (by omega)
   have h1:tp*2^n≤65535*2^n:=Nat.mul_le_mul_right _ (by omega)
   rw [e,IntWalk.i64_in _ (by omega)]
  have hn64:(n:Int)<64:=by omega
  have qn:IntKind.i64.wrap ((n:Int)+1)=(n:Int)+1:=IntWalk.i64_in _ (by omega)
  by_cases hlt:tp*2^n<32768
  ·have hlt':(tp:Int)*2^n<32768:=by
    have e:(tp:Int)*2^n=((tp*2^n:Nat):Int):=by push_cast;rfl
    rw [e];omega
   have hn15:n<15:=by
    refine Nat.lt_of_not_le fun h=>?_
    obtain rfl:n=15:=by omega
    omega
   have HLT:Hid (tp*2^n<32768):=hlt
   clear hn2 hlt
   go_wp2_with fail
   go_roundw
   case rel=>exact⟨n+1,by go_num,by omega,.inr HLT.out,by first | trivial | rfl⟩
   case measure=>simp [intOf]<;>omega
  ·have hlt':¬((tp:Int)*2^n<32768):=by
    have e:(tp:Int)*2^n=((tp*2^n:Nat):Int):=by push_cast;rfl
    rw [e];omega
   clear hn2 hlt
   go_wp2_with fail
   refine(shifted_any _ _ lb kb M n (oo HB) (by omega) (by omega)).mono ?_
   rintro e w1 ⟨am,k,km,rfl,hm,hk1⟩
   have hlen:k≤lb+1:=hm.len_le (by
    have h1:=(oo HB).lt
    have hp:2^n≤2^16:=Nat.pow_le_pow_right (by decide) (by omega)
    rw [Nat.pow_succ]
    exact Nat.lt_of_lt_of_le (Nat.mul_lt_mul_of_pos_right h1 (Nat.two_pow_pos _)) (Nat.mul_le_mul_left _ hp))
   have hM':0<M*2^n:=Nat.mul_pos HM.out (Nat.two_pow_pos _)
   have hk0:0<k:=by
    rcases Nat.eq_zero_or_pos k with h | h
    ·have:=hm.zero.1 h;omega
    ·exact h
   obtain⟨br,w2,hrun,hbr,hrow,hk2⟩:=run_make_i64 25 Tryz.underlying25 w1 (k+1) (k+1) (Nat.le_refl _) (by omega) .i64 .i64
   rw [show ((k+1:Nat):Int)=(k:Int)+1 from by omega] at hrun
   have qk:IntKind.i64.wrap ((k:Int)+1)=(k:Int)+1:=IntWalk.i64_in _ (by omega)
   have HMB:Hid (IsB w2 am k km (M*2^n)):=hm.nope hk2
   obtain⟨cm,dm,vm,-⟩:=hm
   have HVM:Hid (vb cm 0 k=M*2^n):=vm
   have HBR:Hid (w1.heap.size≤br):=hbr
   have HK12:Hid (Keep Nope wr w2):=hk1.trans hk2
   have HK0:Hid (wr.heap.size≤w1.heap.size):=hk1.size
   have dm2:=dm.keep hk2 (fun _ _=>id)
   have hamr:∀b,am=some ⟨b,0,none⟩→b≠br:=by
    rintro b rfl rfl
    obtain⟨b',e,f,_⟩:=dm.get 0 hk0
    simp only [Option.some.injEq,Addr.mk.injEq,and_true] at e
    subst e
    have:=World.block_lt_of_cell? w1 _ f
    simp only at this
    omega
   have ha2:IsB w2 a la ka A:=ha.nope (oo HK12)
   obtain⟨ca,da,va,-⟩:=ha2
   have hra:∀b,a=some ⟨b,0,none⟩→b≠br∨la=0:=by
    rintro b rfl
    rcases Nat.eq_zero_or_pos la with h | h
    ·exact .inr h
    ·left
     rintro rfl
     obtain⟨ca',da',_⟩:=ha
     obtain⟨b',e,f,_⟩:=da'.get 0 h
     simp only [Option.some.injEq,Addr.mk.injEq,and_true] at e
     subst e
     have:=World.block_lt_of_cell? wr _ f
     have:=hk1.size
     simp only at *
     omega
   have HVA:Hid (vb ca 0 la=A):=va
   have HMM:Hid (0<M*2^n):=hM'
   clear vm hbr va hM' hk1 hk2 dm hlt' hw1
   go_wp2_with fail
   clear hrun qk
   go_loopg [8] (la+1) (fun g s8 wx=>s8 = .int .i64 ((g:Int)-1)∧g≤la+1∧∃c,Rwi wx br (k+1) c∧Keep (·=br) w2 wx∧Hid (vb c 0 (k+1)=upS ca la n g%(M*2^n)))
   case atStart=>
    refine⟨by go_num,by omega,fun _=>0,hrow,Keep.refl _ _,?_⟩
    show _=_
    rw [upS_top,vb_zero (fun _ _=>rfl)];simp
   case round=>
    obtain⟨rfl,hg,c,hr,hk,hv⟩:=hrel
    have HV:Hid _:=hv
    clear hv
    rcases gk with _ | t
    ·have hR:Hid (vb c 0 (k+1)=A%M*2^n):=by
      show _=_
      rw [HV.out,upS_zero,HVA.out,Nat.mul_mod_mul_right]
     have hAM:A%M<W16^k:=by
      refine Nat.lt_of_lt_of_le (Nat.mod_lt _ HM.out) ?_
      refine Nat.le_trans (Nat.le_mul_of_pos_right M (Nat.two_pow_pos n)) ?_
      rw [← HVM.out]
      exact Nat.le_of_lt (vb_lt0 dm2.lt)
     have HAM:Hid (A%M<W16^k):=hAM
     obtain⟨bo,w3,hrun,hbo,hro,hk3⟩:=run_make_i64 25 Tryz.underlying25 wr k k (Nat.le_refl _) (by omega) .i64 .i64
     have hbr3:=hr.keep hk3 id
     have hne:br≠bo:=by have:=hr.inHeap;omega
     have HKF:Hid (Keep Nope _ w3):=((oo HK12).fresh hk (by have:=(oo HK12).size;have:=HBR.out;have:=HK0.out;omega)).trans hk3
     have HBO:Hid (wr.heap.size≤bo):=hbo
     have HSZ:Hid (_≤wr.heap.size):=Nat.le_trans (oo HK12).size hk.size
     clear hAM HV hbo hk3 hk hr
     go_wp2_with fail
     clear hrun
     go_loopw [110] (fun s wz=>∃(i:Nat) (c2:Nat→Nat),s = .int .i64 (i:Int)∧i≤k∧Rwi wz bo k c2∧Keep (·=bo) w3 wz∧Hid (∀j,j<i→c2 j=dig (A%M) j)) (fun s _=>k-(intOf s).toNat)
     case atStart=>exact⟨0,_,rfl,by omega,hro,Keep.refl _ _,fun j hj=>by omega⟩
     case round=>
      obtain⟨i,c2,rfl,hi,hr2,hk4,hv⟩:=hrel
      have HV:Hid _:=hv
      have HK4:Hid (Keep (fun k=>k=bo) w3 wr):=hk4
      clear hv
      by_cases h0:i=k
      ·subst h0
       clear hk4
       go_wp2_with fail
       refine(trim_any _ (some ⟨bo,0,none⟩) i i c2 (hr2.dg _ (Nat.le_refl _) (by omega))).mono ?_
       rintro e w5 ⟨l,rfl,-,hn',hw⟩
       subst hw
       go_wp2_with fail
       go_ret
       refine⟨_,_,_,rfl,?_,(oo HKF).fresh (oo HK4) (by have:=HBO.out;have:=HSZ.out;omega)⟩
       rw [vb_ext (c:=c2) (d:=dig (A%M)) (o:=0) (p:=0) (n:=i) (fun j hj=>by rw [Nat.zero_add];exact HV.out j hj),vb_dig,Nat.mod_eq_of_lt HAM.out] at hn'
       exact hn'
      ·have hik:i<k:=by omega
       have hbr4:=hbr3.keep hk4 hne
       have f1:=hbr4.cell (i:=i) (by omega)
       have f2:=hbr4.cell (i:=i+1) (by omega)
       have l1:=hbr4.lt i (by omega)
       have l2:=hbr4.lt (i+1) (by omega)
       have e1:dig (A%M*2^n) i=c i:=by rw [← hR.out];exact dig_vb hbr4.lt i (by omega)
       have e2:dig (A%M*2^n) (i+1)=c (i+1):=by rw [← hR.out];exact dig_vb hbr4.lt (i+1) (by omega)
       have e3:=back_digit (X:=A%M*2^n) (n:=n) (i:=i) (by omega) (c i) (c (i+1)) e1.symm e2.symm
       rw [Nat.mul_div_cancel _ (Nat.two_pow_pos n)] at e3
       obtain⟨x,hx⟩:∃v,c i=v:=⟨_,rfl⟩
       obtain⟨y,hy⟩:∃v,c (i+1)=v:=⟨_,rfl⟩
       obtain⟨d,hd⟩:∃v,dig (A%M) i=v:=⟨_,rfl⟩
       rw [hx] at f1 l1 e3
       rw [hy] at f2 l2 e3
       rw [hd] at e3
       have HD:Hid (dig (A%M) i=d):=hd
       have hdl:d<W16:=by rw [← hd];exact dig_lt _ _
       rw [W16] at l1 l2 e3 hdl
       have fz:=hr2.cell hik
       have ff:=hr2.frozen i
       have o1:IntKind.i64.wrap ((i:Int)+1)=(i:Int)+1:=IntWalk.i64_in _ (by omega)
       have o2:((i:Int)+1).toNat=i+1:=by omega
       have o3:(0:Int)≤(i:Int)+1:=by omega
       have o4:(i:Int)+1<(k:Int)+1:=by omega
       have o5:(i:Int)<(k:Int)+1:=by omega
       have o6:(i:Int)<(k:Int):=by omega
       have o7:IntKind.i64.wrap ((y:Int)*65536)=(y:Int)*65536:=IntWalk.i64_in _ (by omega)
       have o8:bits .or .i64 (x:Int) ((y:Int)*65536)=(y:Int)*65536+(x:Int):=by
        have:=or_shl x y 16 (by omega) (by omega) (by omega)
        rw [show ((y*2^16:Nat):Int)=(y:Int)*65536 from by omega,show ((y*2^16+x:Nat):Int)=(y:Int)*65536+(x:Int) from by omega] at this
        exact this
       obtain⟨v,hv⟩:∃v,v=(x+65536*y) / 2^n:=⟨_,rfl⟩
       have o9:((y:Int)*65536+(x:Int)) / 2^n=(v:Int):=by
        rw [hv,show (y:Int)*65536+(x:Int)=((x+65536*y:Nat):Int) from by omega,Int.natCast_ediv,Int.natCast_pow];rfl
       have o10:bits .and .i64 (v:Int) 65535=(d:Int):=by
        rw [and16];rw [← hv] at e3;omega
       clear e1 e2 e3 hx hy hd hv h0
       go_wp2_with fail
       go_still_tail 17,(by kernel_rfl)
       change wpList _ _ _ _ _ wr.drew
       go_wp2_with fail
       go_roundw
       case rel=>
        repeat apply Exists.intro
        refine⟨⟨i+1,upd c2 i d,by go_num,by omega,(hr2.set _ _ (by rw [W16];omega)).drew,(hk4.setCell rfl _).drew,?_⟩,rfl⟩
        intro j hj
        by_cases e:j=i
        ·subst e;rw [upd_same,HD.out]
        ·rw [upd_ne _ _ e];exact HV.out j (by omega)
       case measure=>simp [intOf]<;>omega
    ·rw [show ((t+1:Nat):Int)-1=(t:Int) from by omega]
     obtain⟨x,hx⟩:∃x,ext ca la t=x:=⟨_,rfl⟩
     obtain⟨y,hy⟩:∃y,(if t=0 then 0 else ext ca la (t-1))=y:=⟨_,rfl⟩
     have HX:Hid (ext ca la t=x):=hx
     have HY:Hid ((if t=0 then 0 else ext ca la (t-1))=y):=hy
     have hxl:x<65536:=by rw [← hx,ext];split;exact da.lt t (by assumption);decide
     have hyl:y<65536:=by
      rw [← hy];split
      ·decide
      ·rw [ext];split
       ·exact da.lt (t-1) (by assumption)
       ·decide
     go_upto_if 43 with fail
     go_cut [9] (fun s9 wz=>s9 = .int .i64 (x:Int)∧wr=wz)
     case first=>
      by_cases h1:t<la
      ·obtain⟨ba,rfl,fa,-⟩:=da.get t h1
       have hba:=(hra ba rfl).resolve_right (by omega)
       rw [ext,if_pos h1] at hx
       rw [hx] at fa
       have fa:=hk.cel fa hba
       clear hx hy
       go_wp2_with fail
       go_meet
       exact⟨rfl,rfl⟩
      ·rw [ext,if_neg h1] at hx
       clear hy
       go_wp2_with fail
       go_meet
       exact⟨by rw [← hx];rfl,rfl⟩
     case rest=>
      obtain⟨rfl,rfl⟩:=hcut
      clear hx
      go_upto_if 49 with fail
      go_cut [10] (fun s10 wz=>s10 = .int .i64 (y:Int)∧wr=wz)
      case first=>
       by_cases h1:t=0
       ·rw [if_pos h1] at hy
        subst h1
        subst hy
        go_wp2_with fail
        go_meet
        exact⟨rfl,rfl⟩
       ·rw [if_neg h1,ext] at hy
        rw [if_pos (by omega)] at hy
        obtain⟨ba,rfl,fa,-⟩:=da.get (t-1) (by omega)
        have hba:=(hra ba rfl).resolve_right (by omega)
        rw [hy] at fa
        have fa:=hk.cel fa hba
        have r1:(0:Int)<(t:Int):=by omega
        have r2:IntKind.i64.wrap ((t:Int)-1)=(t:Int)-1:=IntWalk.i64_in _ (by omega)
        have r3:((t:Int)-1).toNat=t-1:=by omega
        have r4:(0:Int)≤(t:Int)-1:=by omega
        have r5:(t:Int)-1<(la:Int):=by omega
        clear hy
        go_wp2_with fail
        go_meet
        exact⟨rfl,rfl⟩
      case rest=>
       obtain⟨rfl,rfl⟩:=hcut
       clear hy
       obtain⟨w4,c4,hrun4,hr4,hk4,hin4,hout4⟩:=run_copy_i64 25 25 3 Tryz.underlying25 (oz:=1) (ox:=0) (dL:=k) (dK:=k) (sL:=k) (sK:=k+1) hr.drew hr.drew k (Nat.min_self k).symm (by omega) (by omega)
       have e0:c k=0:=by
        have h1:vb c 0 (k+1)<W16^k:=by
         rw [HV.out]
         refine Nat.lt_of_lt_of_le (Nat.mod_lt _ HMM.out) ?_
         rw [← HVM.out]
         exact Nat.le_of_lt (vb_lt0 dm2.lt)
        rw [vb_one,Nat.zero_add] at h1
        rcases Nat.eq_zero_or_pos (c k) with h | h
        ·exact h
        ·have:=Nat.mul_le_mul_right (W16^k) h
         omega
       have HC4:Hid (vb c4 1 k=vb c 0 (k+1)):=by
        show _=_
        rw [vb_one,Nat.zero_add,e0,vb_ext (c:=c4) (d:=c) (o:=1) (p:=0) (n:=k) (fun i hi=>by rw [hin4 i hi])]
        simp
       clear hin4 hout4 e0
       have s1:1≤k+1:=by omega
       have s2:k+1-1=k:=by omega
       have s3:¬(k+1=1):=by omega
       have s4:¬(k=0):=by omega
       have s5:(k:Int)≤(k:Int)+1:=by omega
       have s6:(1:Int)≤(k:Int)+1:=by omega
       have s7:k≤k+1:=by omega
       have s8:(0:Int)≤(k:Int):=by omega
       go_wp2_with fail
       go_still_tail 5,(by kernel_rfl)
       change wpList _ _ _ _ _ wr.drew
       go_wp2_with fail
       obtain⟨s,hs⟩:∃s,n+s=16:=⟨16-n,by omega⟩
       have z1:IntKind.i64.wrap (16-(n:Int))=(s:Int):=by rw [IntWalk.i64_in _ (by omega)];omega
       have hs64:(s:Int)<64:=by omega
       have z2:IntKind.i64.wrap ((x:Int)*2^n)=(x:Int)*2^n:=by
        have e:(x:Int)*2^n=((x*2^n:Nat):Int):=by push_cast;rfl
        have hp:2^n≤2^15:=Nat.pow_le_pow_right (by decide) (by omega)
        have h1:x*2^n≤65535*2^n:=Nat.mul_le_mul_right _ (by omega)
        rw [e,IntWalk.i64_in _ (by omega)]
       obtain⟨u,hu⟩:∃u,u=y / 2^s:=⟨_,rfl⟩
       have z3:(y:Int) / 2^s=(u:Int):=by rw [hu];push_cast;rfl
       have hul:u<2^n:=by
        have h1:2^n*2^s=65536:=by rw [← Nat.pow_add,hs]
        rw [hu,Nat.div_lt_iff_lt_mul (Nat.two_pow_pos _),h1];exact hyl
       obtain⟨D,hD⟩:∃D,D=shD n x y:=⟨_,rfl⟩
       have hDl:D<65536:=by rw [hD];exact shD_lt (by omega) hyl
       have z4:bits .or .i64 ((x:Int)*2^n) (u:Int)=((x*2^n+u:Nat):Int):=by
        rw [← or_shl' u x n (by omega) hul hxl];push_cast;rfl
       have z5:bits .and .i64 ((x:Int)*2^n+(u:Int)) 65535=(D:Int):=by
        have e:(x:Int)*2^n+(u:Int)=((x*2^n+u:Nat):Int):=by push_cast;rfl
        rw [and16,e]
        have h2:(x*2^n+u)%65536=D:=by
         rw [hD] at hDl ⊢
         rw [shD,show 16-n=s from by omega,← hu,show W16=65536 from rfl] at hDl ⊢
         rw [Nat.add_mod,Nat.mod_eq_of_lt (show u<65536 from by omega),Nat.mod_eq_of_lt hDl]
        omega
       have hSS:Hid (upS ca la n t=W16*upS ca la n (t+1)+D):=by
        show _=_
        rw [upS_step ca la n t (by omega) (by omega),HX.out,HY.out,hD]
       have fz4:=hr4.cell (i:=0) (by omega)
       have ff4:=hr4.frozen 0
       clear hu hD
       go_still_tail 11,(by kernel_rfl)
       change wpList _ _ _ _ _ w4.drew
       go_wp2_with fail
       have hr5:=(hr4.set 0 D (by rw [W16];omega)).drew
       have hk5:Keep (·=br) w2 (w4.setCell ⟨br,0,none⟩ (.int .i64 (D:Int))).drew:=(((hk.drew).trans hk4).setCell rfl _).drew
       have hv5:Hid (vb (upd c4 0 D) 0 (k+1)%(M*2^n)=upS ca la n t%(M*2^n)):=by
        show _=_
        rw [vb_cons,upd_same,vb_upd _ _ _ _ _ (by omega),Nat.zero_add,HC4.out,HV.out,hSS.out,Nat.add_comm D]
        rw [Nat.add_mod,Nat.mul_mod,Nat.mod_mod,← Nat.mul_mod,← Nat.add_mod]
       clear hr4 hk4 hrun4 hk hr HV HC4
       generalize (w4.setCell ⟨br,0,none⟩ (.int .i64 (D:Int))).drew=w5 at *
       go_loopg [11] (vb (upd c4 0 D) 0 (k+1)+1) (fun gk2 s11 wz=>∃(mb:Bool) (c':Nat→Nat),s11 = .bool mb∧gk2=(if mb then vb c' 0 (k+1)+1 else 0)∧Rwi wz br (k+1) c'∧Keep (·=br) w2 wz∧Hid (vb c' 0 (k+1)%(M*2^n)=upS ca la n t%(M*2^n))∧Hid (mb=false→vb c' 0 (k+1)<M*2^n))
       case atStart=>exact⟨true,_,rfl,rfl,hr5,hk5,hv5,fun h=>by cases h⟩
       case round=>
        obtain⟨mb,c',rfl,hgk,hr6,hk6,hv6,hb6⟩:=hrel
        have HV6:Hid _:=hv6
        have HB6:Hid _:=hb6
        have HGK:Hid _:=hgk
        clear hv6 hb6 hr5 hk5 hv5 hgk
        cases mb with
        | false=>
         have q9:IntKind.i64.wrap ((t:Int)-1)=(t:Int)-1:=IntWalk.i64_in _ (by omega)
         go_wp2_with fail
         go_roundg t
         case measure=>omega
         case rel=>
          refine⟨rfl,by omega,c',hr6,hk6,?_⟩
          have:=HV6.out
          rwa [Nat.mod_eq_of_lt (HB6.out (by first | rfl | trivial))] at this
        | true=>
         obtain⟨bm,rfl,fm,hml⟩:=dm2.get (k-1) (by omega)
         have fm:=hk6.cel fm (hamr bm rfl)
         have f1:=hr6.cell (i:=k) (by omega)
         have f2:=hr6.cell (i:=k-1) (by omega)
         have l1:=hr6.lt k (by omega)
         have l2:=hr6.lt (k-1) (by omega)
         obtain⟨rk,hrk⟩:∃v,c' k=v:=⟨_,rfl⟩
         obtain⟨rk1,hrk1⟩:∃v,c' (k-1)=v:=⟨_,rfl⟩
         obtain⟨mt,hmt⟩:∃v,cm (k-1)=v:=⟨_,rfl⟩
         rw [hrk] at f1 l1
         rw [hrk1] at f2 l2
         rw [hmt] at fm hml
         rw [W16] at l1 l2 hml
         have p1:IntKind.i64.wrap ((k:Int)-1)=(k:Int)-1:=IntWalk.i64_in _ (by omega)
         have p2:((k:Int)-1).toNat=k-1:=by omega
         have p3:(0:Int)≤(k:Int)-1:=by omega
         have p4:(k:Int)-1<(k:Int)+1:=by omega
         have p5:(k:Int)-1<(k:Int):=by omega
         have p6:(k:Int)<(k:Int)+1:=by omega
         have p7:bits .or .i64 ((rk:Int)*65536) (rk1:Int)=(rk:Int)*65536+(rk1:Int):=by
          have:=or_shl' rk1 rk 16 (by omega) (by omega) (by omega)
          rw [show ((rk*2^16:Nat):Int)=(rk:Int)*65536 from by omega,show ((rk*2^16+rk1:Nat):Int)=(rk:Int)*65536+(rk1:Int) from by omega] at this
          exact this
         have p8:IntKind.i64.wrap ((mt:Int)+1)=(mt:Int)+1:=IntWalk.i64_in _ (by omega)
         obtain⟨q,hq⟩:∃q,q=(rk*65536+rk1) / (mt+1):=⟨_,rfl⟩
         have p9:((rk:Int)*65536+(rk1:Int)).tdiv ((mt:Int)+1)=(q:Int):=by
          rw [hq,Int.tdiv_eq_ediv_of_nonneg (by omega),show (rk:Int)*65536+(rk1:Int)=((rk*65536+rk1:Nat):Int) from by omega,show (mt:Int)+1=((mt+1:Nat):Int) from by omega];exact(Int.natCast_ediv _ _).symm
         have p10:(((mt:Int)+1)==0)=false:=beq_eq_false_iff_ne.2 (by omega)
         have p11:¬((mt:Int)+1=0):=by omega
         have hql:q≤4294967295:=by
          rw [hq];exact Nat.le_trans (Nat.div_le_self _ _) (by omega)
         have p12:IntKind.i64.wrap (q:Int)=(q:Int):=IntWalk.i64_in _ (by omega)
         have HLE:Hid (q*vb cm 0 k≤vb c' 0 (k+1)):=rest_guess hk0 hr6.lt dm2.lt (by rw [hq,hrk,hrk1,hmt,W16])
         have p13:(1:Int)≤(k:Int):=by omega
         have p14:IntKind.i64.wrap ((rk:Int)*65536)=(rk:Int)*65536:=IntWalk.i64_in _ (by omega)
         have HR6:Hid _:=hr6
         have HK6:Hid (Keep (fun k=>k=br) w2 wr):=hk6
         clear hq hrk hrk1 hmt hr6 hk6
         by_cases hq0:q=0
         ·subst hq0
          rw [Int.natCast_zero] at p9
          clear p12
          go_wp2_with fail
          go_quiet (fail)
          go_wp2_with fail
          refine(trim_any _ (some ⟨br,0,none⟩) (k+1) (k+1) c' (((oo HR6).drewN nq).dg _ (Nat.le_refl _) (by omega))).mono ?_
          rintro e w6 ⟨l,rfl,hl,hT,hw⟩
          subst hw
          go_wp2_with fail
          refine(compare_any _ _ _ l _ k km _ _ hT ((oo HMB).keep ((oo HK6).drewN nq) hamr) (by omega) (by omega)).mono ?_
          rintro e w7 ⟨rfl,hk7⟩
          have hr7:=((oo HR6).drewN nq).keep hk7 id
          have hk8:Keep (fun k=>k=br) w2 w7:=((oo HK6).drewN nq).trans (hk7.mono fun _ _ h=>h.elim)
          have dm7:=dm2.keep hk8 hamr
          by_cases hge:M*2^n≤vb c' 0 (k+1)
          ·have tc:0≤cmpB (vb c' 0 (k+1)) (M*2^n):=cmpB_ge.2 hge
           have T:=takeAway_any w7 br (k+1) c' hr7 _ k km cm dm7 hamr 1 (by omega) (by omega) (by omega) (by rw [HVM.out];omega)
           simp only [Int.natCast_one] at T
           have HT7:Hid _:=T
           generalize cmpB (vb c' 0 (k+1)) (M*2^n)=cv at *
           clear hge hT T hk7
           go_wp2_with fail
           refine Calls.mono (oo HT7) ?_
           rintro e w8 ⟨c7,rfl,hr8,hv8,hk9⟩
           rw [HVM.out,Nat.one_mul] at hv8
           have HV8:Hid _:=hv8
           clear hv8
           go_wp2_with fail
           go_roundg (vb c7 0 (k+1)+1)
           case measure=>
            have:=HGK.out
            simp only [if_true] at this
            have:=HV8.out
            have:=HMM.out
            omega
           case rel=>
            refine⟨true,c7,rfl,rfl,hr8,hk8.trans hk9,?_,fun h=>by cases h⟩
            show _=_
            rw [← HV6.out,← HV8.out,Nat.add_mod_right]
          ·have tc:¬(0≤cmpB (vb c' 0 (k+1)) (M*2^n)):=fun h=>hge (cmpB_ge.1 h)
           have T:=takeAway_any w7 br (k+1) c' hr7 _ k km cm dm7 hamr 0 (by omega) (by omega) (by omega) (by omega)
           simp only [Int.natCast_zero] at T
           have HT7:Hid _:=T
           have HGE:Hid (vb c' 0 (k+1)<M*2^n):=Nat.lt_of_not_le hge
           generalize cmpB (vb c' 0 (k+1)) (M*2^n)=cv at *
           clear hge hT T hk7
           go_wp2_with fail
           refine Calls.mono (oo HT7) ?_
           rintro e w8 ⟨c7,rfl,hr8,hv8,hk9⟩
           rw [Nat.zero_mul,Nat.add_zero] at hv8
           have HV8:Hid _:=hv8
           clear hv8
           go_wp2_with fail
           go_roundg 0
           case measure=>
            have:=HGK.out
            simp only [if_true] at this
            omega
           case rel=>
            refine⟨false,c7,rfl,rfl,hr8,hk8.trans hk9,?_,fun _=>?_⟩
            ·show _=_
             rw [HV8.out];exact HV6.out
            ·rw [HV8.out];exact HGE.out
         ·have tq:((q:Int)==0)=false:=beq_eq_false_iff_ne.2 (by omega)
          have tq2:(0:Int)<(q:Int):=by omega
          go_wp2_with fail
          go_quiet (fail)
          go_wp2_with fail
          have hk8:Keep (fun k=>k=br) w2 (wr.drewN nq):=(oo HK6).drewN nq
          refine(takeAway_any _ br (k+1) c' ((oo HR6).drewN nq) _ k km cm (dm2.keep hk8 hamr) hamr q (by omega) (by omega) (by omega) HLE.out).mono ?_
          rintro e w8 ⟨c7,rfl,hr8,hv8,hk9⟩
          rw [HVM.out] at hv8
          have HV8:Hid _:=hv8
          clear hv8
          go_wp2_with fail
          go_roundg (vb c7 0 (k+1)+1)
          case measure=>
           have h1:=HGK.out
           simp only [if_true] at h1
           have h2:=HV8.out
           have h3:=HMM.out
           have:=Nat.mul_le_mul (show 1≤q by omega) h3
           omega
          case rel=>
           refine⟨true,c7,congrArg Value.bool (decide_eq_true (by omega)),rfl,hr8,hk8.trans hk9,?_,fun h=>by cases h⟩
           show _=_
           rw [← HV6.out,← HV8.out,Nat.add_mul_mod_self_right]
end Go.Proofs.YtofkehhflkdabaaGreatDoor
