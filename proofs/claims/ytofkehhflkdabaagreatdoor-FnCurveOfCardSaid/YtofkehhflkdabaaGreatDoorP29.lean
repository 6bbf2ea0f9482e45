/- A part of the proof of FnCurveOf. -/
import Derived.Test.YtofkehhflkdabaaGreatDoorP27
import Derived.Deep.CutBlock
import Derived.LaidEql
set_option maxRecDepth 100000
set_option maxHeartbeats 8000000
namespace Go.Proofs.YtofkehhflkdabaaGreatDoor
open Go Go.RowKit
theorem under119:∃ms,Tryz.prog.underlying 119=some (.interface ms):=by
 have h:=(by kernel_rfl:(match Tryz.prog.underlying 119 with | some (.interface _)=>true | _=>false)=true)
 split at h
 ·exact⟨_,by assumption⟩
 ·cases h
theorem under220:∃te,Tryz.prog.underlying 220=some (.pointer te)∧∃j,Tryz.prog.info? te=some j:=by
 have h:=(by kernel_rfl:(match Tryz.prog.underlying 220 with | some (.pointer te)=>(Tryz.prog.info? te).isSome | _=>false)=true)
 split at h
 ·exact⟨_,by assumption,Option.isSome_iff_exists.1 h⟩
 ·cases h
theorem info220:∃i,Tryz.prog.info? 220=some i∧i.comparable=true:=by
 have h:=(by kernel_rfl:(Tryz.prog.info? 220).map (·.comparable)=some true)
 cases e:Tryz.prog.info? 220 with
 | none=>rw [e] at h;simp at h
 | some i=>
  rw [e] at h
  simp only [Option.map_some,Option.some.injEq] at h
  exact⟨i,rfl,h⟩
theorem eql_err (w:World) (a:Addr):(binOp .eql 119 (.iface 220 (.pointer (some a))) (.iface 220 (.pointer (some a)))).run Tryz.prog w = .ok (.bool true) w:=by
 obtain⟨ms,h1⟩:=under119
 obtain⟨te,h2,j,h3⟩:=under220
 obtain⟨i,h4,h5⟩:=info220
 exact run_eql_iface_ptr_same w a h1 h2 h4 h5 h3
theorem results_tmp4 {fn:Func} {t u v x:Tmp} (h:fn.results=#[.tmp t,.tmp u,.tmp v,.tmp x]) (tmps:Array Value) (P:Program) (w:World) :
  (results fn tmps).run P w = .ok (.tuple #[tmps.getD t undef,tmps.getD u undef,tmps.getD v undef,tmps.getD x undef]) w:=by
 simp [results,h]
def hexU (x:Nat):Nat:=if 65≤x then x-55 else x-48
def hexUok (x:Nat):Prop:=(48≤x∧x≤57)∨(65≤x∧x≤70)
theorem hexU_lt {x:Nat} (h:hexUok x):hexU x<16:=by
 unfold hexUok at h;unfold hexU;split<;>omega
def hexQ (s:ByteArray) (o:Nat):Nat→Nat
 | 0=>0
 | k+1=>hexQ s o k*16+hexU (byteAt s (o+k))
theorem hexQ_lt {s:ByteArray} (h:∀i,i<s.size→hexUok (byteAt s i)) {o:Nat}:∀k,o+k≤s.size→hexQ s o k<16^k
 | 0,_=>by simp [hexQ]
 | k+1,hk=>by
  have h1:=hexQ_lt h (o:=o) k (by omega)
  have h2:=hexU_lt (h (o+k) (by omega))
  simp only [hexQ,Nat.pow_succ]
  omega
theorem hexQ_add (s:ByteArray) (o a:Nat):∀b,hexQ s o (a+b)=hexQ s o a*16^b+hexQ s (o+a) b
 | 0=>by simp [hexQ]
 | b+1=>by
  rw [← Nat.add_assoc]
  simp only [hexQ,hexQ_add s o a b,Nat.pow_succ,Nat.add_assoc]
  grind
theorem hex_val (s:ByteArray):∀n,val (fun k=>hexQ s (16*(n-1-k)) 16) 0 n=hexQ s 0 (16*n)
 | 0=>by simp [val,hexQ]
 | n+1=>by
  rw [val_cons,Nat.mul_add,Nat.mul_one,hexQ_add,Nat.zero_add,Nat.zero_add]
  have e:val (fun k=>hexQ s (16*(n+1-1-k)) 16) 1 n=val (fun k=>hexQ s (16*(n-1-k)) 16) 0 n:=by
   refine val_ext fun i hi=>?_
   congr 2;omega
  rw [e,hex_val s n]
  have hW:W64=16^16:=by decide
  rw [hW]
  simp only [Nat.add_sub_cancel,Nat.sub_zero]
  grind
def Scd (w00:World) (s:ByteArray) (v:Value) (i:Nat) (w:World):Prop:=∃c,Owd w00 w v (i / 16) c∧∀j,j<i / 16→c j=hexQ s (16*j) 16
theorem Owd.nq {w0 w:World} {v:Value} {n q i:Nat} {c:Nat→Nat} {s:ByteArray} (h:Owd w0 w v n c) (hr:Rdr w q s i):∀g cap,v = .slice (some ⟨g,0,none⟩) n cap→g≠q:=by
 rintro g cap rfl rfl
 rcases h.2 with⟨h,_⟩ | ⟨g',cap',e,h1,h2,h3,h4,h5⟩
 ·cases h
 ·cases e
  have:=h5.row.cell (i:=0) h3
  rw [hr.c0] at this
  cases this
theorem Scd.keep1 {w00 w w':World} {s:ByteArray} {v:Value} {i q j:Nat} (h:Scd w00 s v i w) (k:Keep (·=q) w w') (hq:w00.heap.size≤q) (hr:Rdr w q s j):Scd w00 s v i w':=by
 obtain⟨c,h1,h2⟩:=h
 exact⟨c,h1.keep1 k hq (h1.nq hr),h2⟩
theorem scan_any (w00 w:World) (hk0:Keep Nope w00 w) (q:Nat) (bE:Addr) (n:Nat) (s:ByteArray) (h:Rdr w q s 0) (hq:w00.heap.size≤q) (hE:w00.cell? ⟨0,0,none⟩=some (.iface 220 (.pointer (some bE)))) (hn0:0<n) (hn:n<100) (hs:s.size=16*n) (hok:∀i,i<s.size→hexUok (byteAt s i)) :
  Calls Tryz.prog 74 #[.slice none 0 0,.iface 109 (.pointer (some ⟨q,0,none⟩)),.int .i64 16,.bool false] w fun e w'=>∃(a:Option Addr) (l k:Nat) (m:Int),e = .returned (.tuple #[.slice a l k,.int .i64 16,.int .i64 m,.nilIface]) ∧
   IsNat w' a l k (hexQ s 0 (16*n))∧(∀b,At a b→w00.heap.size≤b)∧Keep Nope w00 w'∧Rdr w' q s (16*n):=by
 have HOK:Hid (∀i,i<s.size→hexUok (byteAt s i)):=hok
 have hs2:s.size<100000:=by omega
 have hk1:Keep (·=q) w w:=Keep.refl _ _
 have hq0:q≠0:=by
  have:0<w00.heap.size:=World.block_lt_of_cell? w00 _ hE
  omega
 clear hok
 go_enter Tryz.func74,Tryz.ntmps74
 go_wp2_with fail
 refine(readByte_some _ q 0 s h (by omega) hs2).mono ?_
 rintro e w1 ⟨rfl,hr1,hk1⟩
 have hk2:Keep Nope w00 w1:=⟨hk1.os.trans hk0.os,hk1.tape.trans hk0.tape,hk1.output.trans hk0.output,Nat.le_trans hk0.size hk1.size,fun i h1 h2=>(hk1.block i (Nat.lt_of_lt_of_le h1 hk0.size) (by omega)).trans (hk0.block i h1 h2)⟩
 obtain⟨x,hx⟩:∃x,byteAt s 0=x:=⟨_,rfl⟩
 rw [hx]
 have HX:Hid _:=hx
 clear hx
 go_wp2_with fail
 go_loopw [0,3,10,11,13,14,15,20,21,22] (fun s0 s3 s10 s11 s13 s14 s15 s20 s21 s22 wr=>∃(i W r x:Nat) (pv:Int),i≤16*n∧Scd w00 s s0 i wr∧s3 = .bool false∧s10 = .int .i64 (i:Int)∧s11=(if i<16*n then .nilIface else .iface 220 (.pointer (some bE)))∧s13 = .int .i32 pv∧(pv=46∨pv=48)∧s14 = .bool false∧s15 = .int .u8 (x:Int)∧Hid (i<16*n→x=byteAt s i)∧s20 = .int .u64 (W:Int)∧s21 = .int .i64 (r:Int)∧s22 = .int .i64 (-1)∧Hid (W=hexQ s (16*(i / 16)) (i%16))∧Hid (r=i%16)∧Rdr wr q s (if i<16*n then i+1 else i)) (fun _ _ s10 _ _ _ _ _ _ _ _=>16*n-(intOf s10).toNat)
 case atStart=>
  refine⟨0,0,0,x,46,by omega,⟨fun _=>0,⟨hk2,.inl ⟨rfl,rfl⟩⟩,fun j hj=>by omega⟩,rfl,rfl,?_,rfl,.inl rfl,rfl,rfl,fun _=>HX.out.symm,rfl,rfl,rfl,rfl,rfl,?_⟩
  ·rw [if_pos (by omega)]
  ·rw [if_pos (by omega)];exact hr1
 case round=>
  obtain⟨i,W,r,x,pv,hi,hsc,rfl,rfl,rfl,rfl,hpv,rfl,rfl,HXX,rfl,rfl,rfl,HW,HR,hrd⟩:=hrel
  by_cases hlt:i<16*n
  ·rw [if_pos hlt] at hrd ⊢
   have hxx:=HXX.out hlt
   have hxo:hexUok x:=by rw [hxx];exact HOK.out i (by omega)
   have HXI:Hid _:=hxx
   clear hxx
   obtain⟨D,hD⟩:∃D,hexU x=D:=⟨_,rfl⟩
   have hD16:D<16:=by rw [← hD];exact hexU_lt hxo
   have HD:Hid _:=hD
   have hx2:(48≤x∧x≤57)∨(65≤x∧x≤70):=hxo
   have t46:((x:Int)==46)=false:=beq_eq_false_iff_ne.2 (by omega)
   have t95:((x:Int)==95)=false:=beq_eq_false_iff_ne.2 (by omega)
   clear hxo hD
   go_upto_block 4 with fail
   go_cut [23] (fun s23 wz=>s23 = .int .u64 (D:Int)∧wr=wz)
   case first=>
    by_cases h65:65≤x
    ·have e1:D=x-55:=by rw [← HD.out,hexU,if_pos h65]
     have q1:(48:Int)≤(x:Int):=by omega
     have q2:¬((x:Int)≤57):=by omega
     have q3:¬((97:Int)≤(x:Int)):=by omega
     have q4:(65:Int)≤(x:Int):=by omega
     have q5:(x:Int)≤90:=by omega
     go_wp2_with fail
     go_meet
     exact⟨by rw [show (x:Int)-65+10=(D:Int) from by omega],rfl⟩
    ·have e1:D=x-48:=by rw [← HD.out,hexU,if_neg h65]
     have q1:(48:Int)≤(x:Int):=by omega
     have q2:(x:Int)≤57:=by omega
     go_wp2_with fail
     go_meet
     exact⟨by rw [show (x:Int)-48=(D:Int) from by omega],rfl⟩
   case rest=>
    obtain⟨rfl,rfl⟩:=hcut
    have hWl:W<1152921504606846976:=by
     rw [HW.out]
     refine Nat.lt_of_lt_of_le (hexQ_lt HOK.out (i%16) (by omega)) ?_
     exact Nat.le_trans (Nat.pow_le_pow_right (by decide) (show i%16≤15 by omega)) (by decide)
    have hr16:r<16:=by rw [HR.out];omega
    have d1:(D:Int)<16:=by omega
    have q1:IntKind.u64.wrap ((W:Int)*16)=(W:Int)*16:=IntWalk.u64_in _ (by omega)
    obtain⟨W2,hW2⟩:∃W2,W2=W*16+D:=⟨_,rfl⟩
    have q2:IntKind.u64.wrap ((W:Int)*16+(D:Int))=(W2:Int):=by rw [IntWalk.u64_in _ (by omega)];omega
    have hWD:W2<W64:=by rw [W64];omega
    have HW2:Hid _:=hW2
    clear hW2
    have q3:IntKind.i64.wrap ((r:Int)+1)=(r:Int)+1:=IntWalk.i64_in _ (by omega)
    have q4:IntKind.i64.wrap ((i:Int)+1)=(i:Int)+1:=IntWalk.i64_in _ (by omega)
    have hsz:i+1≤s.size:=by omega
    go_upto_if 190 with fail
    go_cut [0,20,21] (fun s0 s20 s21 wz=>∃(W' r':Nat),Scd w00 s s0 (i+1) wz∧s20 = .int .u64 (W':Int)∧s21 = .int .i64 (r':Int)∧Hid (W'=hexQ s (16*((i+1) / 16)) ((i+1)%16))∧Hid (r'=(i+1)%16)∧Rdr wz q s (i+1))
    case first=>
     by_cases h15:r=15
     ·have t16:(((r:Int)+1)==16)=true:=by rw [h15];rfl
      obtain⟨c,ho,hc⟩:=hsc
      have HSC:Hid _:=hc
      have HO:Hid (Owd w00 wr u0 (i / 16) c):=ho
      have HRD:Hid (Rdr wr q s (i+1)):=hrd
      clear hc ho hrd
      go_wp2_with (at_builtin;obtain⟨v',w',c',hr,ho',hc',hcd,hkw⟩:=app_word ((oo HO).keep ((Keep.refl Nope wr).alloc (.cells #[.int .u64 (W2:Int)] 102 (0,0)))) wr.heap.size 1 (d:=W2) (cell_new1 _ _ _) hWD (by omega) 83;refine Lib.wpList_append_run _ rfl _ _ _ _ rfl _ _ rfl rfl _ _ hr ?_)
      go_meet
      have e:(i+1) / 16=i / 16+1:=by have:=HR.out;omega
      have e2:(i+1)%16=0:=by have:=HR.out;omega
      have e3:i%16=15:=by have:=HR.out;omega
      refine⟨0,0,⟨c',by rw [e];exact ho',fun j hj=>?_⟩,rfl,rfl,?_,?_,?_⟩
      ·rw [e] at hj
       by_cases hji:j<i / 16
       ·rw [hc' j hji,(oo HSC) j hji]
       ·obtain rfl:j=i / 16:=by omega
        rw [hcd,HW2.out,HW.out,e3,← HD.out,HXI.out]
        show _=hexQ s (16*(i / 16)) 15*16+hexU (byteAt s (16*(i / 16)+15))
        rw [show 16*(i / 16)+15=i from by omega]
      ·show _=_
       rw [e2];rfl
      ·show _=_
       rw [e2]
      ·refine(Rdr.keep (Rdr.keep (oo HRD) ((Keep.refl Nope wr).alloc _) id) hkw ?_)
       rintro ⟨cap,hv⟩
       exact(oo HO).nq (oo HRD) q cap hv rfl
     ·have t16:(((r:Int)+1)==16)=false:=beq_eq_false_iff_ne.2 (by omega)
      go_wp2_with fail
      go_meet
      refine⟨W2,r+1,?_,by go_num,by go_num,?_,?_,hrd⟩
      ·have e:(i+1) / 16=i / 16:=by have:=HR.out;omega
       obtain⟨c,ho,hc⟩:=hsc
       exact⟨c,by rw [e];exact ho,by rw [e];exact hc⟩
      ·show _=_
       have e:(i+1) / 16=i / 16:=by have:=HR.out;omega
       have e2:(i+1)%16=i%16+1:=by have:=HR.out;omega
       rw [HW2.out,e,e2,hexQ,← HW.out,← HD.out,HXI.out,show 16*(i / 16)+i%16=i from by omega]
      ·show _=_
       have:=HR.out;omega
    case rest=>
     obtain⟨W',r',hsc',rfl,rfl,HW',HR',hrd'⟩:=hcut
     have q7:(i:Int)<16*(n:Int):=by omega
     clear hsc hrd HXX HW HR hx2 t46 t95 q1 q2 q3 HW2 hWD
     by_cases hend:i+1<16*n
     ·go_wp2_with fail
      refine(readByte_some _ q (i+1) s hrd' (by omega) hs2).mono ?_
      rintro e w5 ⟨rfl,hr5,hk5⟩
      have hsc5:=hsc'.keep1 hk5 hq hrd'
      obtain⟨y,hy⟩:∃y,byteAt s (i+1)=y:=⟨_,rfl⟩
      rw [hy]
      have HY:Hid _:=hy
      have HSC5:Hid (Scd w00 s u0 (i+1) w5):=hsc5
      have HR5:Hid (Rdr w5 q s _):=hr5
      clear hy hsc5 hr5 hsc' hrd'
      go_wp2_with fail
      go_roundw
      case rel=>exact⟨i+1,W',r',y,48,by omega,oo HSC5,rfl,by go_num,by rw [if_pos hend],rfl,.inr rfl,rfl,rfl,fun _=>HY.out.symm,rfl,rfl,rfl,HW',HR',by rw [if_pos hend];exact oo HR5⟩
      case measure=>simp [intOf];omega
     ·obtain⟨c,ho,hc⟩:=hsc'
      have hEw:=ho.1.cell hE id
      have hsc':Scd w00 s u0 (i+1) wc:=⟨c,ho,hc⟩
      clear ho hc
      go_wp2_with fail
      refine(readByte_end _ q (i+1) s _ hrd' (by omega) (by omega) hEw hq0).mono ?_
      rintro e w5 ⟨rfl,hr5,hk5⟩
      have hsc5:=hsc'.keep1 hk5 hq hrd'
      have HSC5:Hid (Scd w00 s u0 (i+1) w5):=hsc5
      have HR5:Hid (Rdr w5 q s _):=hr5
      clear hsc5 hr5 hsc' hrd'
      go_wp2_with fail
      go_roundw
      case rel=>exact⟨i+1,W',r',0,48,by omega,oo HSC5,rfl,by go_num,by rw [if_neg hend],rfl,.inr rfl,rfl,by go_num,fun h=>absurd h hend,rfl,rfl,rfl,HW',HR',by rw [if_neg hend];exact oo HR5⟩
      case measure=>simp [intOf];omega
  ·rw [if_neg hlt] at hrd ⊢
   obtain rfl:i=16*n:=by omega
   have hr0:r=0:=by rw [HR.out];omega
   subst hr0
   have hpv':((pv==95)=false):=beq_eq_false_iff_ne.2 (by omega)
   obtain⟨c,ho,hc⟩:=hsc
   have hEr:=ho.1.cell hE id
   rw [show 16*n / 16=n from by omega] at ho hc
   obtain⟨g,cap,rfl,hg0,hnc,hcap,hcm,hwb⟩:=ho.2.resolve_left (fun h=>by omega)
   have hn16:((16*(n:Int))==0)=false:=beq_eq_false_iff_ne.2 (by omega)
   have heq:=eql_err wr bE
   have HC:Hid _:=hc
   have HO:=ho.1
   have hgq:=ho.nq hrd g cap rfl
   clear hc ho
   go_wp2_with fail
   refine(reverse_any _ g cap n c hwb.row hnc hn0 (by omega)).mono ?_
   rintro e w2 ⟨c2,rfl,hr2,hk2,hv2⟩
   have HV2:Hid (val c2 0 n=hexQ s 0 (16*n)):=by
    show _=_
    rw [← hex_val]
    refine val_ext fun k hk=>?_
    rw [Nat.zero_add,hv2 k hk,HC.out _ (by omega)]
   clear hv2
   go_wp2_with fail
   refine(norm_any _ (some ⟨g,0,none⟩) n cap (hexQ s 0 (16*n)) (.inr ⟨g,c2,rfl,hnc,⟨hcap,hcm⟩,hr2,HV2.out⟩) (by omega)).mono ?_
   rintro e w3 ⟨l,rfl,hn3,hl3,hk3⟩
   go_wp2_with fail
   refine bodyPost_ret (results_tmp4 rfl _ _ _) rfl ?_
   have hkk:Keep Nope w00 w2:=⟨hk2.os.trans HO.os,hk2.tape.trans HO.tape,hk2.output.trans HO.output,Nat.le_trans HO.size hk2.size,fun i h1 h2=>(hk2.block i (Nat.lt_of_lt_of_le h1 HO.size) (by omega)).trans (HO.block i h1 h2)⟩
   refine⟨some ⟨g,0,none⟩,l,cap,_,rfl,hn3,?_,hkk.trans hk3,(hrd.keep hk2 (fun e=>hgq e.symm)).keep hk3 id⟩
   intro b hb
   simp only [At,Option.some.injEq,Addr.mk.injEq,and_true] at hb
   omega
end Go.Proofs.YtofkehhflkdabaaGreatDoor
