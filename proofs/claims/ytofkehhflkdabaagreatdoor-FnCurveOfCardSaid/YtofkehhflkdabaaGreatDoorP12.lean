/- A part of the proof of FnCurveOf. -/
import Derived.Test.YtofkehhflkdabaaGreatDoorP11
set_option maxRecDepth 100000
set_option maxHeartbeats 8000000
namespace Go.Proofs.YtofkehhflkdabaaGreatDoor
open Go Go.RowKit
section
variable {P:Program} {md:Region.Mode} {ops:Array Oper} {Q:Exit→Act→World→Prop} {S:World→Prop}
theorem RP (i:Nat) {oi:Oper} {ls:List Nat} {fuel:Nat} {listed:Array Bool} {a:Act} {w:World} (v:Value) (hy:∀w,(execOp a.eval oi).run P w = .ok (.value v) w)
  (h:AnyL P md ops Q S ls fuel (listed.setIfInBounds i true) (a.put oi.dst v) w) (hi:ops[i]?=some oi:=by rfl)
  (hs:Region.noSelect ops=true:=by kernel_rfl) (hf:Region.free md ops listed i=true:=by kernel_rfl) (hr:(Region.ready md ops listed).contains i=true:=by kernel_rfl)
  (hQ:∀c a w,Q (.panic c) (a.put oi.dst v) w→Q (.panic c) a w:=by exact fun _ _ _ h=>h) (hw:Region.wanted oi (yielded ops a.tmps)=true:=by kernel_rfl) :
  AnyL P md ops Q S ls (fuel+1) listed a w:=AnyL_pure i hi hs hf hr hQ hw hy h
theorem RL (i:Nat) {oi:Oper} {ls:List Nat} {fuel:Nat} {listed:Array Bool} {a:Act} {w:World} (v:Value) (hS:S w) (hy:∀w,S w→(execOp a.eval oi).run P w = .ok (.value v) w)
  (h:AnyL P md ops Q S ls fuel (listed.setIfInBounds i true) (a.put oi.dst v) w) (hi:ops[i]?=some oi:=by rfl) (hin:ls.contains i=true:=by kernel_rfl)
  (hs:Region.noSelect ops=true:=by kernel_rfl) (hf:Region.free md ops listed i=true:=by kernel_rfl) (hr:(Region.ready md ops listed).contains i=true:=by kernel_rfl)
  (hQ:∀c a w,Q (.panic c) (a.put oi.dst v) w→Q (.panic c) a w:=by exact fun _ _ _ h=>h) (hw:Region.wanted oi (yielded ops a.tmps)=true:=by kernel_rfl) :
  AnyL P md ops Q S ls (fuel+1) listed a w:=AnyL_load i hS hi hin hs hf hr hQ hw hy h
theorem RS (S:World→Prop) (ls:List Nat) {id:Nat} {a:Act} {w:World} (h:AnyL P .any ops Q S ls ops.size (Array.replicate ops.size false) a w.drew) (hm:P.follows .mixedOrders=true:=by kernel_rfl):(Code.region id ops true).wp P Q a w:=
 AnyL_start S ls hm h
theorem RO (i:Nat) {oi:Oper} {ls:List Nat} {fuel:Nat} {listed:Array Bool} {a:Act} {w:World}
  (h:∀K':Act→World→Prop,Shut (∀a' w',WaitsL md ops ls i=true∨S w'→AnyL P md ops Q S ls fuel (listed.setIfInBounds i true) a' w'→K' a' w')→if Region.wanted oi (yielded ops a.tmps)=true then Oper.wp P oi a w K' Q else K' (a.put oi.dst undef) w) (hi:ops[i]?=some oi:=by rfl) (hr:Region.ready md ops listed=[i]:=by kernel_rfl) :
  AnyL P md ops Q S ls (fuel+1) listed a w:=AnyL_one i hi hr h
end
theorem fmul_any (w:World) (am a b:Option Addr) (lm km la ka lb kb M A B:Nat) (hm:IsB w am lm km M) (ha:IsB w a la ka A) (hb:IsB w b lb kb B) (hM:0<M) (hlm:lm<1000) (hla:la<1000) (hlb:lb<1000) :
  Calls Tryz.prog 26 #[.agg #[.slice am lm km],.slice a la ka,.slice b lb kb] w fun e w'=>∃a' l' k',e = .returned (.slice a' l' k')∧IsB w' a' l' k' (A*B%M)∧Keep Nope w w':=by
 have k0:Keep Nope w (w.alloc (.cells #[.slice am lm km] 27 (0,0))):=(Keep.refl _ w).alloc _
 have c0:=cell_new1 w (.slice am lm km) 27
 have hm:=(hm.nope k0).nope ((Keep.refl _ _).drew)
 have ha:=(ha.nope k0).nope ((Keep.refl _ _).drew)
 have hb:=(hb.nope k0).nope ((Keep.refl _ _).drew)
 go_enter Tryz.func26,Tryz.ntmps26
 go_wp2_with fail
 generalize hw1:w.alloc (.cells #[.slice am lm km] 27 (0,0))=w1 at *
 generalize w.heap.size=q at *
 clear hw1
 refine RS (fun w'=>w'.cell? ⟨q,0,none⟩=some (.slice am lm km)) [4] ?_
 have HS:(fun w':World=>w'.cell? ⟨q,0,none⟩=some (.slice am lm km)) w1.drew:=c0
 refine AP 0 ?_
 refine AP 1 ?_
 refine AP 3 ?_
 refine AL 4 HS ?_
 refine RO 2 (fun K hK=>?_)
 go_simp
 refine(product_any _ a b la ka lb kb A B ha hb (by omega) (by omega)).mono ?_
 rintro e w2 ⟨a2,l2,k2,rfl,h2,kk2⟩
 have hm:=hm.nope kk2
 have hl2:l2≤la+lb:=h2.len_le (by rw [Nat.pow_add];exact Nat.mul_lt_mul'' ha.lt hb.lt)
 refine hK.out _ _ (.inr (kk2.undrew.cel c0 id)) ?_
 clear hK K
 refine RO 5 (fun K hK=>?_)
 go_simp
 refine(rest_any _ a2 am l2 k2 lm km (A*B) M h2 hm (by omega) (by omega) hM).mono ?_
 rintro e w3 ⟨a3,l3,k3,rfl,h3,kk3⟩
 refine hK.out _ _ (.inl (by kernel_rfl)) ?_
 clear hK K
 refine AP 6 ?_
 try simp only [Ls0,Ls1,List.getElem_toArray,List.getElem_cons_succ,List.getElem_cons_zero]
 refine AnyL_done (by kernel_rfl) ?_
 go_wp2_with fail
 go_ret
 exact⟨a3,l3,k3,rfl,h3,k0.trans (kk2.undrew.trans kk3)⟩
theorem add_fit {w:World} {a b:Option Addr} {la ka A lb kb B:Nat} (ha:IsB w a la ka A) (hb:IsB w b lb kb B):A+B<W16^(max la lb+1):=by
 have h1:W16^la≤W16^max la lb:=Nat.pow_le_pow_right W16_pos (by omega)
 have h2:W16^lb≤W16^max la lb:=Nat.pow_le_pow_right W16_pos (by omega)
 have h3:=ha.lt
 have h4:=hb.lt
 rw [Nat.pow_succ,show W16=65536 from rfl] at *
 omega
theorem fadd_any (w:World) (am a b:Option Addr) (lm km la ka lb kb M A B:Nat) (hm:IsB w am lm km M) (ha:IsB w a la ka A) (hb:IsB w b lb kb B) (hM:0<M) (hlm:lm<1000) (hla:la<1000) (hlb:lb<1000) :
  Calls Tryz.prog 28 #[.agg #[.slice am lm km],.slice a la ka,.slice b lb kb] w fun e w'=>∃a' l' k',e = .returned (.slice a' l' k')∧IsB w' a' l' k' ((A+B)%M)∧Keep Nope w w':=by
 have k0:Keep Nope w (w.alloc (.cells #[.slice am lm km] 27 (0,0))):=(Keep.refl _ w).alloc _
 have c0:=cell_new1 w (.slice am lm km) 27
 have hm:=(hm.nope k0).nope ((Keep.refl _ _).drew)
 have ha:=(ha.nope k0).nope ((Keep.refl _ _).drew)
 have hb:=(hb.nope k0).nope ((Keep.refl _ _).drew)
 go_enter Tryz.func28,Tryz.ntmps28
 go_wp2_with fail
 generalize hw1:w.alloc (.cells #[.slice am lm km] 27 (0,0))=w1 at *
 generalize w.heap.size=q at *
 clear hw1
 refine RS (fun w'=>w'.cell? ⟨q,0,none⟩=some (.slice am lm km)) [4] ?_
 have HS:(fun w':World=>w'.cell? ⟨q,0,none⟩=some (.slice am lm km)) w1.drew:=c0
 refine AP 0 ?_
 refine AP 1 ?_
 refine AP 3 ?_
 refine AL 4 HS ?_
 refine RO 2 (fun K hK=>?_)
 go_simp
 refine(plus_any _ a b la ka lb kb A B ha hb (by omega) (by omega)).mono ?_
 rintro e w2 ⟨a2,l2,k2,rfl,h2,kk2⟩
 have hm:=hm.nope kk2
 have hl2:l2≤max la lb+1:=h2.len_le (add_fit ha hb)
 refine hK.out _ _ (.inr (kk2.undrew.cel c0 id)) ?_
 clear hK K
 refine RO 5 (fun K hK=>?_)
 go_simp
 refine(rest_any _ a2 am l2 k2 lm km (A+B) M h2 hm (by omega) (by omega) hM).mono ?_
 rintro e w3 ⟨a3,l3,k3,rfl,h3,kk3⟩
 refine hK.out _ _ (.inl (by kernel_rfl)) ?_
 clear hK K
 refine AP 6 ?_
 try simp only [Ls0,Ls1,List.getElem_toArray,List.getElem_cons_succ,List.getElem_cons_zero]
 refine AnyL_done (by kernel_rfl) ?_
 go_wp2_with fail
 go_ret
 exact⟨a3,l3,k3,rfl,h3,k0.trans (kk2.undrew.trans kk3)⟩
theorem fsub_any (w:World) (am a b:Option Addr) (lm km la ka lb kb M A B:Nat) (hm:IsB w am lm km M) (ha:IsB w a la ka A) (hb:IsB w b lb kb B) (hM:0<M) (hlm:lm<1000) (hla:la<1000) (_hlb:lb<1000) (hBM:B≤M) :
  Calls Tryz.prog 29 #[.agg #[.slice am lm km],.slice a la ka,.slice b lb kb] w fun e w'=>∃a' l' k',e = .returned (.slice a' l' k')∧IsB w' a' l' k' ((A+M-B)%M)∧Keep Nope w w':=by
 have k0:Keep Nope w (w.alloc (.cells #[.slice am lm km] 27 (0,0))):=(Keep.refl _ w).alloc _
 have c0:=cell_new1 w (.slice am lm km) 27
 have hm:=(hm.nope k0).nope ((Keep.refl _ _).drew)
 have ha:=(ha.nope k0).nope ((Keep.refl _ _).drew)
 have hb:=(hb.nope k0).nope ((Keep.refl _ _).drew)
 go_enter Tryz.func29,Tryz.ntmps29
 go_wp2_with fail
 generalize hw1:w.alloc (.cells #[.slice am lm km] 27 (0,0))=w1 at *
 generalize w.heap.size=q at *
 clear hw1
 refine RS (fun w'=>w'.cell? ⟨q,0,none⟩=some (.slice am lm km)) [2,7] ?_
 have HS:(fun w':World=>w'.cell? ⟨q,0,none⟩=some (.slice am lm km)) w1.drew:=c0
 refine AP 0 ?_
 refine AP 1 ?_
 refine AL 2 HS ?_
 refine AP 4 ?_
 refine AP 6 ?_
 refine AL 7 HS ?_
 refine RO 3 (fun K hK=>?_)
 go_simp
 refine(plus_any _ a am la ka lm km A M ha hm (by omega) (by omega)).mono ?_
 rintro e w2 ⟨a2,l2,k2,rfl,h2,kk2⟩
 have hm0:=hm
 have hm:=hm.nope kk2
 have hb:=hb.nope kk2
 have hl2:l2≤max la lm+1:=h2.len_le (add_fit ha hm0)
 refine hK.out _ _ (.inr (kk2.undrew.cel c0 id)) ?_
 clear hK K
 refine RO 5 (fun K hK=>?_)
 go_simp
 refine(minus_any _ a2 b l2 k2 lb kb (A+M) B h2 hb (by omega) (by omega)).mono ?_
 rintro e w3 ⟨a3,l3,k3,rfl,h3,kk3⟩
 have hm:=hm.nope kk3
 have hl3:l3≤l2:=h3.len_le (Nat.lt_of_le_of_lt (Nat.sub_le _ _) h2.lt)
 refine hK.out _ _ (.inr ((kk2.undrew.trans kk3).cel c0 id)) ?_
 clear hK K
 refine RO 8 (fun K hK=>?_)
 go_simp
 refine(rest_any _ a3 am l3 k3 lm km (A+M-B) M h3 hm (by omega) (by omega) hM).mono ?_
 rintro e w4 ⟨a4,l4,k4,rfl,h4,kk4⟩
 refine hK.out _ _ (.inr ((kk2.undrew.trans (kk3.trans kk4)).cel c0 id)) ?_
 clear hK K
 refine AP 9 ?_
 try simp only [Ls0,Ls1,List.getElem_toArray,List.getElem_cons_succ,List.getElem_cons_zero]
 refine AnyL_done (by kernel_rfl) ?_
 go_wp2_with fail
 go_ret
 exact⟨a4,l4,k4,rfl,h4,k0.trans (kk2.undrew.trans (kk3.trans kk4))⟩
theorem alloc_size (w:World) (o:Obj):(w.alloc o).heap.size=w.heap.size+1:=Array.size_push _
theorem isB_one (w:World) (n:Nat) (h0:0<n) (hn:n<65536):IsB (w.alloc (.cells #[.int .i64 (n:Int)] 3 (0,0))) (some ⟨w.heap.size,0,none⟩) 1 1 n:=by
 refine⟨fun _=>n,⟨by omega,fun i hi=>?_⟩,by simp [vb],.inr (by show n≠0;omega)⟩
 obtain rfl:i=0:=by omega
 exact⟨_,rfl,cell_new1 _ _ _,by rw [W16];exact hn⟩
theorem times_any (w:World) (am a:Option Addr) (lm km la ka M A n:Nat) (hm:IsB w am lm km M) (ha:IsB w a la ka A) (hM:0<M) (hlm:lm<1000) (hla:la<1000) (h0:0<n) (hn:n<65536) :
  Calls Tryz.prog 27 #[.agg #[.slice am lm km],.int .i64 (n:Int),.slice a la ka] w fun e w'=>∃a' l' k',e = .returned (.slice a' l' k')∧IsB w' a' l' k' (n*A%M)∧Keep Nope w w':=by
 have k0:Keep Nope w (w.alloc (.cells #[.slice am lm km] 27 (0,0))):=(Keep.refl _ w).alloc _
 have c0:=cell_new1 w (.slice am lm km) 27
 have h1:=isB_one (w.alloc (.cells #[.slice am lm km] 27 (0,0))) n h0 hn
 have k1:=k0.alloc (.cells #[.int .i64 (n:Int)] 3 (0,0))
 rw [alloc_size] at h1
 have HM1:Hid (IsB _ am lm km M):=hm.nope k1
 have HA1:Hid (IsB _ a la ka A):=ha.nope k1
 have H1:Hid (IsB _ _ 1 1 n):=h1
 have K1:Hid _:=k1
 clear h1 k1 k0 hm ha
 go_enter Tryz.func27,Tryz.ntmps27
 go_wp2_with fail
 refine(fmul_any _ am _ a lm km 1 1 la ka M n A (oo HM1) (oo H1) (oo HA1) hM hlm (by omega) hla).mono ?_
 rintro e w2 ⟨a2,l2,k2,rfl,h2,kk2⟩
 go_wp2_with fail
 go_ret
 exact⟨a2,l2,k2,rfl,h2,(oo K1).trans kk2⟩
theorem bit_at {c:Nat→Nat} {l i j:Nat} (h:∀i,i<l→c i<W16) (hi:i<l) (hj:j<16) :
  vb c 0 l / 2^(16*i+j)=2*(vb c 0 l / 2^(16*i+(j+1)))+c i / 2^j%2:=by
 have e1:∀X:Nat,X / 2^(16*i+j)=X / W16^i / 2^j:=fun X=>by
  rw [Nat.div_div_eq_div_mul,Nat.pow_add,Nat.pow_mul,W16_eq]
 have e2:∀X:Nat,X / 2^(16*i+(j+1))=X / W16^i / 2^j / 2:=fun X=>by
  rw [Nat.div_div_eq_div_mul,Nat.div_div_eq_div_mul,← Nat.pow_succ,Nat.pow_add,Nat.pow_mul,W16_eq]
 rw [e1,e2,← dig_vb h i hi,dig]
 generalize vb c 0 l / W16^i=X
 have e3:X%W16 / 2^j%2=X / 2^j%2:=by
  have e4:W16=2^j*2^(16-j):=by rw [← Nat.pow_add,show j+(16-j)=16 from by omega];rfl
  obtain⟨s,hs⟩:∃s,16-j=s+1:=⟨15-j,by omega⟩
  rw [e4,Nat.mod_mul_right_div_self,hs,Nat.pow_succ,Nat.mul_comm,Nat.mod_mul_right_mod]
 rw [e3]
 omega
theorem and1 (n:Int):bits .and .i64 n 1=n%2:=by
 have h127:(BitVec.ofInt 64 1).toNat=2^1-1:=by decide
 have key:(BitVec.ofInt 64 n &&& BitVec.ofInt 64 1).toNat=(n%((2^64:Nat):Int)).toNat%2^1:=by
  rw [BitVec.toNat_and,BitVec.toNat_ofInt,h127,Nat.and_two_pow_sub_one_eq_mod]
 show IntKind.i64.wrap ((BitVec.ofInt 64 n &&& BitVec.ofInt 64 1).toNat:Nat)=n%2
 rw [key,IntKind.wrap_i64]
 omega
theorem power_any (w:World) (am a b:Option Addr) (lm km la ka le ke M A E:Nat) (hm:IsB w am lm km M) (ha:IsB w a la ka A) (he:IsB w b le ke E) (hM:1<M) (hlm:lm<1000) (hla:la<1000) (hle:le<1000) :
  Calls Tryz.prog 40 #[.agg #[.slice am lm km],.slice a la ka,.slice b le ke] w fun e w'=>∃a' l' k',e = .returned (.slice a' l' k')∧IsB w' a' l' k' (A^E%M)∧Keep Nope w w':=by
 have k0:Keep Nope w (w.alloc (.cells #[.slice am lm km] 27 (0,0))):=(Keep.refl _ w).alloc _
 have c0:=cell_new1 w (.slice am lm km) 27
 have h1:=isB_one (w.alloc (.cells #[.slice am lm km] 27 (0,0))) 1 (by omega) (by omega)
 have k1:=k0.alloc (.cells #[.int .i64 (1:Int)] 3 (0,0))
 have c1:=((Keep.refl Nope _).alloc (.cells #[.int .i64 (1:Int)] 3 (0,0))).cel c0 id
 have hml:M<W16^lm:=hm.lt
 rw [Int.natCast_one] at h1
 rw [alloc_size] at h1
 have HM1:Hid (IsB _ am lm km M):=hm.nope k1
 have HA1:Hid (IsB _ a la ka A):=ha.nope k1
 have HE1:=he.nope k1
 obtain⟨ce,de,ve,-⟩:=HE1
 have HVE:Hid (vb ce 0 le=E):=ve
 have H1:Hid (IsB _ _ 1 1 1):=h1
 have K1:Hid _:=k1
 have q1:IntKind.i64.wrap ((le:Int)-1)=(le:Int)-1:=IntWalk.i64_in _ (by omega)
 clear h1 k1 k0 hm ha he ve
 go_enter Tryz.func40,Tryz.ntmps40
 go_wp2_with fail
 generalize hw1:(w.alloc (.cells #[.slice am lm km] 27 (0,0))).alloc (.cells #[.int .i64 (1:Int)] 3 (0,0))=w1 at *
 generalize w.heap.size=q at *
 clear hw1 c0
 go_loopw [7,8] (fun s7 s8 wr=>∃(i l k:Nat) (a':Option Addr),s7 = .slice a' l k∧s8 = .int .i64 ((i:Int)-1)∧i≤le∧l<1000∧IsB wr a' l k (A^(E / 2^(16*i))%M)∧Keep Nope w1 wr) (fun _ s8 _=>(intOf s8+1).toNat)
 case atStart=>
  refine⟨le,1,1,_,rfl,rfl,by omega,by omega,?_,Keep.refl _ _⟩
  have:E / 2^(16*le)=0:=by
   refine Nat.div_eq_of_lt ?_
   rw [← HVE.out,Nat.pow_mul]
   exact vb_lt0 de.lt
  rw [this,Nat.pow_zero,Nat.mod_eq_of_lt hM]
  exact oo H1
 case round=>
  obtain⟨i,l,k,a',rfl,rfl,hi,hl,ho,hk⟩:=hrel
  have HO:Hid (IsB wr a' l k _):=ho
  clear ho
  rcases Nat.eq_zero_or_pos i with h0 | h0
  ·subst h0
   go_wp2_with fail
   go_ret
   refine⟨_,_,_,rfl,?_,(oo K1).trans hk⟩
   have:=oo HO
   rw [Nat.mul_zero,Nat.pow_zero,Nat.div_one] at this
   exact this
  ·obtain⟨t,rfl⟩:∃t,i=t+1:=⟨i-1,by omega⟩
   have et:((t+1:Nat):Int)-1=(t:Int):=by omega
   rw [et]
   have q2:IntKind.i64.wrap ((t:Int)-1)=(t:Int)-1:=IntWalk.i64_in _ (by omega)
   obtain⟨be,rfl,fe,hdl⟩:=de.get t (by omega)
   obtain⟨d,hd⟩:∃v,ce t=v:=⟨_,rfl⟩
   rw [hd] at fe hdl
   have HD:Hid (ce t=d):=hd
   have tl:t<le:=by omega
   rw [W16] at hdl
   clear et hd
   go_wp2_with fail
   go_loopw [7,9] (fun s7 s9 wx=>∃(j l k:Nat) (a':Option Addr),s7 = .slice a' l k∧s9 = .int .i64 ((j:Int)-1)∧j≤16∧l<1000∧IsB wx a' l k (A^(E / 2^(16*t+j))%M)∧Keep Nope w1 wx) (fun _ s9 _=>(intOf s9+1).toNat)
   case atStart=>exact⟨16,l,k,a',rfl,rfl,by omega,hl,oo HO,hk⟩
   case round=>
    obtain⟨j,l2,k2,a2,rfl,rfl,hj,hl2,ho2,hk2⟩:=hrel
    have HO2:Hid (IsB wr a2 l2 k2 _):=ho2
    clear ho2 HO
    rcases Nat.eq_zero_or_pos j with h1 | h1
    ·subst h1
     go_wp2_with fail
     go_roundw
     case rel=>exact⟨t,l2,k2,a2,by go_num,by go_num,by omega,hl2,oo HO2,hk2⟩
     case measure=>simp [intOf]<;>omega
    ·obtain⟨u,rfl⟩:∃u,j=u+1:=⟨j-1,by omega⟩
     have eu:((u+1:Nat):Int)-1=(u:Int):=by omega
     rw [eu]
     have c2:=hk2.cel c1 id
     have fe2:=hk2.cel fe id
     have q3:IntKind.i64.wrap ((u:Int)-1)=(u:Int)-1:=IntWalk.i64_in _ (by omega)
     have hbit:=bit_at (j:=u) de.lt tl (by omega)
     rw [HVE.out,HD.out] at hbit
     have hu64:(u:Int)<64:=by omega
     obtain⟨v,hv⟩:∃v,v=d / 2^u:=⟨_,rfl⟩
     have b0:(d:Int) / 2^u=(v:Int):=by rw [hv,Int.natCast_ediv,Int.natCast_pow];rfl
     rw [← hv] at hbit
     have hsq:A^(E / 2^(16*t+(u+1)))%M*(A^(E / 2^(16*t+(u+1)))%M)%M=A^(2*(E / 2^(16*t+(u+1))))%M:=by
      generalize E / 2^(16*t+(u+1))=e
      rw [← Nat.mul_mod,Nat.two_mul,Nat.pow_add]
     have HSQ:Hid _:=hsq
     have hXM:=Nat.mod_lt (A^(2*(E / 2^(16*t+(u+1))))) (show 0<M by omega)
     have HXM:Hid _:=hXM
     have HBIT:Hid _:=hbit
     clear eu hv hsq hXM
     rcases Nat.mod_two_eq_zero_or_one v with hb | hb
     ·have b1:bits .and .i64 (v:Int) 1=0:=by rw [and1];omega
      rw [hb] at hbit
      have HB2:Hid _:=hbit
      clear hb hbit HBIT
      go_wp2_with fail
      refine(fmul_any _ am a2 a2 lm km l2 k2 l2 k2 M _ _ ((oo HM1).nope hk2) (oo HO2) (oo HO2) (by omega) hlm hl2 hl2).mono ?_
      rintro e w3 ⟨a3,l3,k3,rfl,h3,kk3⟩
      rw [HSQ.out] at h3
      have hl3:l3≤lm:=h3.len_le (Nat.lt_trans HXM.out hml)
      have H3:Hid (IsB w3 a3 l3 k3 _):=h3
      have fe3:=kk3.cel fe2 id
      clear h3 fe2
      go_wp2_with fail
      go_roundw
      case rel=>
       refine⟨u,l3,k3,a3,by go_num,by go_num,by omega,by omega,?_,hk2.trans kk3⟩
       rw [HB2.out,Nat.add_zero]
       exact oo H3
      case measure=>simp [intOf]<;>omega
     ·have b1:bits .and .i64 (v:Int) 1=1:=by rw [and1];omega
      rw [hb] at hbit
      have HB2:Hid _:=hbit
      clear hb hbit HBIT
      go_wp2_with fail
      refine(fmul_any _ am a2 a2 lm km l2 k2 l2 k2 M _ _ ((oo HM1).nope hk2) (oo HO2) (oo HO2) (by omega) hlm hl2 hl2).mono ?_
      rintro e w3 ⟨a3,l3,k3,rfl,h3,kk3⟩
      rw [HSQ.out] at h3
      have hl3:l3≤lm:=h3.len_le (Nat.lt_trans HXM.out hml)
      have H3:Hid (IsB w3 a3 l3 k3 _):=h3
      have fe3:=kk3.cel fe2 id
      have c3:=kk3.cel c2 id
      clear h3 fe2 c2
      go_wp2_with fail
      refine(fmul_any _ am a3 a lm km l3 k3 la ka M _ A ((oo HM1).nope (hk2.trans kk3)) (oo H3) ((oo HA1).nope (hk2.trans kk3)) (by omega) hlm (by omega) hla).mono ?_
      rintro e w4 ⟨a4,l4,k4,rfl,h4,kk4⟩
      have hl4:l4≤lm:=h4.len_le (Nat.lt_trans (Nat.mod_lt _ (by omega)) hml)
      have H4:Hid (IsB w4 a4 l4 k4 _):=h4
      clear h4
      go_wp2_with fail
      go_roundw
      case rel=>
       refine⟨u,l4,k4,a4,by go_num,by go_num,by omega,by omega,?_,hk2.trans (kk3.trans kk4)⟩
       have:=oo H4
       rw [Nat.mod_mul_mod] at this
       rw [HB2.out,Nat.pow_succ]
       exact this
      case measure=>simp [intOf]<;>omega
theorem inverse_any (w:World) (am a:Option Addr) (lm km la ka M A:Nat) (hm:IsB w am lm km M) (ha:IsB w a la ka A) (hM:2≤M) (hlm:lm<1000) (hla:la<1000) :
  Calls Tryz.prog 30 #[.agg #[.slice am lm km],.slice a la ka] w fun e w'=>∃a' l' k',e = .returned (.slice a' l' k')∧IsB w' a' l' k' (A^(M-2)%M)∧Keep Nope w w':=by
 have k0:Keep Nope w (w.alloc (.cells #[.slice am lm km] 27 (0,0))):=(Keep.refl _ w).alloc _
 have c0:=cell_new1 w (.slice am lm km) 27
 have hm:=hm.nope k0
 have ha:=ha.nope k0
 go_enter Tryz.func30,Tryz.ntmps30
 go_wp2_with fail
 generalize hw1:w.alloc (.cells #[.slice am lm km] 27 (0,0))=w1 at *
 generalize w.heap.size=q at *
 clear hw1
 refine RS (fun w'=>w'.cell? ⟨q,0,none⟩=some (.slice am lm km)) [0,3] ?_
 have HS:(fun w':World=>w'.cell? ⟨q,0,none⟩=some (.slice am lm km)) w1.drew:=c0
 refine AL 0 HS ?_
 refine AP 1 ?_
 refine AP 2 ?_
 refine AL 3 HS ?_
 refine RO 4 (fun K hK=>?_)
 go_simp
 have h2:=isB_one w1.drew 2 (by omega) (by omega)
 have k2:Keep Nope w1 (w1.drew.alloc (.cells #[.int .i64 ((2:Nat):Int)] 3 (0,0))):=((Keep.refl Nope w1).drew).alloc _
 simp only [Int.cast_ofNat_Int] at h2 k2
 have hm2:=hm.nope k2
 have ha2:=ha.nope k2
 have c2:=k2.cel c0 id
 refine hK.out _ _ (.inr c2) ?_
 clear hK K
 refine RO 5 (fun K hK=>?_)
 go_simp
 refine(minus_any _ am _ lm km 1 1 M 2 hm2 h2 (by omega) hM).mono ?_
 rintro e w3 ⟨a3,l3,k3,rfl,h3,kk3⟩
 have hl3:l3≤lm:=h3.len_le (Nat.lt_of_le_of_lt (Nat.sub_le _ _) hm2.lt)
 refine hK.out _ _ (.inr (kk3.cel c2 id)) ?_
 clear hK K
 refine RO 6 (fun K hK=>?_)
 go_simp
 refine(power_any _ am a a3 lm km la ka l3 k3 M A (M-2) (hm2.nope kk3) (ha2.nope kk3) h3 (by omega) hlm hla (by omega)).mono ?_
 rintro e w4 ⟨a4,l4,k4,rfl,h4,kk4⟩
 refine hK.out _ _ (.inr (kk4.cel (kk3.cel c2 id) id)) ?_
 clear hK K
 refine AP 7 ?_
 try simp only [Ls0,Ls1,List.getElem_toArray,List.getElem_cons_succ,List.getElem_cons_zero]
 refine AnyL_done (by kernel_rfl) ?_
 go_wp2_with fail
 go_ret
 exact⟨a4,l4,k4,rfl,h4,k0.trans (k2.trans (kk3.trans kk4))⟩
structure Dv (p:Nat) where
 a:Option Addr
 l:Nat
 k:Nat
 x:Fin p
structure Bs (p:Nat) (w:World) (am:Option Addr) (lm km:Nat) (L:List (Dv p)):Prop where
 mod:IsB w am lm km p
 ml:lm<1000
 two:65536<p
 all:∀d∈L,IsB w d.a d.l d.k d.x.val∧d.l<1000
section
variable {p:Nat}
theorem Bs.nope {w w':World} {am:Option Addr} {lm km:Nat} {L:List (Dv p)} (h:Bs p w am lm km L) (k:Keep Nope w w'):Bs p w' am lm km L:=
 ⟨h.mod.nope k,h.ml,h.two,fun d hd=>⟨(h.all d hd).1.nope k,(h.all d hd).2⟩⟩
theorem Bs.cons {w w':World} {am a:Option Addr} {lm km l k:Nat} {L:List (Dv p)} {x:Fin p} (h:Bs p w am lm km L) (kk:Keep Nope w w') (hx:IsB w' a l k x.val):Bs p w' am lm km (⟨a,l,k,x⟩::L):=
 ⟨h.mod.nope kk,h.ml,h.two,fun d hd=>by
  rcases List.mem_cons.1 hd with rfl | hd
  ·exact⟨hx,Nat.lt_of_le_of_lt (hx.len_le (Nat.lt_trans x.isLt h.mod.lt)) h.ml⟩
  ·exact⟨(h.all d hd).1.nope kk,(h.all d hd).2⟩⟩
theorem Bs.sub {w:World} {am:Option Addr} {lm km:Nat} {L L':List (Dv p)} (h:Bs p w am lm km L) (hs:∀d∈L',d∈L):Bs p w am lm km L':=
 ⟨h.mod,h.ml,h.two,fun d hd=>h.all d (hs d hd)⟩
theorem Bs.zero {w:World} {am a:Option Addr} {lm km l k:Nat} [NeZero p] {L:List (Dv p)} {x:Fin p} (h:Bs p w am lm km L) (hx:⟨a,l,k,x⟩∈L):l=0↔x=0:=by
 rw [(h.all _ hx).1.zero]
 exact⟨fun e=>Fin.ext e,fun e=>by rw [e];rfl⟩
theorem mulF {w:World} {am:Option Addr} {lm km:Nat} {L:List (Dv p)} (h:Bs p w am lm km L) {a b:Option Addr} {la ka lb kb:Nat} {x y:Fin p} (hx:⟨a,la,ka,x⟩∈L) (hy:⟨b,lb,kb,y⟩∈L) :
  Calls Tryz.prog 26 #[.agg #[.slice am lm km],.slice a la ka,.slice b lb kb] w fun e w'=>∃a' l' k',e = .returned (.slice a' l' k')∧Bs p w' am lm km (⟨a',l',k',x*y⟩::L)∧Keep Nope w w':=by
 have h1:=h.all _ hx
 have h2:=h.all _ hy
 refine(fmul_any w am a b lm km la ka lb kb p x.val y.val h.mod h1.1 h2.1 (by have:=h.two;omega) h.ml h1.2 h2.2).mono ?_
 rintro e w' ⟨a',l',k',rfl,h3,kk⟩
 exact⟨a',l',k',rfl,h.cons kk (by rw [Fin.val_mul];exact h3),kk⟩
theorem addF {w:World} {am:Option Addr} {lm km:Nat} {L:List (Dv p)} (h:Bs p w am lm km L) {a b:Option Addr} {la ka lb kb:Nat} {x y:Fin p} (hx:⟨a,la,ka,x⟩∈L) (hy:⟨b,lb,kb,y⟩∈L) :
  Calls Tryz.prog 28 #[.agg #[.slice am lm km],.slice a la ka,.slice b lb kb] w fun e w'=>∃a' l' k',e = .returned (.slice a' l' k')∧Bs p w' am lm km (⟨a',l',k',x+y⟩::L)∧Keep Nope w w':=by
 have h1:=h.all _ hx
 have h2:=h.all _ hy
 refine(fadd_any w am a b lm km la ka lb kb p x.val y.val h.mod h1.1 h2.1 (by have:=h.two;omega) h.ml h1.2 h2.2).mono ?_
 rintro e w' ⟨a',l',k',rfl,h3,kk⟩
 exact⟨a',l',k',rfl,h.cons kk (by rw [Fin.val_add];exact h3),kk⟩
theorem subF {w:World} {am:Option Addr} {lm km:Nat} {L:List (Dv p)} (h:Bs p w am lm km L) {a b:Option Addr} {la ka lb kb:Nat} {x y:Fin p} (hx:⟨a,la,ka,x⟩∈L) (hy:⟨b,lb,kb,y⟩∈L) :
  Calls Tryz.prog 29 #[.agg #[.slice am lm km],.slice a la ka,.slice b lb kb] w fun e w'=>∃a' l' k',e = .returned (.slice a' l' k')∧Bs p w' am lm km (⟨a',l',k',x-y⟩::L)∧Keep Nope w w':=by
 have h1:=h.all _ hx
 have h2:=h.all _ hy
 refine(fsub_any w am a b lm km la ka lb kb p x.val y.val h.mod h1.1 h2.1 (by have:=h.two;omega) h.ml h1.2 h2.2 (Nat.le_of_lt y.isLt)).mono ?_
 rintro e w' ⟨a',l',k',rfl,h3,kk⟩
 exact⟨a',l',k',rfl,h.cons kk (by rw [Fin.sub_def];show IsB w' a' l' k' ((p-y.val+x.val)%p);rw [show p-y.val+x.val=x.val+p-y.val from by have:=y.isLt;omega];exact h3),kk⟩
theorem timesF [NeZero p] (n:Nat) (h0:0<n) (hn:n<65536) {w:World} {am:Option Addr} {lm km:Nat} {L:List (Dv p)} (h:Bs p w am lm km L) {a:Option Addr} {la ka:Nat} {x:Fin p} (hx:⟨a,la,ka,x⟩∈L) :
  Calls Tryz.prog 27 #[.agg #[.slice am lm km],.int .i64 (n:Int),.slice a la ka] w fun e w'=>∃a' l' k',e = .returned (.slice a' l' k')∧Bs p w' am lm km (⟨a',l',k',Fin.ofNat p n*x⟩::L)∧Keep Nope w w':=by
 have h1:=h.all _ hx
 refine(times_any w am a lm km la ka p x.val n h.mod h1.1 (by have:=h.two;omega) h.ml h1.2 h0 hn).mono ?_
 rintro e w' ⟨a',l',k',rfl,h3,kk⟩
 refine⟨a',l',k',rfl,h.cons kk ?_,kk⟩
 rw [Fin.val_mul]
 show IsB w' a' l' k' (n%p*x.val%p)
 rw [Nat.mod_eq_of_lt (show n<p by have:=h.two;omega)]
 exact h3
theorem invF [NeZero p] {w:World} {am:Option Addr} {lm km:Nat} {L:List (Dv p)} (h:Bs p w am lm km L) {a:Option Addr} {la ka:Nat} {x:Fin p} (hx:⟨a,la,ka,x⟩∈L) :
  Calls Tryz.prog 30 #[.agg #[.slice am lm km],.slice a la ka] w fun e w'=>∃a' l' k',e = .returned (.slice a' l' k')∧Bs p w' am lm km (⟨a',l',k',Ec.inv x⟩::L)∧Keep Nope w w':=by
 have h1:=h.all _ hx
 refine(inverse_any w am a lm km la ka p x.val h.mod h1.1 (by have:=h.two;omega) h.ml h1.2).mono ?_
 rintro e w' ⟨a',l',k',rfl,h3,kk⟩
 exact⟨a',l',k',rfl,h.cons kk h3,kk⟩
end
end Go.Proofs.YtofkehhflkdabaaGreatDoor
