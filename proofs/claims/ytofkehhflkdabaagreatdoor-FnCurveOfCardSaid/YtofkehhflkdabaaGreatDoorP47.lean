/- The law FnCurveOf holds: for every curve number and every sixteen octets the call answers true and its arguments read as before; the card ties the listed package variables to the program text. No condition beyond the card. -/
import Derived.Test.YtofkehhflkdabaaGreatDoorP44
import Derived.Test.YtofkehhflkdabaaGreatDoorP45
import Derived.Test.YtofkehhflkdabaaGreatDoorP46
import Derived.Test.YtofkehhflkdabaaGreatDoorTie
import Derived.Test.YtofkehhflkdabaaGreatDoorCards
import Derived.ProofKit
import Derived.LaidMore
import Derived.OpenShut
import Derived.Carry
import Derived.Stop.Joined
import Derived.Stop.LaidErr
import Derived.SevenTiedAt
namespace Go.Proofs.YtofkehhflkdabaaGreatDoor
open Go Go.ChangeShapes Go.WideShapes Go.ChangeAt Go.RowKit
theorem own:ownKnob Tryz.prog.godebug=none:=by kernel_rfl
theorem laidOut:laidOutB Tryz.prog=true:=by kernel_rfl
theorem laid_int {P:Program} {n:String} {k:IntKind} {v:Int} {r:List (String×DataW Unit)} {W:World} {g:Nat} {ti:TypeId} (h:laidMet P ((n,.lit (.int k v))::r) W)
  (hg:P.globalNamed n=some g) (ht:(P.globals[g]?).map (·.type)=some ti) (hi:P.underlying ti=some (.int k)):W.cell? ⟨g,0,none⟩=some (.int k v):=by
 obtain⟨ps,⟨g0,t0,cs0,f0,p0,q0,hg0,ht0,hv0,hd0,_,_⟩,_,_⟩:=h
 obtain rfl:=Option.some.inj (hg.symm.trans hg0)
 obtain rfl:=Option.some.inj (ht.symm.trans ht0)
 obtain⟨l⟩:=cs0
 obtain⟨x,e1,e2,_⟩:=DataW.trod_int hi hd0
 have:=World.var?_cell hg hv0 0
 simp only [Prod.mk.injEq,DataW.lit.injEq,Lit.int.injEq,true_and] at e2
 rw [this]
 simp only at e1
 subst e1
 rw [← e2.1]
 rfl
theorem door_met (os:Os) (args:Array Value):laidMetH Tryz.prog Rows.fnCurveOfRow.laid ((World.doorLaid Tryz.prog 92 os).forCall (fun _ _=>0) ⟨#[],args,[]⟩).memory:=
 laidMetH_of_parts3 (fuel:=8) (laidMet_of_run' 8 (by kernel_rfl) (by kernel_rfl)) (by kernel_rfl) (by kernel_rfl)
theorem row220 (u:TypeId) (h:Tryz.prog.typeName? 3 u=some "*errors.errorString"):u=220:=
 typeName_ptr_named (nm:= "errors.errorString") (by kernel_rfl) (by kernel_rfl) (by decide) u h
theorem of_laid {W:World} (h:laidMetH Tryz.prog Rows.fnCurveOfRow.laid W):(∃a,W.cell? ⟨0,0,none⟩=some (.iface 220 (.pointer (some a))))∧Base (· < W.heap.size) W:=by
 rw [MakeChecks.laidMetH_plain _ _ _ (by kernel_rfl)] at h
 have h2:=h.tail.tail
 obtain⟨a,s,hv,-⟩:=laid_sentinel h2 (g:=0) (ti:=119) (tp:=220) (by kernel_rfl) (by kernel_rfl) Tryz.underlying119 row220 Tryz.underlying220 Tryz.underlying246 rfl rfl Tryz.underlying9 (by kernel_rfl) (by kernel_rfl)
 have h3:=h2.tail.tail.tail
 have c6:=laid_int h3 (g:=6) (by kernel_rfl) (by kernel_rfl) Tryz.underlying3
 have c5:=laid_int h3.tail (g:=5) (by kernel_rfl) (by kernel_rfl) Tryz.underlying3
 have c3:=laid_int h3.tail.tail (g:=3) (by kernel_rfl) (by kernel_rfl) Tryz.underlying3
 have c4:=laid_int h3.tail.tail.tail (g:=4) (by kernel_rfl) (by kernel_rfl) Tryz.underlying3
 refine⟨⟨a,by simpa using World.var?_cell (g:=0) (by kernel_rfl) hv 0⟩,fun _ h=>h,World.block_lt_of_cell? W _ c3,World.block_lt_of_cell? W _ c4,World.block_lt_of_cell? W _ c5,World.block_lt_of_cell? W _ c6,c3,c4,c5,c6⟩
theorem cells5:Tryz.prog.cellsOf 5=1:=by kernel_rfl
theorem cells22:Tryz.prog.cellsOf 22=16:=by kernel_rfl
theorem list16 {α:Type} (l:List α) (h:l.length=16):∃a0 a1 a2 a3 a4 a5 a6 a7 a8 a9 a10 a11 a12 a13 a14 a15,l=[a0,a1,a2,a3,a4,a5,a6,a7,a8,a9,a10,a11,a12,a13,a14,a15]:=by
 match l,h with
 | [a0,a1,a2,a3,a4,a5,a6,a7,a8,a9,a10,a11,a12,a13,a14,a15],_=>exact⟨a0,a1,a2,a3,a4,a5,a6,a7,a8,a9,a10,a11,a12,a13,a14,a15,rfl⟩
set_option maxRecDepth 100000 in
theorem open16 {H:Type} {enc:TypeId×Value→H} {W:World} {base b2:Nat} {sp:Nat→Bool} {hd:Bool} {v:Value} {d:DataW H} {p:List MemPlace} (ho:Value.okWide Tryz.prog W .any base 22 v) (h:DataW.Trod enc Tryz.prog W b2 sp hd 22 v d p) :
  ∃cs:List Value,v = .agg ⟨cs⟩∧cs.length=16∧∀i,i<16→∃x:Nat,x<256∧cs[i]?=some (.int .u8 (x:Int)):=by
 obtain⟨cs,rfl,hsz,-⟩:∃cs,v = .agg cs∧cs.size=Tryz.prog.cellsOf 22∧Row.okWide Tryz.prog W .any base 22 cs:=by
  simpa [Value.okWide,Tryz.underlying22] using ho
 obtain⟨l⟩:=cs
 rw [cells22] at hsz
 refine⟨l,rfl,hsz,fun i hi=>?_⟩
 obtain⟨fuel,hf⟩:=h
 obtain⟨xs,m,-,-,-,hn,hel⟩:=DataW.trod_array Tryz.underlying22 hf
 have hx:=hel i hi
 rw [cells5,Nat.mul_one] at hx
 obtain⟨y,hy⟩:∃y,xs[i]?=some y:=⟨xs[i]'(by omega),List.getElem?_eq_getElem (by omega)⟩
 rw [hy] at hx
 obtain⟨z,e1,e2,wf⟩:=DataW.trod_int Tryz.underlying5 hx
 have hb:=bounds_u8 wf
 obtain⟨x,rfl⟩:=Int.eq_ofNat_of_zero_le hb.1
 refine⟨x,by omega,?_⟩
 have e3:((l.drop i).take 1)[0]?=some (Value.int .u8 (x:Int)):=by
  have:(Value.agg ⟨l⟩).cells.toList=l:=rfl
  rw [this] at e1
  rw [e1];rfl
 simpa using e3
theorem keepBut {W W':World} (k:Keep Nope W W') (may:MemPlace→Prop):W.keptBut W' may:=by
 refine⟨k.os,k.output,fun i hi=>?_⟩
 rw [k.block i hi id]
 cases h:W.heap[i]? with
 | none=>rfl
 | some o=>
  cases o with
  | cells c t fr=>exact⟨rfl,rfl,rfl,fun _ _=>rfl⟩
  | map es cl=>exact .inr ⟨rfl,rfl⟩
  | _=>rfl
set_option maxRecDepth 100000 in
set_option maxHeartbeats 4000000 in
theorem lifted (os:Os) (started:os.Started) (H:Type) (enc:TypeId×Value→H) :
  ReturnsInHanded {} Tryz.checked os 3 .any (fun w args=>(Rows.fnCurveOfSpec.pre enc Tryz.prog Tryz.f3 [] false w args∧laidMetH Tryz.prog Rows.fnCurveOfRow.laid w)∧sizedMet enc Tryz.prog Tryz.f3 (OpenSpec.ofChange Rows.fnCurveOfSpec) false w args)
   (Rows.fnCurveOfSpec.post enc Tryz.prog Tryz.f3 false true false false):=by
 refine returnsInHanded_of_change_and (C:=Tryz.checked) (X:=fun w _=>laidMetH Tryz.prog Rows.fnCurveOfRow.laid w) (fun _ _ _ hh h=>h.of_heap hh) own started (by kernel_rfl) Tryz.func3
  (ChangeSpec.witness_shaped (enc:=enc) (C:=Tryz.checked) (os:=os) (X:=fun w _=>laidMetH Tryz.prog Rows.fnCurveOfRow.laid w) false (World.doorLaid Tryz.prog 92 os) #[.int .u8 0,.agg #[.int .u8 0,.int .u8 0,.int .u8 0,.int .u8 0,.int .u8 0,.int .u8 0,.int .u8 0,.int .u8 0,.int .u8 0,.int .u8 0,.int .u8 0,.int .u8 0,.int .u8 0,.int .u8 0,.int .u8 0,.int .u8 0]] 8 rfl (World.shaped_of_RefB (by kernel_rfl) (by kernel_rfl)) (by kernel_rfl) (by kernel_rfl) (by kernel_rfl) (door_met os _)) ?_
 intro W base args ds gs before hval0 hW _ _ hL _
 have hval:∀(j:Nat) t v,Tryz.f3.params[j]?=some t→args[j]?=some v→Value.okWide Tryz.prog W .any base t v:=hval0
 have hW':=hW
 obtain⟨p,q,hA0,hV,rfl,hfz,hnd⟩:=hW
 have hA:DataW.TrodAll enc Tryz.prog W 0 (fun _=>true) true Tryz.f3.params.toList args.toList ds p:=hA0
 rw [Tryz.params3] at hA hval
 obtain⟨v0,v1,d0,d1,p0,p1,rfl,rfl,rfl,h0,h1⟩:=trodAll_two hA
 obtain⟨rfl,rfl⟩:=trodVars_none hV
 have h0k:=h0
 obtain⟨n,rfl,rfl,rfl,hwn⟩:=open_int Tryz.underlying5 (hval 0 5 v0 rfl rfl) h0
 obtain⟨l,rfl,hl,hx⟩:=open16 (hval 1 22 v1 rfl rfl) h1
 obtain⟨⟨aE,hE⟩,hB⟩:=of_laid hL
 have hb:=bounds_u8 hwn
 obtain⟨wh,rfl⟩:=Int.eq_ofNat_of_zero_le hb.1
 have hlt:∀x∈p1,x.block<W.heap.size:=fun x hx=>by simpa using hW'.lt x (by simp [hx])
 have HC:Calls Tryz.prog 3 #[.int .u8 (wh:Int),.agg ⟨l⟩] W fun e w'=>e = .returned (.bool true)∧Keep Nope W w':=by
  clear hA0 hA h0 h0k h1 hW' hval hval0 hfz hnd hL hV
  obtain⟨a0,a1,a2,a3,a4,a5,a6,a7,a8,a9,a10,a11,a12,a13,a14,a15,rfl⟩:=list16 l hl
  obtain⟨x0,h0,e⟩:=hx 0 (by omega)
  cases e
  obtain⟨x1,h1,e⟩:=hx 1 (by omega)
  cases e
  obtain⟨x2,h2,e⟩:=hx 2 (by omega)
  cases e
  obtain⟨x3,h3,e⟩:=hx 3 (by omega)
  cases e
  obtain⟨x4,h4,e⟩:=hx 4 (by omega)
  cases e
  obtain⟨x5,h5,e⟩:=hx 5 (by omega)
  cases e
  obtain⟨x6,h6,e⟩:=hx 6 (by omega)
  cases e
  obtain⟨x7,h7,e⟩:=hx 7 (by omega)
  cases e
  obtain⟨x8,h8,e⟩:=hx 8 (by omega)
  cases e
  obtain⟨x9,h9,e⟩:=hx 9 (by omega)
  cases e
  obtain⟨x10,h10,e⟩:=hx 10 (by omega)
  cases e
  obtain⟨x11,h11,e⟩:=hx 11 (by omega)
  cases e
  obtain⟨x12,h12,e⟩:=hx 12 (by omega)
  cases e
  obtain⟨x13,h13,e⟩:=hx 13 (by omega)
  cases e
  obtain⟨x14,h14,e⟩:=hx 14 (by omega)
  cases e
  obtain⟨x15,h15,e⟩:=hx 15 (by omega)
  cases e
  rcases(by omega:wh%3=0∨wh%3=1∨wh%3=2) with hk | hk | hk
  ·exact law0_any W aE hE hB wh (by omega) hk x0 x1 x2 x3 x4 x5 x6 x7 x8 x9 x10 x11 x12 x13 x14 x15 h0 h1 h2 h3 h4 h5 h6 h7 h8 h9 h10 h11 h12 h13 h14 h15
  ·exact law1_any W aE hE hB wh (by omega) hk x0 x1 x2 x3 x4 x5 x6 x7 x8 x9 x10 x11 x12 x13 x14 x15 h0 h1 h2 h3 h4 h5 h6 h7 h8 h9 h10 h11 h12 h13 h14 h15
  ·exact law2_any W aE hE hB wh (by omega) hk x0 x1 x2 x3 x4 x5 x6 x7 x8 x9 x10 x11 x12 x13 x14 x15 h0 h1 h2 h3 h4 h5 h6 h7 h8 h9 h10 h11 h12 h13 h14 h15
 refine HC.mono fun e W' ⟨he,hk⟩=>?_
 subst he
 have hbl:Below W.heap.size W W':=⟨hk.os,hk.tape,hk.output,hk.size,fun i hi=>hk.block i hi id⟩
 have e1:Rows.fnCurveOfSpec.fn H ([DataW.lit (.int .u8 (wh:Int)),d1]++[])={ results:=[.lit (.bool true)],args:=[DataW.lit (.int .u8 (wh:Int)),d1] }:=by simp [Rows.fnCurveOfSpec]
 refine⟨_,rfl,_,_,_,[],[]++p1,[],hW',?_,?_,?_,keepBut hk _,fun h=>by cases h⟩
 ·rw [e1];exact trodAll_mk1 (shut_bool Tryz.underlying4 true)
 ·rw [e1];exact trodAll_mk2 (shut_int Tryz.underlying5 hwn) (Below.trod laidOut (by kernel_rfl) (of_decide_eq_true (by kernel_rfl)) h1 hbl hlt)
 ·rw [e1];rfl
theorem fnCurveOf_holds:Rows.FnCurveOfSaid:=
 OpenClaim.holds_of_wide 3 Tryz.f3 rfl rfl rfl rfl rfl rfl rfl ⟨rfl,rfl,rfl,rfl,rfl⟩ rfl rfl rfl rfl rfl (by kernel_rfl) Tryz.func3 (by kernel_rfl)
  (of_decide_eq_true (by kernel_rfl)) (by unfold Func.isWrapper;first | (rw [if_pos (by decide +kernel)];kernel_rfl) | (rw [if_neg (by decide +kernel)];exact⟨rfl,rfl⟩))
  (fun os started H enc _=>lifted os started H enc)
theorem fnCurveOf_card:Rows.FnCurveOfCardSaid:=
 Claim7.holds_tied_plain_at .later [] [.data,.data,.sentinel,.sentinel,.sentinel,.data,.data,.data,.data] true (true,"c110b44491e9dda359a764ace0eef1f2d4438303bba6eaf231e84f069f09f3e2") true
  fnCurveOf_holds (fun _ h=>by cases h) (by kernel_rfl) (fun _ h=>by cases h) fnCurveOf_row_tie rfl ⟨rfl,rfl⟩ (by kernel_rfl) rfl
  (fun f fn hf hfn=>by
   obtain rfl:f=3:=Option.some.inj ((show Tryz.prog.funcNamed "pub-counterseal/laws.FnCurveOf" = some 3 by kernel_rfl).symm.trans hf) |>.symm
   obtain rfl:fn=Tryz.f3:=(Option.some.inj (Tryz.func3.symm.trans hfn)).symm
   exact⟨by kernel_rfl,fun j t ht=>by
    rw [Tryz.params3] at ht
    have hm:t∈[5,22]:=by simpa using Array.mem_of_getElem? ht
    have hall:([5,22].all fun u=>!Tryz.prog.wantsStandIn u)=true:=by kernel_rfl
    exact(show Tryz.prog.wantsStandIn t=false by simpa using List.all_eq_true.1 hall t hm)⟩)
  (by kernel_rfl)
#print axioms fnCurveOf_card
end Go.Proofs.YtofkehhflkdabaaGreatDoor
