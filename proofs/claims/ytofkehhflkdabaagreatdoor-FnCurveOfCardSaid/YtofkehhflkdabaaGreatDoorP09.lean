/- A part of the proof of FnCurveOf. -/
import Derived.Test.YtofkehhflkdabaaGreatDoorP08
import Derived.Deep.RegionHeld3
set_option maxRecDepth 100000
set_option maxHeartbeats 8000000
namespace Go.Proofs.YtofkehhflkdabaaGreatDoor
open Go Go.RowKit
section
variable {P:Program} {ops:Array Oper} {Q:Exit→Act→World→Prop} {md:Region.Mode} {S:World→Prop}
def Waits (md:Region.Mode) (ops:Array Oper) (n j:Nat):Bool:=
 match ops[j]? with
 | some o=>(List.range n).all fun k=>o.after.any fun e=>Region.binds md e&&e.on==k
 | none=>false
def AnyG (P:Program) (md:Region.Mode) (ops:Array Oper) (Q:Exit→Act→World→Prop) (S:World→Prop) (n:Nat):Nat→Array Bool→Act→World→Prop
 | 0,listed,a,w=>Region.ready md ops listed=[]∧Q .normal a w
 | fuel+1,listed,a,w=>
  (Region.ready md ops listed=[]→Q .normal a w) ∧
  ∀i∈Region.ready md ops listed,wpOp P ops Q i (fun a' w'=>(Waits md ops n i=true∨S w')∧AnyG P md ops Q S n fuel (listed.setIfInBounds i true) a' w') a w
theorem wpAny_of_G {n:Nat}:∀(fuel:Nat) (listed:Array Bool) (a:Act) (w:World),AnyG P md ops Q S n fuel listed a w→wpAny P md ops Q fuel listed a w
 | 0,_,_,_,h=>h
 | fuel+1,_,_,_,h=>⟨h.1,fun i hi=>wpOp_mono (fun a' w' h'=>wpAny_of_G fuel _ a' w' h'.2) (h.2 i hi)⟩
theorem AnyG_first {n i:Nat} {oi:Oper} {v:Value} (hin:i<n) (hi:ops[i]?=some oi) (hsel:∀(j:Nat) (o:Oper) cs b,ops[j]?=some o→o.op≠.select cs b)
  (hQ:∀c a w,Q (.panic c) (a.put oi.dst v) w→Q (.panic c) a w) :
  ∀(fuel:Nat) (listed:Array Bool) (a:Act) (w:World),
   (∀j oj,ops[j]?=some oj→j≠i→listed.getD j true=false→(∀e∈oj.after,Region.binds md e=true→e.on≠i)→oi.apart ops oj=true) →
   i∈Region.ready md ops listed→YieldsIf P ops S oi v a→S w →
   AnyG P md ops Q S n fuel (listed.setIfInBounds i true) (a.put oi.dst v) w→AnyG P md ops Q S n (fuel+1) listed a w:=by
 intro fuel
 induction fuel with
 | zero=>
  intro listed a w _ hr hy hS H
  refine⟨fun h=>(by rw [h] at hr;cases hr),fun j hj=>?_⟩
  by_cases hji:j=i
  ·subst hji;exact hy.wpOp hi hS ⟨.inr hS,H⟩
  ·have:=ready_mono hj hji
   rw [H.1] at this
   cases this
 | succ fuel ih=>
  intro listed a w hfree hr hy hS H
  refine⟨fun h=>(by rw [h] at hr;cases hr),fun j hj=>?_⟩
  by_cases hji:j=i
  ·subst hji;exact hy.wpOp hi hS ⟨.inr hS,H⟩
  ·have h1:=H.2 j (ready_mono hj hji)
   obtain⟨hjun,oj,hoj,hall⟩:=mem_ready.1 hj
   have hnot:∀e∈oj.after,Region.binds md e=true→e.on≠i:=fun e he hb heq=>by
    have h1:=hall e he hb
    have h0:=(mem_ready.1 hr).1
    rw [heq] at h1
    rcases Nat.lt_or_ge i listed.size with h' | h'
    ·simp [h'] at h0 h1;rw [h0] at h1;cases h1
    ·simp [Array.getElem?_eq_none h'] at h1
   have hnw:Waits md ops n j=true→False:=fun hw=>by
    simp only [Waits,hoj,List.all_eq_true,List.mem_range,Array.any_eq_true,Bool.and_eq_true,beq_iff_eq] at hw
    obtain⟨m,hm,hb,ho⟩:=hw i hin
    exact hnot _ (Array.getElem_mem hm) hb ho
   have h2:=wpOp_putIf hoj (hfree j oj hoj hji hjun hnot) (fun cs b=>hsel i oi cs b hi) (fun cs b=>hsel j oj cs b hoj) hQ hy h1
   have hfree':∀k ok,ops[k]?=some ok→k≠i→(listed.setIfInBounds j true).getD k true=false →
     (∀e∈ok.after,Region.binds md e=true→e.on≠i)→oi.apart ops ok=true:=fun k ok hk hki hun hno=>by
    refine hfree k ok hk hki ?_ hno
    by_cases hjk:j=k
    ·subst hjk;exact hjun
    ·rw [getD_set_ne true hjk] at hun;exact hun
   refine wpOp_mono (fun a' w' h3=>?_) h2
   have hS':=h3.2.1.resolve_left hnw
   refine⟨.inr hS',ih (listed.setIfInBounds j true) a' w' hfree' (ready_mono hr (Ne.symm hji)) h3.1 hS' ?_⟩
   rw [Array.setIfInBounds_comm _ _ hji]
   exact h3.2.2
theorem AnyG_take (i:Nat) {oi:Oper} {v:Value} {n fuel:Nat} {listed:Array Bool} {a:Act} {w:World} (hS:S w) (hi:ops[i]?=some oi) (hin:decide (i<n)=true)
  (hs:Region.noSelect ops=true) (hf:Region.free md ops listed i=true) (hr:(Region.ready md ops listed).contains i=true)
  (hQ:∀c a w,Q (.panic c) (a.put oi.dst v) w→Q (.panic c) a w) (hy:YieldsIf P ops S oi v a)
  (h:AnyG P md ops Q S n fuel (listed.setIfInBounds i true) (a.put oi.dst v) w):AnyG P md ops Q S n (fuel+1) listed a w:=
 AnyG_first (by simpa using hin) hi (Region.noSelect_spec hs) hQ fuel listed a w (Region.free_spec hi hf) (by simpa using hr) hy hS h
theorem AnyG_one (i:Nat) {oi:Oper} {n fuel:Nat} {listed:Array Bool} {a:Act} {w:World} (hi:ops[i]?=some oi) (hr:Region.ready md ops listed=[i])
  (h:∀K':Act→World→Prop,Shut (∀a w,Waits md ops n i=true∨S w→AnyG P md ops Q S n fuel (listed.setIfInBounds i true) a w→K' a w)→if Region.wanted oi (yielded ops a.tmps)=true then Oper.wp P oi a w K' Q else K' (a.put oi.dst undef) w) :
  AnyG P md ops Q S n (fuel+1) listed a w:=by
 refine⟨fun h0=>(by rw [h0] at hr;cases hr),fun j hj=>?_⟩
 rw [hr] at hj
 obtain rfl:j=i:=by simpa using hj
 exact wpOp_step hi (fun K' hK=>h K' (fun a w hS hW=>hK a w ⟨hS,hW⟩))
theorem AnyG_done {n fuel:Nat} {listed:Array Bool} {a:Act} {w:World} (hr:Region.ready md ops listed=[]) (h:Q .normal a w):AnyG P md ops Q S n fuel listed a w:=by
 cases fuel with
 | zero=>exact⟨hr,h⟩
 | succ f=>exact⟨fun _=>h,by rw [hr];simp⟩
theorem AnyG_start {id:Nat} {a:Act} {w:World} (S:World→Prop) (n:Nat) (hm:P.follows .mixedOrders=true)
  (h:AnyG P .any ops Q S n ops.size (Array.replicate ops.size false) a w.drew):(Code.region id ops true).wp P Q a w:=
 wp_region_any hm (wpAny_of_G _ _ _ _ h)
def WaitsL (md:Region.Mode) (ops:Array Oper) (ls:List Nat) (j:Nat):Bool:=
 match ops[j]? with
 | some o=>ls.all fun k=>o.after.any fun e=>Region.binds md e&&e.on==k
 | none=>false
def AnyL (P:Program) (md:Region.Mode) (ops:Array Oper) (Q:Exit→Act→World→Prop) (S:World→Prop) (ls:List Nat):Nat→Array Bool→Act→World→Prop
 | 0,listed,a,w=>Region.ready md ops listed=[]∧Q .normal a w
 | fuel+1,listed,a,w=>
  (Region.ready md ops listed=[]→Q .normal a w) ∧
  ∀i∈Region.ready md ops listed,wpOp P ops Q i (fun a' w'=>(w'=w∨WaitsL md ops ls i=true∨S w')∧AnyL P md ops Q S ls fuel (listed.setIfInBounds i true) a' w') a w
theorem wpAny_of_L {ls:List Nat}:∀(fuel:Nat) (listed:Array Bool) (a:Act) (w:World),AnyL P md ops Q S ls fuel listed a w→wpAny P md ops Q fuel listed a w
 | 0,_,_,_,h=>h
 | fuel+1,_,_,_,h=>⟨h.1,fun i hi=>wpOp_mono (fun a' w' h'=>wpAny_of_L fuel _ a' w' h'.2) (h.2 i hi)⟩
theorem AnyL_first {T:World→Prop} {ls:List Nat} {i:Nat} {oi:Oper} {v:Value} (hT:(∀w,T w)∨(i∈ls∧∀w,S w↔T w)) (hi:ops[i]?=some oi) (hsel:∀(j:Nat) (o:Oper) cs b,ops[j]?=some o→o.op≠.select cs b)
  (hQ:∀c a w,Q (.panic c) (a.put oi.dst v) w→Q (.panic c) a w) :
  ∀(fuel:Nat) (listed:Array Bool) (a:Act) (w:World),
   (∀j oj,ops[j]?=some oj→j≠i→listed.getD j true=false→(∀e∈oj.after,Region.binds md e=true→e.on≠i)→oi.apart ops oj=true) →
   i∈Region.ready md ops listed→YieldsIf P ops T oi v a→T w →
   AnyL P md ops Q S ls fuel (listed.setIfInBounds i true) (a.put oi.dst v) w→AnyL P md ops Q S ls (fuel+1) listed a w:=by
 intro fuel
 induction fuel with
 | zero=>
  intro listed a w _ hr hy hS H
  refine⟨fun h=>(by rw [h] at hr;cases hr),fun j hj=>?_⟩
  by_cases hji:j=i
  ·subst hji;exact hy.wpOp hi hS ⟨.inl rfl,H⟩
  ·have:=ready_mono hj hji
   rw [H.1] at this
   cases this
 | succ fuel ih=>
  intro listed a w hfree hr hy hS H
  refine⟨fun h=>(by rw [h] at hr;cases hr),fun j hj=>?_⟩
  by_cases hji:j=i
  ·subst hji;exact hy.wpOp hi hS ⟨.inl rfl,H⟩
  ·have h1:=H.2 j (ready_mono hj hji)
   obtain⟨hjun,oj,hoj,hall⟩:=mem_ready.1 hj
   have hnot:∀e∈oj.after,Region.binds md e=true→e.on≠i:=fun e he hb heq=>by
    have h1:=hall e he hb
    have h0:=(mem_ready.1 hr).1
    rw [heq] at h1
    rcases Nat.lt_or_ge i listed.size with h' | h'
    ·simp [h'] at h0 h1;rw [h0] at h1;cases h1
    ·simp [Array.getElem?_eq_none h'] at h1
   have hnw:i∈ls→WaitsL md ops ls j=true→False:=fun hin hw=>by
    simp only [WaitsL,hoj,List.all_eq_true,Array.any_eq_true,Bool.and_eq_true,beq_iff_eq] at hw
    obtain⟨m,hm,hb,ho⟩:=hw i hin
    exact hnot _ (Array.getElem_mem hm) hb ho
   have h2:=wpOp_putIf hoj (hfree j oj hoj hji hjun hnot) (fun cs b=>hsel i oi cs b hi) (fun cs b=>hsel j oj cs b hoj) hQ hy h1
   have hfree':∀k ok,ops[k]?=some ok→k≠i→(listed.setIfInBounds j true).getD k true=false →
     (∀e∈ok.after,Region.binds md e=true→e.on≠i)→oi.apart ops ok=true:=fun k ok hk hki hun hno=>by
    refine hfree k ok hk hki ?_ hno
    by_cases hjk:j=k
    ·subst hjk;exact hjun
    ·rw [getD_set_ne true hjk] at hun;exact hun
   refine wpOp_mono (fun a' w' h3=>?_) h2
   have hS':T w':=by
    rcases hT with h | ⟨hin,h⟩
    ·exact h w'
    ·rcases h3.2.1 with e | e | e
     ·exact e▸hS
     ·exact(hnw hin e).elim
     ·exact(h w').1 e
   refine⟨h3.2.1,ih (listed.setIfInBounds j true) a' w' hfree' (ready_mono hr (Ne.symm hji)) h3.1 hS' ?_⟩
   rw [Array.setIfInBounds_comm _ _ hji]
   exact h3.2.2
theorem AnyL_load (i:Nat) {oi:Oper} {v:Value} {ls:List Nat} {fuel:Nat} {listed:Array Bool} {a:Act} {w:World} (hS:S w) (hi:ops[i]?=some oi) (hin:ls.contains i=true)
  (hs:Region.noSelect ops=true) (hf:Region.free md ops listed i=true) (hr:(Region.ready md ops listed).contains i=true)
  (hQ:∀c a w,Q (.panic c) (a.put oi.dst v) w→Q (.panic c) a w) (hw:Region.wanted oi (yielded ops a.tmps)=true) (hy:∀w,S w→(execOp a.eval oi).run P w = .ok (.value v) w)
  (h:AnyL P md ops Q S ls fuel (listed.setIfInBounds i true) (a.put oi.dst v) w):AnyL P md ops Q S ls (fuel+1) listed a w:=
 AnyL_first (T:=S) (.inr ⟨by simpa using hin,fun _=>Iff.rfl⟩) hi (Region.noSelect_spec hs) hQ fuel listed a w (Region.free_spec hi hf) (by simpa using hr) (.inl ⟨hw,hy⟩) hS h
theorem AnyL_pure (i:Nat) {oi:Oper} {v:Value} {ls:List Nat} {fuel:Nat} {listed:Array Bool} {a:Act} {w:World} (hi:ops[i]?=some oi)
  (hs:Region.noSelect ops=true) (hf:Region.free md ops listed i=true) (hr:(Region.ready md ops listed).contains i=true)
  (hQ:∀c a w,Q (.panic c) (a.put oi.dst v) w→Q (.panic c) a w) (hw:Region.wanted oi (yielded ops a.tmps)=true) (hy:∀w,(execOp a.eval oi).run P w = .ok (.value v) w)
  (h:AnyL P md ops Q S ls fuel (listed.setIfInBounds i true) (a.put oi.dst v) w):AnyL P md ops Q S ls (fuel+1) listed a w:=
 AnyL_first (T:=fun _=>True) (.inl fun _=>trivial) hi (Region.noSelect_spec hs) hQ fuel listed a w (Region.free_spec hi hf) (by simpa using hr) (.inl ⟨hw,fun w _=>hy w⟩) trivial h
theorem AnyL_skip (i:Nat) {oi:Oper} {ls:List Nat} {fuel:Nat} {listed:Array Bool} {a:Act} {w:World} (hi:ops[i]?=some oi)
  (hs:Region.noSelect ops=true) (hf:Region.free md ops listed i=true) (hr:(Region.ready md ops listed).contains i=true)
  (hQ:∀c a w,Q (.panic c) (a.put oi.dst undef) w→Q (.panic c) a w) (hw:Region.wanted oi (yielded ops a.tmps)=false)
  (h:AnyL P md ops Q S ls fuel (listed.setIfInBounds i true) (a.put oi.dst undef) w):AnyL P md ops Q S ls (fuel+1) listed a w:=
 AnyL_first (T:=fun _=>True) (.inl fun _=>trivial) hi (Region.noSelect_spec hs) hQ fuel listed a w (Region.free_spec hi hf) (by simpa using hr) (.inr ⟨hw,rfl⟩) trivial h
theorem AnyL_one (i:Nat) {oi:Oper} {ls:List Nat} {fuel:Nat} {listed:Array Bool} {a:Act} {w:World} (hi:ops[i]?=some oi) (hr:Region.ready md ops listed=[i])
  (h:∀K':Act→World→Prop,Shut (∀a' w',WaitsL md ops ls i=true∨S w'→AnyL P md ops Q S ls fuel (listed.setIfInBounds i true) a' w'→K' a' w')→if Region.wanted oi (yielded ops a.tmps)=true then Oper.wp P oi a w K' Q else K' (a.put oi.dst undef) w) :
  AnyL P md ops Q S ls (fuel+1) listed a w:=by
 refine⟨fun h0=>(by rw [h0] at hr;cases hr),fun j hj=>?_⟩
 rw [hr] at hj
 obtain rfl:j=i:=by simpa using hj
 exact wpOp_step hi (fun K' hK=>h K' (fun a' w' hS hW=>hK a' w' ⟨.inr hS,hW⟩))
theorem AnyL_done {ls:List Nat} {fuel:Nat} {listed:Array Bool} {a:Act} {w:World} (hr:Region.ready md ops listed=[]) (h:Q .normal a w):AnyL P md ops Q S ls fuel listed a w:=by
 cases fuel with
 | zero=>exact⟨hr,h⟩
 | succ f=>exact⟨fun _=>h,by rw [hr];simp⟩
theorem AnyL_start {id:Nat} {a:Act} {w:World} (S:World→Prop) (ls:List Nat) (hm:P.follows .mixedOrders=true)
  (h:AnyL P .any ops Q S ls ops.size (Array.replicate ops.size false) a w.drew):(Code.region id ops true).wp P Q a w:=
 wp_region_any hm (wpAny_of_L _ _ _ _ h)
end
section
variable {P:Program} {ops:Array Oper} {Q:Exit→Act→World→Prop} {md:Region.Mode} {S:World→Prop} {oi:Oper} {v:Value} {a':Act} {ls:List Nat} {n fuel:Nat} {listed:Array Bool} {a:Act} {w:World}
theorem AP (i:Nat) (h:AnyL P md ops Q S ls fuel (listed.setIfInBounds i true) a' w) (hi:ops[i]?=some oi:=by rfl)
  (hy:∀w,(execOp a.eval oi).run P w = .ok (.value v) w:=by intro _;go_simp;all_goals (with_reducible rfl)) (ha:a.put oi.dst v=a':=by(try simp only [Act.put,Ls2,Ls0,Ls1]);rfl)
  (hs:Region.noSelect ops=true:=by kernel_rfl) (hf:Region.free md ops listed i=true:=by kernel_rfl) (hr:(Region.ready md ops listed).contains i=true:=by kernel_rfl)
  (hQ:∀c a w,Q (.panic c) (a.put oi.dst v) w→Q (.panic c) a w:=by exact fun _ _ _ h=>h) (hw:Region.wanted oi (yielded ops a.tmps)=true:=by kernel_rfl):AnyL P md ops Q S ls (fuel+1) listed a w:=
 AnyL_pure i hi hs hf hr hQ hw hy (ha▸h)
theorem AL (i:Nat) (hS:S w) (h:AnyL P md ops Q S ls fuel (listed.setIfInBounds i true) a' w) (hi:ops[i]?=some oi:=by rfl)
  (hy:∀w,S w→(execOp a.eval oi).run P w = .ok (.value v) w:=by intro _ hw';(try dsimp only at hw');go_simp;all_goals (with_reducible rfl)) (ha:a.put oi.dst v=a':=by(try simp only [Act.put,Ls2,Ls0,Ls1]);rfl)
  (hin:ls.contains i=true:=by kernel_rfl) (hs:Region.noSelect ops=true:=by kernel_rfl) (hf:Region.free md ops listed i=true:=by kernel_rfl) (hr:(Region.ready md ops listed).contains i=true:=by kernel_rfl)
  (hQ:∀c a w,Q (.panic c) (a.put oi.dst v) w→Q (.panic c) a w:=by exact fun _ _ _ h=>h) (hw:Region.wanted oi (yielded ops a.tmps)=true:=by kernel_rfl):AnyL P md ops Q S ls (fuel+1) listed a w:=
 AnyL_load i hS hi hin hs hf hr hQ hw hy (ha▸h)
theorem AG (i:Nat) (hS:S w) (h:AnyG P md ops Q S n fuel (listed.setIfInBounds i true) a' w) (hi:ops[i]?=some oi:=by rfl)
  (hy:∀w,S w→(execOp a.eval oi).run P w = .ok (.value v) w:=by intro _ hw';(try dsimp only at hw');go_simp;all_goals (with_reducible rfl)) (ha:a.put oi.dst v=a':=by(try simp only [Act.put,Ls2,Ls0,Ls1]);rfl)
  (hin:decide (i<n)=true:=by rfl) (hs:Region.noSelect ops=true:=by kernel_rfl) (hf:Region.free md ops listed i=true:=by kernel_rfl) (hr:(Region.ready md ops listed).contains i=true:=by kernel_rfl)
  (hQ:∀c a w,Q (.panic c) (a.put oi.dst v) w→Q (.panic c) a w:=by exact fun _ _ _ h=>h) (hw:Region.wanted oi (yielded ops a.tmps)=true:=by rfl):AnyG P md ops Q S n (fuel+1) listed a w:=
 AnyG_take i hS hi hin hs hf hr hQ (.inl ⟨hw,hy⟩) (ha▸h)
end
end Go.Proofs.YtofkehhflkdabaaGreatDoor
