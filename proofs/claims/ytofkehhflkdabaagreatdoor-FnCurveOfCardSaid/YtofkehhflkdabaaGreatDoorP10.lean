/- A part of the proof of FnCurveOf. -/
import Derived.Test.YtofkehhflkdabaaGreatDoorP08
import Derived.Deep.CutRange
import Derived.Deep.DeepCutAuto
set_option maxRecDepth 100000
set_option maxHeartbeats 8000000
namespace Go.Proofs.YtofkehhflkdabaaGreatDoor
open Go Go.RowKit
theorem knuth_fit {P V2 lv U3 lu qh:Nat} (hP:0<P) (hV:0<V2) (hlv:lv<P) (hlu:lu<P) (h1:qh*V2≤U3) (h2:U3<(qh+1)*V2) (hq:qh≤V2) :
  (U3*P+lu) / (V2*P+lv)≤qh∧qh≤(U3*P+lu) / (V2*P+lv)+1:=by
 have hv:0<V2*P+lv:=Nat.lt_of_lt_of_le (Nat.mul_pos hV hP) (Nat.le_add_right _ _)
 refine⟨?_,?_⟩
 ·have:(U3*P+lu) / (V2*P+lv)<qh+1:=by
   rw [Nat.div_lt_iff_lt_mul hv]
   have a1:(U3+1)*P≤(qh+1)*V2*P:=Nat.mul_le_mul_right _ h2
   have a2:(qh+1)*(V2*P+lv)=(qh+1)*V2*P+(qh+1)*lv:=by rw [Nat.mul_add,Nat.mul_assoc]
   rw [Nat.succ_mul] at a1
   omega
  omega
 ·rcases qh with _ | q
  ·exact Nat.zero_le _
  ·have:q≤(U3*P+lu) / (V2*P+lv):=by
    rw [Nat.le_div_iff_mul_le hv]
    have a1:(q+1)*V2*P≤U3*P:=Nat.mul_le_mul_right _ h1
    have a2:q*(V2*P+lv)=q*V2*P+q*lv:=by rw [Nat.mul_add,Nat.mul_assoc]
    have a3:q*lv≤V2*P:=Nat.mul_le_mul (by omega) (by omega)
    have a4:(q+1)*V2*P=q*V2*P+V2*P:=by rw [Nat.succ_mul,Nat.add_mul]
    omega
   omega
theorem knuth_max {P vn1 lv v U:Nat} (hP:0<P) (hvn:9223372036854775808≤vn1) (hv:v=vn1*P+lv) (hlv:lv<P) (hU:vn1*(W64*P)≤U) (hU2:U<v*W64) :
  U / v≤W64-1∧W64-1≤U / v+1:=by
 have hW:W64=18446744073709551616:=rfl
 have hv0:0<v:=by rw [hv];exact Nat.lt_of_lt_of_le (Nat.mul_pos (by omega) hP) (Nat.le_add_right _ _)
 refine⟨?_,?_⟩
 ·have:U / v<W64:=by rw [Nat.div_lt_iff_lt_mul hv0,Nat.mul_comm];exact hU2
  omega
 ·have:W64-2≤U / v:=by
   rw [Nat.le_div_iff_mul_le hv0]
   have a1:(W64-2)*v≤(W64-2)*((vn1+1)*P):=Nat.mul_le_mul_left _ (by rw [hv,Nat.succ_mul];omega)
   have a2:(W64-2)*(vn1+1)≤vn1*W64:=by
    rw [Nat.mul_add,Nat.mul_one,Nat.sub_mul,Nat.mul_comm vn1]
    have:2*vn1≤W64*vn1:=Nat.mul_le_mul_right _ (by decide)
    omega
   have a3:=Nat.mul_le_mul_right P a2
   rw [Nat.mul_assoc,Nat.mul_assoc] at a3
   exact Nat.le_trans a1 (Nat.le_trans a3 hU)
  omega
theorem val_one (c:Nat→Nat) (o n:Nat):val c o (n+1)=val c o n+c (o+n)*W64^n:=rfl
theorem digit_in {n v U qh b X lo top:Nat} (hv:v<W64^n) (hv0:0<v) (hq1:U / v≤qh) (hq2:qh≤U / v+1) (hX:X=lo+top*W64^n) (hlo:lo<W64^n)
  (hsub:X+v*qh=U+b*W64^(n+1)) (hb:b≤1) (htop:top<W64) (_hU:U<W64^(n+1)) :
  (b=0→qh=U / v∧lo=U%v∧top=0) ∧
  (b≠0→qh=U / v+1∧∀lo2 cc,lo2<W64^n→cc≤1→lo2+cc*W64^n=lo+v→lo2=U%v∧(top+cc)%W64=0):=by
 have hm:=Nat.div_add_mod U v
 have hml:=Nat.mod_lt U hv0
 have hW:0<W64^n:=Nat.pow_pos W64_pos
 have hsucc:W64^(n+1)=W64*W64^n:=by rw [Nat.pow_succ,Nat.mul_comm]
 generalize W64^n=P at *
 generalize U / v=q at *
 generalize U%v=r at *
 refine⟨fun h=>?_,fun h=>?_⟩
 ·subst h
  have:qh=q:=by
   rcases Nat.lt_or_ge q qh with h | h
   ·have:qh=q+1:=by omega
    subst this
    rw [Nat.mul_add,Nat.mul_one] at hsub
    omega
   ·omega
  subst this
  have hXr:X=r:=by omega
  have:top=0:=by
   refine Nat.eq_zero_of_not_pos fun h=>?_
   have:=Nat.mul_le_mul_right P h
   omega
  subst this
  refine⟨rfl,by omega,rfl⟩
 ·obtain rfl:b=1:=by omega
  have hXlt:X<W64*P:=by
   have:=Nat.mul_le_mul_right P (show top+1≤W64 by omega)
   rw [Nat.succ_mul] at this
   omega
  have:qh=q+1:=by
   rcases Nat.lt_or_ge q qh with h | h
   ·omega
   ·have:qh=q:=by omega
    subst this
    omega
  subst this
  refine⟨rfl,fun lo2 cc h1 h2 h3=>?_⟩
  rw [Nat.mul_add,Nat.mul_one] at hsub
  have e:lo2+(cc+top)*P=W64*P+r:=by rw [Nat.add_mul];omega
  have e2:cc+top=W64:=by
   refine Nat.le_antisymm (Nat.le_of_not_lt fun h=>?_) (Nat.le_of_not_lt fun h=>?_)
   ·have:=Nat.mul_le_mul_right P (show W64+1≤cc+top by omega)
    rw [Nat.succ_mul] at this
    omega
   ·have:=Nat.mul_le_mul_right P (show cc+top+1≤W64 by omega)
    rw [Nat.succ_mul] at this
    omega
  rw [e2] at e
  refine⟨by omega,?_⟩
  rw [Nat.add_comm,e2,Nat.mod_self]
theorem digit_top {n v U qh b lo:Nat} (_hv:v<W64^n) (hU:U<v) (hq1:U / v≤qh) (hq2:qh≤U / v+1) (hlo:lo<W64^n)
  (hsub:lo+v*qh=U+b*W64^n) (hb:b≤1) :
  (b=0→qh=0∧lo=U)∧(b≠0→qh=1∧∀lo2 cc,lo2<W64^n→cc≤1→lo2+cc*W64^n=lo+v→lo2=U):=by
 rw [Nat.div_eq_of_lt hU] at hq1 hq2
 generalize W64^n=P at *
 refine⟨fun h=>?_,fun h=>?_⟩
 ·subst h
  have:qh=0:=by
   rcases Nat.eq_zero_or_pos qh with h | h
   ·exact h
   ·obtain rfl:qh=1:=by omega
    omega
  subst this
  exact⟨rfl,by omega⟩
 ·obtain rfl:b=1:=by omega
  have:qh=1:=by
   rcases Nat.eq_zero_or_pos qh with h | h
   ·subst h;omega
   ·omega
  subst this
  refine⟨rfl,fun lo2 cc h1 h2 h3=>?_⟩
  obtain rfl | rfl:cc=0∨cc=1:=by omega
  ·omega
  ·omega
theorem greaterThan_any (x1 x2 y1 y2:Nat) (hx2:x2<W64) (hy2:y2<W64) (w:World) :
  Calls Tryz.prog 171 #[.int .u64 (x1:Int),.int .u64 (x2:Int),.int .u64 (y1:Int),.int .u64 (y2:Int)] w fun e w'=>
   e = .returned (.bool (decide (y1*W64+y2<x1*W64+x2)))∧w'=w:=by
 have hW:W64=18446744073709551616:=rfl
 by_cases h1:y1<x1
 ·have hd:decide (y1*W64+y2<x1*W64+x2)=true:=by
   rw [decide_eq_true_eq]
   have:=Nat.mul_le_mul_right W64 (show y1+1≤x1 from h1)
   rw [Nat.succ_mul] at this
   omega
  rw [hd]
  clear hd hW hx2 hy2
  go_enter Tryz.func171,Tryz.ntmps171
  go_wp2_with fail
  go_ret
  exact⟨rfl,rfl⟩
 ·by_cases h2:x1=y1
  ·subst h2
   have hd:decide (x1*W64+y2<x1*W64+x2)=decide (y2<x2):=by
    by_cases h:y2<x2<;>simp [h]
   rw [hd]
   clear hd hW hx2 hy2 h1
   by_cases h3:y2<x2
   ·have hd:decide (y2<x2)=true:=decide_eq_true h3
    rw [hd]
    clear hd
    go_enter Tryz.func171,Tryz.ntmps171
    go_wp2_with fail
    go_ret
    exact⟨rfl,rfl⟩
   ·have hd:decide (y2<x2)=false:=decide_eq_false h3
    have H:Hid (decide (y2<x2)=false):=hd
    clear hd
    have h4:x2≤y2:=by omega
    clear h3
    go_enter Tryz.func171,Tryz.ntmps171
    go_wp2_with fail
    go_ret
    exact⟨rfl,rfl⟩
  ·have hd:decide (y1*W64+y2<x1*W64+x2)=false:=by
    rw [decide_eq_false_iff_not]
    have:=Nat.mul_le_mul_right W64 (show x1+1≤y1 by omega)
    rw [Nat.succ_mul] at this
    omega
   have h4:x1≤y1:=by omega
   have H:Hid (decide (y1<x1)=false):=decide_eq_false h1
   have h5:((x1:Int)==(y1:Int))=false:=beq_eq_false_iff_ne.2 (by omega)
   rw [hd]
   clear hd h1 hW hx2 hy2 h2
   go_enter Tryz.func171,Tryz.ntmps171
   go_wp2_with fail
   go_ret
   exact⟨congrArg (fun b=>Ending.returned (.bool b)) H.out,rfl⟩
end Go.Proofs.YtofkehhflkdabaaGreatDoor
