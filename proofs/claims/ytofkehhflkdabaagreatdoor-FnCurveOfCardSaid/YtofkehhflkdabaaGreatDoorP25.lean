/- A part of the proof of FnCurveOf. -/
import Derived.Test.YtofkehhflkdabaaGreatDoorP24
set_option maxRecDepth 100000
set_option maxHeartbeats 8000000
namespace Go.Proofs.YtofkehhflkdabaaGreatDoor
open Go Go.RowKit
theorem St.pre {F:Nat→Prop} {w:World} {P L0:List (Nat×E)} (h:St F w (P++L0)) (P':List (Nat×E)) (ix:List Nat) (hn:ix.Nodup) (m:Nat) (hm:P.length=m) (hl:∀i∈ix,i<m) (e:P'.map some=ix.map fun i=>P[i]?):St F w (P'++L0):=by
 subst hm
 refine h.sub (ix++(List.range L0.length).map (· + P.length)) ?_ _ ?_
 ·rw [List.nodup_append]
  refine⟨hn,?_,?_⟩
  ·refine List.pairwise_map.2 (List.nodup_range.imp ?_)
   intro a b hab e
   exact hab (by omega)
  ·intro a ha b hb hab
   obtain⟨c,hc,rfl⟩:=List.mem_map.1 hb
   have:=hl a ha
   omega
 ·rw [List.map_append,List.map_append,e]
  congr 1
  ·refine List.map_congr_left fun i hi=>?_
   rw [List.getElem?_append_left (hl i hi)]
  ·rw [List.map_map]
   apply List.ext_getElem?
   intro i
   simp only [List.getElem?_map]
   by_cases hi:i<L0.length
   ·rw [List.getElem?_range hi,List.getElem?_eq_getElem hi]
    rw [Option.map_some,Option.map_some]
    show some (some L0[i])=some ((P++L0)[i+P.length]?)
    rw [List.getElem?_append_right (by omega),Nat.add_sub_cancel,List.getElem?_eq_getElem hi]
   ·rw [List.getElem?_eq_none (by omega),List.getElem?_eq_none (by simp;omega)]
    rfl
def sg (even:Bool):Int:=if even then 1 else -1
theorem upd_law (a b:Int) (u v:Nat) (even:Bool):sm (decide (a<0) != !even) (a.natAbs*u)+sm (decide (b<0) != even) (b.natAbs*v)=sg even*(u*a-v*b):=by
 rw [sm_mul,sm_mul]
 cases even<;>simp [sg]<;>grind
theorem pow_more0 (M k n:Nat) (h:M<2^k) (hk:k≤n):M<2^n:=Nat.lt_of_lt_of_le h (Nat.pow_le_pow_right (by decide) hk)
theorem big_mul {x:Int} {s u:Nat} (h:Sz s x) (hs:s≤3900) (hu:u<W64):x.natAbs*u<2^(64*63):=by
 rw [W64_eq] at hu
 have h2:=Nat.mul_lt_mul_of_lt_of_lt h.lt hu
 rw [← Nat.pow_add] at h2
 have h3:=pow_more0 _ (s+64) (64*63) h2 (by omega)
 exact h3
theorem lehmerUpdate_any (F:Nat→Prop) (w:World) (L0:List (Nat×E)) (pA pB pq pr:Nat) (a b:Int) (eq er:E) (h:St F w ((pA,ofI a)::(pB,ofI b)::(pq,eq)::(pr,er)::L0)) (u0 u1 v0 v1:Nat) (even:Bool) (s:Nat)
  (hsa:Sz s a) (hsb:Sz s b) (hs:s≤3900) (hu0:u0<W64) (hu1:u1<W64) (hv0:v0<W64) (hv1:v1<W64) :
  Calls Tryz.prog 97 #[pt pA,pt pB,pt pq,pt pr,.int .u64 (u0:Int),.int .u64 (u1:Int),.int .u64 (v0:Int),.int .u64 (v1:Int),.bool even] w fun e w'=>
   ∃eq' er',e = .returned (.tuple #[])∧St F w' ((pA,ofI (sg even*(u0*a-v0*b)))::(pB,ofI (sg even*(v1*b-u1*a)))::(pq,eq')::(pr,er')::L0)∧Keep (fun b=>¬F b) w w':=by
 have hA:=upd_law a b u0 v0 even
 have hB:sm (decide (b<0) != !even) (b.natAbs*v1)+sm (decide (a<0) != even) (a.natAbs*u1)=sg even*(v1*b-u1*a):=upd_law b a v1 u1 even
 have ba0:=big_mul hsa hs hu0
 have ba1:=big_mul hsa hs hu1
 have bb0:=big_mul hsb hs hv0
 have bb1:=big_mul hsb hs hv1
 have HA:Hid _:=hA
 have HB:Hid _:=hB
 have X1:Hid _:=ba0
 have X2:Hid _:=ba1
 have X3:Hid _:=bb0
 have X4:Hid _:=bb1
 have hs4:s≤4000:=by omega
 clear hA hB ba0 ba1 bb0 bb1
 go_enter Tryz.func97,Tryz.ntmps97
 go_wp2_with fail
 refine(mulW_any F w _ h 2 pq pB eq b even v0 rfl (by simp) s hs4 hv0).mono ?_
 rintro e w1 ⟨rfl,h1,k1⟩
 simp only [Ls0,Ls1] at h1
 have H1:Hid _:=h1
 clear h1
 go_wp2_with fail
 refine(mulW_any F w1 _ (oo H1) 3 pr pA er a even u1 rfl (by simp) s hs4 hu1).mono ?_
 rintro e w2 ⟨rfl,h2,k2⟩
 simp only [Ls0,Ls1] at h2
 have H2:Hid _:=h2
 clear h2 H1
 go_wp2_with fail
 refine(mulW_any F w2 _ (oo H2) 0 pA pA (ofI a) a (!even) u0 rfl (by simp) s hs4 hu0).mono ?_
 rintro e w3 ⟨rfl,h3,k3⟩
 simp only [Ls0] at h3
 have H3:Hid _:=h3
 clear h3 H2
 go_wp2_with fail
 refine(mulW_any F w3 _ (oo H3) 1 pB pB (ofI b) b (!even) v1 rfl (by simp) s hs4 hv1).mono ?_
 rintro e w4 ⟨rfl,h4,k4⟩
 simp only [Ls0,Ls1] at h4
 have H4:Hid _:=h4
 clear h4 H3
 go_wp2_with fail
 refine(addR_any F w4 _ (oo H4) 0 pA pA pq _ _ _ _ _ rfl (.head _) (tl2 (.head _)) (oo X1) (oo X3)).mono ?_
 rintro e w5 ⟨rfl,h5,k5⟩
 simp only [Ls0] at h5
 rw [HA.out] at h5
 have H5:Hid _:=h5
 clear h5 H4
 go_wp2_with fail
 refine(addR_any F w5 _ (oo H5) 1 pB pB pr _ _ _ _ _ rfl (.tail _ (.head _)) (tl3 (.head _)) (oo X4) (oo X2)).mono ?_
 rintro e w6 ⟨rfl,h6,k6⟩
 simp only [Ls0,Ls1] at h6
 rw [HB.out] at h6
 have H6:Hid _:=h6
 clear h6 H5
 go_wp2_with fail
 first | go_end0 | (refine bodyPost_ret (results_none rfl _ _ _) rfl ?_)
 exact⟨_,_,rfl,oo H6,((((k1.trans k2).trans k3).trans k4).trans k5).trans k6⟩
theorem results_tmp5 {fn:Func} {t u v x y:Tmp} (h:fn.results=#[.tmp t,.tmp u,.tmp v,.tmp x,.tmp y]) (tmps:Array Value) (P:Program) (w:World) :
  (results fn tmps).run P w = .ok (.tuple #[tmps.getD t undef,tmps.getD u undef,tmps.getD v undef,tmps.getD x undef,tmps.getD y undef]) w:=by
 simp [results,h]
theorem tdiv_nn {a b:Int} (ha:0≤a):a.tdiv b=a / b:=(Int.tdiv_eq_ediv_of_nonneg ha)
theorem tmod_nn {a b:Int} (ha:0≤a):a.tmod b=a%b:=(Int.tmod_eq_emod_of_nonneg ha)
theorem euclidUpdate_any (F:Nat→Prop) (w:World) (L0:List (Nat×E)) (pA pB pUa pUb pq pr:Nat) (a b ua ub:Int) (eq er:E)
  (h:St F w ((pA,ofI a)::(pB,ofI b)::(pUa,ofI ua)::(pUb,ofI ub)::(pq,eq)::(pr,er)::L0)) (hAq:pA≠pq) (hBq:pB≠pq) (hBr:pB≠pr) (ha:0≤a) (hb:0<b) (s t:Nat)
  (hsa:Sz s a) (hsb:Sz s b) (hs:s≤704) (hta:Sz t ua) (htb:Sz t ub) (ht:t≤1200) :
  Calls Tryz.prog 98 #[pt pA,pt pB,pt pUa,pt pUb,pt pq,pt pr,.bool true] w fun e w'=>
   ∃eq',e = .returned (.tuple #[pt pB,pt pr,pt pA,pt pUb,pt pUa])∧St F w' ((pB,ofI b)::(pr,ofI (a%b))::(pUb,ofI ub)::(pUa,ofI (ua-a / b*ub))::(pq,eq')::(pA,ofI a)::L0)∧Keep (fun b=>¬F b) w w':=by
 have hq:a.tdiv b=a / b:=tdiv_nn ha
 have hr:a.tmod b=a%b:=tmod_nn ha
 have hszq:Sz s (a / b):=⟨by
  rw [← hq,Int.natAbs_tdiv]
  exact Nat.lt_of_le_of_lt (Nat.div_le_self _ _) hsa.lt⟩
 have hb0:b≠0:=by omega
 have HQ:Hid _:=hq
 have HR:Hid _:=hr
 have HB0:Hid _:=hb0
 clear hq hr hb0 hb ha
 go_enter Tryz.func98,Tryz.ntmps98
 go_wp2_with fail
 refine(quoRem_any F w _ h 4 5 pq pA pB pr eq er a b rfl rfl (by decide) (fun e=>hAq e.symm) (fun e=>hBq e.symm) (fun e=>hBr e.symm) (by simp) (by simp) s s (by omega) (by omega) HB0.out).mono ?_
 rintro e w1 ⟨rfl,h1,k1⟩
 simp only [Ls0,Ls1] at h1
 rw [HQ.out,HR.out] at h1
 have H1:Hid _:=h1
 clear h1
 go_wp2_with fail
 refine(intMul_any F w1 _ (oo H1) 4 pq pq pUb _ (a / b) ub rfl (by simp) (by simp) s t (by omega) (by omega)).mono ?_
 rintro e w2 ⟨v,hv,hsv,rfl,h2,k2⟩
 simp only [Ls0,Ls1] at h2
 have H2:Hid _:=h2
 clear h2 H1
 go_wp2_with fail
 refine(intSub_any F w2 _ (oo H2) 2 pUa pUa pq _ ua v rfl (by simp) (by simp) t (s+t) (by omega) (by omega)).mono ?_
 rintro e w3 ⟨v',hv',hsv',rfl,h3,k3⟩
 simp only [Ls0,Ls1] at h3
 have H3:Hid _:=h3
 clear h3 H2
 go_wp2_with fail
 (try simp only [Exit.inBlock,Exit.then])
 refine bodyPost_ret (results_tmp5 rfl _ _ _) rfl ?_
 refine⟨ofI v,rfl,?_,(k1.trans k2).trans k3⟩
 have e1:v'=ua-a / b*ub:=by rw [hv'.out,hv.out]
 rw [e1] at H3
 exact St.pre (P:=[_,_,_,_,_,_]) (oo H3) [_,_,_,_,_,_] [1,5,3,2,4,0] (by decide) 6 rfl (by decide) rfl
theorem top_word {r0 lo hi k s t:Nat} (h:s+t=64) (h0:r0<W64^k) (hh:hi*2^s<W64) (_hl:lo<W64) :
  ∃ra,r0+lo*W64^k+hi*W64^(k+1)=orN hi s lo t*(2^t*W64^k)+ra∧ra<2^t*W64^k:=by
 have e1:orN hi s lo t=hi*2^s+lo / 2^t:=by
  unfold orN shlN shrN
  rw [Nat.mod_eq_of_lt hh]
 have e2:=Nat.div_add_mod lo (2^t)
 have hr:=Nat.mod_lt lo (Nat.two_pow_pos t)
 refine⟨r0+lo%2^t*W64^k,?_,?_⟩
 ·rw [e1,Nat.pow_succ]
  have e3:W64=2^s*2^t:=W64_split h
  generalize lo / 2^t=q at *
  generalize lo%2^t=r at *
  generalize W64^k=M at *
  rw [← e2]
  have:hi*(M*W64)=hi*2^s*(2^t*M):=by rw [e3];grind
  rw [this];grind
 ·have:=Nat.mul_le_mul_right (W64^k) (show lo%2^t+1≤2^t by omega)
  rw [Nat.succ_mul] at this
  omega
def Told (A B:Int) (u0 u1 v0 v1:Nat) (even:Bool):Prop:=
 0<sg even*(v1*B-u1*A)∧sg even*(v1*B-u1*A)≤sg even*(u0*A-v0*B) ∧
  A=v1*(sg even*(u0*A-v0*B))+v0*(sg even*(v1*B-u1*A))∧B=u1*(sg even*(u0*A-v0*B))+u0*(sg even*(v1*B-u1*A))∧1≤v1
def SimRel (A B x y a1 a2 u0 u1 u2 v0 v1 v2:Nat) (even:Bool):Prop:=
 Sim x y a1 a2 u1 u2 v1 v2 (-(sg even))∧a1<W64∧u0<W64∧u1<W64∧u2<W64∧v0<W64∧v1<W64∧v2<W64∧(v0=0∨Told A B u0 u1 v0 v1 even)
theorem simRel_next {A B x y a1 a2 u0 u1 u2 v0 v1 v2 K ra rb:Nat} {even:Bool} (h:SimRel A B x y a1 a2 u0 u1 u2 v0 v1 v2 even) (hx:x<W64) (hc1:v2≤a2) (hc2:v1+v2≤a1-a2)
  (hA:A=x*K+ra) (hB:B=y*K+rb) (hra:ra<K) (hrb:rb<K) :
  SimRel A B x y a2 (a1%a2) u1 u2 (u1+a1 / a2*u2) v1 v2 (v1+a1 / a2*v2) (!even)∧0<a2∧a1 / a2<W64:=by
 obtain⟨hs,h1,h2,h3,h4,h5,h6,h7,h8⟩:=h
 have hv2:=hs.v2p
 have hle:=hs.le
 have a2p:0<a2:=by omega
 have hn:=hs.next (by omega)
 have e1:((a1:Int) / (a2:Int))=((a1 / a2:Nat):Int):=rfl
 have e2:((a1:Int)%(a2:Int))=((a1%a2:Nat):Int):=rfl
 rw [e1,e2] at hn
 have hn2:Sim x y a2 (a1%a2:Nat) u2 ((u1+a1 / a2*u2:Nat):Int) v2 ((v1+a1 / a2*v2:Nat):Int) (-(sg (!even))):=by
  have e3:-(-(sg even)) = -(sg (!even)):=by cases even<;>rfl
  rw [← e3]
  push_cast
  push_cast at hn
  exact hn
 have hsm:=hn2.small (by omega)
 have hyx:y≤x:=by
  have:=hs.ex
  have:=hs.ey
  have h9:=hs.uv
  have h10:=hs.sum
  have:=hs.a2n
  have:=hs.u1n
  have m1:(u2:Int)*a1≤v2*a1:=Int.mul_le_mul_of_nonneg_right h9 (by omega)
  have m2:((v2:Int)-u2)*a2≤(v2-u2)*a1:=Int.mul_le_mul_of_nonneg_left hle (by omega)
  have m3:((u1:Int)-v1)*a2≤(v2-u2)*a2:=Int.mul_le_mul_of_nonneg_right (by omega) (by omega)
  have j1:((v2:Int)-u2)*a1=v2*a1-u2*a1:=by grind
  have j2:((u1:Int)-v1)*a2=u1*a2-v1*a2:=by grind
  omega
 have ht:=hs.true (A:=A) (B:=B) (K:=K) (ra:=ra) (rb:=rb) (by omega) (by omega) (by rw [hA];push_cast;rfl) (by rw [hB];push_cast;rfl) (by omega) (by omega) (by omega) (by omega)
 have e3:-(sg even)=sg (!even):=by cases even<;>rfl
 rw [e3] at ht
 refine⟨⟨hn2,by omega,h3,h4,by omega,h6,h7,by omega,.inr ⟨ht.1,ht.2.1,ht.2.2.1,ht.2.2.2,by omega⟩⟩,a2p,?_⟩
 exact Nat.lt_of_le_of_lt (Nat.div_le_self _ _) h1
end Go.Proofs.YtofkehhflkdabaaGreatDoor
