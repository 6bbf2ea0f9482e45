/- A part of the proof of FnCurveOf. -/
import Derived.Test.YtofkehhflkdabaaGreatDoorP01
import Derived.Lib.ItoaNum
import Derived.RegionTactic
import Derived.Deep.QuietTactic
import Derived.BigQuiet
import Derived.Laws.AppendOwn
set_option maxRecDepth 100000
set_option maxHeartbeats 8000000
namespace Go.Proofs.YtofkehhflkdabaaGreatDoor
open Go Go.RowKit
def preN (c:Nat→Nat):Nat→Nat
 | 0=>0
 | i+1=>preN c i*256+c i
theorem vb_one (c:Nat→Nat) (o n:Nat):vb c o (n+1)=vb c o n+c (o+n)*W16^n:=rfl
def dig (X i:Nat):Nat:=X / W16^i%W16
theorem dig_lt (X i:Nat):dig X i<W16:=Nat.mod_lt _ W16_pos
theorem vb_dig (X:Nat):∀k,vb (dig X) 0 k=X%W16^k
 | 0=>by simp [vb,Nat.mod_one]
 | k+1=>by
  rw [vb_one,vb_dig X k,Nat.zero_add,dig,Nat.pow_succ,Nat.mod_mul,Nat.mul_comm (W16^k)]
theorem dig_vb {c:Nat→Nat} {n:Nat} (h:∀i,i<n→c i<W16):∀i,i<n→dig (vb c 0 n) i=c i:=by
 intro i hi
 obtain⟨t,rfl⟩:∃t,n=i+1+t:=⟨n-i-1,by omega⟩
 have e:vb c 0 (i+1+t)=vb c 0 i+W16^i*(c i+W16*vb c (i+1) t):=by
  rw [vb_add,vb_one,Nat.zero_add,Nat.zero_add,Nat.pow_succ]
  grind
 have hl:vb c 0 i<W16^i:=vb_lt fun j hj=>by rw [Nat.zero_add];exact h j (by omega)
 rw [dig,e,Nat.add_mul_div_left _ _ (Nat.pow_pos W16_pos),Nat.div_eq_of_lt hl,Nat.zero_add,Nat.add_mul_mod_self_left,Nat.mod_eq_of_lt (h i hi)]
theorem vb_div {c:Nat→Nat} {n i:Nat} (h:∀j,j<n→c j<W16) (hi:i≤n):vb c 0 n / W16^i=vb c i (n-i):=by
 have e:vb c 0 n=vb c 0 i+W16^i*vb c i (n-i):=by
  have:=vb_add c 0 i (n-i)
  rw [Nat.zero_add,show i+(n-i)=n from by omega] at this
  exact this
 have hl:vb c 0 i<W16^i:=vb_lt fun j hj=>by rw [Nat.zero_add];exact h j (by omega)
 rw [e,Nat.add_mul_div_left _ _ (Nat.pow_pos W16_pos),Nat.div_eq_of_lt hl,Nat.zero_add]
theorem vb_inj {c d:Nat→Nat} {n:Nat} (hc:∀i,i<n→c i<W16) (hd:∀i,i<n→d i<W16) (h:vb c 0 n=vb d 0 n):∀i,i<n→c i=d i:=by
 intro i hi
 rw [← dig_vb hc i hi,h,dig_vb hd i hi]
theorem take_step {lo q lom R cy P ri mi x cy':Nat} (h:lo+q*lom=R+cy*P) (e:x+q*mi+cy=ri+W16*cy') :
  (lo+x*P)+q*(lom+mi*P)=(R+ri*P)+cy'*(P*W16):=by
 have:(x+q*mi+cy)*P=(ri+W16*cy')*P:=by rw [e]
 grind
theorem take_digit (ri q mi cy:Nat) (hri:ri<W16) (hq:cy≤q+1) (hmi:mi<W16) :
  ∃x cy':Nat,x<W16∧cy'≤q+1∧x+q*mi+cy=ri+W16*cy'∧((ri:Int)-cy-q*mi)%65536=x∧-(((ri:Int)-cy-q*mi) / 65536)=cy':=by
 have h1:q*mi≤q*65535:=Nat.mul_le_mul_left _ (by rw [W16] at hmi;omega)
 have hp:(q:Int)*mi=((q*mi:Nat):Int):=by push_cast;rfl
 rw [hp]
 clear hp
 generalize q*mi=t at *
 have hd:=Int.emod_add_mul_ediv ((ri:Int)-cy-(t:Nat)) 65536
 have hm:(0:Int)≤((ri:Int)-cy-(t:Nat))%65536:=Int.emod_nonneg _ (by decide)
 have hm2:((ri:Int)-cy-(t:Nat))%65536<65536:=Int.emod_lt_of_pos _ (by decide)
 generalize ((ri:Int)-cy-(t:Nat)) / 65536=D at *
 generalize ((ri:Int)-cy-(t:Nat))%65536=M at *
 rw [W16] at *
 refine⟨M.toNat,(-D).toNat,by omega,by omega,by omega,by omega,by omega⟩
theorem rest_guess {r m:Nat→Nat} {k q:Nat} (hk:0<k) (hr:∀i,i<k+1→r i<W16) (hm:∀i,i<k→m i<W16) (hq:q=(r k*W16+r (k-1)) / (m (k-1)+1)) :
  q*vb m 0 k≤vb r 0 (k+1):=by
 obtain⟨t,rfl⟩:∃t,k=t+1:=⟨k-1,by omega⟩
 simp only [Nat.add_sub_cancel] at hq
 have e1:vb r 0 (t+1+1)=vb r 0 t+(r (t+1)*W16+r t)*W16^t:=by
  rw [vb_one,vb_one,Nat.zero_add,Nat.zero_add,Nat.pow_succ];grind
 have e2:vb m 0 (t+1)≤(m t+1)*W16^t:=by
  have:vb m 0 t<W16^t:=vb_lt fun j hj=>by rw [Nat.zero_add];exact hm j (by omega)
  rw [vb_one,Nat.zero_add,Nat.succ_mul];omega
 have e3:q*(m t+1)≤r (t+1)*W16+r t:=by rw [hq];exact Nat.div_mul_le_self _ _
 rw [e1]
 have a1:=Nat.mul_le_mul_left q e2
 have a2:=Nat.mul_le_mul_right (W16^t) e3
 rw [Nat.mul_assoc] at a2
 omega
def shD (n x y:Nat):Nat:=x*2^n%W16+y / 2^(16-n)
theorem shD_lt {n x y:Nat} (hn:n<16) (hy:y<W16):shD n x y<W16:=by
 have h1:2^n*2^(16-n)=W16:=by rw [← Nat.pow_add,show n+(16-n)=16 from by omega];rfl
 have h2:y / 2^(16-n)<2^n:=by
  rw [Nat.div_lt_iff_lt_mul (Nat.two_pow_pos _),h1];exact hy
 have h3:x*2^n%W16=x%2^(16-n)*2^n:=by
  rw [← h1,Nat.mul_comm (2^n),Nat.mul_mod_mul_right]
 have h4:x%2^(16-n)+1≤2^(16-n):=Nat.mod_lt _ (Nat.two_pow_pos _)
 have h5:=Nat.mul_le_mul_right (2^n) h4
 rw [Nat.mul_comm (2^(16-n)),h1,Nat.succ_mul] at h5
 rw [shD,h3];omega
theorem shD_step {n x y T:Nat} (hn:n<16):(x+W16*T)*2^n+y / 2^(16-n)=W16*(T*2^n+x / 2^(16-n))+shD n x y:=by
 have h1:2^n*2^(16-n)=W16:=by rw [← Nat.pow_add,show n+(16-n)=16 from by omega];rfl
 have h3:x*2^n%W16=x%2^(16-n)*2^n:=by
  rw [← h1,Nat.mul_comm (2^n),Nat.mul_mod_mul_right]
 have h4:=Nat.div_add_mod x (2^(16-n))
 rw [shD,h3]
 generalize x / 2^(16-n)=u at *
 generalize x%2^(16-n)=v at *
 generalize y / 2^(16-n)=z at *
 rw [← h1,← h4]
 generalize 2^n=a at *
 generalize 2^(16-n)=b at *
 clear h1 h3 h4
 grind
theorem back_digit {X n i:Nat} (hn:n<16) (lo hi:Nat) (h1:lo=dig X i) (h2:hi=dig X (i+1)):(lo+W16*hi) / 2^n%W16=dig (X / 2^n) i:=by
 have h3:2^n*2^(16-n)=W16:=by rw [← Nat.pow_add,show n+(16-n)=16 from by omega];rfl
 have e:lo+W16*hi=X / W16^i%(W16*W16):=by
  rw [h1,h2,dig,dig,Nat.pow_succ,← Nat.div_div_eq_div_mul,Nat.mod_mul]
 rw [e,dig,Nat.div_div_eq_div_mul X,Nat.mul_comm (2^n),← Nat.div_div_eq_div_mul]
 generalize X / W16^i=Y
 have e1:Y=Y%(W16*W16)+W16*W16*(Y / (W16*W16)):=(Nat.mod_add_div _ _).symm
 have e2:Y / 2^n=Y%(W16*W16) / 2^n+W16*(2^(16-n)*(Y / (W16*W16))):=by
  have e3:Y=Y%(W16*W16)+2^n*(W16*(2^(16-n)*(Y / (W16*W16)))):=by
   rw [show 2^n*(W16*(2^(16-n)*(Y / (W16*W16))))=(2^n*2^(16-n))*W16*(Y / (W16*W16)) from by
    generalize 2^n=a;generalize 2^(16-n)=b;generalize Y / (W16*W16)=c;grind,h3]
   exact e1
  have e4:=congrArg (· / 2^n) e3
  simp only [Nat.add_mul_div_left _ _ (Nat.two_pow_pos n)] at e4
  exact e4
 rw [e2,Nat.add_mul_mod_self_left]
theorem prod_row {o o2 b:Nat→Nat} {A i lb x cc:Nat} (hA:vb o 0 (i+lb)=A*vb b 0 lb) (hx:vb o2 i lb+cc*W16^lb=vb o i lb+x*vb b 0 lb) (hlow:∀j,j<i→o2 j=o j) :
  vb (upd o2 (i+lb) cc) 0 (i+1+lb)=(A+x*W16^i)*vb b 0 lb:=by
 rw [show i+1+lb=i+lb+1 from by omega,vb_one,vb_upd _ _ _ _ _ (by omega),Nat.zero_add,upd_same,vb_add,Nat.zero_add,vb_ext (c:=o2) (d:=o) (o:=0) (p:=0) (n:=i) (fun j hj=>by rw [Nat.zero_add];exact hlow j hj)]
 rw [vb_add,Nat.zero_add] at hA
 rw [Nat.pow_add]
 have h3:W16^i*(vb o2 i lb+cc*W16^lb)=W16^i*(vb o i lb+x*vb b 0 lb):=by rw [hx]
 grind
structure Rwb (w:World) (b n:Nat) (c:Nat→Nat):Prop where
 blk:∃T,w.heap[b]?=some (.cells (Array.ofFn fun i:Fin n=>Value.int .u8 (c i:Nat)) T (0,0))
 lt:∀i,i<n→c i<256
theorem Rwb.cell {w:World} {b n:Nat} {c:Nat→Nat} (h:Rwb w b n c) {i:Nat} (hi:i<n):w.cell? ⟨b,i,none⟩=some (.int .u8 (c i:Nat)):=by
 obtain⟨T,hT⟩:=h.blk
 simp [World.cell?,hT,hi]
theorem Rwb.frozen {w:World} {b n:Nat} {c:Nat→Nat} (h:Rwb w b n c) (i:Nat):w.frozen? ⟨b,i,none⟩=false:=by
 obtain⟨T,hT⟩:=h.blk
 simp [World.frozen?,hT]
theorem Rwb.inHeap {w:World} {b n:Nat} {c:Nat→Nat} (h:Rwb w b n c):b<w.heap.size:=by
 obtain⟨T,hT⟩:=h.blk
 exact(Array.getElem?_eq_some_iff.1 hT).1
theorem Rwb.keep {S:Nat→Prop} {w w':World} {b n:Nat} {c:Nat→Nat} (h:Rwb w b n c) (k:Keep S w w') (hs:¬S b):Rwb w' b n c:=by
 refine⟨?_,h.lt⟩
 rw [k.block b h.inHeap hs];exact h.blk
theorem Rwb.drew {w:World} {b n:Nat} {c:Nat→Nat} (h:Rwb w b n c):Rwb w.drew b n c:=⟨h.blk,h.lt⟩
theorem Rwb.drewN {w:World} {b n:Nat} {c:Nat→Nat} (h:Rwb w b n c) (m:Nat):Rwb (w.drewN m) b n c:=⟨h.blk,h.lt⟩
theorem Rwb.set {w:World} {b n:Nat} {c:Nat→Nat} (h:Rwb w b n c) (i v:Nat) (hv:v<256):Rwb (w.setCell ⟨b,i,none⟩ (.int .u8 (v:Nat))) b n (upd c i v):=by
 obtain⟨T,hT⟩:=h.blk
 refine⟨⟨T,?_⟩,?_⟩
 ·simp only [World.setCell,Array.getElem?_modify,if_true,hT,Option.map_some,Option.some.injEq,Obj.cells.injEq,and_true,Option.isSome_none,Bool.false_eq_true,if_false]
  apply Array.ext
  ·simp
  ·intro j h1 h2
   simp only [Array.size_ofFn] at h2
   rw [Array.getElem_setIfInBounds (by simpa using h2)]
   simp only [Array.getElem_ofFn,upd]
   by_cases e:i=j
   ·subst e;simp
   ·rw [if_neg e,if_neg (fun h=>e h.symm)]
 ·intro j hj
  simp only [upd]
  split
  ·exact hv
  ·exact h.lt j hj
theorem Rwb.setOther {w:World} {b n:Nat} {c:Nat→Nat} (h:Rwb w b n c) {p:Addr} (hp:p.block≠b) (u:Value):Rwb (w.setCell p u) b n c:=by
 refine⟨?_,h.lt⟩
 rw [Below.heap_setCell _ _ _ _ (fun e=>hp e.symm)];exact h.blk
theorem Rwb.ext {w:World} {b n:Nat} {c c':Nat→Nat} (h:Rwb w b n c) (e:∀i,i<n→c' i=c i):Rwb w b n c':=by
 obtain⟨T,hT⟩:=h.blk
 refine⟨⟨T,?_⟩,fun i hi=>by rw [e i hi];exact h.lt i hi⟩
 rw [hT]
 congr 2
 apply Array.ext<;>simp
 intro i hi;rw [e i hi]
theorem Rwb.setRow {w:World} {b N:Nat} {c:Nat→Nat} (h:Rwb w b N c) (o n:Nat) (d:Nat→Nat) (hl:o+n≤N) (hd:∀i,i<n→d i<256) (T:TypeId)
  (hT:w.heap[b]?=some (.cells (Array.ofFn fun i:Fin N=>Value.int .u8 (c i:Nat)) T (0,0))) :
  Rwb (w.setRow b ((Array.ofFn fun i:Fin N=>Value.int .u8 (c i:Nat)).toList.take o++(List.range n).map (fun i=>Value.int .u8 (d i:Nat)) ++
   (Array.ofFn fun i:Fin N=>Value.int .u8 (c i:Nat)).toList.drop (o+n)).toArray) b N (lay c o n d):=by
 refine⟨⟨T,?_⟩,?_⟩
 ·rw [setRow_heap w b _ _ T (0,0) hT]
  congr 2
  apply Array.ext
  ·simp;omega
  ·intro j h1 h2
   simp only [Array.size_ofFn] at h2
   have hlen:((Array.ofFn fun i:Fin N=>Value.int .u8 (c i:Nat)).toList).length=N:=by simp
   simp only [Array.getElem_ofFn,List.getElem_toArray]
   by_cases hj:j<o
   ·rw [List.getElem_append_left (by simp;omega),List.getElem_append_left (by simp;omega)]
    simp [lay_out c o n d (.inl hj)]
   ·by_cases hj2:j<o+n
    ·rw [List.getElem_append_left (by simp;omega),List.getElem_append_right (by simp;omega)]
     have e:=lay_in c o n d (i:=j-o) (by omega)
     rw [show o+(j-o)=j from by omega] at e
     simp only [List.getElem_map,List.getElem_range,List.length_take,hlen,Nat.min_eq_left (show o≤N by omega),e]
    ·rw [List.getElem_append_right (by simp;omega)]
     simp only [List.getElem_drop,List.length_append,List.length_take,List.length_map,List.length_range,hlen,Nat.min_eq_left (show o≤N by omega)]
     have e:o+n+(j-(o+n))=j:=by omega
     simp [e,lay_out c o n d (i:=j) (.inr (by omega))]
 ·intro i hi
  simp only [lay]
  split
  ·exact hd _ (by omega)
  ·exact h.lt i hi
theorem size5:(Tryz.prog.info? 5).map (·.size)=some 1:=by kernel_rfl
theorem run_copy_u8 (dT sT ty:TypeId) (hu:Tryz.prog.underlying dT=some (.slice 5)) {w:World} {bz oz dL dK Nz bx ox sL sK Nx:Nat} {cz cx:Nat→Nat}
  (hz:Rwb w bz Nz cz) (hx:Rwb w bx Nx cx) (n:Nat) (hn:n=Nat.min sL dL) (lz:oz+n≤Nz) (lx:ox+n≤Nx) :
  ∃w' c',(Builtin.copy_ #[dT,sT] ty #[.slice (some ⟨bz,oz,none⟩) dL dK,.slice (some ⟨bx,ox,none⟩) sL sK]).run Tryz.prog w = .ok (goInt n) w' ∧
   Rwb w' bz Nz c'∧Keep (·=bz) w w'∧(∀i,i<n→c' (oz+i)=cx (ox+i))∧(∀i,i<oz∨oz+n≤i→c' i=cz i):=by
 obtain⟨T,hT⟩:=hz.blk
 have hrow:=hz.setRow oz n (fun i=>cx (ox+i)) lz (fun i hi=>hx.lt _ (by omega)) T hT
 have hrun:=run_copy_row Tryz.prog w dT sT ty 5 bz oz dL dK ⟨bx,ox,none⟩ sL sK _ T ((List.range n).map (fun i=>Value.int .u8 (cx (ox+i):Nat))) hu size5 hT
  (by simp [hn]) (fun j v hj=>by
   simp only [List.getElem?_map] at hj
   by_cases hjn:j<n
   ·simp only [List.getElem?_range hjn,Option.map_some,Option.some.injEq] at hj
    subst hj
    have:(⟨bx,ox,none⟩:Addr).add j=⟨bx,ox+j,none⟩:=by unfold Addr.add;split<;>simp_all
    rw [this];exact hx.cell (by omega)
   ·rw [List.getElem?_eq_none (by simp;omega)] at hj;simp at hj) (by simp;omega) (fun v hv=>by
   simp only [List.mem_map] at hv
   obtain⟨i,_,rfl⟩:=hv;rfl)
 simp only [List.length_map,List.length_range] at hrun
 exact⟨_,_,hrun,hrow,keep_setRow _ _ _,fun i hi=>lay_in _ _ _ _ hi,fun i hi=>lay_out _ _ _ _ hi⟩
theorem zero5 (w:World):(zeroValue 5).run Tryz.prog w = .ok (.int .u8 0) w:=by kernel_rfl
theorem run_clear_u8 (T ty:TypeId) (hu:Tryz.prog.underlying T=some (.slice 5)) {w:World} {bz oz n dK Nz:Nat} {cz:Nat→Nat} (hz:Rwb w bz Nz cz) (lz:oz+n≤Nz) :
  ∃w' c',(Builtin.clear_ #[T] ty #[.slice (some ⟨bz,oz,none⟩) n dK]).run Tryz.prog w = .ok (.tuple #[]) w' ∧
   Rwb w' bz Nz c'∧Keep (·=bz) w w'∧(∀i,i<n→c' (oz+i)=0)∧(∀i,i<oz∨oz+n≤i→c' i=cz i):=by
 obtain⟨T',hT⟩:=hz.blk
 have hrow:=hz.setRow oz n (fun _=>0) lz (fun i _=>(by decide)) T' hT
 by_cases h0:n=0
 ·subst h0
  refine⟨w,cz,?_,hz,Keep.refl _ _,fun i hi=>by omega,fun i _=>rfl⟩
  simp [Builtin.clear_,run_underlying hu]
 ·have e1:((List.range n).map (fun i=>Value.int .u8 (((fun _=>0) i:Nat):Int)))=List.replicate n (Value.int .u8 0):=by
   apply List.ext_getElem<;>simp
  rw [e1] at hrow
  have hst:=run_storeCells_at Tryz.prog bz oz T' (List.replicate n (Value.int .u8 0)) 0 _ w hT (by simp;omega) (fun v hv=>by
   rw [List.mem_replicate] at hv;rw [hv.2];rfl)
  simp only [Nat.add_zero,List.length_replicate] at hst
  refine⟨_,_,?_,hrow,keep_setRow _ _ _,fun i hi=>lay_in _ _ _ _ hi,fun i hi=>lay_out _ _ _ _ hi⟩
  have e2:(Builtin.zeroCells (Value.int .u8 0).cells n).toList=List.replicate n (Value.int .u8 0):=by
   have e3:(Value.int .u8 0).cells=#[Value.int .u8 0]:=rfl
   rw [e3]
   apply List.ext_getElem
   ·simp [Builtin.zeroCells]
   ·intro i h1 h2
    simp [Builtin.zeroCells,Nat.mod_one]
  obtain⟨m,rfl⟩:∃m,n=m+1:=⟨n-1,by omega⟩
  simp only [Builtin.clear_,Sem.run_bind,Sem.run_pure,run_underlying hu,Ls5,Ls4,Result.andThen_ok]
  simp only [zero5,Result.andThen_ok,e2,hst]
end Go.Proofs.YtofkehhflkdabaaGreatDoor
namespace Go.Proofs.YtofkehhflkdabaaGreatDoor.Ec
section
variable {p:Nat} [NeZero p]
def inv (x:Fin p):Fin p:=Fin.ofNat p (x.val^(p-2))
theorem mul_inv (hp:Pr p) {x:Fin p} (hx:x≠0):x*inv x=1:=by
 have h2:=hp.1
 have hv:¬p∣x.val:=by
  intro h
  have h0:x.val=0:=by
   rcases Nat.eq_zero_or_pos x.val with h' | h'
   ·exact h'
   ·exact absurd (Nat.le_of_dvd h' h) (by have:=x.isLt;omega)
  exact hx (Fin.ext (by simpa using h0))
 have h:=hp.fermat1 x.val hv
 apply Fin.ext
 have e1:(1:Fin p).val=1%p:=rfl
 rw [Fin.val_mul,e1,Nat.mod_eq_of_lt (by omega:1<p)]
 show x.val*(x.val^(p-2)%p)%p=1
 rw [Nat.mul_mod,Nat.mod_mod,← Nat.mul_mod,Nat.mul_comm,← Nat.pow_succ]
 rw [show (p-2).succ=p-1 from by omega]
 exact h
theorem mul_zero' (hp:Pr p) {x y:Fin p} (h:x*y=0) (hx:x≠0):y=0:=by
 have h1:=mul_inv hp hx
 have:inv x*(x*y)=0:=by rw [h];grind
 grind
theorem cancel (hp:Pr p) {t x y:Fin p} (ht:t≠0) (h:t*x=t*y):x=y:=by
 have:t*(x-y)=0:=by grind
 have:=mul_zero' hp this ht
 grind
theorem mul_ne (hp:Pr p) {x y:Fin p} (hx:x≠0) (hy:y≠0):x*y≠0:=
 fun h=>hy (mul_zero' hp h hx)
abbrev Pt (p:Nat):=Option (Fin p×Fin p)
def on (a b:Fin p):Pt p→Prop
 | none=>True
 | some (x,y)=>y*y=x*x*x+a*x+b
def neg:Pt p→Pt p
 | none=>none
 | some (x,y)=>some (x,-y)
def thru (l x1 y1 x2:Fin p):Pt p:=some (l*l-x1-x2,l*(x1-(l*l-x1-x2))-y1)
def dbl (a:Fin p):Pt p→Pt p
 | none=>none
 | some (x,y)=>if y=0 then none else thru ((3*(x*x)+a)*inv (2*y)) x y x
def add (a:Fin p):Pt p→Pt p→Pt p
 | none,q=>q
 | some P,none=>some P
 | some (x1,y1),some (x2,y2)=>
  if x1=x2 then (if y1=y2 then dbl a (some (x1,y1)) else none)
  else thru ((y2-y1)*inv (x2-x1)) x1 y1 x2
theorem same_x (hp:Pr p) {a b x y1 y2:Fin p} (h1:on a b (some (x,y1))) (h2:on a b (some (x,y2))) (h:y1≠y2):y1 = -y2:=by
 simp only [on] at h1 h2
 have:(y1-y2)*(y1+y2)=0:=by grind
 have:=mul_zero' hp this (by grind)
 grind
theorem line_a (hp:Pr p) {a b x g s c:Fin p} (hx:x≠g) (h1:on a b (some (x,s*x+c))) (h2:on a b (some (g,s*g+c))) :
  a=x*g+x*(s*s-x-g)+g*(s*s-x-g)+2*s*c:=by
 simp only [on] at h1 h2
 refine cancel hp (t:=x-g) (by grind) ?_
 grind
theorem thru_on {a b x g s c:Fin p} (ha:a=x*g+x*(s*s-x-g)+g*(s*s-x-g)+2*s*c)
  (h1:on a b (some (x,s*x+c))):on a b (thru s x (s*x+c) g):=by
 simp only [on,thru] at *
 grind
theorem chord_slope (hp:Pr p) {x g s c:Fin p} (h:x≠g):(s*g+c-(s*x+c))*inv (g-x)=s:=by
 have hi:=mul_inv hp (x:=g-x) (by grind)
 grind
theorem tan_slope (hp:Pr p) {y s n:Fin p} (h2:(2:Fin p)≠0) (hy:y≠0) (h:2*y*s=n):n*inv (2*y)=s:=by
 have hi:=mul_inv hp (mul_ne hp h2 hy)
 grind
theorem thru_line {s x g c:Fin p}:thru s x (s*x+c) g=some (s*s-x-g,-(s*(s*s-x-g)+c)):=by
 simp only [thru,Option.some.injEq,Prod.mk.injEq,true_and]
 grind
theorem add_chord (hp:Pr p) (a:Fin p) {x g s c:Fin p} (h:x≠g) :
  add a (some (x,s*x+c)) (some (g,s*g+c))=some (s*s-x-g,-(s*(s*s-x-g)+c)):=by
 simp only [add,if_neg h,chord_slope hp h,thru_line]
theorem dbl_tan (hp:Pr p) (a:Fin p) {x s c:Fin p} (h2:(2:Fin p)≠0) (hy:s*x+c≠0) (h:2*(s*x+c)*s=3*(x*x)+a) :
  dbl a (some (x,s*x+c))=some (s*s-x-x,-(s*(s*s-x-x)+c)):=by
 simp only [dbl,if_neg hy,tan_slope hp h2 hy h,thru_line]
theorem chord (hp:Pr p) {x1 y1 x2 y2:Fin p} (h:x1≠x2):∃s c,y1=s*x1+c∧y2=s*x2+c:=by
 have hi:=mul_inv hp (x:=x2-x1) (by grind)
 exact⟨(y2-y1)*inv (x2-x1),y1-(y2-y1)*inv (x2-x1)*x1,by grind,by grind⟩
theorem tangent (hp:Pr p) (a:Fin p) {x y:Fin p} (h2:(2:Fin p)≠0) (hy:y≠0):∃s c,y=s*x+c∧2*(s*x+c)*s=3*(x*x)+a:=by
 have hi:=mul_inv hp (mul_ne hp h2 hy)
 exact⟨(3*(x*x)+a)*inv (2*y),y-(3*(x*x)+a)*inv (2*y)*x,by grind,by grind⟩
theorem on_neg {a b:Fin p} {P:Pt p} (h:on a b P):on a b (neg P):=by
 rcases P with _ | ⟨x,y⟩
 ·trivial
 ·simp only [on,neg] at *;grind
theorem neg_neg' (P:Pt p):neg (neg P)=P:=by
 rcases P with _ | ⟨x,y⟩
 ·rfl
 ·simp only [neg,Option.some.injEq,Prod.mk.injEq,true_and];grind
theorem on_dbl (hp:Pr p) {a b:Fin p} (h2:(2:Fin p)≠0) {P:Pt p} (h:on a b P):on a b (dbl a P):=by
 rcases P with _ | ⟨x,y⟩
 ·trivial
 ·by_cases hy:y=0
  ·simp [dbl,hy,on]
  ·obtain⟨s,c,rfl,ht⟩:=tangent hp a (x:=x) h2 hy
   rw [dbl_tan hp a h2 hy ht]
   simp only [on] at *
   grind
theorem on_add (hp:Pr p) {a b:Fin p} (h2:(2:Fin p)≠0) {P Q:Pt p} (h:on a b P) (h':on a b Q):on a b (add a P Q):=by
 rcases P with _ | ⟨x,y⟩
 ·exact h'
 rcases Q with _ | ⟨g,k⟩
 ·exact h
 by_cases hx:x=g
 ·subst hx
  by_cases hy:y=k
  ·subst hy
   have:=on_dbl hp h2 h
   simpa [add] using this
  ·simp [add,hy,on]
 ·obtain⟨s,c,rfl,rfl⟩:=chord hp (y1:=y) (y2:=k) hx
  rw [add_chord hp a hx]
  have ha:=line_a hp hx h h'
  simp only [on] at *
  grind
theorem add_comm' (hp:Pr p) {a:Fin p} {P Q:Pt p}:add a P Q=add a Q P:=by
 rcases P with _ | ⟨x,y⟩
 ·cases Q<;>rfl
 rcases Q with _ | ⟨g,k⟩
 ·rfl
 by_cases hx:x=g
 ·subst hx
  by_cases hy:y=k
  ·subst hy;rfl
  ·simp [add,hy,Ne.symm hy]
 ·obtain⟨s,c,rfl,rfl⟩:=chord hp (y1:=y) (y2:=k) hx
  rw [add_chord hp a hx,add_chord hp a (Ne.symm hx)]
  simp only [Option.some.injEq,Prod.mk.injEq]
  constructor<;>grind
theorem third (hp:Pr p) {a b:Fin p} (h2:(2:Fin p)≠0) {P Q:Pt p} {g h:Fin p} (hh:h≠0) (hP:on a b P) (hG:on a b (some (g,h)))
  (e:add a P (some (g,h))=neg Q):add a Q (some (g,h))=neg P:=by
 have hQ:Q=neg (add a P (some (g,h))):=by rw [e,neg_neg']
 subst hQ
 clear e
 have hnn:-h≠h:=by
  intro e'
  have:2*h=0:=by grind
  exact hh (mul_zero' hp this h2)
 rcases P with _ | ⟨x,y⟩
 ·simp [add,neg,hnn]
 by_cases hx:x=g
 ·subst hx
  by_cases hy:y=h
  ·subst hy
   simp only [add,if_true]
   obtain⟨s,c,rfl,ht⟩:=tangent hp a (x:=x) h2 hh
   rw [dbl_tan hp a h2 hh ht]
   simp only [neg]
   have e1:- -(s*(s*s-x-x)+c)=s*(s*s-x-x)+c:=by grind
   rw [e1]
   by_cases hu:s*s-x-x=x
   ·simp only [hu,if_true,dbl_tan hp a h2 hh ht]
   ·have:=add_chord hp a (s:=s) (c:=c) hu
    simp only [add,if_neg hu] at this ⊢
    rw [this]
    simp only [Option.some.injEq,Prod.mk.injEq]
    constructor<;>grind
  ·have:=same_x hp hP hG hy
   subst this
   simp [add,neg,hnn]
   grind
 ·obtain⟨s,c,rfl,rfl⟩:=chord hp (y1:=y) (y2:=h) hx
  have ha:=line_a hp hx hP hG
  rw [add_chord hp a hx]
  simp only [neg]
  have e1:- -(s*(s*s-x-g)+c)=s*(s*s-x-g)+c:=by grind
  rw [e1]
  by_cases hu:s*s-x-g=g
  ·have ht:2*(s*g+c)*s=3*(g*g)+a:=by grind
   have:=dbl_tan hp a h2 hh ht
   simp only [add,hu,if_true,this]
   simp only [Option.some.injEq,Prod.mk.injEq]
   constructor<;>grind
  ·rw [add_chord hp a hu]
   simp only [Option.some.injEq,Prod.mk.injEq]
   constructor<;>grind
end
theorem pq0:Pr 50123:=pr_trial 224 (by decide) (by decide +kernel) (by decide)
theorem pq1:Pr 41802583:=pock (q:=50123) (c:=834) (a:=2) (f:=26) pq0 (by decide +kernel) (by decide +kernel) (by decide +kernel) (by decide +kernel) (by decide +kernel) (by decide +kernel)
theorem pq2:Pr 1674656872585139:=pock (q:=41802583) (c:=40061086) (a:=2) (f:=51) pq1 (by decide +kernel) (by decide +kernel) (by decide +kernel) (by decide +kernel) (by decide +kernel) (by decide +kernel)
theorem pq3:Pr 190455129210693390224369129:=pock (q:=1674656872585139) (c:=113727852152) (a:=2) (f:=88) pq2 (by decide +kernel) (by decide +kernel) (by decide +kernel) (by decide +kernel) (by decide +kernel) (by decide +kernel)
theorem pq4:Pr 114430077720284863765762092766225391679591020381:=pock (q:=190455129210693390224369129) (c:=600824342166679828220) (a:=2) (f:=157) pq3 (by decide +kernel) (by decide +kernel) (by decide +kernel) (by decide +kernel) (by decide +kernel) (by decide +kernel)
theorem pq5:Pr 4271386466502519123378319257166758282929862876911918307708639947947974242171:=pock (q:=114430077720284863765762092766225391679591020381) (c:=37327480253431098314445125570) (a:=2) (f:=252) pq4 (by decide +kernel) (by decide +kernel) (by decide +kernel) (by decide +kernel) (by decide +kernel) (by decide +kernel)
theorem pq6:Pr 76884956397045344220809746629001649092737531784414529538755519063063536359079:=pock (q:=4271386466502519123378319257166758282929862876911918307708639947947974242171) (c:=18) (a:=2) (f:=256) pq5 (by decide +kernel) (by decide +kernel) (by decide +kernel) (by decide +kernel) (by decide +kernel) (by decide +kernel)
theorem pq7:Pr 921589:=pr_trial 960 (by decide) (by decide +kernel) (by decide)
theorem pq8:Pr 3686357:=pock (q:=921589) (c:=4) (a:=2) (f:=22) pq7 (by decide +kernel) (by decide +kernel) (by decide +kernel) (by decide +kernel) (by decide +kernel) (by decide +kernel)
theorem pq9:Pr 719569513687:=pock (q:=3686357) (c:=195198) (a:=2) (f:=40) pq8 (by decide +kernel) (by decide +kernel) (by decide +kernel) (by decide +kernel) (by decide +kernel) (by decide +kernel)
theorem pq10:Pr 22709:=pr_trial 151 (by decide) (by decide +kernel) (by decide)
theorem pq11:Pr 2851:=pr_trial 54 (by decide) (by decide +kernel) (by decide)
theorem pq12:Pr 151499460061:=pock2 (q:=22709) (c:=6671340) (q':=2851) (c':=53139060) (a:=2) (f:=38) pq10 pq11 (by decide +kernel) (by decide +kernel) (by decide +kernel) (by decide +kernel) (by decide +kernel) (by decide +kernel) (by decide +kernel) (by decide +kernel) (by decide +kernel)
theorem pq13:Pr 49712609355733181957277501974736893:=pock2 (q:=719569513687) (c:=69086597486615152751716) (q':=151499460061) (c':=328137204817210651862572) (a:=2) (f:=116) pq9 pq12 (by decide +kernel) (by decide +kernel) (by decide +kernel) (by decide +kernel) (by decide +kernel) (by decide +kernel) (by decide +kernel) (by decide +kernel) (by decide +kernel)
theorem pq14:Pr 3059213862715144055733503214373292934438943635608167530247:=pock (q:=49712609355733181957277501974736893) (c:=61537986083652146580222) (a:=2) (f:=191) pq13 (by decide +kernel) (by decide +kernel) (by decide +kernel) (by decide +kernel) (by decide +kernel) (by decide +kernel)
theorem pq15:Pr 76884956397045344220809746629001649093037950200943055203735601445031516197751:=pock (q:=3059213862715144055733503214373292934438943635608167530247) (c:=25132259412817788250) (a:=2) (f:=256) pq14 (by decide +kernel) (by decide +kernel) (by decide +kernel) (by decide +kernel) (by decide +kernel) (by decide +kernel)
theorem pq16:Pr 2083:=pr_trial 46 (by decide) (by decide +kernel) (by decide)
theorem pq17:Pr 2520431:=pock (q:=2083) (c:=1210) (a:=2) (f:=22) pq16 (by decide +kernel) (by decide +kernel) (by decide +kernel) (by decide +kernel) (by decide +kernel) (by decide +kernel)
theorem pq18:Pr 9341:=pr_trial 97 (by decide) (by decide +kernel) (by decide)
theorem pq19:Pr 49393939847159:=pock2 (q:=2520431) (c:=19597418) (q':=9341) (c':=5287864238) (a:=2) (f:=46) pq17 pq18 (by decide +kernel) (by decide +kernel) (by decide +kernel) (by decide +kernel) (by decide +kernel) (by decide +kernel) (by decide +kernel) (by decide +kernel) (by decide +kernel)
theorem pq20:Pr 43397:=pr_trial 209 (by decide) (by decide +kernel) (by decide)
theorem pq21:Pr 11543603:=pock (q:=43397) (c:=266) (a:=2) (f:=24) pq20 (by decide +kernel) (by decide +kernel) (by decide +kernel) (by decide +kernel) (by decide +kernel) (by decide +kernel)
theorem pq22:Pr 1454493979:=pock (q:=11543603) (c:=126) (a:=2) (f:=31) pq21 (by decide +kernel) (by decide +kernel) (by decide +kernel) (by decide +kernel) (by decide +kernel) (by decide +kernel)
theorem pq23:Pr 2788900573532341797131599550190476443808598899:=pock2 (q:=49393939847159) (c:=56462403731350688886834502174622) (q':=1454493979) (c':=1917437001320403401361621965291391862) (a:=2) (f:=151) pq19 pq22 (by decide +kernel) (by decide +kernel) (by decide +kernel) (by decide +kernel) (by decide +kernel) (by decide +kernel) (by decide +kernel) (by decide +kernel) (by decide +kernel)
theorem pq24:Pr 669909697361913545660898382546007419518544524592370543:=pock (q:=2788900573532341797131599550190476443808598899) (c:=240205658) (a:=2) (f:=179) pq23 (by decide +kernel) (by decide +kernel) (by decide +kernel) (by decide +kernel) (by decide +kernel) (by decide +kernel)
theorem pq25:Pr 90050068090664042551646936303486902724615855323314057604193773:=pock (q:=669909697361913545660898382546007419518544524592370543) (c:=134421204) (a:=2) (f:=206) pq24 (by decide +kernel) (by decide +kernel) (by decide +kernel) (by decide +kernel) (by decide +kernel) (by decide +kernel)
theorem pq26:Pr 21659270770119316173069236842332604979796116387017648600075645274821611501358515537962695117368903252229601718723941:=pock (q:=90050068090664042551646936303486902724615855323314057604193773) (c:=240524757275167958171323735920413074714093906789297780) (a:=2) (f:=384) pq25 (by decide +kernel) (by decide +kernel) (by decide +kernel) (by decide +kernel) (by decide +kernel) (by decide +kernel)
theorem pq27:Pr 1871:=pr_trial 44 (by decide) (by decide +kernel) (by decide)
theorem pq28:Pr 1627771:=pock (q:=1871) (c:=870) (a:=2) (f:=21) pq27 (by decide +kernel) (by decide +kernel) (by decide +kernel) (by decide +kernel) (by decide +kernel) (by decide +kernel)
theorem pq29:Pr 297159362677:=pock (q:=1627771) (c:=182556) (a:=2) (f:=39) pq28 (by decide +kernel) (by decide +kernel) (by decide +kernel) (by decide +kernel) (by decide +kernel) (by decide +kernel)
theorem pq30:Pr 28181:=pr_trial 168 (by decide) (by decide +kernel) (by decide)
theorem pq31:Pr 545358713:=pock (q:=28181) (c:=19352) (a:=2) (f:=30) pq30 (by decide +kernel) (by decide +kernel) (by decide +kernel) (by decide +kernel) (by decide +kernel) (by decide +kernel)
theorem pq32:Pr 29047611873442575647497758179:=pock2 (q:=297159362677) (c:=97750956294169114) (q':=545358713) (c':=53263313083699784306) (a:=2) (f:=95) pq29 pq31 (by decide +kernel) (by decide +kernel) (by decide +kernel) (by decide +kernel) (by decide +kernel) (by decide +kernel) (by decide +kernel) (by decide +kernel) (by decide +kernel)
theorem pq33:Pr 341948486974166000522343609283189:=pock (q:=29047611873442575647497758179) (c:=11772) (a:=2) (f:=109) pq32 (by decide +kernel) (by decide +kernel) (by decide +kernel) (by decide +kernel) (by decide +kernel) (by decide +kernel)
theorem pq34:Pr 9349:=pr_trial 97 (by decide) (by decide +kernel) (by decide)
theorem pq35:Pr 44706919:=pock (q:=9349) (c:=4782) (a:=2) (f:=26) pq34 (by decide +kernel) (by decide +kernel) (by decide +kernel) (by decide +kernel) (by decide +kernel) (by decide +kernel)
theorem pq36:Pr 120233:=pr_trial 347 (by decide) (by decide +kernel) (by decide)
theorem pq37:Pr 174723607534414371449:=pock2 (q:=44706919) (c:=3908200597192) (q':=120233) (c':=1453208416444856) (a:=2) (f:=68) pq35 pq36 (by decide +kernel) (by decide +kernel) (by decide +kernel) (by decide +kernel) (by decide +kernel) (by decide +kernel) (by decide +kernel) (by decide +kernel) (by decide +kernel)
theorem pq38:Pr 115792089237316195423570985008687907852837564279074904382605163141518161494337:=pock2 (q:=341948486974166000522343609283189) (c:=338624364920977752681389262317185522840540224) (q':=174723607534414371449) (c':=662715765037699607481235088557493206623080876315205958464) (a:=2) (f:=256) pq33 pq37 (by decide +kernel) (by decide +kernel) (by decide +kernel) (by decide +kernel) (by decide +kernel) (by decide +kernel) (by decide +kernel) (by decide +kernel) (by decide +kernel)
theorem pq39:Pr 107590001:=pr_trial 10373 (by decide) (by decide +kernel) (by decide)
theorem pq40:Pr 20113:=pr_trial 142 (by decide) (by decide +kernel) (by decide)
theorem pq41:Pr 1206781:=pock (q:=20113) (c:=60) (a:=2) (f:=21) pq40 (by decide +kernel) (by decide +kernel) (by decide +kernel) (by decide +kernel) (by decide +kernel) (by decide +kernel)
theorem pq42:Pr 7240687:=pock (q:=1206781) (c:=6) (a:=2) (f:=23) pq41 (by decide +kernel) (by decide +kernel) (by decide +kernel) (by decide +kernel) (by decide +kernel) (by decide +kernel)
theorem pq43:Pr 96557:=pr_trial 311 (by decide) (by decide +kernel) (by decide)
theorem pq44:Pr 255515944373312847190720520512484175977:=pock3 (q:=107590001) (c:=2374904191824599455024826335976) (q':=7240687) (c':=35288908963101546467996824129048) (r':=96557) (d:=2646270538369179315748423423599368) (a:=2) (f:=128) pq39 pq42 pq43 (by decide +kernel) (by decide +kernel) (by decide +kernel) (by decide +kernel) (by decide +kernel) (by decide +kernel) (by decide +kernel) (by decide +kernel) (by decide +kernel) (by decide +kernel) (by decide +kernel) (by decide +kernel) (by decide +kernel)
theorem pq45:Pr 205115282021455665897114700593932402728804164701536103180137503955397371:=pock (q:=255515944373312847190720520512484175977) (c:=802749442992798076634733441528810) (a:=2) (f:=237) pq44 (by decide +kernel) (by decide +kernel) (by decide +kernel) (by decide +kernel) (by decide +kernel) (by decide +kernel)
theorem pq46:Pr 115792089237316195423570985008687907853269984665640564039457584007908834671663:=pock (q:=205115282021455665897114700593932402728804164701536103180137503955397371) (c:=564522) (a:=2) (f:=256) pq45 (by decide +kernel) (by decide +kernel) (by decide +kernel) (by decide +kernel) (by decide +kernel) (by decide +kernel)
theorem pq47:Pr 227:=pr_trial 16 (by decide) (by decide +kernel) (by decide)
theorem pq48:Pr 89:=pr_trial 10 (by decide) (by decide +kernel) (by decide)
theorem pq49:Pr 67:=pr_trial 9 (by decide) (by decide +kernel) (by decide)
theorem pq50:Pr 2663886769:=pock3 (q:=227) (c:=11735184) (q':=89) (c':=29931312) (r':=67) (d:=39759504) (a:=2) (f:=32) pq47 pq48 pq49 (by decide +kernel) (by decide +kernel) (by decide +kernel) (by decide +kernel) (by decide +kernel) (by decide +kernel) (by decide +kernel) (by decide +kernel) (by decide +kernel) (by decide +kernel) (by decide +kernel) (by decide +kernel) (by decide +kernel)
theorem pq51:Pr 7057776167979264311:=pock (q:=2663886769) (c:=2649427990) (a:=2) (f:=63) pq50 (by decide +kernel) (by decide +kernel) (by decide +kernel) (by decide +kernel) (by decide +kernel) (by decide +kernel)
theorem pq52:Pr 9511259360250244436150360929400467:=pock (q:=7057776167979264311) (c:=1347628365348606) (a:=2) (f:=113) pq51 (by decide +kernel) (by decide +kernel) (by decide +kernel) (by decide +kernel) (by decide +kernel) (by decide +kernel)
theorem pq53:Pr 337:=pr_trial 19 (by decide) (by decide +kernel) (by decide)
theorem pq54:Pr 71:=pr_trial 9 (by decide) (by decide +kernel) (by decide)
theorem pq55:Pr 123606883:=pock2 (q:=337) (c:=366786) (q':=71) (c':=1740942) (a:=2) (f:=27) pq53 pq54 (by decide +kernel) (by decide +kernel) (by decide +kernel) (by decide +kernel) (by decide +kernel) (by decide +kernel) (by decide +kernel) (by decide +kernel) (by decide +kernel)
theorem pq56:Pr 13843970897:=pock (q:=123606883) (c:=112) (a:=2) (f:=34) pq55 (by decide +kernel) (by decide +kernel) (by decide +kernel) (by decide +kernel) (by decide +kernel) (by decide +kernel)
theorem pq57:Pr 8076987940436711:=pock (q:=13843970897) (c:=583430) (a:=2) (f:=53) pq56 (by decide +kernel) (by decide +kernel) (by decide +kernel) (by decide +kernel) (by decide +kernel) (by decide +kernel)
theorem pq58:Pr 726928914639303991:=pock (q:=8076987940436711) (c:=90) (a:=2) (f:=60) pq57 (by decide +kernel) (by decide +kernel) (by decide +kernel) (by decide +kernel) (by decide +kernel) (by decide +kernel)
theorem pq59:Pr 12811352796235023217778801482819:=pock (q:=726928914639303991) (c:=17623941678798) (a:=2) (f:=104) pq58 (by decide +kernel) (by decide +kernel) (by decide +kernel) (by decide +kernel) (by decide +kernel) (by decide +kernel)
theorem pq60:Pr 13857381403312519376221497559214358876512960238914501360589056738895920081:=pock2 (q:=9511259360250244436150360929400467) (c:=1456944961592123695994529929878565824240) (q':=12811352796235023217778801482819) (c':=1081648567775364138002550049959772132622320) (a:=2) (f:=243) pq52 pq59 (by decide +kernel) (by decide +kernel) (by decide +kernel) (by decide +kernel) (by decide +kernel) (by decide +kernel) (by decide +kernel) (by decide +kernel) (by decide +kernel)
theorem pq61:Pr 21659270770119316173069236842332604979796116387017648600081618503821089934025961822236561982844534088440708417973331:=pock (q:=13857381403312519376221497559214358876512960238914501360589056738895920081) (c:=1563013251907882429420135878444621479658930) (a:=2) (f:=384) pq60 (by decide +kernel) (by decide +kernel) (by decide +kernel) (by decide +kernel) (by decide +kernel) (by decide +kernel)
end Go.Proofs.YtofkehhflkdabaaGreatDoor.Ec
namespace Go.Proofs.YtofkehhflkdabaaGreatDoor
open Go Go.RowKit
def nlzN (x:Nat):Nat:=64-Lib.bitLen x
theorem nlz_spec {x:Nat} (h0:0<x) (hx:x<W64):nlzN x<64∧2^63≤x*2^nlzN x∧x*2^nlzN x<W64:=by
 obtain⟨h1,h2,h3⟩:=Lib.bitLenAux_bounds 64 x (by rw [← W64_eq];exact hx) (by omega)
 have h4:Lib.bitLen x≤64:=by
  refine Classical.byContradiction fun h=>?_
  have:2^64≤2^(Lib.bitLenAux 64 x-1):=Nat.pow_le_pow_right (by decide) (by unfold Lib.bitLen at h;omega)
  rw [← W64_eq] at this
  omega
 unfold nlzN
 unfold Lib.bitLen at *
 refine⟨by omega,?_,?_⟩
 ·have:=Nat.mul_le_mul_right (2^(64-Lib.bitLenAux 64 x)) h2
  rw [← Nat.pow_add] at this
  rw [show Lib.bitLenAux 64 x-1+(64-Lib.bitLenAux 64 x)=63 from by omega] at this
  exact this
 ·have:=Nat.mul_lt_mul_of_pos_right h3 (Nat.pow_pos (n:=64-Lib.bitLenAux 64 x) (show 0<2 by decide))
  rw [← Nat.pow_add] at this
  rw [show Lib.bitLenAux 64 x+(64-Lib.bitLenAux 64 x)=64 from by omega] at this
  rw [W64_eq];exact this
theorem guess {d v x1 x0 q:Nat} (hd:d≤W64) (hx1:x1<d) (hx0:x0<W64) (hv1:v*d≤W64*W64-1) (hv2:W64*W64-1<(v+1)*d)
  (hq1:q*W64≤v*x1+x0) (hq2:v*x1+x0<(q+1)*W64):q*d≤x1*W64+x0∧x1*W64+x0<q*d+W64+d:=by
 generalize hW:W64=W at *
 have hW1:1≤W*W:=by
  have:0<W:=by omega
  exact Nat.mul_pos this this
 constructor
 ·refine Nat.le_of_mul_le_mul_right ?_ (show 0<W by omega)
  have e1:q*d*W=q*W*d:=by grind
  have e2:=Nat.mul_le_mul_right d hq1
  have e3:(v*x1+x0)*d=v*d*x1+x0*d:=by grind
  have e4:=Nat.mul_le_mul_right x1 (show v*d≤W*W by omega)
  have e5:=Nat.mul_le_mul_left x0 hd
  have e6:(x1*W+x0)*W=W*W*x1+x0*W:=by grind
  omega
 ·refine Nat.lt_of_mul_lt_mul_right (a:=W) ?_
  have e2:(v*x1+x0)*d<(q+1)*W*d:=Nat.mul_lt_mul_of_pos_right hq2 (by omega)
  have e3:(v*x1+x0)*d=v*d*x1+x0*d:=by grind
  have e4:=Nat.mul_le_mul_right x1 (show W*W≤v*d+d by rw [Nat.succ_mul] at hv2;omega)
  have e5:(v*d+d)*x1=v*d*x1+d*x1:=by grind
  have e6:(x1*W+x0)*W=W*W*x1+x0*W:=by grind
  have e7:(q+1)*W*d=q*d*W+d*W:=by grind
  have e8:(q*d+W+d)*W=q*d*W+W*W+d*W:=by grind
  have e9:x0*W+d*x1<W*W+x0*d:=by
   obtain⟨k,rfl⟩:∃k,W=d+k:=⟨W-d,by omega⟩
   have a1:x0*(d+k)=x0*d+x0*k:=Nat.mul_add _ _ _
   have a2:x0*k≤(d+k)*k:=Nat.mul_le_mul_right k (by omega)
   have a3:d*x1<d*d+d*k+1:=by
    have:=Nat.mul_le_mul_left d (show x1≤d by omega)
    omega
   have a4:d*x1+d≤d*d:=by
    have:=Nat.mul_le_mul_left d (show x1+1≤d by omega)
    rw [Nat.mul_add,Nat.mul_one] at this;exact this
   have a5:(d+k)*(d+k)=d*d+d*k+(d+k)*k:=by grind
   have a6:0<d:=by omega
   omega
  omega
theorem div_of {a d q r:Nat} (h:a=q*d+r) (hr:r<d):a / d=q∧a%d=r:=by
 subst h
 constructor
 ·rw [Nat.add_comm,Nat.add_mul_div_right _ _ (by omega),Nat.div_eq_of_lt hr,Nat.zero_add]
 ·rw [Nat.add_comm,Nat.add_mul_mod_self_right,Nat.mod_eq_of_lt hr]
theorem digit_ok {B u1 un1 yn1 yn0 q r:Nat} (_hy0:yn0<B) (_hun1:un1<B) (hr:r+q*yn1=u1) (hle:q*yn0≤B*r+un1) (hge:u1*B+un1<(q+1)*(yn1*B+yn0)) :
  (u1*B+un1) / (yn1*B+yn0)=q:=by
 have h1:q*(yn1*B+yn0)≤u1*B+un1:=by
  have e:q*(yn1*B+yn0)=q*yn1*B+q*yn0:=by grind
  have e2:u1*B=r*B+q*yn1*B:=by rw [← hr];grind
  have e3:B*r=r*B:=Nat.mul_comm _ _
  omega
 have h2:u1*B+un1=q*(yn1*B+yn0)+(u1*B+un1-q*(yn1*B+yn0)):=by omega
 have h3:u1*B+un1-q*(yn1*B+yn0)<yn1*B+yn0:=by rw [Nat.succ_mul] at hge;omega
 exact(div_of h2 h3).1
theorem digit_down {B u1 un1 yn1 yn0 q r:Nat} (hq:0<q) (hr:r+q*yn1=u1) (h:B*r+un1<q*yn0) :
  u1*B+un1<(q-1+1)*(yn1*B+yn0):=by
 rw [Nat.sub_add_cancel hq]
 have e:q*(yn1*B+yn0)=q*yn1*B+q*yn0:=by grind
 have e2:u1*B=r*B+q*yn1*B:=by rw [← hr];grind
 have e3:B*r=r*B:=Nat.mul_comm _ _
 omega
end Go.Proofs.YtofkehhflkdabaaGreatDoor
namespace Go.Proofs.YtofkehhflkdabaaGreatDoor.Ec
section
variable {p:Nat} [NeZero p]
theorem idM {x g s c l a:Fin p} (ha:a=x*g+x*(s*s-x-g)+g*(s*s-x-g)+2*s*c) (ht:2*(s*x+c)*l=3*(x*x)+a) :
  (l*l-x-x-g)*((2*(s*x+c))*(2*(s*x+c)))=(g-s*s+2*x)*(-4*(c*c)-4*c*g*s-4*c*s*x+g*g*g-(g*g)*(s*s)-2*g*(s*s)*x-3*g*(x*x)-(s*s)*(x*x)+2*(x*x*x)):=by
 have e:(l*l-x-x-g)*((2*(s*x+c))*(2*(s*x+c)))=(2*(s*x+c)*l)*(2*(s*x+c)*l)-(x+x+g)*((2*(s*x+c))*(2*(s*x+c))):=by clear ha ht;grind
 rw [e,ht,ha]
 clear e ht ha
 grind
theorem idK {x g s c l a:Fin p} (ha:a=x*g+x*(s*s-x-g)+g*(s*s-x-g)+2*s*c) (ht:2*(s*x+c)*l=3*(x*x)+a) :
  (2*(s*x+c))*(2*(s*x+c))*((-(l*(l*l-x-x)+(s*x+c-l*x))-(s*g+c))*(2*(s*x+c)*(g-s*s+2*x))) =
  (2*(s*x+c))*(2*(s*x+c))*((l*l-x-x-g) * -(-4*(c*c)+2*c*g*s-2*c*(s*s*s)-4*c*s*x-g*g*g+2*(g*g)*(s*s)-3*(g*g)*x-g*(s*s*s*s)+4*g*(s*s)*x-(s*s*s*s)*x-4*(s*s)*(x*x)+4*(x*x*x))):=by
 have e1:(2*(s*x+c))*(2*(s*x+c))*((-(l*(l*l-x-x)+(s*x+c-l*x))-(s*g+c))*(2*(s*x+c)*(g-s*s+2*x))) =
  (g-s*s+2*x)*(-((2*(s*x+c)*l)*(2*(s*x+c)*l)*(2*(s*x+c)*l))+3*x*(2*(s*x+c)*l)*((2*(s*x+c))*(2*(s*x+c)))-((2*(s*x+c))*(2*(s*x+c))*(2*(s*x+c)))*(s*x+c+(s*g+c))):=by clear ha ht;grind
 have e2:∀K,(2*(s*x+c))*(2*(s*x+c))*((l*l-x-x-g)*K)=((2*(s*x+c)*l)*(2*(s*x+c)*l)-(x+x+g)*((2*(s*x+c))*(2*(s*x+c))))*K:=by clear e1 ha ht;intro K;grind
 rw [e1,e2,ht,ha]
 clear e1 e2 ht ha
 grind
theorem idX3 (x g s c:Fin p):(-4*(c*c)+2*c*g*s-2*c*(s*s*s)-4*c*s*x-g*g*g+2*(g*g)*(s*s)-3*(g*g)*x-g*(s*s*s*s)+4*g*(s*s)*x-(s*s*s*s)*x-4*(s*s)*(x*x)+4*(x*x*x))*(-4*(c*c)+2*c*g*s-2*c*(s*s*s)-4*c*s*x-g*g*g+2*(g*g)*(s*s)-3*(g*g)*x-g*(s*s*s*s)+4*g*(s*s)*x-(s*s*s*s)*x-4*(s*s)*(x*x)+4*(x*x*x))-(g-s*s+2*x)*(g-s*s+2*x)*((3*(x*x)+(x*g+x*(s*s-x-g)+g*(s*s-x-g)+2*s*c))*(3*(x*x)+(x*g+x*(s*s-x-g)+g*(s*s-x-g)+2*s*c))-(x+x)*((2*(s*x+c))*(2*(s*x+c)))+g*((2*(s*x+c))*(2*(s*x+c))))=((2*(s*x+c))*(2*(s*x+c)))*(-(-4*(c*c)+4*c*g*s-4*c*(s*s*s)-g*g*g+2*(g*g)*(s*s)-4*(g*g)*x-g*(s*s*s*s)+8*g*(s*s)*x-4*g*(x*x)-4*(s*s*s*s)*x+4*(s*s)*(x*x))):=by grind
theorem idY3 (x g s c:Fin p):-(-4*(c*c)+2*c*g*s-2*c*(s*s*s)-4*c*s*x-g*g*g+2*(g*g)*(s*s)-3*(g*g)*x-g*(s*s*s*s)+4*g*(s*s)*x-(s*s*s*s)*x-4*(s*s)*(x*x)+4*(x*x*x))*(g*((g-s*s+2*x)*(g-s*s+2*x))-(-(-4*(c*c)+4*c*g*s-4*c*(s*s*s)-g*g*g+2*(g*g)*(s*s)-4*(g*g)*x-g*(s*s*s*s)+8*g*(s*s)*x-4*g*(x*x)-4*(s*s*s*s)*x+4*(s*s)*(x*x))))-(2*(s*x+c))*((g-s*s+2*x)*(g-s*s+2*x)*(g-s*s+2*x))*(s*g+c)=(2*(s*x+c))*(-(8*(c*c*c)-12*(c*c)*g*s+12*(c*c)*(s*s*s)+3*c*(g*g*g)-3*c*(g*g)*(s*s)+12*c*(g*g)*x-3*c*g*(s*s*s*s)-24*c*g*(s*s)*x+12*c*g*(x*x)+3*c*(s*s*s*s*s*s)+12*c*(s*s*s*s)*x-12*c*(s*s)*(x*x)-(g*g*g*g)*s+3*(g*g*g)*(s*s*s)-2*(g*g*g)*s*x-3*(g*g)*(s*s*s*s*s)+6*(g*g)*(s*s*s)*x+6*(g*g)*s*(x*x)+g*(s*s*s*s*s*s*s)-6*g*(s*s*s*s*s)*x-12*g*(s*s*s)*(x*x)+16*g*s*(x*x*x)+2*(s*s*s*s*s*s*s)*x+6*(s*s*s*s*s)*(x*x)-16*(s*s*s)*(x*x*x)+8*s*(x*x*x*x))):=by grind
theorem idxg (x g s c:Fin p):(-(-4*(c*c)+4*c*g*s-4*c*(s*s*s)-g*g*g+2*(g*g)*(s*s)-4*(g*g)*x-g*(s*s*s*s)+8*g*(s*s)*x-4*g*(x*x)-4*(s*s*s*s)*x+4*(s*s)*(x*x)))-g*((g-s*s+2*x)*(g-s*s+2*x)) = -(2*(s*x+c)*(2*(-(s*(s*s-x-g)+c)))):=by grind
theorem idV (x g s c:Fin p):(-(8*(c*c*c)-12*(c*c)*g*s+12*(c*c)*(s*s*s)+3*c*(g*g*g)-3*c*(g*g)*(s*s)+12*c*(g*g)*x-3*c*g*(s*s*s*s)-24*c*g*(s*s)*x+12*c*g*(x*x)+3*c*(s*s*s*s*s*s)+12*c*(s*s*s*s)*x-12*c*(s*s)*(x*x)-(g*g*g*g)*s+3*(g*g*g)*(s*s*s)-2*(g*g*g)*s*x-3*(g*g)*(s*s*s*s*s)+6*(g*g)*(s*s*s)*x+6*(g*g)*s*(x*x)+g*(s*s*s*s*s*s*s)-6*g*(s*s*s*s*s)*x-12*g*(s*s*s)*(x*x)+16*g*s*(x*x*x)+2*(s*s*s*s*s*s*s)*x+6*(s*s*s*s*s)*(x*x)-16*(s*s*s)*(x*x*x)+8*s*(x*x*x*x)))-(s*g+c)*((g-s*s+2*x)*(g-s*s+2*x)*(g-s*s+2*x)) = -(2*(s*x+c)*(4*(c*c)-6*c*g*s+6*c*(s*s*s)-4*c*s*x+2*(g*g*g)-3*(g*g)*(s*s)+9*(g*g)*x-12*g*(s*s)*x+12*g*(x*x)+s*s*s*s*s*s+3*(s*s*s*s)*x-8*(s*s)*(x*x)+4*(x*x*x))):=by grind
theorem idx4 (x g s c:Fin p):(4*(c*c)-6*c*g*s+6*c*(s*s*s)-4*c*s*x+2*(g*g*g)-3*(g*g)*(s*s)+9*(g*g)*x-12*g*(s*s)*x+12*g*(x*x)+s*s*s*s*s*s+3*(s*s*s*s)*x-8*(s*s)*(x*x)+4*(x*x*x))*(4*(c*c)-6*c*g*s+6*c*(s*s*s)-4*c*s*x+2*(g*g*g)-3*(g*g)*(s*s)+9*(g*g)*x-12*g*(s*s)*x+12*g*(x*x)+s*s*s*s*s*s+3*(s*s*s*s)*x-8*(s*s)*(x*x)+4*(x*x*x))-((2*(-(s*(s*s-x-g)+c)))*(2*(-(s*(s*s-x-g)+c))))*((-(-4*(c*c)+4*c*g*s-4*c*(s*s*s)-g*g*g+2*(g*g)*(s*s)-4*(g*g)*x-g*(s*s*s*s)+8*g*(s*s)*x-4*g*(x*x)-4*(s*s*s*s)*x+4*(s*s)*(x*x)))+g*((g-s*s+2*x)*(g-s*s+2*x)))=(g-s*s+2*x)*(g-s*s+2*x)*((3*((s*s-x-g)*(s*s-x-g))+(x*g+x*(s*s-x-g)+g*(s*s-x-g)+2*s*c))*(3*((s*s-x-g)*(s*s-x-g))+(x*g+x*(s*s-x-g)+g*(s*s-x-g)+2*s*c))-((s*s-x-g)+(s*s-x-g))*((2*(-(s*(s*s-x-g)+c)))*(2*(-(s*(s*s-x-g)+c))))):=by grind
theorem idy4 (x g s c:Fin p):(4*(c*c)-6*c*g*s+6*c*(s*s*s)-4*c*s*x+2*(g*g*g)-3*(g*g)*(s*s)+9*(g*g)*x-12*g*(s*s)*x+12*g*(x*x)+s*s*s*s*s*s+3*(s*s*s*s)*x-8*(s*s)*(x*x)+4*(x*x*x))*(g*((2*(-(s*(s*s-x-g)+c)))*(2*(-(s*(s*s-x-g)+c))))-((3*((s*s-x-g)*(s*s-x-g))+(x*g+x*(s*s-x-g)+g*(s*s-x-g)+2*s*c))*(3*((s*s-x-g)*(s*s-x-g))+(x*g+x*(s*s-x-g)+g*(s*s-x-g)+2*s*c))-((s*s-x-g)+(s*s-x-g))*((2*(-(s*(s*s-x-g)+c)))*(2*(-(s*(s*s-x-g)+c))))))-(s*g+c)*((2*(-(s*(s*s-x-g)+c)))*(2*(-(s*(s*s-x-g)+c)))*(2*(-(s*(s*s-x-g)+c))))*(g-s*s+2*x) =
   (3*((s*s-x-g)*(s*s-x-g))+(x*g+x*(s*s-x-g)+g*(s*s-x-g)+2*s*c))*(g-s*s+2*x)*((s*s-x-g)*((2*(-(s*(s*s-x-g)+c)))*(2*(-(s*(s*s-x-g)+c))))-((3*((s*s-x-g)*(s*s-x-g))+(x*g+x*(s*s-x-g)+g*(s*s-x-g)+2*s*c))*(3*((s*s-x-g)*(s*s-x-g))+(x*g+x*(s*s-x-g)+g*(s*s-x-g)+2*s*c))-((s*s-x-g)+(s*s-x-g))*((2*(-(s*(s*s-x-g)+c)))*(2*(-(s*(s*s-x-g)+c))))))-(-(s*(s*s-x-g)+c))*((2*(-(s*(s*s-x-g)+c)))*(2*(-(s*(s*s-x-g)+c)))*(2*(-(s*(s*s-x-g)+c))))*(g-s*s+2*x):=by grind
theorem two_point (hp:Pr p) {a b x y g h x2 y2 x3 y3:Fin p} (h2:(2:Fin p)≠0) (hP:on a b (some (x,y))) (hG:on a b (some (g,h))) (hx:x≠g) (hy:y≠0)
  (hd:dbl a (some (x,y))=some (x2,y2)) (hx2:x2≠g) (ha3:add a (some (x2,y2)) (some (g,h))=some (x3,y3)) (hx3:x3≠g) :
  add a (some (x3,y3)) (some (g,h))=dbl a (add a (some (x,y)) (some (g,h))):=by
 obtain⟨s,c,rfl,rfl⟩:=chord hp (y1:=y) (y2:=h) hx
 have hla:=line_a hp hx hP hG
 obtain⟨l,k,e,ht⟩:=tangent hp a (x:=x) h2 hy
 have hd':=dbl_tan hp a (x:=x) (s:=l) (c:=k) h2 (by rw [← e];exact hy) (by rw [← e];rw [← e] at ht;exact ht)
 rw [← e,hd] at hd'
 rw [← e] at ht
 simp only [Option.some.injEq,Prod.mk.injEq] at hd'
 obtain⟨rfl,rfl⟩:=hd'
 have hk:k=s*x+c-l*x:=by clear hd hx2 ha3 hx3 ht hla hP hG;grind
 subst hk
 clear hd e
 have hyy:((2*(s*x+c))*(2*(s*x+c)))≠0:=mul_ne hp (mul_ne hp h2 hy) (mul_ne hp h2 hy)
 have h2y:2*(s*x+c)≠0:=mul_ne hp h2 hy
 have hM:=idM hla ht
 have hK:=idK hla ht
 have hD:(g-s*s+2*x)≠0:=by
  intro h0
  rw [h0] at hM
  have h1:((2*(s*x+c))*(2*(s*x+c)))*(l*l-x-x-g)=0:=by clear hK ht hla ha3 hP hG;grind
  exact hx2 (by have:=mul_zero' hp h1 hyy;clear hK ht hla ha3 hP hG hM h1;grind)
 have hxg:l*l-x-x-g≠0:=by intro h0;exact hx2 (by clear hK ht hla ha3 hP hG hM;grind)
 obtain⟨m,n,e1,e2⟩:=chord hp (y1:=-(l*(l*l-x-x)+(s*x+c-l*x))) (y2:=s*g+c) hx2
 have hm:(l*l-x-x-g)*m = -(l*(l*l-x-x)+(s*x+c-l*x))-(s*g+c):=by rw [e1,e2];clear hK ht hla ha3 hP hG hM e1 e2;grind
 have hac:=add_chord hp a (s:=m) (c:=n) hx2
 rw [← e1,← e2,ha3] at hac
 simp only [Option.some.injEq,Prod.mk.injEq] at hac
 obtain⟨rfl,rfl⟩:=hac
 have hn:n=s*g+c-m*g:=by clear hK ht hla ha3 hP hG hM e1;grind
 subst hn
 clear e1 e2 ha3
 have hmK:2*(s*x+c)*(g-s*s+2*x)*m = -(-4*(c*c)+2*c*g*s-2*c*(s*s*s)-4*c*s*x-g*g*g+2*(g*g)*(s*s)-3*(g*g)*x-g*(s*s*s*s)+4*g*(s*s)*x-(s*s*s*s)*x-4*(s*s)*(x*x)+4*(x*x*x)):=by
  rw [← hm] at hK
  refine cancel hp hxg (cancel hp hyy ?_)
  rw [← hK]
  clear hK ht hla hP hG hM hm;grind
 clear hK hm hM
 subst hla
 have hX3:((g-s*s+2*x)*(g-s*s+2*x))*(m*m-(l*l-x-x)-g)=(-(-4*(c*c)+4*c*g*s-4*c*(s*s*s)-g*g*g+2*(g*g)*(s*s)-4*(g*g)*x-g*(s*s*s*s)+8*g*(s*s)*x-4*g*(x*x)-4*(s*s*s*s)*x+4*(s*s)*(x*x))):=by
  refine cancel hp hyy ?_
  rw [← idX3,← ht]
  have e3:(-4*(c*c)+2*c*g*s-2*c*(s*s*s)-4*c*s*x-g*g*g+2*(g*g)*(s*s)-3*(g*g)*x-g*(s*s*s*s)+4*g*(s*s)*x-(s*s*s*s)*x-4*(s*s)*(x*x)+4*(x*x*x)) = -(2*(s*x+c)*(g-s*s+2*x)*m):=by rw [hmK];clear hmK ht hP hG;grind
  rw [e3]
  clear e3 hmK ht hP hG
  grind
 have hY3:((g-s*s+2*x)*(g-s*s+2*x)*(g-s*s+2*x)) * -(m*(m*m-(l*l-x-x)-g)+(s*g+c-m*g))=(-(8*(c*c*c)-12*(c*c)*g*s+12*(c*c)*(s*s*s)+3*c*(g*g*g)-3*c*(g*g)*(s*s)+12*c*(g*g)*x-3*c*g*(s*s*s*s)-24*c*g*(s*s)*x+12*c*g*(x*x)+3*c*(s*s*s*s*s*s)+12*c*(s*s*s*s)*x-12*c*(s*s)*(x*x)-(g*g*g*g)*s+3*(g*g*g)*(s*s*s)-2*(g*g*g)*s*x-3*(g*g)*(s*s*s*s*s)+6*(g*g)*(s*s*s)*x+6*(g*g)*s*(x*x)+g*(s*s*s*s*s*s*s)-6*g*(s*s*s*s*s)*x-12*g*(s*s*s)*(x*x)+16*g*s*(x*x*x)+2*(s*s*s*s*s*s*s)*x+6*(s*s*s*s*s)*(x*x)-16*(s*s*s)*(x*x*x)+8*s*(x*x*x*x))):=by
  refine cancel hp h2y ?_
  rw [← idY3,← hmK,← hX3]
  clear hX3 hmK ht hP hG
  grind
 generalize m*m-(l*l-x-x)-g=x3 at hX3 hY3 hx3 ⊢
 generalize -(m*x3+(s*g+c-m*g))=y3 at hY3 ⊢
 clear hmK hxg hx2 ht
 have hxg':((g-s*s+2*x)*(g-s*s+2*x))*(x3-g) = -(2*(s*x+c)*(2*(-(s*(s*s-x-g)+c)))):=by
  rw [← idxg,← hX3];clear hX3 hY3 hP hG;grind
 have hv:(-(s*(s*s-x-g)+c))≠0:=by
  intro h0
  rw [h0] at hxg'
  have:=mul_zero' hp (x:=(g-s*s+2*x)*(g-s*s+2*x)) (y:=x3-g) (by rw [hxg'];clear hxg' hX3 hY3 hP hG;grind) (mul_ne hp hD hD)
  exact hx3 (by clear hxg' hX3 hY3 hP hG;grind)
 have h2v:2*(-(s*(s*s-x-g)+c))≠0:=mul_ne hp h2 hv
 rw [add_chord hp _ hx]
 obtain⟨q,r,e1,e2⟩:=chord hp (y1:=y3) (y2:=s*g+c) hx3
 have hr:r=s*g+c-q*g:=by clear hxg' hX3 hY3 hP hG e1;grind
 have hac:=add_chord hp (x*g+x*(s*s-x-g)+g*(s*s-x-g)+2*s*c) (s:=q) (c:=r) hx3
 rw [← e1,← e2] at hac
 rw [hac]
 have hq:(x3-g)*q=y3-(s*g+c):=by rw [e1,e2];clear hxg' hX3 hY3 hP hG e1 e2 hac;grind
 subst hr
 clear hac e1 e2
 have hqV:2*(-(s*(s*s-x-g)+c))*(g-s*s+2*x)*q=(4*(c*c)-6*c*g*s+6*c*(s*s*s)-4*c*s*x+2*(g*g*g)-3*(g*g)*(s*s)+9*(g*g)*x-12*g*(s*s)*x+12*g*(x*x)+s*s*s*s*s*s+3*(s*s*s*s)*x-8*(s*s)*(x*x)+4*(x*x*x)):=by
  refine cancel hp h2y ?_
  have e3:(g-s*s+2*x)*((g-s*s+2*x)*(g-s*s+2*x))*((x3-g)*q) = -(2*(s*x+c)*(4*(c*c)-6*c*g*s+6*c*(s*s*s)-4*c*s*x+2*(g*g*g)-3*(g*g)*(s*s)+9*(g*g)*x-12*g*(s*s)*x+12*g*(x*x)+s*s*s*s*s*s+3*(s*s*s*s)*x-8*(s*s)*(x*x)+4*(x*x*x))):=by
   rw [hq,← idV,← hY3];clear hxg' hX3 hY3 hP hG hq;grind
  have e4:(g-s*s+2*x)*((g-s*s+2*x)*(g-s*s+2*x))*((x3-g)*q)=(g-s*s+2*x)*(((g-s*s+2*x)*(g-s*s+2*x))*(x3-g))*q:=by clear e3 hxg' hX3 hY3 hP hG hq;grind
  rw [e4,hxg'] at e3
  clear e4 hxg' hX3 hY3 hP hG hq
  grind
 obtain⟨t,k,e,ht⟩:=tangent hp (x*g+x*(s*s-x-g)+g*(s*s-x-g)+2*s*c) (x:=(s*s-x-g)) h2 hv
 have hd':=dbl_tan hp (x*g+x*(s*s-x-g)+g*(s*s-x-g)+2*s*c) (x:=(s*s-x-g)) (s:=t) (c:=k) h2 (by rw [← e];exact hv) (by rw [← e];rw [← e] at ht;exact ht)
 rw [← e] at hd' ht
 rw [hd']
 have hk:k=(-(s*(s*s-x-g)+c))-t*(s*s-x-g):=by rw [e];clear hd' hxg' hX3 hY3 hP hG hq e ht hqV;grind
 subst hk
 clear hd' e hq hY3 hxg' hP hG
 have hx4:q*q-x3-g=t*t-(s*s-x-g)-(s*s-x-g):=by
  refine cancel hp (mul_ne hp (mul_ne hp h2v hD) (mul_ne hp h2v hD)) ?_
  have e3:=idx4 x g s c
  rw [← hqV,← hX3,← ht] at e3
  clear hqV hX3 ht
  grind
 rw [hx4]
 simp only [Option.some.injEq,Prod.mk.injEq,true_and]
 refine cancel hp (mul_ne hp (mul_ne hp (mul_ne hp h2v h2v) h2v) hD) ?_
 have e3:=idy4 x g s c
 rw [← hqV,← ht] at e3
 clear hqV hX3 ht hx4
 grind
end
end Go.Proofs.YtofkehhflkdabaaGreatDoor.Ec
namespace Go.Proofs.YtofkehhflkdabaaGreatDoor
open Go Go.RowKit
theorem LeadingZeros_any (x:Nat) (hx:x<W64) (w:World) :
  Calls Tryz.prog 139 #[.int .u64 (x:Int)] w fun e w'=>e = .returned (.int .i64 (64-(Lib.bitLen x:Int)))∧w=w':=by
 have h:=Tryz.bits_LeadingZeros x w (by omega) (by unfold W64 at hx;omega)
 rw [Int.toNat_natCast] at h
 exact h.mono fun _ _ h=>⟨h.1,h.2.symm⟩
theorem LeadingZeros64_any (x:Nat) (hx:x<W64) (w:World) :
  Calls Tryz.prog 180 #[.int .u64 (x:Int)] w fun e w'=>e = .returned (.int .i64 (64-(Lib.bitLen x:Int)))∧w=w':=by
 have h:=Tryz.bits_LeadingZeros64 x w (by omega) (by unfold W64 at hx;omega)
 rw [Int.toNat_natCast] at h
 exact h.mono fun _ _ h=>⟨h.1,h.2.symm⟩
theorem wrap_div (x y:Nat) (hx:x<W64):IntKind.u64.wrap ((x:Int) / (y:Int))=(x:Int) / (y:Int):=by
 have e:(x:Int) / (y:Int)=((x / y:Nat):Int):=by simp
 rw [e]
 have:=Nat.div_le_self x y
 unfold W64 at hx
 generalize x / y=q at this
 exact IntWalk.u64_in _ (by omega)
theorem bitLen_le {x:Nat} (hx:x<W64):Lib.bitLen x≤64:=by
 by_cases h0:x=0
 ·subst h0;decide
 ·have h:=Lib.bitLenAux_bounds 64 x (by rw [← W64_eq];exact hx) h0
  refine Classical.byContradiction fun hc=>?_
  have:2^64≤2^(Lib.bitLenAux 64 x-1):=Nat.pow_le_pow_right (by decide) (by unfold Lib.bitLen at hc;omega)
  rw [← W64_eq] at this
  omega
theorem nlz_any (x:Nat) (hx:x<W64) (w:World) :
  Calls Tryz.prog 115 #[.int .u64 (x:Int)] w fun e w'=>e = .returned (.int .u64 (nlzN x:Nat))∧w=w':=by
 have hb:=bitLen_le hx
 have hw:IntKind.u64.wrap (64-(Lib.bitLen x:Int))=(nlzN x:Nat):=by
  unfold nlzN
  rw [Int.natCast_sub hb]
  exact IntWalk.u64_in _ (by omega)
 have hc:(64-(Lib.bitLen x:Int))=(nlzN x:Nat):=by unfold nlzN;omega
 have HC:Hid (64-(Lib.bitLen x:Int)=(nlzN x:Nat)):=hc
 clear hc
 go_enter Tryz.func115,Tryz.ntmps115
 go_wp2_with (go_at_call 139;refine(LeadingZeros_any x hx _).mono ?_;rintro e w' ⟨rfl,rfl⟩)
 go_ret
 refine⟨?_,rfl⟩
 first
  | rfl
  | exact congrArg (fun n=>Ending.returned (.int .u64 n)) HC.out
theorem bitsDiv64_low (lo y:Nat) (hlo:lo<W64) (_hy:y<W64) (hy0:0<y) (w:World) :
  Calls Tryz.prog 179 #[.int .u64 0,.int .u64 (lo:Int),.int .u64 (y:Int)] w fun e w'=>
   e = .returned (.tuple #[.int .u64 ((lo / y:Nat):Int),.int .u64 ((lo%y:Nat):Int)])∧Keep Nope w w':=by
 have t1:((y:Int)==0)=false:=beq_eq_false_iff_ne.2 (by omega)
 have t2:((y:Int)≤0)=False:=by simp;omega
 have hq:=wrap_div lo y hlo
 go_enter Tryz.func179,Tryz.ntmps179
 go_wp2_with fail
 go_region
 go_wp2_with fail
 go_ret2
 exact⟨by simp,(Keep.refl _ _).drew⟩
theorem Keep.cel {S:Nat→Prop} {w w':World} (h:Keep S w w') {a:Addr} {v:Value} (hc:w.cell? a=some v) (hs:¬S a.block):w'.cell? a=some v:=by
 have hb:a.block<w.heap.size:=World.block_lt_of_cell? w _ hc
 rw [← hc]
 simp only [World.cell?,h.block _ hb hs]
def Fresh (n k:Nat):Prop:=n≤k
structure Dg (w:World) (a:Option Addr) (len cap:Nat) (c:Nat→Nat):Prop where
 le:len≤cap∧cap≤9223372036854775807
 get:∀i,i<len→∃b,a=some ⟨b,0,none⟩∧w.cell? ⟨b,i,none⟩=some (.int .i64 (c i:Nat))∧c i<W16
theorem Dg.lt {w:World} {a:Option Addr} {len cap:Nat} {c:Nat→Nat} (h:Dg w a len cap c):∀i,i<len→c i<W16:=fun i hi=>by
 obtain⟨_,_,_,h⟩:=h.get i hi;exact h
theorem Dg.keep {S:Nat→Prop} {w w':World} {a:Option Addr} {len cap:Nat} {c:Nat→Nat} (h:Dg w a len cap c) (k:Keep S w w') (hs:∀b,a=some ⟨b,0,none⟩→¬S b):Dg w' a len cap c:=
 ⟨h.le,fun i hi=>by
  obtain⟨b,rfl,h1,h2⟩:=h.get i hi
  exact⟨b,rfl,k.cel h1 (hs b rfl),h2⟩⟩
theorem Dg.kept {w w':World} {a:Option Addr} {len cap:Nat} {c:Nat→Nat} (h:Dg w a len cap c) (k:Keep (Fresh w.heap.size) w w'):Dg w' a len cap c:=
 ⟨h.le,fun i hi=>by
  obtain⟨b,rfl,h1,h2⟩:=h.get i hi
  have:=World.block_lt_of_cell? w _ h1
  exact⟨b,rfl,k.cel h1 (fun h=>by simp only [Fresh] at *;omega),h2⟩⟩
theorem Dg.take {w:World} {a:Option Addr} {len cap n:Nat} {c:Nat→Nat} (h:Dg w a len cap c) (hn:n≤len):Dg w a n cap c:=
 ⟨⟨by have:=h.le;omega,h.le.2⟩,fun i hi=>h.get i (by omega)⟩
theorem Rwi.dg {w:World} {b n:Nat} {c:Nat→Nat} (h:Rwi w b n c) (len:Nat) (hl:len≤n) (hn:n≤9223372036854775807):Dg w (some ⟨b,0,none⟩) len n c:=
 ⟨⟨hl,hn⟩,fun i hi=>⟨b,rfl,h.cell (by omega),h.lt i (by omega)⟩⟩
def IsB (w:World) (a:Option Addr) (len cap N:Nat):Prop:=∃c,Dg w a len cap c∧vb c 0 len=N∧(len=0∨c (len-1)≠0)
theorem IsB.keep {S:Nat→Prop} {w w':World} {a:Option Addr} {len cap N:Nat} (h:IsB w a len cap N) (k:Keep S w w') (hs:∀b,a=some ⟨b,0,none⟩→¬S b):IsB w' a len cap N:=by
 obtain⟨c,h1,h2⟩:=h;exact⟨c,h1.keep k hs,h2⟩
theorem IsB.nope {w w':World} {a:Option Addr} {len cap N:Nat} (h:IsB w a len cap N) (k:Keep Nope w w'):IsB w' a len cap N:=h.keep k (fun _ _=>id)
theorem IsB.nil (w:World) (a:Option Addr):IsB w a 0 0 0:=⟨fun _=>0,⟨by omega,fun i hi=>by omega⟩,rfl,.inl rfl⟩
theorem IsB.big {w:World} {a:Option Addr} {len cap N:Nat} (h:IsB w a len cap N):len=0∨W16^(len-1)≤N:=by
 obtain⟨c,h1,rfl,h3⟩:=h
 rcases h3 with h3 | h3
 ·exact .inl h3
 ·rcases Nat.eq_zero_or_pos len with h0 | h0
  ·exact .inl h0
  ·refine .inr ?_
   obtain⟨t,rfl⟩:∃t,len=t+1:=⟨len-1,by omega⟩
   simp only [Nat.add_sub_cancel] at h3 ⊢
   rw [vb_one,Nat.zero_add]
   have:=Nat.mul_le_mul_right (W16^t) (show 1≤c t by omega)
   omega
theorem IsB.lt {w:World} {a:Option Addr} {len cap N:Nat} (h:IsB w a len cap N):N<W16^len:=by
 obtain⟨c,h1,rfl,h3⟩:=h
 exact vb_lt fun i hi=>by rw [Nat.zero_add];exact h1.lt i hi
theorem IsB.len_le {w:World} {a:Option Addr} {len cap N K:Nat} (h:IsB w a len cap N) (hN:N<W16^K):len≤K:=by
 rcases h.big with h | h
 ·omega
 ·refine Nat.le_of_not_lt fun hlt=>?_
  have:W16^K≤W16^(len-1):=Nat.pow_le_pow_right W16_pos (by omega)
  omega
theorem IsB.zero {w:World} {a:Option Addr} {len cap N:Nat} (h:IsB w a len cap N):len=0↔N=0:=by
 refine⟨fun e=>?_,fun e=>?_⟩
 ·subst e;have:=h.lt;simpa using this
 ·rcases h.big with h | h
  ·exact h
  ·have:=Nat.pow_pos (n:=len-1) W16_pos;omega
def lst (c:Nat→Nat) (n:Nat):List Value:=(List.range n).map fun i=>.int .i64 (c i:Nat)
theorem lst_len (c:Nat→Nat) (n:Nat):(lst c n).length=n:=by simp [lst]
theorem lst_get (c:Nat→Nat) {n i:Nat} (h:i<n):(lst c n)[i]?=some (.int .i64 (c i:Nat)):=by simp [lst,h]
theorem lst_snoc (c:Nat→Nat) (n d:Nat):lst c n++[.int .i64 (d:Nat)]=lst (upd c n d) (n+1):=by
 rw [lst,lst,List.range_succ,List.map_append]
 simp only [List.map_cons,List.map_nil,upd_same]
 congr 1
 apply List.map_congr_left
 intro i hi
 rw [upd_ne _ _ (by have:=List.mem_range.1 hi;omega)]
structure Ow (w0 w:World) (T:TypeId) (v:Value) (n:Nat) (c:Nat→Nat):Prop where
 owns:w.ownsRow w0.heap.size T 1 v n (lst c n)
 keep:Keep Nope w0 w
 lt:∀i,i<n→c i<W16
theorem Ow.nil (w:World) (T:TypeId) (c:Nat→Nat):Ow w w T (.slice none 0 0) 0 c:=
 ⟨by have:=World.ownsRow_nil w w.heap.size T 1;exact this,Keep.refl _ _,fun i hi=>by omega⟩
theorem Ow.alloc {w0 w:World} {T:TypeId} {v:Value} {n:Nat} {c:Nat→Nat} (h:Ow w0 w T v n c) (o:Obj):Ow w0 (w.alloc o) T v n c:=⟨h.owns.alloc o,h.keep.alloc o,h.lt⟩
theorem Ow.drew {w0 w:World} {T:TypeId} {v:Value} {n:Nat} {c:Nat→Nat} (h:Ow w0 w T v n c):Ow w0 w.drew T v n c:=⟨h.owns,h.keep.drew,h.lt⟩
theorem Ow.nope {w0 w w':World} {T:TypeId} {v:Value} {n:Nat} {c:Nat→Nat} (h:Ow w0 w T v n c) (k:Keep Nope w w'):Ow w0 w' T v n c:=
 ⟨h.owns.kept (row:=none) ⟨k.os,k.tape,k.output,k.size,fun i hi _=>k.block i hi id⟩ (by cases hv:v.ownBlock<;>simp),h.keep.trans k,h.lt⟩
theorem Ow.dg {w0 w:World} {T:TypeId} {v:Value} {n:Nat} {c:Nat→Nat} (h:Ow w0 w T v n c):∃a cap,v = .slice a n cap∧Dg w a n cap c:=by
 rcases h.owns.2 with⟨rfl,rfl⟩ | ⟨g,cap,cur,rfl,_,_,h1,h2,_⟩
 ·exact⟨none,0,rfl,⟨by omega,fun i hi=>by omega⟩⟩
 ·refine⟨some ⟨g,0,none⟩,cap,rfl,⟨h1,by unfold maxLen at h2;omega⟩,fun i hi=>⟨g,rfl,?_,h.lt i hi⟩⟩
  have:=h.owns.cells (g:=g) rfl i _ (lst_get c hi)
  rwa [Addr.add_lit,Nat.zero_add] at this
theorem keep_grown {w0 w w':World} {row:Option Nat} (h:Keep Nope w0 w) (hg:w.grownBy w' row) (hr:∀k,row=some k→w0.heap.size≤k):Keep Nope w0 w':=
 ⟨hg.os.trans h.os,hg.tape.trans h.tape,hg.output.trans h.output,Nat.le_trans h.size hg.size,fun k hk hs=>
  (hg.block k (Nat.lt_of_lt_of_le hk h.size) (fun e=>by have:=hr k e.symm;omega)).trans (h.block k hk hs)⟩
theorem Ow.append {w0 w:World} {T t:TypeId} {v:Value} {n d:Nat} {c:Nat→Nat} (h:Ow w0 w T v n c) (ht:Tryz.prog.underlying t=some (.slice T)) {i:TypeInfo} (hi:Tryz.prog.info? T=some i) (hz:i.zero=some (.int .i64 0)) (hs:i.size=1) (hb:i.bytes=8)
  (q k:Nat) (hc:w.cell? ⟨q,0,none⟩=some (.int .i64 (d:Nat))) (hd:d<W16) (hn:n<1000000000) (ty:TypeId) :
  ∃v' w',(Builtin.append_ #[t,t] ty #[v,.slice (some ⟨q,0,none⟩) 1 k]).run Tryz.prog w = .ok v' w'∧Ow w0 w' T v' (n+1) (upd c n d):=by
 obtain⟨v',w',hr,ho,hg,_⟩:=run_append_own (P:=Tryz.prog) w w0.heap.size t ty T i (.int .i64 0) 1 8 ht hi hz hs hb rfl (by decide) v n (lst c n) h.owns ⟨q,0,none⟩ 1 k [.int .i64 (d:Nat)] rfl
  (fun j u hj=>by
   obtain⟨hj1,hj2⟩:=List.getElem?_eq_some_iff.1 hj
   simp only [List.length_cons,List.length_nil,Nat.zero_add,Nat.lt_one_iff] at hj1
   subst hj1
   simp only [List.getElem_cons_zero] at hj2
   rw [Addr.add_lit,← hj2];exact hc)
  (fun u hu=>by simp only [List.mem_singleton] at hu;subst hu;rfl) (by unfold maxLen;omega) (by omega) h.keep.size
 refine⟨v',w',hr,⟨by rw [← lst_snoc];exact ho,keep_grown h.keep hg (fun k e=>(h.owns.lt k e).1),?_⟩⟩
 intro j hj
 simp only [upd]
 split
 ·exact hd
 ·exact h.lt j (by omega)
end Go.Proofs.YtofkehhflkdabaaGreatDoor
