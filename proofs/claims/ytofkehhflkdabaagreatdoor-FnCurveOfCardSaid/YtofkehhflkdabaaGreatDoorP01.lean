/- A part of the proof of FnCurveOf. -/
import Derived.Test.YtofkehhflkdabaaGreatDoorP00
import Derived.Test.YtofkehhflkdabaaGreatDoorProg
import Derived.WalkKit
import Derived.Deep.Draws
import Derived.Shelf.Small.Bits
import Derived.Shelf.Strconv.Itoa0
import Derived.Shelf.Bits.Mul64
import Derived.Shelf.Bytes.SlEqualAll
import Derived.Shelf.Bytes.Small
import Derived.Shelf.Spec.BitsCarry
import Derived.KernelRfl
import Derived.Laws.CopyRow
import Derived.LaidEqlPtr
set_option maxRecDepth 100000
set_option maxHeartbeats 8000000
namespace Go.Proofs.YtofkehhflkdabaaGreatDoor
open Go Go.RowKit
def W64:Nat:=18446744073709551616
theorem W64_pos:0<W64:=by decide
theorem W64_eq:W64=2^64:=by decide
structure Keep (S:Nat→Prop) (w w':World):Prop where
 os:w'.os=w.os
 tape:w'.tape=w.tape
 output:w'.output=w.output
 size:w.heap.size≤w'.heap.size
 block:∀k,k<w.heap.size→¬S k→w'.heap[k]?=w.heap[k]?
theorem Keep.refl (S:Nat→Prop) (w:World):Keep S w w:=⟨rfl,rfl,rfl,Nat.le_refl _,fun _ _ _=>rfl⟩
theorem Keep.trans {S:Nat→Prop} {a b c:World} (h:Keep S a b) (k:Keep S b c):Keep S a c:=
 ⟨k.os.trans h.os,k.tape.trans h.tape,k.output.trans h.output,Nat.le_trans h.size k.size,fun i hi hs=>(k.block i (Nat.lt_of_lt_of_le hi h.size) hs).trans (h.block i hi hs)⟩
theorem Keep.mono {S S':Nat→Prop} {a b:World} (h:Keep S a b) (hs:∀k,k<a.heap.size→S k→S' k):Keep S' a b:=
 ⟨h.os,h.tape,h.output,h.size,fun i hi hn=>h.block i hi (fun hk=>hn (hs i hi hk))⟩
theorem Keep.drew {S:Nat→Prop} {a b:World} (h:Keep S a b):Keep S a b.drew:=⟨h.os,h.tape,h.output,h.size,h.block⟩
theorem Keep.undrew {S:Nat→Prop} {a b:World} (h:Keep S a.drew b):Keep S a b:=⟨h.os,h.tape,h.output,h.size,h.block⟩
theorem Keep.undrewN {S:Nat→Prop} {a b:World} {m:Nat} (h:Keep S (a.drewN m) b):Keep S a b:=⟨h.os,h.tape,h.output,h.size,h.block⟩
theorem Keep.setCell {S:Nat→Prop} {a b:World} (h:Keep S a b) {p:Addr} (hp:S p.block) (u:Value):Keep S a (b.setCell p u):=
 h.trans ⟨rfl,rfl,rfl,by simp [World.setCell],fun k _ hs=>Below.heap_setCell _ _ _ _ (fun e=>hs (e▸hp))⟩
theorem Keep.alloc {S:Nat→Prop} {a b:World} (h:Keep S a b) (o:Obj):Keep S a (b.alloc o):=
 h.trans ⟨rfl,rfl,rfl,by simp,fun k hk _=>Below.heap_alloc _ _ _ hk⟩
structure Row (w:World) (b n:Nat) (c:Nat→Nat):Prop where
 blk:∃T,w.heap[b]?=some (.cells (Array.ofFn fun i:Fin n=>Value.int .u64 (c i:Nat)) T (0,0))
 lt:∀i,i<n→c i<W64
theorem Row.cell {w:World} {b n:Nat} {c:Nat→Nat} (h:Row w b n c) {i:Nat} (hi:i<n):w.cell? ⟨b,i,none⟩=some (.int .u64 (c i:Nat)):=by
 obtain⟨T,hT⟩:=h.blk
 simp [World.cell?,hT,hi]
theorem Row.frozen {w:World} {b n:Nat} {c:Nat→Nat} (h:Row w b n c) (i:Nat):w.frozen? ⟨b,i,none⟩=false:=by
 obtain⟨T,hT⟩:=h.blk
 simp [World.frozen?,hT]
theorem Row.inHeap {w:World} {b n:Nat} {c:Nat→Nat} (h:Row w b n c):b<w.heap.size:=by
 obtain⟨T,hT⟩:=h.blk
 exact(Array.getElem?_eq_some_iff.1 hT).1
theorem Row.keep {S:Nat→Prop} {w w':World} {b n:Nat} {c:Nat→Nat} (h:Row w b n c) (k:Keep S w w') (hs:¬S b):Row w' b n c:=by
 refine⟨?_,h.lt⟩
 rw [k.block b h.inHeap hs];exact h.blk
theorem Row.drew {w:World} {b n:Nat} {c:Nat→Nat} (h:Row w b n c):Row w.drew b n c:=⟨h.blk,h.lt⟩
theorem Row.drewN {w:World} {b n:Nat} {c:Nat→Nat} (h:Row w b n c) (m:Nat):Row (w.drewN m) b n c:=⟨h.blk,h.lt⟩
theorem Keep.drewN {S:Nat→Prop} {a b:World} (h:Keep S a b) (m:Nat):Keep S a (b.drewN m):=⟨h.os,h.tape,h.output,h.size,h.block⟩
def upd (c:Nat→Nat) (i v:Nat):Nat→Nat:=fun j=>if j=i then v else c j
theorem upd_same (c:Nat→Nat) (i v:Nat):upd c i v i=v:=by simp [upd]
theorem upd_ne (c:Nat→Nat) {i j:Nat} (v:Nat) (h:j≠i):upd c i v j=c j:=by simp [upd,h]
theorem Row.set {w:World} {b n:Nat} {c:Nat→Nat} (h:Row w b n c) (i v:Nat) (hv:v<W64):Row (w.setCell ⟨b,i,none⟩ (.int .u64 (v:Nat))) b n (upd c i v):=by
 obtain⟨T,hT⟩:=h.blk
 refine⟨⟨T,?_⟩,?_⟩
 ·simp only [World.setCell,Array.getElem?_modify,if_true,hT,Option.map_some,Option.some.injEq,Obj.cells.injEq,and_true,Option.isSome_none,Bool.false_eq_true,if_false]
  apply Array.ext
  ·simp
  ·intro j h1 h2
   simp only [Array.size_ofFn] at h2
   rw [Array.getElem_setIfInBounds (by simpa using h2)]
   simp only [Array.getElem_ofFn,upd]
   by_cases e:i=j
   ·subst e;simp
   ·rw [if_neg e,if_neg (fun h=>e h.symm)]
 ·intro j hj
  simp only [upd]
  split
  ·exact hv
  ·exact h.lt j hj
theorem Row.setOther {w:World} {b n:Nat} {c:Nat→Nat} (h:Row w b n c) {p:Addr} (hp:p.block≠b) (u:Value):Row (w.setCell p u) b n c:=by
 refine⟨?_,h.lt⟩
 rw [Below.heap_setCell _ _ _ _ (fun e=>hp e.symm)];exact h.blk
theorem Row.ext {w:World} {b n:Nat} {c c':Nat→Nat} (h:Row w b n c) (e:∀i,i<n→c' i=c i):Row w b n c':=by
 obtain⟨T,hT⟩:=h.blk
 refine⟨⟨T,?_⟩,fun i hi=>by rw [e i hi];exact h.lt i hi⟩
 rw [hT]
 congr 2
 apply Array.ext<;>simp
 intro i hi;rw [e i hi]
theorem Row.same {w:World} {b n m:Nat} {c d:Nat→Nat} (h:Row w b n c) (k:Row w b m d):n=m∧∀i,i<n→c i=d i:=by
 obtain⟨T,hT⟩:=h.blk
 obtain⟨T',hT'⟩:=k.blk
 rw [hT] at hT'
 simp only [Option.some.injEq,Obj.cells.injEq] at hT'
 have hs:=congrArg Array.size hT'.1
 simp only [Array.size_ofFn] at hs
 subst hs
 refine⟨rfl,fun i hi=>?_⟩
 have:=congrArg (fun a=>a[i]?) hT'.1
 simp [hi] at this
 omega
def val (c:Nat→Nat) (o:Nat):Nat→Nat
 | 0=>0
 | n+1=>val c o n+c (o+n)*W64^n
theorem val_ext {c d:Nat→Nat} {o p n:Nat} (h:∀i,i<n→c (o+i)=d (p+i)):val c o n=val d p n:=by
 induction n with
 | zero=>rfl
 | succ n ih=>simp only [val];rw [ih (fun i hi=>h i (by omega)),h n (by omega)]
theorem val_lt {c:Nat→Nat} {o n:Nat} (h:∀i,i<n→c (o+i)<W64):val c o n<W64^n:=by
 induction n with
 | zero=>simp [val]
 | succ n ih=>
  have:=ih (fun i hi=>h i (by omega))
  have hc:=h n (by omega)
  simp only [val,Nat.pow_succ]
  have:c (o+n)*W64^n+W64^n≤W64*W64^n:=by
   rw [← Nat.succ_mul];exact Nat.mul_le_mul_right _ hc
  rw [Nat.mul_comm (W64^n)]
  omega
theorem val_cons (c:Nat→Nat) (o n:Nat):val c o (n+1)=c o+W64*val c (o+1) n:=by
 induction n with
 | zero=>simp [val]
 | succ n ih=>
  have e:val c o (n+1+1)=val c o (n+1)+c (o+(n+1))*W64^(n+1):=rfl
  have e':val c (o+1) (n+1)=val c (o+1) n+c (o+1+n)*W64^n:=rfl
  rw [e,ih,e',Nat.mul_add,Nat.pow_succ,show o+1+n=o+(n+1) from by omega]
  grind
theorem val_add (c:Nat→Nat) (o m:Nat):∀n,val c o (m+n)=val c o m+W64^m*val c (o+m) n
 | 0=>by simp [val]
 | n+1=>by
  show val c o (m+n)+c (o+(m+n))*W64^(m+n)=_
  rw [val_add c o m n]
  simp only [val]
  rw [Nat.pow_add,Nat.add_assoc o m n]
  grind
theorem val_upd (c:Nat→Nat) (o:Nat) (i v:Nat) (n:Nat) (h:i<o∨o+n≤i):val (upd c i v) o n=val c o n:=
 val_ext fun j hj=>upd_ne _ _ (by omega)
end Go.Proofs.YtofkehhflkdabaaGreatDoor
namespace Go.Proofs
open Go.Shelf
def Tryz.lays128_ren:Go.Shelf.Ren:=⟨fun | 128=>175 | n=>n,fun | 51=>198 | 3=>3 | 4=>4 | 46=>46 | 5=>5 | 9=>9 | n=>n,fun | n=>n⟩
theorem Tryz.lays128:Go.Proofs.Lays.n128 Tryz.prog Tryz.lays128_ren:={
 mixed:=by kernel_rfl
 f128:=Tryz.func175.trans (congrArg some (by kernel_rfl))
 t3:=Tryz.underlying3
 a3:=Tryz.isAgg3
 z3:=Tryz.sizeOf3
 v3:=Tryz.zeroValue3
 t4:=Tryz.underlying4
 a4:=Tryz.isAgg4
 z4:=Tryz.sizeOf4
 v4:=Tryz.zeroValue4
 t5:=Tryz.underlying5
 a5:=Tryz.isAgg5
 z5:=Tryz.sizeOf5
 v5:=Tryz.zeroValue5
 t9:=Tryz.underlying9
 a9:=Tryz.isAgg9
 z9:=Tryz.sizeOf9
 v9:=Tryz.zeroValue9
 t46:=Tryz.underlying46
 a46:=Tryz.isAgg46
 z46:=Tryz.sizeOf46
 v46:=Tryz.zeroValue46
 t51:=Tryz.underlying198
 a51:=Tryz.isAgg198
 z51:=Tryz.sizeOf198
 v51:=Tryz.zeroValue198 }
theorem Tryz.bits_Len32 (x:Int) (w:World) (h0:0≤x) (h1:x≤4294967295) :
  Calls Tryz.prog 175 #[.int .u32 x] w fun e w'=>e = .returned (.int .i64 (Lib.bitLen x.toNat))∧w'=w:=Any.bits_Len32 Tryz.lays128 x w h0 h1
def Tryz.lays125_ren:Go.Shelf.Ren:=⟨fun | 125=>164 | 128=>175 | 129=>176 | n=>n,fun | 46=>46 | 3=>3 | 51=>198 | 53=>131 | 4=>4 | 5=>5 | 9=>9 | n=>n,fun | n=>n⟩
theorem Tryz.lays125:Go.Proofs.Lays.n125 Tryz.prog Tryz.lays125_ren:={
 mixed:=by kernel_rfl
 f125:=Tryz.func164.trans (congrArg some (by kernel_rfl))
 f128:=Tryz.func175.trans (congrArg some (by kernel_rfl))
 f129:=Tryz.func176.trans (congrArg some (by kernel_rfl))
 t3:=Tryz.underlying3
 a3:=Tryz.isAgg3
 z3:=Tryz.sizeOf3
 v3:=Tryz.zeroValue3
 t4:=Tryz.underlying4
 a4:=Tryz.isAgg4
 z4:=Tryz.sizeOf4
 v4:=Tryz.zeroValue4
 t5:=Tryz.underlying5
 a5:=Tryz.isAgg5
 z5:=Tryz.sizeOf5
 v5:=Tryz.zeroValue5
 t9:=Tryz.underlying9
 a9:=Tryz.isAgg9
 z9:=Tryz.sizeOf9
 v9:=Tryz.zeroValue9
 t46:=Tryz.underlying46
 a46:=Tryz.isAgg46
 z46:=Tryz.sizeOf46
 v46:=Tryz.zeroValue46
 t51:=Tryz.underlying198
 a51:=Tryz.isAgg198
 z51:=Tryz.sizeOf198
 v51:=Tryz.zeroValue198
 t53:=Tryz.underlying131
 a53:=Tryz.isAgg131
 z53:=Tryz.sizeOf131
 v53:=Tryz.zeroValue131 }
theorem Tryz.bits_Len (x:Int) (w:World) (h0:0≤x) (h1:x≤18446744073709551615) :
  Calls Tryz.prog 164 #[.int .u64 x] w fun e w'=>e = .returned (.int .i64 (Lib.bitLen x.toNat))∧w'=w:=Any.bits_Len Tryz.lays125 x w h0 h1
def Tryz.lays134_ren:Go.Shelf.Ren:=⟨fun | 134=>180 | 129=>176 | n=>n,fun | 53=>131 | 3=>3 | 4=>4 | 46=>46 | 5=>5 | 9=>9 | n=>n,fun | n=>n⟩
theorem Tryz.lays134:Go.Proofs.Lays.n134 Tryz.prog Tryz.lays134_ren:={
 mixed:=by kernel_rfl
 f129:=Tryz.func176.trans (congrArg some (by kernel_rfl))
 f134:=Tryz.func180.trans (congrArg some (by kernel_rfl))
 t3:=Tryz.underlying3
 a3:=Tryz.isAgg3
 z3:=Tryz.sizeOf3
 v3:=Tryz.zeroValue3
 t4:=Tryz.underlying4
 a4:=Tryz.isAgg4
 z4:=Tryz.sizeOf4
 v4:=Tryz.zeroValue4
 t5:=Tryz.underlying5
 a5:=Tryz.isAgg5
 z5:=Tryz.sizeOf5
 v5:=Tryz.zeroValue5
 t9:=Tryz.underlying9
 a9:=Tryz.isAgg9
 z9:=Tryz.sizeOf9
 v9:=Tryz.zeroValue9
 t46:=Tryz.underlying46
 a46:=Tryz.isAgg46
 z46:=Tryz.sizeOf46
 v46:=Tryz.zeroValue46
 t53:=Tryz.underlying131
 a53:=Tryz.isAgg131
 z53:=Tryz.sizeOf131
 v53:=Tryz.zeroValue131 }
theorem Tryz.bits_LeadingZeros64 (x:Int) (w:World) (h0:0≤x) (h1:x≤18446744073709551615) :
  Calls Tryz.prog 180 #[.int .u64 x] w fun e w'=>e = .returned (.int .i64 (64-(Lib.bitLen x.toNat:Int)))∧w'=w:=Any.bits_LeadingZeros64 Tryz.lays134 x w h0 h1
def Tryz.lays130_ren:Go.Shelf.Ren:=⟨fun | 130=>139 | 125=>164 | 128=>175 | 129=>176 | n=>n,fun | 46=>46 | 3=>3 | 51=>198 | 53=>131 | 4=>4 | 5=>5 | 9=>9 | n=>n,fun | n=>n⟩
theorem Tryz.lays130:Go.Proofs.Lays.n130 Tryz.prog Tryz.lays130_ren:={
 mixed:=by kernel_rfl
 f125:=Tryz.func164.trans (congrArg some (by kernel_rfl))
 f128:=Tryz.func175.trans (congrArg some (by kernel_rfl))
 f129:=Tryz.func176.trans (congrArg some (by kernel_rfl))
 f130:=Tryz.func139.trans (congrArg some (by kernel_rfl))
 t3:=Tryz.underlying3
 a3:=Tryz.isAgg3
 z3:=Tryz.sizeOf3
 v3:=Tryz.zeroValue3
 t4:=Tryz.underlying4
 a4:=Tryz.isAgg4
 z4:=Tryz.sizeOf4
 v4:=Tryz.zeroValue4
 t5:=Tryz.underlying5
 a5:=Tryz.isAgg5
 z5:=Tryz.sizeOf5
 v5:=Tryz.zeroValue5
 t9:=Tryz.underlying9
 a9:=Tryz.isAgg9
 z9:=Tryz.sizeOf9
 v9:=Tryz.zeroValue9
 t46:=Tryz.underlying46
 a46:=Tryz.isAgg46
 z46:=Tryz.sizeOf46
 v46:=Tryz.zeroValue46
 t51:=Tryz.underlying198
 a51:=Tryz.isAgg198
 z51:=Tryz.sizeOf198
 v51:=Tryz.zeroValue198
 t53:=Tryz.underlying131
 a53:=Tryz.isAgg131
 z53:=Tryz.sizeOf131
 v53:=Tryz.zeroValue131 }
theorem Tryz.bits_LeadingZeros (x:Int) (w:World) (h0:0≤x) (h1:x≤18446744073709551615) :
  Calls Tryz.prog 139 #[.int .u64 x] w fun e w'=>e = .returned (.int .i64 (64-(Lib.bitLen x.toNat:Int)))∧w'=w:=Any.bits_LeadingZeros Tryz.lays130 x w h0 h1
def Tryz.lays129_ren:Go.Shelf.Ren:=⟨fun | 129=>176 | n=>n,fun | 53=>131 | 3=>3 | 4=>4 | 46=>46 | 5=>5 | 9=>9 | n=>n,fun | n=>n⟩
theorem Tryz.lays129:Go.Proofs.Lays.n129 Tryz.prog Tryz.lays129_ren:={
 mixed:=by kernel_rfl
 f129:=Tryz.func176.trans (congrArg some (by kernel_rfl))
 t3:=Tryz.underlying3
 a3:=Tryz.isAgg3
 z3:=Tryz.sizeOf3
 v3:=Tryz.zeroValue3
 t4:=Tryz.underlying4
 a4:=Tryz.isAgg4
 z4:=Tryz.sizeOf4
 v4:=Tryz.zeroValue4
 t5:=Tryz.underlying5
 a5:=Tryz.isAgg5
 z5:=Tryz.sizeOf5
 v5:=Tryz.zeroValue5
 t9:=Tryz.underlying9
 a9:=Tryz.isAgg9
 z9:=Tryz.sizeOf9
 v9:=Tryz.zeroValue9
 t46:=Tryz.underlying46
 a46:=Tryz.isAgg46
 z46:=Tryz.sizeOf46
 v46:=Tryz.zeroValue46
 t53:=Tryz.underlying131
 a53:=Tryz.isAgg131
 z53:=Tryz.sizeOf131
 v53:=Tryz.zeroValue131 }
theorem Tryz.bits_Len64 (x:Int) (w:World) (h0:0≤x) (h1:x≤18446744073709551615) :
  Calls Tryz.prog 176 #[.int .u64 x] w fun e w'=>e = .returned (.int .i64 (Lib.bitLen x.toNat))∧w'=w:=Any.bits_Len64 Tryz.lays129 x w h0 h1
def Tryz.lays264_ren:Go.Shelf.Ren:=⟨fun | 264=>178 | n=>n,fun | 53=>131 | 46=>46 | n=>n,fun | n=>n⟩
theorem Tryz.lays264:Go.Proofs.Lays.n264 Tryz.prog Tryz.lays264_ren:={
 mixed:=by kernel_rfl
 f264:=Tryz.func178.trans (congrArg some (by kernel_rfl))
 t46:=Tryz.underlying46
 a46:=Tryz.isAgg46
 z46:=Tryz.sizeOf46
 v46:=Tryz.zeroValue46
 t53:=Tryz.underlying131
 a53:=Tryz.isAgg131
 z53:=Tryz.sizeOf131
 v53:=Tryz.zeroValue131 }
open Go.RowKit Go.Lib in
theorem Tryz.bits_Mul64 (x y:Nat) (hx:x<18446744073709551616) (hy:y<18446744073709551616) (w:World) :
  Calls Tryz.prog 178 #[.int .u64 x,.int .u64 y] w fun e w'=>e = .returned (.tuple #[.int .u64 ((x*y / 18446744073709551616:Nat):Int),.int .u64 ((x*y%18446744073709551616:Nat):Int)])∧w'=w:=Any.bits_Mul64 Tryz.lays264 x y hx hy w
def Tryz.lays212_ren:Go.Shelf.Ren:=⟨fun | 212=>165 | 263=>177 | 264=>178 | n=>n,fun | 46=>46 | 51=>198 | 146=>199 | 53=>131 | 148=>201 | n=>n,fun | n=>n⟩
theorem Tryz.lays212:Go.Proofs.Lays.n212 Tryz.prog Tryz.lays212_ren:={
 mixed:=by kernel_rfl
 f212:=Tryz.func165.trans (congrArg some (by kernel_rfl))
 f263:=Tryz.func177.trans (congrArg some (by kernel_rfl))
 f264:=Tryz.func178.trans (congrArg some (by kernel_rfl))
 t46:=Tryz.underlying46
 a46:=Tryz.isAgg46
 z46:=Tryz.sizeOf46
 v46:=Tryz.zeroValue46
 t51:=Tryz.underlying198
 a51:=Tryz.isAgg198
 z51:=Tryz.sizeOf198
 v51:=Tryz.zeroValue198
 t53:=Tryz.underlying131
 a53:=Tryz.isAgg131
 z53:=Tryz.sizeOf131
 v53:=Tryz.zeroValue131
 t146:=Tryz.underlying199
 a146:=Tryz.isAgg199
 z146:=Tryz.sizeOf199
 v146:=Tryz.zeroValue199
 t148:=Tryz.underlying201
 a148:=Tryz.isAgg201
 z148:=Tryz.sizeOf201
 v148:=Tryz.zeroValue201 }
open Go.RowKit Go.Lib in
theorem Tryz.bits_Mul (x y:Nat) (hx:x<18446744073709551616) (hy:y<18446744073709551616) (w:World) :
  Calls Tryz.prog 165 #[.int .u64 x,.int .u64 y] w fun e w'=>e = .returned (.tuple #[.int .u64 ((x*y / 18446744073709551616:Nat):Int),.int .u64 ((x*y%18446744073709551616:Nat):Int)])∧w'=w:=Any.bits_Mul Tryz.lays212 x y hx hy w
def Tryz.laysnb115_ren:Go.Shelf.Ren:=⟨fun | 115=>32 | n=>n,fun | 37=>23 | 4=>4 | 9=>9 | 5=>5 | n=>n,fun | n=>n⟩
theorem Tryz.laysnb115:Go.Proofs.Lays.nb115 Tryz.prog Tryz.laysnb115_ren:={
 mixed:=by kernel_rfl
 f115:=Tryz.func32.trans (congrArg some (by kernel_rfl))
 t4:=Tryz.underlying4
 a4:=Tryz.isAgg4
 z4:=Tryz.sizeOf4
 v4:=Tryz.zeroValue4
 t9:=Tryz.underlying9
 a9:=Tryz.isAgg9
 z9:=Tryz.sizeOf9
 v9:=Tryz.zeroValue9
 t37:=Tryz.underlying23
 a37:=Tryz.isAgg23
 z37:=Tryz.sizeOf23
 v37:=Tryz.zeroValue23
 t5:=Tryz.underlying5
 a5:=Tryz.isAgg5
 z5:=Tryz.sizeOf5
 v5:=Tryz.zeroValue5 }
theorem Tryz.bytes_Equal_all (p1 p2:Option Addr) (n c m d:Nat) (xs ys:List Int) (w:World) (hx:xs.length=n) (hy:ys.length=m) (h1:Lib.BytesIn w p1 n xs) (h2:Lib.BytesIn w p2 m ys) :
  Calls Tryz.prog 32 #[.slice p1 n c,.slice p2 m d] w fun e w'=>e = .returned (.bool (Lib.bytesOf xs==Lib.bytesOf ys))∧w'=w:=Any.bytes_Equal_all Tryz.laysnb115 p1 p2 n c m d xs ys w hx hy h1 h2
def Tryz.lays115_ren:Go.Shelf.Ren:=⟨fun | 115=>32 | n=>n,fun | 37=>23 | 4=>4 | 9=>9 | 5=>5 | n=>n,fun | n=>n⟩
theorem Tryz.lays115:Go.Proofs.Lays.n115 Tryz.prog Tryz.lays115_ren:={
 mixed:=by kernel_rfl
 f115:=Tryz.func32.trans (congrArg some (by kernel_rfl))
 t4:=Tryz.underlying4
 a4:=Tryz.isAgg4
 z4:=Tryz.sizeOf4
 v4:=Tryz.zeroValue4
 t9:=Tryz.underlying9
 a9:=Tryz.isAgg9
 z9:=Tryz.sizeOf9
 v9:=Tryz.zeroValue9
 t37:=Tryz.underlying23
 a37:=Tryz.isAgg23
 z37:=Tryz.sizeOf23
 v37:=Tryz.zeroValue23 }
theorem Tryz.bytes_Equal (v1 v2:Value) (xs ys:List Int) (w:World) (h1:(convert 23 9 v1).run Tryz.prog w = .ok (.string (strOfNums xs)) w) (h2:(convert 23 9 v2).run Tryz.prog w = .ok (.string (strOfNums ys)) w) :
  Calls Tryz.prog 32 #[v1,v2] w fun e w'=>e = .returned (.bool (Lib.bytesOf xs==Lib.bytesOf ys))∧w'=w:=Any.bytes_Equal Tryz.lays115 v1 v2 xs ys w h1 h2
end Go.Proofs
namespace Go.Proofs.YtofkehhflkdabaaGreatDoor
open Go Go.RowKit
def addLo (x y c:Nat):Nat:=(x+y+c)%W64
def addHi (x y c:Nat):Nat:=(x+y+c) / W64
def subLo (x y c:Nat):Nat:=(x+W64-y-c)%W64
def subHi (x y c:Nat):Nat:=if x<y+c then 1 else 0
def mulLo (x y c:Nat):Nat:=(x*y+c)%W64
def mulHi (x y c:Nat):Nat:=(x*y+c) / W64
theorem add_eq (x y c:Nat):addLo x y c+W64*addHi x y c=x+y+c:=by unfold addLo addHi;exact Nat.mod_add_div _ _
theorem mul_eq (x y c:Nat):mulLo x y c+W64*mulHi x y c=x*y+c:=by unfold mulLo mulHi;exact Nat.mod_add_div _ _
theorem addLo_lt (x y c:Nat):addLo x y c<W64:=Nat.mod_lt _ W64_pos
theorem subLo_lt (x y c:Nat):subLo x y c<W64:=Nat.mod_lt _ W64_pos
theorem mulLo_lt (x y c:Nat):mulLo x y c<W64:=Nat.mod_lt _ W64_pos
theorem addHi_le {x y c:Nat} (hx:x<W64) (hy:y<W64) (hc:c≤1):addHi x y c≤1:=by
 unfold addHi
 have:(x+y+c) / W64<2:=by rw [Nat.div_lt_iff_lt_mul W64_pos];omega
 omega
theorem subHi_le (x y c:Nat):subHi x y c≤1:=by unfold subHi;split<;>omega
theorem sub_eq {x y c:Nat} (hx:x<W64) (hy:y<W64) (hc:c≤1):subLo x y c+y+c=x+W64*subHi x y c:=by
 unfold subLo subHi
 split
 ·rw [Nat.mod_eq_of_lt (by omega)];omega
 ·rename_i h
  rw [show x+W64-y-c=(x-y-c)+W64 from by omega,Nat.add_mod_right,Nat.mod_eq_of_lt (by omega)]
  omega
theorem mulHi_lt {x y c:Nat} (hx:x<W64) (hy:y<W64) (hc:c<W64):mulHi x y c<W64:=by
 unfold mulHi
 rw [Nat.div_lt_iff_lt_mul W64_pos]
 have h1:x*y≤(W64-1)*(W64-1):=Nat.mul_le_mul (by omega) (by omega)
 have h2:(W64-1)*(W64-1)+W64≤W64*W64:=by decide
 omega
theorem run_Add64 (x y c:Nat) (hx:x<W64) (hy:y<W64) (hc:c≤1) (w:World) :
  (callFunc 153 #[.int .u64 (x:Int),.int .u64 (y:Int),.int .u64 (c:Int)]).run Tryz.prog w =
   .ok (.value (.tuple #[.int .u64 (addLo x y c:Nat),.int .u64 (addHi x y c:Nat)])) w:=by
 unfold addLo addHi
 unfold W64 at *
 rw [run_callFunc_extern Tryz.func153 (by kernel_rfl) (by kernel_rfl) (by kernel_rfl) (e:=add64Entry) (by kernel_rfl),run_add64 x y c (by omega) (by omega) (by omega) (by omega)]
 simp only [Result.andThen]
 congr 5<;>omega
theorem run_Sub64 (x y b:Nat) (hb:b≤1) (w:World) :
  (callFunc 155 #[.int .u64 (x:Int),.int .u64 (y:Int),.int .u64 (b:Int)]).run Tryz.prog w =
   .ok (.value (.tuple #[.int .u64 (subLo x y b:Nat),.int .u64 (subHi x y b:Nat)])) w:=by
 unfold subLo subHi W64
 rw [run_callFunc_extern Tryz.func155 (by kernel_rfl) (by kernel_rfl) (by kernel_rfl) (e:=sub64Entry) (by kernel_rfl),run_sub64 x y b hb]
 rfl
theorem Add_any (x y c:Nat) (hx:x<W64) (hy:y<W64) (hc:c≤1) (w:World) :
  Calls Tryz.prog 125 #[.int .u64 (x:Int),.int .u64 (y:Int),.int .u64 (c:Int)] w fun e w'=>
   e = .returned (.tuple #[.int .u64 (addLo x y c:Nat),.int .u64 (addHi x y c:Nat)])∧w=w':=by
 have H:=fun w=>run_Add64 x y c hx hy hc w
 go_enter Tryz.func125,Tryz.ntmps125
 go_wp2_with fail
 go_ret2
 exact⟨rfl,rfl⟩
theorem Sub_any (x y c:Nat) (hc:c≤1) (w:World) :
  Calls Tryz.prog 127 #[.int .u64 (x:Int),.int .u64 (y:Int),.int .u64 (c:Int)] w fun e w'=>
   e = .returned (.tuple #[.int .u64 (subLo x y c:Nat),.int .u64 (subHi x y c:Nat)])∧w=w':=by
 have H:=fun w=>run_Sub64 x y c hc w
 go_enter Tryz.func127,Tryz.ntmps127
 go_wp2_with fail
 go_ret2
 exact⟨rfl,rfl⟩
theorem Mul_any (x y:Nat) (hx:x<W64) (hy:y<W64) (w:World) :
  Calls Tryz.prog 165 #[.int .u64 (x:Int),.int .u64 (y:Int)] w fun e w'=>
   e = .returned (.tuple #[.int .u64 (mulHi x y 0:Nat),.int .u64 (mulLo x y 0:Nat)])∧w=w':=
 (Tryz.bits_Mul x y hx hy w).mono fun _ _ h=>⟨h.1,h.2.symm⟩
theorem mulWW_any (x y:Nat) (hx:x<W64) (hy:y<W64) (w:World) :
  Calls Tryz.prog 140 #[.int .u64 (x:Int),.int .u64 (y:Int)] w fun e w'=>
   e = .returned (.tuple #[.int .u64 (mulHi x y 0:Nat),.int .u64 (mulLo x y 0:Nat)])∧w=w':=by
 go_enter Tryz.func140,Tryz.ntmps140
 go_wp2_with (go_at_call 165;refine(Mul_any x y hx hy _).mono ?_;rintro e w' ⟨rfl,rfl⟩)
 go_ret2
 exact⟨rfl,rfl⟩
theorem mulAdd_parts {x y c:Nat} (_hx:x<W64) (_hy:y<W64) (_hc:c<W64) :
  mulHi x y 0+addHi (mulLo x y 0) c 0=mulHi x y c∧addLo (mulLo x y 0) c 0=mulLo x y c:=by
 have h1:=mul_eq x y 0
 have h2:=mul_eq x y c
 have h3:=add_eq (mulLo x y 0) c 0
 have h4:=addLo_lt (mulLo x y 0) c 0
 have h5:=mulLo_lt x y c
 have e:addLo (mulLo x y 0) c 0+W64*(mulHi x y 0+addHi (mulLo x y 0) c 0)=mulLo x y c+W64*mulHi x y c:=by
  rw [Nat.mul_add];omega
 have a:=congrArg (· % W64) e
 have b:=congrArg (· / W64) e
 simp only [Nat.add_mul_mod_self_left,Nat.mod_eq_of_lt h4,Nat.mod_eq_of_lt h5] at a
 simp only [Nat.add_mul_div_left _ _ W64_pos,Nat.div_eq_of_lt h4,Nat.div_eq_of_lt h5] at b
 exact⟨by omega,a⟩
theorem mulAddWWW_any (x y c:Nat) (hx:x<W64) (hy:y<W64) (hc:c<W64) (w:World) :
  Calls Tryz.prog 166 #[.int .u64 (x:Int),.int .u64 (y:Int),.int .u64 (c:Int)] w fun e w'=>
   e = .returned (.tuple #[.int .u64 (mulHi x y c:Nat),.int .u64 (mulLo x y c:Nat)])∧w=w':=by
 have hp:=mulAdd_parts hx hy hc
 have hl:=mulHi_lt hx hy hc
 have hw:IntKind.u64.wrap ((mulHi x y 0:Int)+(addHi (mulLo x y 0) c 0:Int))=((mulHi x y c:Nat):Int):=by
  rw [← hp.1]
  have:mulHi x y 0+addHi (mulLo x y 0) c 0<W64:=by rw [hp.1];exact hl
  unfold W64 at this
  exact IntWalk.u64_in _ (by omega)
 have hp2:=hp.2
 clear hp
 go_enter Tryz.func166,Tryz.ntmps166
 go_wp2_with (first | (go_at_call 165;refine(Mul_any x y hx hy _).mono ?_;rintro e w' ⟨rfl,rfl⟩) | (go_at_call 125;refine(Add_any (mulLo x y 0) c 0 (mulLo_lt _ _ _) hc (by omega) _).mono ?_;rintro e w' ⟨rfl,rfl⟩))
 go_ret2
 exact⟨rfl,rfl⟩
def shlN (x s:Nat):Nat:=x*2^s%W64
def shrN (x s:Nat):Nat:=x / 2^s
theorem shlN_lt (x s:Nat):shlN x s<W64:=Nat.mod_lt _ W64_pos
theorem shrN_le (x s:Nat):shrN x s≤x:=Nat.div_le_self _ _
theorem run_shl (x s:Nat) (hs:s<64) (w:World):(Op.shift .shl .u64 (x:Int) .u64 (s:Int)).run Tryz.prog w = .ok (.int .u64 (shlN x s:Nat)) w:=by
 have h0:¬((s:Int)<0):=by omega
 have h1:min (s:Int).toNat IntKind.u64.bits=s:=by simp [IntKind.bits];omega
 simp only [Op.shift,if_neg h0,h1,Sem.run_pure,IntKind.wrap_u64]
 unfold shlN W64
 congr 2
theorem run_shr (x s:Nat) (hs:s<64) (w:World):(Op.shift .shr .u64 (x:Int) .u64 (s:Int)).run Tryz.prog w = .ok (.int .u64 (shrN x s:Nat)) w:=by
 have h0:¬((s:Int)<0):=by omega
 have h1:min (s:Int).toNat IntKind.u64.bits=s:=by simp [IntKind.bits];omega
 simp only [Op.shift,if_neg h0,h1,Sem.run_pure]
 unfold shrN
 have:(x:Int).fdiv (2^s)=((x / 2^s:Nat):Int):=by
  rw [Int.fdiv_eq_ediv_of_nonneg _ (Int.le_of_lt (Int.pow_pos (by decide)))]
  simp
 rw [this]
theorem shr_form (s:Nat) (hs:s<64) (x:Nat):(x:Int) / 2^min s 64=(shrN x s:Nat):=by
 unfold shrN;rw [Nat.min_eq_left (by omega)];simp
theorem shl_form (s:Nat) (hs:s<64) (x:Nat):IntKind.u64.wrap ((x:Int)*2^min s 64)=(shlN x s:Nat):=by
 rw [IntKind.wrap_u64];unfold shlN W64;rw [Nat.min_eq_left (by omega)];simp
theorem shr_form' (s:Nat) (x:Nat):(x:Int) / 2^s=(shrN x s:Nat):=by
 unfold shrN;simp
theorem shl_form' (s:Nat) (x:Nat):IntKind.u64.wrap ((x:Int)*2^s)=(shlN x s:Nat):=by
 rw [IntKind.wrap_u64];unfold shlN W64;simp
def orN (x s y t:Nat):Nat:=shlN x s+shrN y t
theorem W64_split {s t:Nat} (h:s+t=64):W64=2^s*2^t:=by rw [W64_eq,← h,Nat.pow_add]
theorem shlN_eq {s t:Nat} (h:s+t=64) (x:Nat):shlN x s=x%2^t*2^s:=by
 unfold shlN;rw [W64_split h,Nat.mul_comm (2^s),Nat.mul_mod_mul_right]
theorem shl_shr {s t:Nat} (h:s+t=64) (x:Nat):shlN x s+W64*shrN x t=x*2^s:=by
 rw [shlN_eq h,W64_split h];unfold shrN
 have:=Nat.mod_add_div x (2^t)
 conv=>rhs;rw [← this]
 grind
theorem shrN_lt {s t:Nat} (h:s+t=64) {x:Nat} (hx:x<W64):shrN x t<2^s:=by
 unfold shrN;rw [Nat.div_lt_iff_lt_mul (Nat.pow_pos (by decide)),← W64_split h];exact hx
theorem bits_or_shl {s t:Nat} (h:s+t=64) (x:Nat) {y:Nat} (hy:y<W64) :
  bits .or .u64 (shlN x s:Int) (shrN y t:Int)=((orN x s y t:Nat):Int):=by
 unfold orN
 have h1:=shlN_lt x s
 have h2:shrN y t<W64:=Nat.lt_of_le_of_lt (shrN_le _ _) hy
 have h3:=shrN_lt h hy
 unfold W64 at h1 h2
 rw [bits_or_u64_nat _ _ h1 h2]
 congr 1
 rw [shlN_eq h,Nat.mul_comm,← Nat.two_pow_add_eq_or_of_lt h3]
theorem bits_or_shr {s t:Nat} (h:s+t=64) (x:Nat) {y:Nat} (hy:y<W64) :
  bits .or .u64 (shrN y t:Int) (shlN x s:Int)=((orN x s y t:Nat):Int):=by
 unfold orN
 have h1:=shlN_lt x s
 have h2:shrN y t<W64:=Nat.lt_of_le_of_lt (shrN_le _ _) hy
 have h3:=shrN_lt h hy
 unfold W64 at h1 h2
 rw [bits_or_u64_nat _ _ h2 h1]
 congr 1
 rw [shlN_eq h,Nat.or_comm,Nat.mul_comm,← Nat.two_pow_add_eq_or_of_lt h3]
theorem or_lt {s t:Nat} (h:s+t=64) (x:Nat) {y:Nat} (hy:y<W64):orN x s y t<W64:=by
 unfold orN
 have h3:=shrN_lt h hy
 rw [shlN_eq h,W64_split h]
 have h4:x%2^t+1≤2^t:=Nat.mod_lt _ (Nat.pow_pos (by decide))
 have h5:=Nat.mul_le_mul_right (2^s) h4
 rw [Nat.succ_mul] at h5
 rw [Nat.mul_comm (2^s)]
 omega
theorem and63 (s:Nat) (hs:s<64):bits .and .u64 (s:Int) 63=(s:Int):=by
 have:=bits_and_u64_nat s 63 (by omega) (by omega)
 rw [show ((63:Nat):Int)=63 from rfl] at this
 rw [this]
 congr 1
 rw [show 63=2^6-1 from rfl,Nat.and_two_pow_sub_one_eq_mod,Nat.mod_eq_of_lt (by omega)]
theorem val_shl {s t:Nat} (h:s+t=64) (c d:Nat→Nat) (o p:Nat) (h0:d p=shlN (c o) s):∀m,(∀i,0<i→i≤m→d (p+i)=shlN (c (o+i)) s+shrN (c (o+i-1)) t) →
  val d p (m+1)+shrN (c (o+m)) t*W64^(m+1)=val c o (m+1)*2^s:=by
 intro m
 induction m with
 | zero=>
  intro _
  have:=shl_shr h (c o)
  simp only [val,Nat.add_zero,h0,Nat.zero_add,Nat.pow_zero,Nat.mul_one,Nat.pow_one]
  rw [Nat.mul_comm (shrN _ _)]
  exact this
 | succ m ih=>
  intro hd
  have ih:=ih (fun i h1 h2=>hd i h1 (by omega))
  have e1:val d p (m+1+1)=val d p (m+1)+d (p+(m+1))*W64^(m+1):=rfl
  have e2:val c o (m+1+1)=val c o (m+1)+c (o+(m+1))*W64^(m+1):=rfl
  have e3:=hd (m+1) (by omega) (by omega)
  rw [show o+(m+1)-1=o+m from by omega] at e3
  have e4:=shl_shr h (c (o+(m+1)))
  rw [e1,e2,e3,Nat.pow_succ W64 (m+1),Nat.add_mul (val c o (m+1)),← ih]
  have e5:c (o+(m+1))*W64^(m+1)*2^s=(shlN (c (o+(m+1))) s+W64*shrN (c (o+(m+1))) t)*W64^(m+1):=by rw [e4];grind
  rw [e5]
  grind
theorem val_shr {s t:Nat} (h:s+t=64) (c d:Nat→Nat) (o p:Nat):∀m,(∀i,i<m→d (p+i)=shlN (c (o+i+1)) t+shrN (c (o+i)) s)→d (p+m)=shrN (c (o+m)) s →
  val d p (m+1)=val c o (m+1) / 2^s:=by
 intro m hd hm
 have key:∀k,k≤m→val d p k*2^s+c o%2^s=val c o k+(c (o+k)%2^s)*W64^k:=by
  intro k
  induction k with
  | zero=>intro _;simp [val]
  | succ k ih=>
   intro hk
   have ih:=ih (by omega)
   simp only [val]
   rw [hd k (by omega),shlN_eq (by omega:t+s=64),Nat.pow_succ,W64_split h,show o+(k+1)=o+k+1 from rfl]
   rw [W64_split h] at ih
   have e:=Nat.mod_add_div (c (o+k)) (2^s)
   unfold shrN
   have e2:c (o+k)*(2^s*2^t)^k=(c (o+k)%2^s+2^s*(c (o+k) / 2^s))*(2^s*2^t)^k:=by rw [e]
   rw [e2]
   grind
 have k1:=key m (Nat.le_refl _)
 have e:=Nat.mod_add_div (c (o+m)) (2^s)
 have e2:val d p (m+1)*2^s+c o%2^s=val c o (m+1):=by
  simp only [val]
  rw [hm];unfold shrN
  have e3:c (o+m)*W64^m=(c (o+m)%2^s+2^s*(c (o+m) / 2^s))*W64^m:=by rw [e]
  rw [e3]
  grind
 have hlt:c o%2^s<2^s:=Nat.mod_lt _ (Nat.pow_pos (by decide))
 rw [← e2,Nat.add_comm (val d p (m+1)*2^s),Nat.add_mul_div_right _ _ (Nat.pow_pos (by decide)),Nat.div_eq_of_lt hlt,Nat.zero_add]
def Nope (_:Nat):Prop:=False
theorem row_alloc (w:World) (n:Nat) (T:TypeId):Row (w.alloc (.cells (Array.ofFn fun _:Fin n=>Value.int .u64 0) T (0,0))) w.heap.size n (fun _=>0):=
 ⟨⟨T,by show (w.heap.push _)[w.heap.size]?=_;simp⟩,fun _ _=>W64_pos⟩
theorem run_make_u64 (T:TypeId) (hT:Tryz.prog.underlying T=some (.slice 102)) (w:World) (l c:Nat) (hlc:l≤c) (hc:c<2000000) (kl kc:IntKind) :
  ∃b w',(Instr.makeSlice T (.int kl (l:Int)) (.int kc (c:Int))).run Tryz.prog w = .ok (.slice (some ⟨b,0,none⟩) l c) w'∧w.heap.size≤b∧Row w' b c (fun _=>0)∧Keep Nope w w':=by
 have h:=(by kernel_rfl:(Tryz.prog.info? 102).map (fun i=>(i.zero,i.size,i.bytes))=some (some (.int .u64 0),1,8))
 cases e:Tryz.prog.info? 102 with
 | none=>rw [e] at h;simp at h
 | some i=>
  rw [e] at h
  simp only [Option.map_some,Option.some.injEq,Prod.mk.injEq] at h
  have hr:=run_make (P:=Tryz.prog) w T 102 i (.int .u64 0) hT e h.1 kl kc l c (by omega) (by omega) (by rw [h.2.2];omega) (by omega)
  rw [h.2.1] at hr
  simp only [Int.toNat_natCast,Nat.mul_one] at hr
  have e1:madeCells (Value.int .u64 0).cells c=Array.ofFn fun _:Fin c=>Value.int .u64 0:=by
   have e3:(Value.int .u64 0).cells=#[Value.int .u64 0]:=rfl
   rw [e3]
   apply Array.ext
   ·simp [madeCells]
   ·intro i h1 h2
    simp [madeCells,Nat.mod_one]
  rw [e1] at hr
  exact⟨_,_,hr,Nat.le_refl _,row_alloc w c 102,(Keep.refl _ _).alloc _⟩
def lay (c:Nat→Nat) (o n:Nat) (d:Nat→Nat):Nat→Nat:=fun i=>if o≤i∧i<o+n then d (i-o) else c i
theorem lay_in (c:Nat→Nat) (o n:Nat) (d:Nat→Nat) {i:Nat} (h:i<n):lay c o n d (o+i)=d i:=by
 simp only [lay];rw [if_pos (by omega)];congr 1;omega
theorem lay_out (c:Nat→Nat) (o n:Nat) (d:Nat→Nat) {i:Nat} (h:i<o∨o+n≤i):lay c o n d i=c i:=by
 simp only [lay];rw [if_neg (by omega)]
theorem Row.setRow {w:World} {b N:Nat} {c:Nat→Nat} (h:Row w b N c) (o n:Nat) (d:Nat→Nat) (hl:o+n≤N) (hd:∀i,i<n→d i<W64) (T:TypeId)
  (hT:w.heap[b]?=some (.cells (Array.ofFn fun i:Fin N=>Value.int .u64 (c i:Nat)) T (0,0))) :
  Row (w.setRow b ((Array.ofFn fun i:Fin N=>Value.int .u64 (c i:Nat)).toList.take o++(List.range n).map (fun i=>Value.int .u64 (d i:Nat)) ++
   (Array.ofFn fun i:Fin N=>Value.int .u64 (c i:Nat)).toList.drop (o+n)).toArray) b N (lay c o n d):=by
 refine⟨⟨T,?_⟩,?_⟩
 ·rw [setRow_heap w b _ _ T (0,0) hT]
  congr 2
  apply Array.ext
  ·simp;omega
  ·intro j h1 h2
   simp only [Array.size_ofFn] at h2
   have hlen:((Array.ofFn fun i:Fin N=>Value.int .u64 (c i:Nat)).toList).length=N:=by simp
   simp only [Array.getElem_ofFn,List.getElem_toArray]
   by_cases hj:j<o
   ·rw [List.getElem_append_left (by simp;omega),List.getElem_append_left (by simp;omega)]
    simp [lay_out c o n d (.inl hj)]
   ·by_cases hj2:j<o+n
    ·rw [List.getElem_append_left (by simp;omega),List.getElem_append_right (by simp;omega)]
     have e:=lay_in c o n d (i:=j-o) (by omega)
     rw [show o+(j-o)=j from by omega] at e
     simp only [List.getElem_map,List.getElem_range,List.length_take,hlen,Nat.min_eq_left (show o≤N by omega),e]
    ·rw [List.getElem_append_right (by simp;omega)]
     simp only [List.getElem_drop,List.length_append,List.length_take,List.length_map,List.length_range,hlen,Nat.min_eq_left (show o≤N by omega)]
     have e:o+n+(j-(o+n))=j:=by omega
     simp [e,lay_out c o n d (i:=j) (.inr (by omega))]
 ·intro i hi
  simp only [lay]
  split
  ·exact hd _ (by omega)
  ·exact h.lt i hi
theorem keep_setRow (w:World) (b:Nat) (cs:Array Value):Keep (·=b) w (w.setRow b cs):=
 ⟨rfl,rfl,rfl,by simp [World.setRow],fun k _ hs=>by
  simp only [World.setRow,Array.getElem?_modify];rw [if_neg (fun e=>hs e.symm)]⟩
theorem slice_from (b o k j:Nat):∃a,(if k=j then some (⟨b,o,none⟩:Addr) else some ⟨b,o+j,none⟩)=some ⟨b,a,none⟩∧(a=o+j∨k=j∧a=o):=by
 by_cases h:k=j
 ·exact⟨o,by rw [if_pos h],.inr ⟨h,rfl⟩⟩
 ·exact⟨o+j,by rw [if_neg h],.inl rfl⟩
theorem size102:(Tryz.prog.info? 102).map (·.size)=some 1:=by kernel_rfl
theorem run_copy_u64 (dT sT ty:TypeId) (hu:Tryz.prog.underlying dT=some (.slice 102)) {w:World} {bz oz dL dK Nz bx ox sL sK Nx:Nat} {cz cx:Nat→Nat}
  (hz:Row w bz Nz cz) (hx:Row w bx Nx cx) (n:Nat) (hn:n=Nat.min sL dL) (lz:oz+n≤Nz) (lx:ox+n≤Nx) :
  ∃w' c',(Builtin.copy_ #[dT,sT] ty #[.slice (some ⟨bz,oz,none⟩) dL dK,.slice (some ⟨bx,ox,none⟩) sL sK]).run Tryz.prog w = .ok (goInt n) w' ∧
   Row w' bz Nz c'∧Keep (·=bz) w w'∧(∀i,i<n→c' (oz+i)=cx (ox+i))∧(∀i,i<oz∨oz+n≤i→c' i=cz i):=by
 obtain⟨T,hT⟩:=hz.blk
 have hrow:=hz.setRow oz n (fun i=>cx (ox+i)) lz (fun i hi=>hx.lt _ (by omega)) T hT
 have hrun:=run_copy_row Tryz.prog w dT sT ty 102 bz oz dL dK ⟨bx,ox,none⟩ sL sK _ T ((List.range n).map (fun i=>Value.int .u64 (cx (ox+i):Nat))) hu size102 hT
  (by simp [hn]) (fun j v hj=>by
   simp only [List.getElem?_map] at hj
   by_cases hjn:j<n
   ·simp only [List.getElem?_range hjn,Option.map_some,Option.some.injEq] at hj
    subst hj
    have:(⟨bx,ox,none⟩:Addr).add j=⟨bx,ox+j,none⟩:=by unfold Addr.add;split<;>simp_all
    rw [this];exact hx.cell (by omega)
   ·rw [List.getElem?_eq_none (by simp;omega)] at hj;simp at hj) (by simp;omega) (fun v hv=>by
   simp only [List.mem_map] at hv
   obtain⟨i,_,rfl⟩:=hv;rfl)
 simp only [List.length_map,List.length_range] at hrun
 exact⟨_,_,hrun,hrow,keep_setRow _ _ _,fun i hi=>lay_in _ _ _ _ hi,fun i hi=>lay_out _ _ _ _ hi⟩
theorem zero102 (w:World):(zeroValue 102).run Tryz.prog w = .ok (.int .u64 0) w:=by kernel_rfl
theorem run_clear_u64 (T ty:TypeId) (hu:Tryz.prog.underlying T=some (.slice 102)) {w:World} {bz oz n dK Nz:Nat} {cz:Nat→Nat} (hz:Row w bz Nz cz) (lz:oz+n≤Nz) :
  ∃w' c',(Builtin.clear_ #[T] ty #[.slice (some ⟨bz,oz,none⟩) n dK]).run Tryz.prog w = .ok (.tuple #[]) w' ∧
   Row w' bz Nz c'∧Keep (·=bz) w w'∧(∀i,i<n→c' (oz+i)=0)∧(∀i,i<oz∨oz+n≤i→c' i=cz i):=by
 obtain⟨T',hT⟩:=hz.blk
 have hrow:=hz.setRow oz n (fun _=>0) lz (fun i _=>W64_pos) T' hT
 by_cases h0:n=0
 ·subst h0
  refine⟨w,cz,?_,hz,Keep.refl _ _,fun i hi=>by omega,fun i _=>rfl⟩
  simp [Builtin.clear_,run_underlying hu]
 ·have e1:((List.range n).map (fun i=>Value.int .u64 (((fun _=>0) i:Nat):Int)))=List.replicate n (Value.int .u64 0):=by
   apply List.ext_getElem<;>simp
  rw [e1] at hrow
  have hst:=run_storeCells_at Tryz.prog bz oz T' (List.replicate n (Value.int .u64 0)) 0 _ w hT (by simp;omega) (fun v hv=>by
   rw [List.mem_replicate] at hv;rw [hv.2];rfl)
  simp only [Nat.add_zero,List.length_replicate] at hst
  refine⟨_,_,?_,hrow,keep_setRow _ _ _,fun i hi=>lay_in _ _ _ _ hi,fun i hi=>lay_out _ _ _ _ hi⟩
  have e2:(Builtin.zeroCells (Value.int .u64 0).cells n).toList=List.replicate n (Value.int .u64 0):=by
   have e3:(Value.int .u64 0).cells=#[Value.int .u64 0]:=rfl
   rw [e3]
   apply List.ext_getElem
   ·simp [Builtin.zeroCells]
   ·intro i h1 h2
    simp [Builtin.zeroCells,Nat.mod_one]
  obtain⟨m,rfl⟩:∃m,n=m+1:=⟨n-1,by omega⟩
  simp only [Builtin.clear_,Sem.run_bind,Sem.run_pure,run_underlying hu,Ls5,Ls4,Result.andThen_ok]
  simp only [zero102,Result.andThen_ok,e2,hst]
section
variable {P:Program} (w:World)
theorem run_neq_same {tp te:TypeId} {j:TypeInfo} (a:Addr) (hp:P.underlying tp=some (.pointer te)) (hte:P.info? te=some j) :
  (binOp .neq tp (.pointer (some a)) (.pointer (some a))).run P w = .ok (.bool false) w:=by
 have h:∀d:Nat,(Op.equalIn (d+1) tp (.pointer (some a)) (.pointer (some a))).run P w = .ok true w:=fun d=>by
  simp [Op.equalIn,run_underlying hp,sizeOf,typeInfo,hte,run_sameAddr_same]
 simp only [binOp]
 simp [Op.equal,Op.maxDepth,h 9999]
theorem run_neq_other {tp te:TypeId} {j:TypeInfo} {a b:Addr} {ca cb:Array Value} {ta tb:TypeId} (hp:P.underlying tp=some (.pointer te)) (hte:P.info? te=some j) (hsz:j.size≠0)
  (hne:a≠b) (ha:w.heap[a.block]?=some (.cells ca ta (0,0))) (hb:w.heap[b.block]?=some (.cells cb tb (0,0))) :
  (binOp .neq tp (.pointer (some a)) (.pointer (some b))).run P w = .ok (.bool true) w:=by
 have h:∀d:Nat,(Op.equalIn (d+1) tp (.pointer (some a)) (.pointer (some b))).run P w = .ok false w:=fun d=>by
  simp [Op.equalIn,run_underlying hp,sizeOf,typeInfo,hte,hsz,run_sameAddr_other w hne ha hb]
 simp only [binOp]
 simp [Op.equal,Op.maxDepth,h 9999]
end
theorem info102:∃j,Tryz.prog.info? 102=some j∧j.size≠0:=by
 have h:=(by kernel_rfl:(Tryz.prog.info? 102).map (·.size)=some 1)
 cases e:Tryz.prog.info? 102 with
 | none=>rw [e] at h;simp at h
 | some j=>rw [e] at h;simp at h;exact⟨j,rfl,by omega⟩
theorem neq_word_same (w:World) (a:Addr):(binOp .neq 151 (.pointer (some a)) (.pointer (some a))).run Tryz.prog w = .ok (.bool false) w:=by
 obtain⟨j,hj,_⟩:=info102
 exact run_neq_same w a Tryz.underlying151 hj
theorem eql_word_same (w:World) (a:Addr):(binOp .eql 151 (.pointer (some a)) (.pointer (some a))).run Tryz.prog w = .ok (.bool true) w:=by
 obtain⟨j,hj,_⟩:=info102
 exact run_eql_ptr_same w a Tryz.underlying151 hj
theorem neq_word_other (w:World) {b1 b2 o1 o2 N1 N2:Nat} {c1 c2:Nat→Nat} (h1:Row w b1 N1 c1) (h2:Row w b2 N2 c2) (h:b1≠b2∨o1≠o2) :
  (binOp .neq 151 (.pointer (some ⟨b1,o1,none⟩)) (.pointer (some ⟨b2,o2,none⟩))).run Tryz.prog w = .ok (.bool true) w:=by
 obtain⟨j,hj,hs⟩:=info102
 obtain⟨T1,hT1⟩:=h1.blk
 obtain⟨T2,hT2⟩:=h2.blk
 exact run_neq_other w (a:=⟨b1,o1,none⟩) (b:=⟨b2,o2,none⟩) Tryz.underlying151 hj hs (by simp only [ne_eq,Addr.mk.injEq,not_and];intro e e2;rcases h with h | h;exact absurd e h;exact absurd e2 h) hT1 hT2
theorem eql_word_other (w:World) {b1 b2 o1 o2 N1 N2:Nat} {c1 c2:Nat→Nat} (h1:Row w b1 N1 c1) (h2:Row w b2 N2 c2) (h:b1≠b2∨o1≠o2) :
  (binOp .eql 151 (.pointer (some ⟨b1,o1,none⟩)) (.pointer (some ⟨b2,o2,none⟩))).run Tryz.prog w = .ok (.bool false) w:=by
 obtain⟨j,hj,hs⟩:=info102
 obtain⟨T1,hT1⟩:=h1.blk
 obtain⟨T2,hT2⟩:=h2.blk
 exact run_eql_ptr_other w (a:=⟨b1,o1,none⟩) (b:=⟨b2,o2,none⟩) Tryz.underlying151 hj hs (by simp only [ne_eq,Addr.mk.injEq,not_and];intro e e2;rcases h with h | h;exact absurd e h;exact absurd e2 h) hT1 hT2
theorem sqr_first {cx cz:Nat→Nat} {hi lo:Nat} (h:lo+W64*hi=cx 0*cx 0) (ct:Nat→Nat) (h0:ct 0=0) :
  val (upd (upd cz 1 hi) 0 lo) 0 2+2*val ct 0 1=val cx 0 1*val cx 0 1:=by
 simp only [val,Nat.zero_add,Nat.pow_zero,Nat.mul_one,Nat.pow_one,upd,h0]
 simp only [if_true,show ¬((1:Nat)=0) from by decide,if_false]
 rw [Nat.mul_comm hi]
 omega
theorem sqr_step {cx cz ct c2:Nat→Nat} {i d hi lo r:Nat} (h1:0<i) (hinv:val cz 0 (2*i)+2*val ct 0 (2*i-1)=val cx 0 i*val cx 0 i) (hd:cx i=d)
  (hm:lo+W64*hi=d*d) (h2:val c2 i i+r*W64^i=val ct i i+val cx 0 i*d) (hlow:∀j,j<i→c2 j=ct j) (h0:ct (2*i-1)=0) :
  val (upd (upd cz (2*i+1) hi) (2*i) lo) 0 (2*(i+1))+2*val (upd c2 (2*i) r) 0 (2*(i+1)-1)=val cx 0 (i+1)*val cx 0 (i+1):=by
 have e1:val (upd (upd cz (2*i+1) hi) (2*i) lo) 0 (2*(i+1))=val cz 0 (2*i)+(lo+W64*hi)*W64^(2*i):=by
  show val _ 0 (2*i)+upd (upd cz (2*i+1) hi) (2*i) lo (0+2*i)*W64^(2*i)+upd (upd cz (2*i+1) hi) (2*i) lo (0+(2*i+1))*W64^(2*i+1)=_
  rw [val_upd _ _ _ _ _ (by omega),val_upd _ _ _ _ _ (by omega),Nat.zero_add,Nat.zero_add,upd_same,upd_ne _ _ (by omega),upd_same,Nat.pow_succ]
  grind
 have e2:val (upd c2 (2*i) r) 0 (2*(i+1)-1)=val c2 0 (2*i)+r*W64^(2*i):=by
  rw [show 2*(i+1)-1=2*i+1 from by omega]
  show val _ 0 (2*i)+upd c2 (2*i) r (0+2*i)*W64^(2*i)=_
  rw [val_upd _ _ _ _ _ (by omega),Nat.zero_add,upd_same]
 have e3:val c2 0 (2*i)=val ct 0 i+W64^i*val c2 i i:=by
  rw [show 2*i=i+i from by omega,val_add,Nat.zero_add,val_ext (c:=c2) (d:=ct) (o:=0) (p:=0) (n:=i) (fun j hj=>by rw [Nat.zero_add];exact hlow j hj)]
 have e4:val ct 0 (2*i-1)=val ct 0 i+W64^i*val ct i i:=by
  have:val ct 0 (2*i)=val ct 0 i+W64^i*val ct i i:=by
   rw [show 2*i=i+i from by omega,val_add,Nat.zero_add]
  rw [← this]
  obtain⟨t,ht⟩:∃t,2*i=t+1:=⟨2*i-1,by omega⟩
  rw [ht] at h0 ⊢
  show _=val ct 0 t+ct (0+t)*W64^t
  rw [Nat.zero_add,show t=t+1-1 from rfl,h0]
  simp
 have e5:val cx 0 (i+1)=val cx 0 i+d*W64^i:=by
  show val cx 0 i+cx (0+i)*W64^i=_
  rw [Nat.zero_add,hd]
 rw [e1,e2,e3,e5,hm]
 rw [e4] at hinv
 have e6:W64^(2*i)=W64^i*W64^i:=by rw [← Nat.pow_add];congr 1;omega
 rw [e6]
 generalize W64^i=P at *
 generalize val cx 0 i=X at *
 generalize val ct 0 i=T at *
 generalize val ct i i=U at *
 generalize val c2 i i=V at *
 generalize val cz 0 (2*i)=Z at *
 have h3:P*(V+r*P)=P*(U+X*d):=by rw [h2]
 clear e1 e2 e3 e4 e5 e6 hm hlow h0 h2
 grind
theorem sqr_end {cx cz ct c3 cz':Nat→Nat} {n cc cc2:Nat} (h1:0<n) (hinv:val cz 0 (2*n)+2*val ct 0 (2*n-1)=val cx 0 n*val cx 0 n) (h0:ct 0=0) (h30:c3 0=0)
  (hs:val c3 1 (2*n-2)+cc*W64^(2*n-2)=val ct 1 (2*n-2)*2)
  (ha:val cz' 0 (2*n)+cc2*W64^(2*n)=val cz 0 (2*n)+val (upd c3 (2*n-1) cc) 0 (2*n)) (hx:∀i,i<n→cx i<W64) :
  val cz' 0 (2*n)=val cx 0 n*val cx 0 n:=by
 obtain⟨t,ht⟩:∃t,2*n=t+2:=⟨2*n-2,by omega⟩
 have hlt:val cx 0 n<W64^n:=val_lt fun i hi=>by rw [Nat.zero_add];exact hx i hi
 have hlt2:val cx 0 n*val cx 0 n<W64^(2*n):=by
  rw [show 2*n=n+n from by omega,Nat.pow_add]
  exact Nat.mul_lt_mul'' hlt hlt
 have e1:val (upd c3 (2*n-1) cc) 0 (2*n)=2*val ct 0 (2*n-1):=by
  rw [ht] at hs ⊢
  show val (upd c3 (t+1) cc) 0 (t+1)+upd c3 (t+1) cc (0+(t+1))*W64^(t+1)=2*val ct 0 (t+1)
  rw [Nat.zero_add,upd_same,val_upd _ _ _ _ _ (by omega),val_cons,val_cons,h30,h0,Nat.pow_succ]
  simp only [Nat.add_sub_cancel] at hs
  generalize val c3 1 t=A at *
  generalize val ct 1 t=C at *
  generalize W64^t=P at *
  have h3:W64*(A+cc*P)=W64*(C*2):=by rw [hs]
  simp only [Nat.zero_add]
  generalize W64=w at *
  clear hs ha hinv hlt hlt2 hx
  grind
 rw [e1,hinv] at ha
 have:cc2=0:=by
  refine Nat.eq_zero_of_not_pos fun h=>?_
  have:=Nat.mul_le_mul_right (W64^(2*n)) h
  omega
 subst this
 omega
def W16:Nat:=65536
theorem W16_pos:0<W16:=by decide
theorem W16_eq:W16=2^16:=by decide
structure Rwi (w:World) (b n:Nat) (c:Nat→Nat):Prop where
 blk:∃T,w.heap[b]?=some (.cells (Array.ofFn fun i:Fin n=>Value.int .i64 (c i:Nat)) T (0,0))
 lt:∀i,i<n→c i<W16
theorem Rwi.cell {w:World} {b n:Nat} {c:Nat→Nat} (h:Rwi w b n c) {i:Nat} (hi:i<n):w.cell? ⟨b,i,none⟩=some (.int .i64 (c i:Nat)):=by
 obtain⟨T,hT⟩:=h.blk
 simp [World.cell?,hT,hi]
theorem Rwi.frozen {w:World} {b n:Nat} {c:Nat→Nat} (h:Rwi w b n c) (i:Nat):w.frozen? ⟨b,i,none⟩=false:=by
 obtain⟨T,hT⟩:=h.blk
 simp [World.frozen?,hT]
theorem Rwi.inHeap {w:World} {b n:Nat} {c:Nat→Nat} (h:Rwi w b n c):b<w.heap.size:=by
 obtain⟨T,hT⟩:=h.blk
 exact(Array.getElem?_eq_some_iff.1 hT).1
theorem Rwi.keep {S:Nat→Prop} {w w':World} {b n:Nat} {c:Nat→Nat} (h:Rwi w b n c) (k:Keep S w w') (hs:¬S b):Rwi w' b n c:=by
 refine⟨?_,h.lt⟩
 rw [k.block b h.inHeap hs];exact h.blk
theorem Rwi.drew {w:World} {b n:Nat} {c:Nat→Nat} (h:Rwi w b n c):Rwi w.drew b n c:=⟨h.blk,h.lt⟩
theorem Rwi.drewN {w:World} {b n:Nat} {c:Nat→Nat} (h:Rwi w b n c) (m:Nat):Rwi (w.drewN m) b n c:=⟨h.blk,h.lt⟩
theorem Rwi.set {w:World} {b n:Nat} {c:Nat→Nat} (h:Rwi w b n c) (i v:Nat) (hv:v<W16):Rwi (w.setCell ⟨b,i,none⟩ (.int .i64 (v:Nat))) b n (upd c i v):=by
 obtain⟨T,hT⟩:=h.blk
 refine⟨⟨T,?_⟩,?_⟩
 ·simp only [World.setCell,Array.getElem?_modify,if_true,hT,Option.map_some,Option.some.injEq,Obj.cells.injEq,and_true,Option.isSome_none,Bool.false_eq_true,if_false]
  apply Array.ext
  ·simp
  ·intro j h1 h2
   simp only [Array.size_ofFn] at h2
   rw [Array.getElem_setIfInBounds (by simpa using h2)]
   simp only [Array.getElem_ofFn,upd]
   by_cases e:i=j
   ·subst e;simp
   ·rw [if_neg e,if_neg (fun h=>e h.symm)]
 ·intro j hj
  simp only [upd]
  split
  ·exact hv
  ·exact h.lt j hj
theorem Rwi.setOther {w:World} {b n:Nat} {c:Nat→Nat} (h:Rwi w b n c) {p:Addr} (hp:p.block≠b) (u:Value):Rwi (w.setCell p u) b n c:=by
 refine⟨?_,h.lt⟩
 rw [Below.heap_setCell _ _ _ _ (fun e=>hp e.symm)];exact h.blk
theorem Rwi.ext {w:World} {b n:Nat} {c c':Nat→Nat} (h:Rwi w b n c) (e:∀i,i<n→c' i=c i):Rwi w b n c':=by
 obtain⟨T,hT⟩:=h.blk
 refine⟨⟨T,?_⟩,fun i hi=>by rw [e i hi];exact h.lt i hi⟩
 rw [hT]
 congr 2
 apply Array.ext<;>simp
 intro i hi;rw [e i hi]
theorem Rwi.same {w:World} {b n m:Nat} {c d:Nat→Nat} (h:Rwi w b n c) (k:Rwi w b m d):n=m∧∀i,i<n→c i=d i:=by
 obtain⟨T,hT⟩:=h.blk
 obtain⟨T',hT'⟩:=k.blk
 rw [hT] at hT'
 simp only [Option.some.injEq,Obj.cells.injEq] at hT'
 have hs:=congrArg Array.size hT'.1
 simp only [Array.size_ofFn] at hs
 subst hs
 refine⟨rfl,fun i hi=>?_⟩
 have:=congrArg (fun a=>a[i]?) hT'.1
 simp [hi] at this
 omega
def vb (c:Nat→Nat) (o:Nat):Nat→Nat
 | 0=>0
 | n+1=>vb c o n+c (o+n)*W16^n
theorem vb_ext {c d:Nat→Nat} {o p n:Nat} (h:∀i,i<n→c (o+i)=d (p+i)):vb c o n=vb d p n:=by
 induction n with
 | zero=>rfl
 | succ n ih=>simp only [vb];rw [ih (fun i hi=>h i (by omega)),h n (by omega)]
theorem vb_lt {c:Nat→Nat} {o n:Nat} (h:∀i,i<n→c (o+i)<W16):vb c o n<W16^n:=by
 induction n with
 | zero=>simp [vb]
 | succ n ih=>
  have:=ih (fun i hi=>h i (by omega))
  have hc:=h n (by omega)
  simp only [vb,Nat.pow_succ]
  have:c (o+n)*W16^n+W16^n≤W16*W16^n:=by
   rw [← Nat.succ_mul];exact Nat.mul_le_mul_right _ hc
  rw [Nat.mul_comm (W16^n)]
  omega
theorem vb_cons (c:Nat→Nat) (o n:Nat):vb c o (n+1)=c o+W16*vb c (o+1) n:=by
 induction n with
 | zero=>simp [vb]
 | succ n ih=>
  have e:vb c o (n+1+1)=vb c o (n+1)+c (o+(n+1))*W16^(n+1):=rfl
  have e':vb c (o+1) (n+1)=vb c (o+1) n+c (o+1+n)*W16^n:=rfl
  rw [e,ih,e',Nat.mul_add,Nat.pow_succ,show o+1+n=o+(n+1) from by omega]
  grind
theorem vb_add (c:Nat→Nat) (o m:Nat):∀n,vb c o (m+n)=vb c o m+W16^m*vb c (o+m) n
 | 0=>by simp [vb]
 | n+1=>by
  show vb c o (m+n)+c (o+(m+n))*W16^(m+n)=_
  rw [vb_add c o m n]
  simp only [vb]
  rw [Nat.pow_add,Nat.add_assoc o m n]
  grind
theorem vb_upd (c:Nat→Nat) (o:Nat) (i v:Nat) (n:Nat) (h:i<o∨o+n≤i):vb (upd c i v) o n=vb c o n:=
 vb_ext fun j hj=>upd_ne _ _ (by omega)
end Go.Proofs.YtofkehhflkdabaaGreatDoor
namespace Go.Proofs.YtofkehhflkdabaaGreatDoor.Ec
def Pr (p:Nat):Prop:=2≤p∧∀d,d∣p→d=1∨d=p
theorem Pr.dvd_mul {p a b:Nat} (hp:Pr p) (h:p∣a*b):p∣a∨p∣b:=by
 rcases hp.2 _ (Nat.gcd_dvd_left p a) with h1 | h1
 ·right
  exact Nat.Coprime.dvd_of_dvd_mul_left h1 h
 ·left
  rw [← h1];exact Nat.gcd_dvd_right p a
theorem Pr.coprime {p a:Nat} (hp:Pr p) (h:¬p∣a):Nat.Coprime p a:=by
 rcases hp.2 _ (Nat.gcd_dvd_left p a) with h1 | h1
 ·exact h1
 ·exact absurd (h1▸Nat.gcd_dvd_right p a) h
theorem exists_pr:∀n:Nat,2≤n→∃p,Pr p∧p∣n:=by
 intro n
 induction n using Nat.strongRecOn with
 | _ n ih=>
  intro hn
  by_cases h:∃d,d∣n∧d≠1∧d≠n
  ·obtain⟨d,hd,h1,h2⟩:=h
   have hd0:d≠0:=by
    rintro rfl
    have:=Nat.eq_zero_of_zero_dvd hd
    omega
   have hle:=Nat.le_of_dvd (by omega) hd
   obtain⟨p,hp,hpd⟩:=ih d (by omega) (by omega)
   exact⟨p,hp,Nat.dvd_trans hpd hd⟩
  ·refine⟨n,⟨hn,fun d hd=>?_⟩,Nat.dvd_refl n⟩
   by_cases e1:d=1
   ·exact .inl e1
   ·by_cases e2:d=n
    ·exact .inr e2
    ·exact absurd ⟨d,hd,e1,e2⟩ h
theorem pr_of_no_small {n:Nat} (hn:2≤n) (h:∀p,Pr p→p∣n→n<p*p):Pr n:=by
 refine⟨hn,fun d hd=>?_⟩
 by_cases h1:d=1
 ·exact .inl h1
 ·by_cases h2:d=n
  ·exact .inr h2
  ·obtain⟨e,he⟩:=hd
   have hd0:d≠0:=by rintro rfl;simp at he;omega
   have he0:e≠0:=by rintro rfl;simp at he;omega
   have he1:e≠1:=by rintro rfl;simp at he;omega
   obtain⟨p,hp,hpd⟩:=exists_pr d (by omega)
   obtain⟨q,hq,hqe⟩:=exists_pr e (by omega)
   have a1:=h p hp (Nat.dvd_trans hpd ⟨e,he⟩)
   have a2:=h q hq (Nat.dvd_trans hqe ⟨d,by rw [he,Nat.mul_comm]⟩)
   have l1:=Nat.le_of_dvd (by omega) hpd
   have l2:=Nat.le_of_dvd (by omega) hqe
   exfalso
   have b1:p*p≤d*d:=Nat.mul_le_mul l1 l1
   have b2:q*q≤e*e:=Nat.mul_le_mul l2 l2
   rcases Nat.le_total d e with hle | hle
   ·have:d*d≤d*e:=Nat.mul_le_mul_left d hle
    omega
   ·have:e*e≤d*e:=Nat.mul_le_mul_right e hle
    omega
def binom:Nat→Nat→Nat
 | _,0=>1
 | 0,_+1=>0
 | n+1,k+1=>binom n k+binom n (k+1)
theorem binom_absorb:∀n k:Nat,(k+1)*binom (n+1) (k+1)=(n+1)*binom n k:=by
 intro n
 induction n with
 | zero=>
  intro k
  cases k with
  | zero=>rfl
  | succ k=>simp [binom]
 | succ n ih=>
  intro k
  cases k with
  | zero=>
   have h:=ih 0
   simp only [binom] at h ⊢
   omega
  | succ k=>
   have h1:=ih k
   have h2:=ih (k+1)
   have e1:binom (n+1+1) (k+1+1)=binom (n+1) (k+1)+binom (n+1) (k+1+1):=rfl
   have e2:binom (n+1) (k+1)=binom n k+binom n (k+1):=rfl
   rw [e1]
   grind
theorem Pr.dvd_binom {p k:Nat} (hp:Pr p) (h0:0<k) (hk:k<p):p∣binom p k:=by
 obtain⟨k,rfl⟩:∃j,k=j+1:=⟨k-1,by omega⟩
 obtain⟨n,rfl⟩:∃j,p=j+1:=⟨p-1,by have:=hp.1;omega⟩
 have h:=binom_absorb n k
 rcases hp.dvd_mul (a:=k+1) (b:=binom (n+1) (k+1)) ⟨binom n k,h⟩ with h1 | h1
 ·exact absurd (Nat.le_of_dvd (by omega) h1) (by omega)
 ·exact h1
def binSum (n a:Nat):Nat→Nat
 | 0=>0
 | m+1=>binSum n a m+binom n m*a^m
theorem binom_big:∀n k:Nat,n<k→binom n k=0:=by
 intro n
 induction n with
 | zero=>intro k hk;cases k with
  | zero=>omega
  | succ k=>rfl
 | succ n ih=>intro k hk;cases k with
  | zero=>omega
  | succ k=>simp only [binom];rw [ih k (by omega),ih (k+1) (by omega)]
theorem binSum_step (n a:Nat):∀m,binSum (n+1) a (m+1)=binSum n a (m+1)+a*binSum n a m:=by
 intro m
 induction m with
 | zero=>simp [binSum,binom]
 | succ m ih=>
  have e1:binSum (n+1) a (m+1+1)=binSum (n+1) a (m+1)+(binom n m+binom n (m+1))*a^(m+1):=rfl
  have e2:binSum n a (m+1+1)=binSum n a (m+1)+binom n (m+1)*a^(m+1):=rfl
  have e3:binSum n a (m+1)=binSum n a m+binom n m*a^m:=rfl
  rw [e1,ih,e2,e3]
  grind
theorem binSum_pow (a:Nat):∀n,binSum n a (n+1)=(a+1)^n:=by
 intro n
 induction n with
 | zero=>simp [binSum,binom]
 | succ n ih=>
  rw [binSum_step,ih]
  have:binSum n a (n+1+1)=binSum n a (n+1)+binom n (n+1)*a^(n+1):=rfl
  rw [this,binom_big n (n+1) (by omega),ih]
  grind
theorem Pr.binSum_mod {p:Nat} (hp:Pr p) (a:Nat):∀m,1≤m→m≤p→binSum p a m%p=1%p:=by
 intro m
 induction m with
 | zero=>intro h;omega
 | succ m ih=>
  intro _ hm
  by_cases h0:m=0
  ·subst h0;simp [binSum,binom]
  ·have h1:=ih (by omega) (by omega)
   obtain⟨c,hc⟩:=hp.dvd_binom (k:=m) (by omega) (by omega)
   have:binSum p a (m+1)=binSum p a m+binom p m*a^m:=rfl
   rw [this,hc,Nat.mul_assoc,Nat.add_mul_mod_self_left,h1]
theorem binom_self:∀n,binom n n=1:=by
 intro n
 induction n with
 | zero=>rfl
 | succ n ih=>simp only [binom];rw [ih,binom_big n (n+1) (by omega)]
theorem Pr.fermat {p:Nat} (hp:Pr p):∀a:Nat,a^p%p=a%p:=by
 intro a
 induction a with
 | zero=>have:=hp.1;rw [Nat.zero_pow (by omega)]
 | succ a ih=>
  have h:=binSum_pow a p
  have e:binSum p a (p+1)=binSum p a p+binom p p*a^p:=rfl
  rw [← h,e,binom_self,Nat.one_mul,Nat.add_mod,hp.binSum_mod a p (by have:=hp.1;omega) (Nat.le_refl p),ih,← Nat.add_mod,Nat.add_comm]
theorem Pr.fermat1 {p:Nat} (hp:Pr p) (a:Nat) (ha:¬p∣a):a^(p-1)%p=1:=by
 have h:=hp.fermat a
 have h2:=hp.1
 obtain⟨m,rfl⟩:∃j,p=j+1:=⟨p-1,by omega⟩
 have hd:(m+1)∣a*(a^m-1):=by
  have e:a*(a^m-1)=a^(m+1)-a:=by
   rw [Nat.mul_sub,Nat.mul_one,Nat.pow_succ,Nat.mul_comm]
  rw [e]
  exact Nat.dvd_of_mod_eq_zero (Nat.sub_mod_eq_zero_of_mod_eq h)
 rcases hp.dvd_mul hd with h1 | h1
 ·exact absurd h1 ha
 ·have hpos:0<a^m:=by
   rcases Nat.eq_zero_or_pos a with h | h
   ·subst h;exact absurd ⟨0,rfl⟩ ha
   ·exact Nat.pow_pos h
  obtain⟨c,hc⟩:=h1
  have:a^m=1+(m+1)*c:=by omega
  show a^m%(m+1)=1
  rw [this,Nat.add_mul_mod_self_left,Nat.mod_eq_of_lt (by omega)]
def powm (n:Nat):Nat→Nat→Nat→Nat
 | 0,_,_=>1%n
 | f+1,a,e=>if e%2=1 then a*powm n f (a*a%n) (e / 2)%n else powm n f (a*a%n) (e / 2)
theorem pow_mod_base (a e n:Nat):(a%n)^e%n=a^e%n:=by rw [← Nat.pow_mod]
theorem powm_eq (n:Nat):∀f a e,e<2^f→powm n f a e=a^e%n:=by
 intro f
 induction f with
 | zero=>
  intro a e he
  have:e=0:=by simpa using he
  subst this;simp [powm]
 | succ f ih=>
  intro a e he
  have h2:e / 2<2^f:=by rw [Nat.pow_succ] at he;omega
  have hsq:(a*a%n)^(e / 2)%n=a^(2*(e / 2))%n:=by
   rw [pow_mod_base,← Nat.pow_two,← Nat.pow_mul]
  simp only [powm]
  split
  ·rename_i h
   rw [ih _ _ h2,hsq,Nat.mul_mod,Nat.mod_mod,← Nat.mul_mod]
   congr 1
   rw [Nat.mul_comm,← Nat.pow_succ]
   congr 1;omega
  ·rename_i h
   rw [ih _ _ h2,hsq]
   congr 2;omega
theorem pow_one_mod {b m k:Nat} (h:b^k%m=1%m) (j:Nat):b^(k*j)%m=1%m:=by
 rw [Nat.pow_mul,Nat.pow_mod,h,← Nat.pow_mod,Nat.one_pow]
theorem one_of_pows {b m u v:Nat} (hu:b^u%m=1%m) (hv:b^v%m=1%m) (h:Nat.gcd u v=1):b%m=1%m:=by
 have key:∀u v:Nat,b^u%m=1%m→b^v%m=1%m→b^(Nat.gcd u v)%m=1%m:=by
  intro u v
  induction u,v using Nat.gcd.induction with
  | H0 v=>intro _ h2;simpa using h2
  | H1 u v hpos ih=>
   intro h1 h2
   rw [Nat.gcd_rec]
   refine ih ?_ h1
   have e:b^v=b^(u*(v / u))*b^(v%u):=by
    rw [← Nat.pow_add,Nat.div_add_mod]
   rw [e,Nat.mul_mod,pow_one_mod h1,← Nat.mul_mod,Nat.one_mul] at h2
   exact h2
 have:=key u v hu hv
 rwa [h,Nat.pow_one] at this
theorem pock_dvd {n q c a r:Nat} (hq:Pr q) (hn:n-1=q*c) (h1:a^(n-1)%n=1%n)
  (h2:Nat.gcd (a^c%n+(n-1)) n=1) (hr:Pr r) (hd:r∣n) (hn2:2≤n):q∣r-1:=by
 refine Classical.byContradiction fun hq1=>?_
 have hb:((a^c)^q)%r=1%r:=by
  rw [← Nat.pow_mul,Nat.mul_comm,← hn]
  have:a^(n-1)%n%r=1%n%r:=by rw [h1]
  rwa [Nat.mod_mod_of_dvd _ hd,Nat.mod_mod_of_dvd _ hd] at this
 have hra:¬r∣a^c:=by
  intro h
  have:(a^c)^q%r=0:=by
   obtain⟨k,hk⟩:=h
   obtain⟨j,rfl⟩:∃j,q=j+1:=⟨q-1,by have:=hq.1;omega⟩
   rw [Nat.pow_succ]
   have:r∣(a^c)^j*a^c:=Nat.dvd_trans ⟨k,hk⟩ (Nat.dvd_mul_left _ _)
   exact Nat.mod_eq_zero_of_dvd this
  rw [this,Nat.mod_eq_of_lt hr.1] at hb
  omega
 have hf:(a^c)^(r-1)%r=1%r:=by rw [hr.fermat1 _ hra,Nat.mod_eq_of_lt hr.1]
 have hone:=one_of_pows hb hf (hq.coprime hq1)
 have hrd:r∣a^c%n+(n-1):=by
  have e1:(a^c%n)%r=1%r:=by rw [Nat.mod_mod_of_dvd _ hd,hone]
  refine Nat.dvd_of_mod_eq_zero ?_
  rw [Nat.add_mod,e1,← Nat.add_mod]
  rw [show 1+(n-1)=n from by omega]
  exact Nat.mod_eq_zero_of_dvd hd
 have:r∣1:=h2▸Nat.dvd_gcd hrd hd
 have:=Nat.le_of_dvd (by omega) this
 have:=hr.1
 omega
theorem pock {n q c a f:Nat} (hq:Pr q) (hn:n=q*c+1) (hf:n-1<2^f) (h1:powm n f a (n-1)=1)
  (h2:Nat.gcd (powm n f a c+(n-1)) n=1) (hbig:n<q*q) (hn2:2≤n):Pr n:=by
 have hq0:=hq.1
 have hc:c<2^f:=Nat.lt_of_le_of_lt (by
  rw [hn,Nat.add_sub_cancel];exact Nat.le_mul_of_pos_left c (by omega)) hf
 rw [powm_eq _ _ _ _ hf] at h1
 rw [powm_eq _ _ _ _ hc] at h2
 refine pr_of_no_small hn2 fun r hr hd=>?_
 have h:=pock_dvd (a:=a) hq (by omega) (by rw [h1,Nat.mod_eq_of_lt (by omega)]) h2 hr hd hn2
 have:=Nat.le_of_dvd (by have:=hr.1;omega) h
 have:q*q<r*r:=Nat.mul_lt_mul_of_lt_of_le (by omega) (by omega) (by omega)
 omega
theorem pock2 {n q c q' c' a f:Nat} (hq:Pr q) (hq':Pr q') (hne:q≠q') (hn:n=q*c+1) (hn':n=q'*c'+1) (hf:n-1<2^f) (h1:powm n f a (n-1)=1)
  (h2:Nat.gcd (powm n f a c+(n-1)) n=1) (h2':Nat.gcd (powm n f a c'+(n-1)) n=1) (hbig:n<(q*q')*(q*q')) (hn2:2≤n):Pr n:=by
 have hq0:=hq.1
 have hq0':=hq'.1
 have hc:c<2^f:=Nat.lt_of_le_of_lt (by
  rw [hn,Nat.add_sub_cancel];exact Nat.le_mul_of_pos_left c (by omega)) hf
 have hc':c'<2^f:=Nat.lt_of_le_of_lt (by
  rw [hn',Nat.add_sub_cancel];exact Nat.le_mul_of_pos_left c' (by omega)) hf
 rw [powm_eq _ _ _ _ hf] at h1
 rw [powm_eq _ _ _ _ hc] at h2
 rw [powm_eq _ _ _ _ hc'] at h2'
 refine pr_of_no_small hn2 fun r hr hd=>?_
 have h:=pock_dvd (a:=a) hq (by omega) (by rw [h1,Nat.mod_eq_of_lt (by omega)]) h2 hr hd hn2
 have h':=pock_dvd (a:=a) hq' (by omega) (by rw [h1,Nat.mod_eq_of_lt (by omega)]) h2' hr hd hn2
 have hco:Nat.Coprime q q':=hq.coprime fun hdd=>by
  rcases hq'.2 q hdd with e | e<;>omega
 have hm:=Nat.Coprime.mul_dvd_of_dvd_of_dvd hco h h'
 have:=Nat.le_of_dvd (by have:=hr.1;omega) hm
 have:(q*q')*(q*q')<r*r:=Nat.mul_lt_mul_of_lt_of_le (by have:=hr.1;omega) (by have:=hr.1;omega) (by have:=hr.1;omega)
 omega
def noDiv (n:Nat):Nat→Bool
 | 0=>true
 | f+1=>(f<2||n%f != 0)&&noDiv n f
theorem noDiv_spec {n:Nat}:∀f,noDiv n f=true→∀d,2≤d→d<f→¬d∣n:=by
 intro f
 induction f with
 | zero=>intro _ d _ h;omega
 | succ f ih=>
  intro h d h2 hd
  simp only [noDiv,Bool.and_eq_true,Bool.or_eq_true,decide_eq_true_eq,bne_iff_ne] at h
  by_cases e:d=f
  ·subst e
   intro hdd
   rcases h.1 with h1 | h1
   ·omega
   ·exact h1 (Nat.mod_eq_zero_of_dvd hdd)
  ·exact ih h.2 d h2 (by omega)
theorem pr_trial {n:Nat} (f:Nat) (hn:2≤n) (h:noDiv n f=true) (hf:n<f*f):Pr n:=by
 refine pr_of_no_small hn fun p hp hd=>?_
 refine Classical.byContradiction fun hlt=>?_
 refine noDiv_spec f h p hp.1 ?_ hd
 refine Classical.byContradiction fun hge=>?_
 have:f*f≤p*p:=Nat.mul_le_mul (by omega) (by omega)
 omega
theorem pock3 {n q c q' c' r' d a f:Nat} (hq:Pr q) (hq':Pr q') (hr':Pr r') (hne:q≠q') (hne1:q≠r') (hne2:q'≠r') (hn:n=q*c+1) (hn':n=q'*c'+1) (hn3:n=r'*d+1) (hf:n-1<2^f) (h1:powm n f a (n-1)=1)
  (h2:Nat.gcd (powm n f a c+(n-1)) n=1) (h2':Nat.gcd (powm n f a c'+(n-1)) n=1) (h3:Nat.gcd (powm n f a d+(n-1)) n=1) (hbig:n<(q*q'*r')*(q*q'*r')) (hn2:2≤n):Pr n:=by
 have hq0:=hq.1
 have hq0':=hq'.1
 have hr0':=hr'.1
 have hc:c<2^f:=Nat.lt_of_le_of_lt (by
  rw [hn,Nat.add_sub_cancel];exact Nat.le_mul_of_pos_left c (by omega)) hf
 have hc':c'<2^f:=Nat.lt_of_le_of_lt (by
  rw [hn',Nat.add_sub_cancel];exact Nat.le_mul_of_pos_left c' (by omega)) hf
 have hd':d<2^f:=Nat.lt_of_le_of_lt (by
  rw [hn3,Nat.add_sub_cancel];exact Nat.le_mul_of_pos_left d (by omega)) hf
 rw [powm_eq _ _ _ _ hf] at h1
 rw [powm_eq _ _ _ _ hc] at h2
 rw [powm_eq _ _ _ _ hc'] at h2'
 rw [powm_eq _ _ _ _ hd'] at h3
 refine pr_of_no_small hn2 fun r hr hd=>?_
 have h:=pock_dvd (a:=a) hq (by omega) (by rw [h1,Nat.mod_eq_of_lt (by omega)]) h2 hr hd hn2
 have h':=pock_dvd (a:=a) hq' (by omega) (by rw [h1,Nat.mod_eq_of_lt (by omega)]) h2' hr hd hn2
 have h'':=pock_dvd (a:=a) hr' (by omega) (by rw [h1,Nat.mod_eq_of_lt (by omega)]) h3 hr hd hn2
 have hco:Nat.Coprime q q':=hq.coprime fun hdd=>by
  rcases hq'.2 q hdd with e | e<;>omega
 have hco1:Nat.Coprime q r':=hq.coprime fun hdd=>by
  rcases hr'.2 q hdd with e | e<;>omega
 have hco2:Nat.Coprime q' r':=hq'.coprime fun hdd=>by
  rcases hr'.2 q' hdd with e | e<;>omega
 have hm:=Nat.Coprime.mul_dvd_of_dvd_of_dvd (Nat.Coprime.mul_left hco1 hco2) (Nat.Coprime.mul_dvd_of_dvd_of_dvd hco h h') h''
 have:=Nat.le_of_dvd (by have:=hr.1;omega) hm
 have:(q*q'*r')*(q*q'*r')<r*r:=Nat.mul_lt_mul_of_lt_of_le (by have:=hr.1;omega) (by have:=hr.1;omega) (by have:=hr.1;omega)
 omega
end Go.Proofs.YtofkehhflkdabaaGreatDoor.Ec
namespace Go.Proofs.YtofkehhflkdabaaGreatDoor
structure LInv (P z A B Ua Ub:Int):Prop where
 le:B≤A
 nn:0≤B
 pos:0<A
 mat:∃s q g:Int,0≤s∧0≤q∧(g=1∨g = -1)∧s*A+q*B=P∧Ua = -(g*q)∧Ub=g*s
 ca:∃t,Ua*z=A+t*P
 cb:∃t,Ub*z=B+t*P
 one:∃m n,m*A+n*B=1
theorem LInv.step {P z A B Ua Ub:Int} (h:LInv P z A B Ua Ub) {A' B' u0 u1 v0 v1 g:Int} (hu0:0≤u0) (hu1:0≤u1) (hv0:0≤v0) (hv1:0≤v1) (hg:g=1∨g = -1)
  (hA:A=v1*A'+v0*B') (hB:B=u1*A'+u0*B') (hA':A'=g*(u0*A-v0*B)) (hB':B'=g*(v1*B-u1*A)) (hle:B'≤A') (hnn:0≤B') :
  LInv P z A' B' (g*(u0*Ua-v0*Ub)) (g*(v1*Ub-u1*Ua)):=by
 obtain⟨h1,h2,h3,⟨s,q,e,hs,hq,he,hP,hUa,hUb⟩,⟨ta,ha⟩,⟨tb,hb⟩,⟨m,n,hm⟩⟩:=h
 refine⟨hle,hnn,?_,⟨s*v1+q*u1,s*v0+q*u0,g*e,?_,?_,?_,?_,?_,?_⟩,⟨g*(u0*ta-v0*tb),?_⟩,⟨g*(v1*tb-u1*ta),?_⟩,⟨m*v1+n*u1,m*v0+n*u0,?_⟩⟩
 ·rcases(show 0<A'∨A'≤0 by omega) with h | h
  ·exact h
  ·have a:A'=0:=by omega
   have b:B'=0:=by omega
   rw [a,b] at hA
   simp at hA
   omega
 ·exact Int.add_nonneg (Int.mul_nonneg hs hv1) (Int.mul_nonneg hq hu1)
 ·exact Int.add_nonneg (Int.mul_nonneg hs hv0) (Int.mul_nonneg hq hu0)
 ·rcases hg with rfl | rfl<;>rcases he with rfl | rfl<;>simp
 ·rw [← hP,hA,hB];grind
 ·rw [hUa,hUb];grind
 ·rw [hUa,hUb];grind
 ·have:g*(u0*Ua-v0*Ub)*z=g*(u0*(Ua*z)-v0*(Ub*z)):=by grind
  rw [this,ha,hb,hA'];grind
 ·have:g*(v1*Ub-u1*Ua)*z=g*(v1*(Ub*z)-u1*(Ua*z)):=by grind
  rw [this,ha,hb,hB'];grind
 ·rw [← hm,hA,hB];grind
theorem LInv.euclid {P z A B Ua Ub:Int} (h:LInv P z A B Ua Ub) (hB:0<B):LInv P z B (A%B) Ub (Ua-A / B*Ub):=by
 have h':=h
 obtain⟨h1,h2,h3,_⟩:=h'
 have hd:=Int.emod_add_mul_ediv A B
 have hr:=Int.emod_lt_of_pos A hB
 have hq:0≤A / B:=Int.ediv_nonneg (by omega) (by omega)
 have:=h.step (A':=B) (B':=A%B) (u0:=0) (u1:=1) (v0:=1) (v1:=A / B) (g:=-1) (by omega) (by omega) (by omega) hq (.inr rfl)
  (by grind) (by grind) (by grind) (by grind) (by omega) (Int.emod_nonneg _ (by omega))
 have e1:-1*(0*Ua-1*Ub)=Ub:=by grind
 have e2:-1*(A / B*Ub-1*Ua)=Ua-A / B*Ub:=by grind
 rwa [e1,e2] at this
theorem LInv.start {P z:Int} (h0:0<z) (h1:z<P) (h:∃m n,m*P+n*z=1):LInv P z P z 0 1:=
 ⟨by omega,by omega,by omega,⟨1,0,1,by omega,by omega,.inl rfl,by grind,by grind,by grind⟩,⟨-1,by grind⟩,⟨0,by grind⟩,h⟩
theorem LInv.finish {P z A Ua Ub:Int} (h:LInv P z A 0 Ua Ub):A=1∧∃t,Ua*z=1+t*P:=by
 obtain⟨m,n,hm⟩:=h.one
 have hp:=h.pos
 have:A=1:=by
  have h1:m*A=1:=by grind
  have hm0:0<m:=by
   rcases(show 0<m∨m≤0 by omega) with h | h
   ·exact h
   ·have:=Int.mul_nonneg (show 0≤-m by omega) (show 0≤A by omega)
    have e:-m*A = -(m*A):=by grind
    omega
  have h2:m*A≥m*1:=Int.mul_le_mul_of_nonneg_left (by omega) (by omega)
  have h3:m*A≥1*A:=Int.mul_le_mul_of_nonneg_right (by omega) (by omega)
  omega
 subst this
 exact⟨rfl,h.ca⟩
theorem LInv.bound {P z A B Ua Ub:Int} (h:LInv P z A B Ua Ub) (hB:0<B):Ua.natAbs≤P.natAbs∧Ub.natAbs≤P.natAbs:=by
 obtain⟨h1,h2,h3,⟨s,q,g,hs,hq,hg,hP,hUa,hUb⟩,_⟩:=h
 have a1:s*A≥s*1:=Int.mul_le_mul_of_nonneg_left (by omega) hs
 have a2:q*B≥q*1:=Int.mul_le_mul_of_nonneg_left (by omega) hq
 have a3:0≤s*A:=Int.mul_nonneg hs (by omega)
 have a4:0≤q*B:=Int.mul_nonneg hq (by omega)
 have e1:Ua.natAbs=q.natAbs:=by rcases hg with rfl | rfl<;>rw [hUa]<;>simp
 have e2:Ub.natAbs=s.natAbs:=by rcases hg with rfl | rfl<;>rw [hUb]<;>simp
 rw [e1,e2]
 omega
structure Sim (x y a1 a2 u1 u2 v1 v2 g:Int):Prop where
 a2n:0≤a2
 le:a2≤a1
 u1n:0≤u1
 u2n:0≤u2
 v1n:0≤v1
 v2p:1≤v2
 sum:u1+u2≤v1+v2
 uv:u2≤v2
 sg:g=1∨g = -1
 e1:a1=g*(u1*x-v1*y)
 e2:a2=g*(v2*y-u2*x)
 ex:x=v2*a1+v1*a2
 ey:y=u2*a1+u1*a2
theorem Sim.start {x y:Int} (h0:0≤y) (h1:y≤x):Sim x y x y 1 0 0 1 1:=by
 refine⟨h0,h1,by omega,by omega,by omega,by omega,by omega,by omega,.inl rfl,by omega,by omega,by omega,by omega⟩
theorem Sim.next {x y a1 a2 u1 u2 v1 v2 g:Int} (h:Sim x y a1 a2 u1 u2 v1 v2 g) (hv:v2≤a2) :
  Sim x y a2 (a1%a2) u2 (u1+a1 / a2*u2) v2 (v1+a1 / a2*v2) (-g):=by
 obtain⟨h1,h2,h3,h4,h5,h6,h7,h8,h9,h10,h11,h12,h13⟩:=h
 have hd:=Int.emod_add_mul_ediv a1 a2
 have hr:=Int.emod_lt_of_pos a1 (show 0<a2 by omega)
 have hn:=Int.emod_nonneg a1 (show a2≠0 by omega)
 have hq:1≤a1 / a2:=by
  rcases(show 1≤a1 / a2∨a1 / a2≤0 by omega) with h | h
  ·exact h
  ·have:=Int.mul_le_mul_of_nonneg_left h (show 0≤a2 by omega)
   omega
 generalize a1 / a2=q at *
 generalize a1%a2=r at *
 have q0:0≤q:=by omega
 have m1:0≤q*u2:=Int.mul_nonneg q0 h4
 have m2:0≤q*v2:=Int.mul_nonneg q0 (by omega)
 have m3:(q-1)*u2≤(q-1)*v2:=Int.mul_le_mul_of_nonneg_left h8 (by omega)
 have m4:q*u2-u2=(q-1)*u2:=by grind
 have m5:q*v2-v2=(q-1)*v2:=by grind
 have m6:1*v2≤q*v2:=Int.mul_le_mul_of_nonneg_right hq (by omega)
 refine⟨hn,by omega,h4,by omega,by omega,by omega,by omega,by omega,?_,?_,?_,?_,?_⟩
 ·rcases h9 with rfl | rfl<;>simp
 ·rw [h11];grind
 ·grind
 ·rw [h12,← hd];grind
 ·rw [h13,← hd];grind
theorem Sim.small {x y a1 a2 u1 u2 v1 v2 g:Int} (h:Sim x y a1 a2 u1 u2 v1 v2 g) (ha:0<a1):v2≤x∧u2≤y:=by
 obtain⟨h1,h2,h3,h4,h5,h6,h7,h8,h9,h10,h11,h12,h13⟩:=h
 have m1:v2*1≤v2*a1:=Int.mul_le_mul_of_nonneg_left (by omega) (by omega)
 have m2:0≤v1*a2:=Int.mul_nonneg h5 h1
 have m3:u2*1≤u2*a1:=Int.mul_le_mul_of_nonneg_left (by omega) (by omega)
 have m4:0≤u1*a2:=Int.mul_nonneg h3 h1
 omega
theorem Sim.smallSum {x y a1 a2 u1 u2 v1 v2 g:Int} (h:Sim x y a1 a2 u1 u2 v1 v2 g) (ha:0<a2):v1+v2≤x:=by
 obtain⟨h1,h2,h3,h4,h5,h6,h7,h8,h9,h10,h11,h12,h13⟩:=h
 have m1:v2*1≤v2*a1:=Int.mul_le_mul_of_nonneg_left (by omega) (by omega)
 have m2:v1*1≤v1*a2:=Int.mul_le_mul_of_nonneg_left (by omega) (by omega)
 omega
theorem Sim.true {x y a1 a2 u1 u2 v1 v2 g:Int} (h:Sim x y a1 a2 u1 u2 v1 v2 g) (hc:v2≤a2) (hc2:v1+v2≤a1-a2) {A B K ra rb:Int} (hA:A=x*K+ra) (hB:B=y*K+rb)
  (ra0:0≤ra) (raK:ra<K) (rb0:0≤rb) (rbK:rb<K) :
  0<g*(v2*B-u2*A)∧g*(v2*B-u2*A)≤g*(u1*A-v1*B)∧A=v2*(g*(u1*A-v1*B))+v1*(g*(v2*B-u2*A))∧B=u2*(g*(u1*A-v1*B))+u1*(g*(v2*B-u2*A)):=by
 obtain⟨h1,h2,h3,h4,h5,h6,h7,h8,h9,h10,h11,h12,h13⟩:=h
 have eB:g*(v2*B-u2*A)=a2*K+g*(v2*rb-u2*ra):=by rw [hA,hB];grind
 have eA:g*(u1*A-v1*B)=a1*K+g*(u1*ra-v1*rb):=by rw [hA,hB];grind
 have k1:v2*K≤a2*K:=Int.mul_le_mul_of_nonneg_right hc (by omega)
 have k2:(v1+v2)*K≤(a1-a2)*K:=Int.mul_le_mul_of_nonneg_right hc2 (by omega)
 have k3:0≤v2*rb:=Int.mul_nonneg (by omega) rb0
 have k4:0≤u2*ra:=Int.mul_nonneg h4 ra0
 have k5:u2*ra≤v2*ra:=Int.mul_le_mul_of_nonneg_right h8 ra0
 have k6:v2*(ra+1)≤v2*K:=Int.mul_le_mul_of_nonneg_left (by omega) (by omega)
 have k7:v2*(rb+1)≤v2*K:=Int.mul_le_mul_of_nonneg_left (by omega) (by omega)
 have k8:(v1+v2)*rb≤(v1+v2)*K:=Int.mul_le_mul_of_nonneg_left (by omega) (by omega)
 have k9:(v1+v2)*ra≤(v1+v2)*K:=Int.mul_le_mul_of_nonneg_left (by omega) (by omega)
 have k10:(u1+u2)*ra≤(v1+v2)*ra:=Int.mul_le_mul_of_nonneg_right h7 ra0
 have k11:0≤(u1+u2)*ra:=Int.mul_nonneg (by omega) ra0
 have k12:0≤(v1+v2)*rb:=Int.mul_nonneg (by omega) rb0
 have j1:v2*(ra+1)=v2*ra+v2:=by grind
 have j2:v2*(rb+1)=v2*rb+v2:=by grind
 have j3:(a1-a2)*K=a1*K-a2*K:=by grind
 have j4:(v1+v2)*rb=v1*rb+v2*rb:=by grind
 have j5:(u1+u2)*ra=u1*ra+u2*ra:=by grind
 have det:g*(u1*v2-u2*v1)=1∨(x=0∧y=0):=by
  by_cases hx:x=0
  ·right
   have m1:v2*1≤v2*a1:=Int.mul_le_mul_of_nonneg_left (by omega) (by omega)
   have m2:0≤v1*a2:=Int.mul_nonneg h5 h1
   omega
  ·left
   have:x*(g*(u1*v2-u2*v1))=x*1:=by
    have e:x=v2*(g*(u1*x-v1*y))+v1*(g*(v2*y-u2*x)):=by rw [← h10,← h11];exact h12
    grind
   exact Int.eq_of_mul_eq_mul_left hx this
 have det:g*(u1*v2-u2*v1)=1:=by
  rcases det with h | ⟨h,_⟩
  ·exact h
  ·have m1:v2*1≤v2*a1:=Int.mul_le_mul_of_nonneg_left (by omega) (by omega)
   have m2:0≤v1*a2:=Int.mul_nonneg h5 h1
   omega
 refine⟨?_,?_,?_,?_⟩
 ·rw [eB];rcases h9 with rfl | rfl<;>omega
 ·rw [eA,eB];rcases h9 with rfl | rfl<;>omega
 ·have:v2*(g*(u1*A-v1*B))+v1*(g*(v2*B-u2*A))=g*(u1*v2-u2*v1)*A:=by grind
  rw [this,det];grind
 ·have:u2*(g*(u1*A-v1*B))+u1*(g*(v2*B-u2*A))=g*(u1*v2-u2*v1)*B:=by grind
  rw [this,det];grind
end Go.Proofs.YtofkehhflkdabaaGreatDoor
