/- A part of the proof of FnCurveOf. -/
import Derived.Test.YtofkehhflkdabaaGreatDoorProg
import Derived.WalkKit
import Derived.Lib.Hide
namespace Go.Proofs.YtofkehhflkdabaaGreatDoor
open Go Go.RowKit
theorem oo {p:Prop}(h:Hid p):p:=h.out
theorem hh {p:Prop}(h:p):Hid p:=h
theorem Ls0 {α:Type _}{a b:α}{l:List α}:(a::l).set 0 b=b::l:=rfl
theorem Ls1 {α:Type _}{a b:α}{n:Nat}{l:List α}:(a::l).set (n+1) b=a::l.set n b:=rfl
theorem Ls2 {α:Type _}{l:List α}{i:Nat}{a:α}:l.toArray.setIfInBounds i a=(l.set i a).toArray:=List.setIfInBounds_toArray _ _ _
theorem Ls3 {α:Type _}{a:α}{l:List α}{i:Nat}:(a::l)[i+1]?=l[i]? :=rfl
theorem Ls4 {α:Type _}{a:α}{l:List α}:(a::l)[0]?=some a:=rfl
theorem Ls5 {α:Type _}{l:List α}{i:Nat}:l.toArray[i]?=l[i]? :=List.getElem?_toArray
abbrev iz:Obj:=.cells #[.bool false,.slice none 0 0] 85 (0,0)
theorem tl2 {α:Type _}{x a0 a1:α}{L:List α}(h:x∈L):x∈a0::a1::L:=.tail _ (.tail _ (h))
theorem tl3 {α:Type _}{x a0 a1 a2:α}{L:List α}(h:x∈L):x∈a0::a1::a2::L:=.tail _ (.tail _ (.tail _ (h)))
theorem tl4 {α:Type _}{x a0 a1 a2 a3:α}{L:List α}(h:x∈L):x∈a0::a1::a2::a3::L:=.tail _ (.tail _ (.tail _ (.tail _ (h))))
theorem tl5 {α:Type _}{x a0 a1 a2 a3 a4:α}{L:List α}(h:x∈L):x∈a0::a1::a2::a3::a4::L:=.tail _ (.tail _ (.tail _ (.tail _ (.tail _ (h)))))
theorem tl6 {α:Type _}{x a0 a1 a2 a3 a4 a5:α}{L:List α}(h:x∈L):x∈a0::a1::a2::a3::a4::a5::L:=.tail _ (.tail _ (.tail _ (.tail _ (.tail _ (.tail _ (h))))))
theorem tl7 {α:Type _}{x a0 a1 a2 a3 a4 a5 a6:α}{L:List α}(h:x∈L):x∈a0::a1::a2::a3::a4::a5::a6::L:=.tail _ (.tail _ (.tail _ (.tail _ (.tail _ (.tail _ (.tail _ (h)))))))
theorem tl8 {α:Type _}{x a0 a1 a2 a3 a4 a5 a6 a7:α}{L:List α}(h:x∈L):x∈a0::a1::a2::a3::a4::a5::a6::a7::L:=.tail _ (.tail _ (.tail _ (.tail _ (.tail _ (.tail _ (.tail _ (.tail _ (h))))))))
theorem tl9 {α:Type _}{x a0 a1 a2 a3 a4 a5 a6 a7 a8:α}{L:List α}(h:x∈L):x∈a0::a1::a2::a3::a4::a5::a6::a7::a8::L:=.tail _ (.tail _ (.tail _ (.tail _ (.tail _ (.tail _ (.tail _ (.tail _ (.tail _ (h)))))))))
theorem tl10 {α:Type _}{x a0 a1 a2 a3 a4 a5 a6 a7 a8 a9:α}{L:List α}(h:x∈L):x∈a0::a1::a2::a3::a4::a5::a6::a7::a8::a9::L:=.tail _ (.tail _ (.tail _ (.tail _ (.tail _ (.tail _ (.tail _ (.tail _ (.tail _ (.tail _ (h))))))))))
theorem tl11 {α:Type _}{x a0 a1 a2 a3 a4 a5 a6 a7 a8 a9 a10:α}{L:List α}(h:x∈L):x∈a0::a1::a2::a3::a4::a5::a6::a7::a8::a9::a10::L:=.tail _ (.tail _ (.tail _ (.tail _ (.tail _ (.tail _ (.tail _ (.tail _ (.tail _ (.tail _ (.tail _ (h)))))))))))
theorem tl12 {α:Type _}{x a0 a1 a2 a3 a4 a5 a6 a7 a8 a9 a10 a11:α}{L:List α}(h:x∈L):x∈a0::a1::a2::a3::a4::a5::a6::a7::a8::a9::a10::a11::L:=.tail _ (.tail _ (.tail _ (.tail _ (.tail _ (.tail _ (.tail _ (.tail _ (.tail _ (.tail _ (.tail _ (.tail _ (h))))))))))))
theorem tl13 {α:Type _}{x a0 a1 a2 a3 a4 a5 a6 a7 a8 a9 a10 a11 a12:α}{L:List α}(h:x∈L):x∈a0::a1::a2::a3::a4::a5::a6::a7::a8::a9::a10::a11::a12::L:=.tail _ (.tail _ (.tail _ (.tail _ (.tail _ (.tail _ (.tail _ (.tail _ (.tail _ (.tail _ (.tail _ (.tail _ (.tail _ (h)))))))))))))
theorem tl14 {α:Type _}{x a0 a1 a2 a3 a4 a5 a6 a7 a8 a9 a10 a11 a12 a13:α}{L:List α}(h:x∈L):x∈a0::a1::a2::a3::a4::a5::a6::a7::a8::a9::a10::a11::a12::a13::L:=.tail _ (.tail _ (.tail _ (.tail _ (.tail _ (.tail _ (.tail _ (.tail _ (.tail _ (.tail _ (.tail _ (.tail _ (.tail _ (.tail _ (h))))))))))))))
theorem tl15 {α:Type _}{x a0 a1 a2 a3 a4 a5 a6 a7 a8 a9 a10 a11 a12 a13 a14:α}{L:List α}(h:x∈L):x∈a0::a1::a2::a3::a4::a5::a6::a7::a8::a9::a10::a11::a12::a13::a14::L:=.tail _ (.tail _ (.tail _ (.tail _ (.tail _ (.tail _ (.tail _ (.tail _ (.tail _ (.tail _ (.tail _ (.tail _ (.tail _ (.tail _ (.tail _ (h)))))))))))))))
theorem tl16 {α:Type _}{x a0 a1 a2 a3 a4 a5 a6 a7 a8 a9 a10 a11 a12 a13 a14 a15:α}{L:List α}(h:x∈L):x∈a0::a1::a2::a3::a4::a5::a6::a7::a8::a9::a10::a11::a12::a13::a14::a15::L:=.tail _ (.tail _ (.tail _ (.tail _ (.tail _ (.tail _ (.tail _ (.tail _ (.tail _ (.tail _ (.tail _ (.tail _ (.tail _ (.tail _ (.tail _ (.tail _ (h))))))))))))))))
theorem tl17 {α:Type _}{x a0 a1 a2 a3 a4 a5 a6 a7 a8 a9 a10 a11 a12 a13 a14 a15 a16:α}{L:List α}(h:x∈L):x∈a0::a1::a2::a3::a4::a5::a6::a7::a8::a9::a10::a11::a12::a13::a14::a15::a16::L:=.tail _ (.tail _ (.tail _ (.tail _ (.tail _ (.tail _ (.tail _ (.tail _ (.tail _ (.tail _ (.tail _ (.tail _ (.tail _ (.tail _ (.tail _ (.tail _ (.tail _ (h)))))))))))))))))
theorem tl18 {α:Type _}{x a0 a1 a2 a3 a4 a5 a6 a7 a8 a9 a10 a11 a12 a13 a14 a15 a16 a17:α}{L:List α}(h:x∈L):x∈a0::a1::a2::a3::a4::a5::a6::a7::a8::a9::a10::a11::a12::a13::a14::a15::a16::a17::L:=.tail _ (.tail _ (.tail _ (.tail _ (.tail _ (.tail _ (.tail _ (.tail _ (.tail _ (.tail _ (.tail _ (.tail _ (.tail _ (.tail _ (.tail _ (.tail _ (.tail _ (.tail _ (h))))))))))))))))))
theorem tl19 {α:Type _}{x a0 a1 a2 a3 a4 a5 a6 a7 a8 a9 a10 a11 a12 a13 a14 a15 a16 a17 a18:α}{L:List α}(h:x∈L):x∈a0::a1::a2::a3::a4::a5::a6::a7::a8::a9::a10::a11::a12::a13::a14::a15::a16::a17::a18::L:=.tail _ (.tail _ (.tail _ (.tail _ (.tail _ (.tail _ (.tail _ (.tail _ (.tail _ (.tail _ (.tail _ (.tail _ (.tail _ (.tail _ (.tail _ (.tail _ (.tail _ (.tail _ (.tail _ (h)))))))))))))))))))
theorem tl20 {α:Type _}{x a0 a1 a2 a3 a4 a5 a6 a7 a8 a9 a10 a11 a12 a13 a14 a15 a16 a17 a18 a19:α}{L:List α}(h:x∈L):x∈a0::a1::a2::a3::a4::a5::a6::a7::a8::a9::a10::a11::a12::a13::a14::a15::a16::a17::a18::a19::L:=.tail _ (.tail _ (.tail _ (.tail _ (.tail _ (.tail _ (.tail _ (.tail _ (.tail _ (.tail _ (.tail _ (.tail _ (.tail _ (.tail _ (.tail _ (.tail _ (.tail _ (.tail _ (.tail _ (.tail _ (h))))))))))))))))))))
theorem tl21 {α:Type _}{x a0 a1 a2 a3 a4 a5 a6 a7 a8 a9 a10 a11 a12 a13 a14 a15 a16 a17 a18 a19 a20:α}{L:List α}(h:x∈L):x∈a0::a1::a2::a3::a4::a5::a6::a7::a8::a9::a10::a11::a12::a13::a14::a15::a16::a17::a18::a19::a20::L:=.tail _ (.tail _ (.tail _ (.tail _ (.tail _ (.tail _ (.tail _ (.tail _ (.tail _ (.tail _ (.tail _ (.tail _ (.tail _ (.tail _ (.tail _ (.tail _ (.tail _ (.tail _ (.tail _ (.tail _ (.tail _ (h)))))))))))))))))))))
theorem tl22 {α:Type _}{x a0 a1 a2 a3 a4 a5 a6 a7 a8 a9 a10 a11 a12 a13 a14 a15 a16 a17 a18 a19 a20 a21:α}{L:List α}(h:x∈L):x∈a0::a1::a2::a3::a4::a5::a6::a7::a8::a9::a10::a11::a12::a13::a14::a15::a16::a17::a18::a19::a20::a21::L:=.tail _ (.tail _ (.tail _ (.tail _ (.tail _ (.tail _ (.tail _ (.tail _ (.tail _ (.tail _ (.tail _ (.tail _ (.tail _ (.tail _ (.tail _ (.tail _ (.tail _ (.tail _ (.tail _ (.tail _ (.tail _ (.tail _ (h))))))))))))))))))))))
theorem tl23 {α:Type _}{x a0 a1 a2 a3 a4 a5 a6 a7 a8 a9 a10 a11 a12 a13 a14 a15 a16 a17 a18 a19 a20 a21 a22:α}{L:List α}(h:x∈L):x∈a0::a1::a2::a3::a4::a5::a6::a7::a8::a9::a10::a11::a12::a13::a14::a15::a16::a17::a18::a19::a20::a21::a22::L:=.tail _ (.tail _ (.tail _ (.tail _ (.tail _ (.tail _ (.tail _ (.tail _ (.tail _ (.tail _ (.tail _ (.tail _ (.tail _ (.tail _ (.tail _ (.tail _ (.tail _ (.tail _ (.tail _ (.tail _ (.tail _ (.tail _ (.tail _ (h)))))))))))))))))))))))
theorem tl24 {α:Type _}{x a0 a1 a2 a3 a4 a5 a6 a7 a8 a9 a10 a11 a12 a13 a14 a15 a16 a17 a18 a19 a20 a21 a22 a23:α}{L:List α}(h:x∈L):x∈a0::a1::a2::a3::a4::a5::a6::a7::a8::a9::a10::a11::a12::a13::a14::a15::a16::a17::a18::a19::a20::a21::a22::a23::L:=.tail _ (.tail _ (.tail _ (.tail _ (.tail _ (.tail _ (.tail _ (.tail _ (.tail _ (.tail _ (.tail _ (.tail _ (.tail _ (.tail _ (.tail _ (.tail _ (.tail _ (.tail _ (.tail _ (.tail _ (.tail _ (.tail _ (.tail _ (.tail _ (h))))))))))))))))))))))))
end Go.Proofs.YtofkehhflkdabaaGreatDoor
