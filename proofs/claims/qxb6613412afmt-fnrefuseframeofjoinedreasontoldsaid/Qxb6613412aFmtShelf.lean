/-
  The shelf's two contracts that the road needs ((*bytes.Buffer).Bytes and Write), laid at this dump: the kit's tool's own plain print.
-/
import Derived.Shelf.LaysM
import Derived.Shelf.Bytes.Bytes
import Derived.Shelf.Bytes.WriteAny
import Derived.Test.Qxb6613412aFmtProg
namespace Go.Proofs.Qxb6613412aFmt
open Go.Shelf Go.RowKit
def laysM183_ren : Go.Shelf.Ren := ⟨fun | 183 => 12 | n => n, fun | 130 => 34 | 37 => 23 | 0 => 0 | 93 => 31 | 3 => 3 | 5 => 5 | 91 => 29 | n => n, fun | n => n⟩
theorem laysM183 : Go.Proofs.LaysM.n183 Tryf.prog laysM183_ren := {
  mixed := by kernel_rfl
  f183 := Tryf.func12.trans (congrArg some (by kernel_rfl))
  t0 := Tryf.underlying0
  a0 := Tryf.isAgg0
  z0 := Tryf.sizeOf0
  v0 := Tryf.zeroValue0
  t3 := Tryf.underlying3
  a3 := Tryf.isAgg3
  z3 := Tryf.sizeOf3
  v3 := Tryf.zeroValue3
  t37 := Tryf.underlying23
  a37 := Tryf.isAgg23
  z37 := Tryf.sizeOf23
  v37 := Tryf.zeroValue23
  t93 := Tryf.underlying31
  a93 := Tryf.isAgg31
  z93 := Tryf.sizeOf31
  v93 := Tryf.zeroValue31
  t130 := Tryf.underlying34
  a130 := Tryf.isAgg34
  z130 := Tryf.sizeOf34
  v130 := Tryf.zeroValue34
  t5 := Tryf.underlying5
  a5 := Tryf.isAgg5
  z5 := Tryf.sizeOf5
  v5 := Tryf.zeroValue5
  t91 := Tryf.underlying29
  a91 := Tryf.isAgg29
  z91 := Tryf.sizeOf29
  v91 := Tryf.zeroValue29
  i0 := by kernel_rfl
  i3 := by kernel_rfl
  i5 := by kernel_rfl
  i37 := by kernel_rfl
  i91 := by kernel_rfl
  i93 := by kernel_rfl
  i130 := by kernel_rfl }
theorem Buffer_Bytes (B b : Nat) (bs : List Value) (w : World) (h : Lib.IsBuffer 31 5 B b bs w) :
    Calls Tryf.prog 12 #[.pointer (some ⟨b, 0, none⟩)] w fun e w' => ∃ v, e = .returned v ∧ w'.ownsRow B 5 1 v bs.length bs ∧ ∃ n, w' = w.drewN n := Any.Buffer_Bytes laysM183 B b bs w h
def laysM180_ren : Go.Shelf.Ren := ⟨fun | 180 => 40 | 251 => 41 | 252 => 42 | 181 => 43 | 184 => 38 | 290 => 44 | 324 => 45 | n => n, fun | 130 => 34 | 37 => 23 | 3 => 3 | 75 => 37 | 0 => 0 | 93 => 31 | 91 => 29 | 131 => 77 | 4 => 4 | 20 => 20 | 5 => 5 | 80 => 43 | 9 => 9 | n => n, fun | 14 => 1 | n => n⟩
theorem laysM180 : Go.Proofs.LaysM.n180 Tryf.prog laysM180_ren := {
  mixed := by kernel_rfl
  f180 := Tryf.func40.trans (congrArg some (by kernel_rfl))
  f181 := Tryf.func43.trans (congrArg some (by kernel_rfl))
  f184 := Tryf.func38.trans (congrArg some (by kernel_rfl))
  f251 := Tryf.func41.trans (congrArg some (by kernel_rfl))
  f252 := Tryf.func42.trans (congrArg some (by kernel_rfl))
  f290 := Tryf.func44.trans (congrArg some (by kernel_rfl))
  f324 := Tryf.func45.trans (congrArg some (by kernel_rfl))
  t0 := Tryf.underlying0
  a0 := Tryf.isAgg0
  z0 := Tryf.sizeOf0
  v0 := Tryf.zeroValue0
  t3 := Tryf.underlying3
  a3 := Tryf.isAgg3
  z3 := Tryf.sizeOf3
  v3 := Tryf.zeroValue3
  t4 := Tryf.underlying4
  a4 := Tryf.isAgg4
  z4 := Tryf.sizeOf4
  v4 := Tryf.zeroValue4
  t20 := Tryf.underlying20
  a20 := Tryf.isAgg20
  z20 := Tryf.sizeOf20
  v20 := Tryf.zeroValue20
  t37 := Tryf.underlying23
  a37 := Tryf.isAgg23
  z37 := Tryf.sizeOf23
  v37 := Tryf.zeroValue23
  t75 := Tryf.underlying37
  a75 := Tryf.isAgg37
  z75 := Tryf.sizeOf37
  v75 := Tryf.zeroValue37
  t91 := Tryf.underlying29
  a91 := Tryf.isAgg29
  z91 := Tryf.sizeOf29
  v91 := Tryf.zeroValue29
  t93 := Tryf.underlying31
  a93 := Tryf.isAgg31
  z93 := Tryf.sizeOf31
  v93 := Tryf.zeroValue31
  t130 := Tryf.underlying34
  a130 := Tryf.isAgg34
  z130 := Tryf.sizeOf34
  v130 := Tryf.zeroValue34
  t131 := Tryf.underlying77
  a131 := Tryf.isAgg77
  z131 := Tryf.sizeOf77
  v131 := Tryf.zeroValue77
  g14 := by kernel_rfl
  t5 := Tryf.underlying5
  a5 := Tryf.isAgg5
  z5 := Tryf.sizeOf5
  v5 := Tryf.zeroValue5
  t9 := Tryf.underlying9
  a9 := Tryf.isAgg9
  z9 := Tryf.sizeOf9
  v9 := Tryf.zeroValue9
  t80 := Tryf.underlying43
  a80 := Tryf.isAgg43
  z80 := Tryf.sizeOf43
  v80 := Tryf.zeroValue43
  i0 := by kernel_rfl
  i3 := by kernel_rfl
  i4 := by kernel_rfl
  i5 := by kernel_rfl
  i9 := by kernel_rfl
  i20 := by kernel_rfl
  i37 := by kernel_rfl
  i75 := by kernel_rfl
  i80 := by kernel_rfl
  i91 := by kernel_rfl
  i93 := by kernel_rfl
  i130 := by kernel_rfl
  i131 := by kernel_rfl
  m14 := by kernel_rfl }
theorem Buffer_Write_any (B b : Nat) (bs cs : List Value) (a : Addr) (n c : Nat) (w : World) (h : Lib.IsBuffer 31 5 B b bs w) (hBw : B ≤ w.heap.size) (h1 : ∀ v ∈ bs, v.oneCell' = true) (hn : cs.length = n) (hab : a.block ≠ b) (hsrc : ∀ j v, cs[j]? = some v → w.cell? (a.add j) = some v) (h1c : ∀ v ∈ cs, v.oneCell' = true) (hlim : bs.length + n ≤ 140737488355328) :
    Calls Tryf.prog 40 #[.pointer (some ⟨b, 0, none⟩), .slice (some a) n c] w fun e w' => e = .returned (.tuple #[.int .i64 n, .nilIface]) ∧ Lib.IsBuffer 31 5 B b (bs ++ cs) w' ∧ Below B w w' ∧ Lib.OthersKept 5 (some b) w w' := Any.Buffer_Write_any laysM180 B b bs cs a n c w h hBw h1 hn hab hsrc h1c hlim
end Go.Proofs.Qxb6613412aFmt
