/- The shelf contracts at this dump, laid in plain words by the kit (lay-shelf, lay-plain). -/
import Derived.Shelf.LaysM
import Derived.Shelf.Bytes.Bytes
import Derived.Shelf.Bytes.GrowOwn
import Derived.Shelf.Bytes.WriteAny
import Derived.Test.Qxb6604611aProg
namespace Go.Proofs
open Go.Shelf
def Try.laysM251_ren : Go.Shelf.Ren := ⟨fun | 251 => 57 | n => n, fun | 130 => 50 | 3 => 3 | 4 => 4 | 0 => 0 | 93 => 72 | 37 => 35 | 91 => 70 | 5 => 5 | n => n, fun | n => n⟩
theorem Try.laysM251 : Go.Proofs.LaysM.n251 Try.prog Try.laysM251_ren := {
  mixed := by kernel_rfl
  f251 := Try.func57.trans (congrArg some (by kernel_rfl))
  t0 := Try.underlying0
  a0 := Try.isAgg0
  z0 := Try.sizeOf0
  v0 := Try.zeroValue0
  t3 := Try.underlying3
  a3 := Try.isAgg3
  z3 := Try.sizeOf3
  v3 := Try.zeroValue3
  t4 := Try.underlying4
  a4 := Try.isAgg4
  z4 := Try.sizeOf4
  v4 := Try.zeroValue4
  t37 := Try.underlying35
  a37 := Try.isAgg35
  z37 := Try.sizeOf35
  v37 := Try.zeroValue35
  t93 := Try.underlying72
  a93 := Try.isAgg72
  z93 := Try.sizeOf72
  v93 := Try.zeroValue72
  t130 := Try.underlying50
  a130 := Try.isAgg50
  z130 := Try.sizeOf50
  v130 := Try.zeroValue50
  t5 := Try.underlying5
  a5 := Try.isAgg5
  z5 := Try.sizeOf5
  v5 := Try.zeroValue5
  t91 := Try.underlying70
  a91 := Try.isAgg70
  z91 := Try.sizeOf70
  v91 := Try.zeroValue70
  i0 := by kernel_rfl
  i3 := by kernel_rfl
  i4 := by kernel_rfl
  i5 := by kernel_rfl
  i37 := by kernel_rfl
  i91 := by kernel_rfl
  i93 := by kernel_rfl
  i130 := by kernel_rfl }
def Try.laysM183_ren : Go.Shelf.Ren := ⟨fun | 183 => 26 | n => n, fun | 130 => 50 | 37 => 35 | 0 => 0 | 93 => 72 | 3 => 3 | 5 => 5 | 91 => 70 | n => n, fun | n => n⟩
theorem Try.laysM183 : Go.Proofs.LaysM.n183 Try.prog Try.laysM183_ren := {
  mixed := by kernel_rfl
  f183 := Try.func26.trans (congrArg some (by kernel_rfl))
  t0 := Try.underlying0
  a0 := Try.isAgg0
  z0 := Try.sizeOf0
  v0 := Try.zeroValue0
  t3 := Try.underlying3
  a3 := Try.isAgg3
  z3 := Try.sizeOf3
  v3 := Try.zeroValue3
  t37 := Try.underlying35
  a37 := Try.isAgg35
  z37 := Try.sizeOf35
  v37 := Try.zeroValue35
  t93 := Try.underlying72
  a93 := Try.isAgg72
  z93 := Try.sizeOf72
  v93 := Try.zeroValue72
  t130 := Try.underlying50
  a130 := Try.isAgg50
  z130 := Try.sizeOf50
  v130 := Try.zeroValue50
  t5 := Try.underlying5
  a5 := Try.isAgg5
  z5 := Try.sizeOf5
  v5 := Try.zeroValue5
  t91 := Try.underlying70
  a91 := Try.isAgg70
  z91 := Try.sizeOf70
  v91 := Try.zeroValue70
  i0 := by kernel_rfl
  i3 := by kernel_rfl
  i5 := by kernel_rfl
  i37 := by kernel_rfl
  i91 := by kernel_rfl
  i93 := by kernel_rfl
  i130 := by kernel_rfl }
open Go.RowKit in
theorem Try.Buffer_Bytes (B b : Nat) (bs : List Value) (w : World) (h : Lib.IsBuffer 72 5 B b bs w) :
    Calls Try.prog 26 #[.pointer (some ⟨b, 0, none⟩)] w fun e w' => ∃ v, e = .returned v ∧ w'.ownsRow B 5 1 v bs.length bs ∧ ∃ n, w' = w.drewN n := Any.Buffer_Bytes Try.laysM183 B b bs w h
open Go.RowKit in
theorem Try.Buffer_tryGrow_own (B b n : Nat) (bs : List Value) (w : World) (h : Lib.IsBuffer 72 5 B b bs w) :
    Calls Try.prog 57 #[.pointer (some ⟨b, 0, none⟩), .int .i64 n] w fun e w' =>
      (e = .returned (.tuple #[.int .i64 bs.length, .bool true]) ∧ ∃ xs, xs.length = n ∧ Lib.IsBuffer 72 5 B b (bs ++ xs) w' ∧ Below B w w' ∧ Lib.OthersKept 5 (some b) w w' ∧ w.grownBy w' (some b)) ∨
      (e = .returned (.tuple #[.int .i64 0, .bool false]) ∧ w' = w ∧ Lib.NoRoom b n w) := Any.Buffer_tryGrow_own Try.laysM251 B b n bs w h
def Try.laysM180_ren : Go.Shelf.Ren := ⟨fun | 180 => 56 | 251 => 57 | 252 => 58 | 181 => 59 | 184 => 54 | 290 => 60 | 324 => 61 | n => n, fun | 130 => 50 | 37 => 35 | 3 => 3 | 75 => 57 | 0 => 0 | 93 => 72 | 91 => 70 | 131 => 40 | 4 => 4 | 20 => 20 | 5 => 5 | 80 => 74 | 9 => 9 | n => n, fun | 14 => 0 | n => n⟩
theorem Try.laysM180 : Go.Proofs.LaysM.n180 Try.prog Try.laysM180_ren := {
  mixed := by kernel_rfl
  f180 := Try.func56.trans (congrArg some (by kernel_rfl))
  f181 := Try.func59.trans (congrArg some (by kernel_rfl))
  f184 := Try.func54.trans (congrArg some (by kernel_rfl))
  f251 := Try.func57.trans (congrArg some (by kernel_rfl))
  f252 := Try.func58.trans (congrArg some (by kernel_rfl))
  f290 := Try.func60.trans (congrArg some (by kernel_rfl))
  f324 := Try.func61.trans (congrArg some (by kernel_rfl))
  t0 := Try.underlying0
  a0 := Try.isAgg0
  z0 := Try.sizeOf0
  v0 := Try.zeroValue0
  t3 := Try.underlying3
  a3 := Try.isAgg3
  z3 := Try.sizeOf3
  v3 := Try.zeroValue3
  t4 := Try.underlying4
  a4 := Try.isAgg4
  z4 := Try.sizeOf4
  v4 := Try.zeroValue4
  t20 := Try.underlying20
  a20 := Try.isAgg20
  z20 := Try.sizeOf20
  v20 := Try.zeroValue20
  t37 := Try.underlying35
  a37 := Try.isAgg35
  z37 := Try.sizeOf35
  v37 := Try.zeroValue35
  t75 := Try.underlying57
  a75 := Try.isAgg57
  z75 := Try.sizeOf57
  v75 := Try.zeroValue57
  t91 := Try.underlying70
  a91 := Try.isAgg70
  z91 := Try.sizeOf70
  v91 := Try.zeroValue70
  t93 := Try.underlying72
  a93 := Try.isAgg72
  z93 := Try.sizeOf72
  v93 := Try.zeroValue72
  t130 := Try.underlying50
  a130 := Try.isAgg50
  z130 := Try.sizeOf50
  v130 := Try.zeroValue50
  t131 := Try.underlying40
  a131 := Try.isAgg40
  z131 := Try.sizeOf40
  v131 := Try.zeroValue40
  g14 := by kernel_rfl
  t5 := Try.underlying5
  a5 := Try.isAgg5
  z5 := Try.sizeOf5
  v5 := Try.zeroValue5
  t9 := Try.underlying9
  a9 := Try.isAgg9
  z9 := Try.sizeOf9
  v9 := Try.zeroValue9
  t80 := Try.underlying74
  a80 := Try.isAgg74
  z80 := Try.sizeOf74
  v80 := Try.zeroValue74
  i0 := by kernel_rfl
  i3 := by kernel_rfl
  i4 := by kernel_rfl
  i5 := by kernel_rfl
  i9 := by kernel_rfl
  i20 := by kernel_rfl
  i37 := by kernel_rfl
  i75 := by kernel_rfl
  i80 := by kernel_rfl
  i91 := by kernel_rfl
  i93 := by kernel_rfl
  i130 := by kernel_rfl
  i131 := by kernel_rfl
  m14 := by kernel_rfl }
open Go.RowKit in
theorem Try.Buffer_Write_any (B b : Nat) (bs cs : List Value) (a : Addr) (n c : Nat) (w : World) (h : Lib.IsBuffer 72 5 B b bs w) (hBw : B ≤ w.heap.size) (h1 : ∀ v ∈ bs, v.oneCell' = true) (hn : cs.length = n) (hab : a.block ≠ b) (hsrc : ∀ j v, cs[j]? = some v → w.cell? (a.add j) = some v) (h1c : ∀ v ∈ cs, v.oneCell' = true) (hlim : bs.length + n ≤ 140737488355328) :
    Calls Try.prog 56 #[.pointer (some ⟨b, 0, none⟩), .slice (some a) n c] w fun e w' => e = .returned (.tuple #[.int .i64 n, .nilIface]) ∧ Lib.IsBuffer 72 5 B b (bs ++ cs) w' ∧ Below B w w' ∧ Lib.OthersKept 5 (some b) w w' := Any.Buffer_Write_any Try.laysM180 B b bs cs a n c w h hBw h1 hn hab hsrc h1c hlim
end Go.Proofs
