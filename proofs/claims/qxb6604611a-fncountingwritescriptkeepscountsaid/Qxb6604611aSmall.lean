import Derived.Test.Qxb6604611aLeaf
namespace Go.Proofs.Qxb6604611a
open Go.RowKit

theorem zz_yes (a b : Option Addr) (l m c d : Nat) (n0 : Int) (w : World) (h : l + m ≤ 1048576) :
    Calls Try.prog 12 #[.slice a l c, .int .i64 n0, .slice b m d] w fun e w' => e = .returned (.bool true) ∧ w' = w := by
  go_enter Try.func12, Try.ntmps12
  go_wp2
  go_ret
  exact ⟨rfl, rfl⟩

theorem zz_no (a b : Option Addr) (l m c d : Nat) (n0 : Int) (w : World) (h : 1048576 < l + m) (hl : l ≤ maxLen) (hm : m ≤ maxLen) :
    Calls Try.prog 12 #[.slice a l c, .int .i64 n0, .slice b m d] w fun e w' => e = .returned (.bool false) ∧ w' = w := by
  unfold maxLen at hl hm
  by_cases h1 : l ≤ 1048576
  · by_cases h2 : m ≤ 1048576
    · go_enter Try.func12, Try.ntmps12
      go_wp2
      go_ret
      exact ⟨rfl, rfl⟩
    · go_enter Try.func12, Try.ntmps12
      go_wp2
      go_ret
      exact ⟨rfl, rfl⟩
  · go_enter Try.func12, Try.ntmps12
    go_wp2
    go_ret
    exact ⟨rfl, rfl⟩

/-- the world behind ZZnewCountingBuffer -/
def cwWorld (w : World) (v : Value) (n : Int) : World :=
  (w.alloc (.cells #[v, .int .i64 0, .int .i8 0] 72)).alloc (.cells #[.iface 50 (.pointer (some ⟨w.heap.size, 0, none⟩)), .int .i64 n] 55)

theorem newbuf (a : Option Addr) (l c : Nat) (n : Int) (w : World) :
    Calls Try.prog 14 #[.slice a l c, .int .i64 n] w fun e w' => e = .returned (.pointer (some ⟨w.heap.size + 1, 0, none⟩)) ∧ w' = cwWorld w (.slice a l c) n := by
  go_enter Try.func14, Try.ntmps14
  go_wp2
  go_ret
  exact ⟨rfl, rfl⟩

theorem countN (b : Nat) (n : Int) (w : World) (h : w.cell? ⟨b, 1, none⟩ = some (.int .i64 n)) :
    Calls Try.prog 16 #[.pointer (some ⟨b, 0, none⟩)] w fun e w' => e = .returned (.int .i64 n) ∧ w' = w := by
  go_enter Try.func16, Try.ntmps16
  go_wp2
  go_ret
  exact ⟨rfl, rfl⟩
end Go.Proofs.Qxb6604611a
