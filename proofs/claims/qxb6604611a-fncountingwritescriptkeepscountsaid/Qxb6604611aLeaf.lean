import Derived.Test.Qxb6604611aRows
import Derived.WalkKit
import Derived.WalkSpells
import Derived.Below
import Derived.Deep.OwnRows
import Derived.Deep.WholeRow
import Derived.Deep.QuietTactic
import Derived.BigQuiet
import Derived.Laws.IdiomCopy
import Derived.Lib.SliceRun
namespace Go.Proofs.Qxb6604611a
open Go.RowKit

theorem Try.size5 : (Try.prog.info? 5).map (fun i => i.size) = some 1 := by kernel_rfl
theorem Try.info5 : (Try.prog.info? 5).map (fun i => (i.zero, i.size, i.bytes)) = some (some (.int .u8 0), 1, 1) := by kernel_rfl

theorem clone_nil (w : World) : Calls Try.prog 13 #[.slice none 0 0] w fun e w' => e = .returned (.slice none 0 0) ∧ w' = w := by
  have q := fun (w : World) (a : Option Addr) (n c n' c' : Nat) => Lib.run_eql_slice_nil (P := Try.prog) w _ _ a n c n' c' Try.underlying35
  go_enter Try.func13, Try.ntmps13
  go_wp2
  go_ret
  exact ⟨rfl, rfl⟩

theorem copied (w : World) (cs : List Value) (n : Nat) (hn : cs.length = n) :
    (w.alloc (.cells (madeCells #[.int .u8 0] n) 5)).setRow w.heap.size ((madeCells #[.int .u8 0] n).toList.take 0 ++ cs ++ (madeCells #[.int .u8 0] n).toList.drop (0 + cs.length)).toArray = w.alloc (.cells cs.toArray 5) := by
  rw [World.setRow_alloc_new]
  rw [List.drop_of_length_le (by rw [Array.length_toList, size_madeCells]; omega)]
  simp

set_option maxHeartbeats 400000 in
theorem clone_some (a : Addr) (n c : Nat) (cs : List Value) (w : World) (hn : cs.length = n) (hsrc : ∀ j v, cs[j]? = some v → w.cell? (a.add j) = some v) (h1 : ∀ v ∈ cs, v.oneCell' = true) (hlim : n ≤ 1048576) :
    Calls Try.prog 13 #[.slice (some a) n c] w fun e w' => e = .returned (.slice (some ⟨w.heap.size, 0, none⟩) n n) ∧ w' = w.alloc (.cells cs.toArray 5) := by
  have q := fun (w : World) (a : Option Addr) (n c n' c' : Nat) => Lib.run_eql_slice_nil (P := Try.prog) w _ _ a n c n' c' Try.underlying35
  have hmk := run_make_row' (P := Try.prog) 35 5 (.int .u8 0) 1 Try.underlying35 Try.info5 rfl .i64 .i64 n (by omega) (by omega) w
  have hcp := run_copy_row (P := Try.prog) (w.alloc (.cells (madeCells #[.int .u8 0] n) 5)) 35 35 3 5 w.heap.size 0 n n a n c (madeCells #[.int .u8 0] n) 5 cs Try.underlying35 Try.size5 (Deep.blk_alloc_new _ _) (by rw [hn]; exact (Nat.min_self n).symm)
    (fun j v hj => Lib.cell?_alloc_some _ (hsrc j v hj)) (by rw [size_madeCells]; omega) h1
  rw [copied w cs n hn, hn] at hcp
  clear hsrc
  go_enter Try.func13, Try.ntmps13
  go_wp2
  go_ret
  exact ⟨rfl, rfl⟩
end Go.Proofs.Qxb6604611a
