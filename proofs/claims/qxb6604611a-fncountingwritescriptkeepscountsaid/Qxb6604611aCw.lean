import Derived.Test.Qxb6604611aSmall
import Derived.Lib.BufferKept
import Derived.Lib.BufferOwn
import Derived.Lib.Hide
import Derived.Deep.DeepMust
import Derived.Deep.RegionWith
namespace Go.Proofs.Qxb6604611a
open Go.RowKit

theorem isBuffer_setOther {B b cb i : Nat} {bs : List Value} {w : World} {cells : Array Value} (h : Lib.IsBuffer 72 5 B b bs w) (hc : w.heap[cb]? = some (.cells cells 55 (0, 0))) (v : Value) :
    Lib.IsBuffer 72 5 B b bs (w.setCell ⟨cb, i, none⟩ v) := by
  obtain ⟨hB, x, lr, hb, ⟨hl, hr⟩, hne⟩ := h
  have h1 : b ≠ cb := fun e => by
    rw [e, hc] at hb
    have := Option.some.inj hb
    simp at this
  refine ⟨hB, x, lr, by rw [Below.heap_setCell _ _ _ _ h1]; exact hb, ⟨hl, ?_⟩, hne⟩
  rcases hr with hr | ⟨g, cap, cur, e1, e2, e3, r⟩
  · exact .inl hr
  · have h2 : g ≠ cb := fun e => by
      rw [e, hc] at e3
      have := Option.some.inj e3
      simp at this
    exact .inr ⟨g, cap, cur, e1, e2, by rw [Below.heap_setCell _ _ _ _ h2]; exact e3, r⟩

theorem method_write (a : Addr) (w : World) : (method 209 50 (.pointer (some a)) "Write").run Try.prog w = .ok (56, .pointer (some a)) w := by kernel_rfl

set_option maxHeartbeats 800000 in
theorem cw_write (B b cb : Nat) (bs cs : List Value) (pa : Option Addr) (n c : Nat) (N : Int) (w : World)
    (hcw : w.heap[cb]? = some (.cells #[.iface 50 (.pointer (some ⟨b, 0, none⟩)), .int .i64 N] 55 (0, 0))) (hcb : cb ≠ b) (hBcb : B ≤ cb)
    (hW : Calls Try.prog 56 #[.pointer (some ⟨b, 0, none⟩), .slice pa n c] w fun e w' => e = .returned (.tuple #[.int .i64 n, .nilIface]) ∧ Lib.IsBuffer 72 5 B b (bs ++ cs) w' ∧ Below B w w' ∧ Lib.OthersKept 5 (some b) w w') :
    Calls Try.prog 25 #[.pointer (some ⟨cb, 0, none⟩), .slice pa n c] w fun e w' => e = .returned (.tuple #[.int .i64 n, .nilIface]) ∧ Lib.IsBuffer 72 5 B b (bs ++ cs) w' ∧ Below B w w' ∧
      w'.heap[cb]? = some (.cells #[.iface 50 (.pointer (some ⟨b, 0, none⟩)), .int .i64 (wrap64 (N + n))] 55 (0, 0)) := by
  have c0 : w.cell? ⟨cb, 0, none⟩ = some (.iface 50 (.pointer (some ⟨b, 0, none⟩))) := by rw [Lib.cell_of_heap hcw]; rfl
  have HW := Lib.hid hW
  have HC := Lib.hid hcw
  clear hW hcw
  go_enter Try.func25, Try.ntmps25
  have hm := method_write ⟨b, 0, none⟩ w
  go_wp2_with (go_at_call 56; refine HW.out.mono ?_; rintro e w1 ⟨rfl, i1, b1, k1⟩; refine Hid.out ?_)
  refine Lib.hid ?_
  have hcw1 := k1 cb _ HC.out (fun e => hcb (Option.some.inj e)) (fun c fz e => by simp at e)
  have c1 : w1.cell? ⟨cb, 1, none⟩ = some (.int .i64 N) := by rw [Lib.cell_of_heap hcw1]; rfl
  have f1 : w1.frozen? ⟨cb, 1, none⟩ = false := Lib.frozen_of_heap hcw1 1
  have HC1 := Lib.hid hcw1
  clear hcw1 c0 HC HW
  go_wp2
  go_ret2
  refine ⟨rfl, isBuffer_setOther i1 HC1.out _, b1.setCell (p := ⟨cb, 1, none⟩) hBcb _, ?_⟩
  have h := HC1.out
  simp [World.setCell, Array.getElem?_modify, h]

set_option maxHeartbeats 800000 in
/-- ZZcountingWrite, over what (*countingWriter).Write does. -/
theorem zz_write (B b cb : Nat) (bs cs : List Value) (pa : Option Addr) (n c : Nat) (N : Int) (w : World)
    (hcw : w.heap[cb]? = some (.cells #[.iface 50 (.pointer (some ⟨b, 0, none⟩)), .int .i64 N] 55 (0, 0))) (hcb : cb ≠ b) (hBcb : B ≤ cb)
    (hW : Calls Try.prog 56 #[.pointer (some ⟨b, 0, none⟩), .slice pa n c] w fun e w' => e = .returned (.tuple #[.int .i64 n, .nilIface]) ∧ Lib.IsBuffer 72 5 B b (bs ++ cs) w' ∧ Below B w w' ∧ Lib.OthersKept 5 (some b) w w') :
    Calls Try.prog 15 #[.pointer (some ⟨cb, 0, none⟩), .slice pa n c] w fun e w' => e = .returned (.tuple #[.int .i64 n, .bool false]) ∧ Lib.IsBuffer 72 5 B b (bs ++ cs) w' ∧ Below B w w' ∧
      w'.heap[cb]? = some (.cells #[.iface 50 (.pointer (some ⟨b, 0, none⟩)), .int .i64 (wrap64 (N + n))] 55 (0, 0)) := by
  have H := Lib.hid (cw_write B b cb bs cs pa n c N w hcw hcb hBcb hW)
  clear hW hcw
  go_enter Try.func15, Try.ntmps15
  go_wp2_with (go_at_call 25; refine H.out.mono ?_; rintro e w1 ⟨rfl, i1, b1, k1⟩; refine Hid.out ?_)
  refine Lib.hid ?_
  have K1 := Lib.hid k1
  clear k1 H
  go_wp2
  go_quiet (fail)
  go_wp2
  go_ret2
  exact ⟨rfl, i1.drewN _, b1.trans ⟨rfl, rfl, rfl, Nat.le_refl _, fun _ _ => rfl⟩, K1.out⟩

theorem assert_buf (a : Addr) (w : World) : (Instr.typeAssert (.iface 50 (.pointer (some a))) 53 50 false).run Try.prog w = .ok (.pointer (some a)) w := by kernel_rfl

set_option maxHeartbeats 800000 in
/-- ZZcountingBytes, over what (*bytes.Buffer).Bytes does. -/
theorem zz_bytes (B b cb : Nat) (bs : List Value) (N : Int) (w : World)
    (hcw : w.heap[cb]? = some (.cells #[.iface 50 (.pointer (some ⟨b, 0, none⟩)), .int .i64 N] 55 (0, 0)))
    (hW : Calls Try.prog 26 #[.pointer (some ⟨b, 0, none⟩)] w fun e w' => ∃ v, e = .returned v ∧ w'.ownsRow B 5 1 v bs.length bs ∧ ∃ n, w' = w.drewN n) :
    Calls Try.prog 17 #[.pointer (some ⟨cb, 0, none⟩)] w fun e w' => ∃ v, e = .returned v ∧ w'.ownsRow B 5 1 v bs.length bs ∧ ∃ n, w' = w.drewN n := by
  have c0 : w.cell? ⟨cb, 0, none⟩ = some (.iface 50 (.pointer (some ⟨b, 0, none⟩))) := by rw [Lib.cell_of_heap hcw]; rfl
  have HW := Lib.hid hW
  clear hW hcw
  have ha := assert_buf ⟨b, 0, none⟩ w
  go_enter Try.func17, Try.ntmps17
  go_wp2_with (go_at_call 26; refine HW.out.mono ?_; rintro e w1 ⟨v, rfl, i1, n1, rfl⟩; refine Hid.out ?_)
  refine Lib.hid ?_
  clear c0 HW
  go_wp2
  go_ret
  exact ⟨v, rfl, i1, n1, rfl⟩
end Go.Proofs.Qxb6604611a
