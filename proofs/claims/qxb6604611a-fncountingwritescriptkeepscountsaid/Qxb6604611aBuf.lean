import Derived.Test.Qxb6604611aMain
import Derived.Test.Qxb6604611aShelf
import Derived.Lib.BufferSrc
namespace Go.Proofs.Qxb6604611a
open Go.RowKit

theorem bytes_said : BytesSaid := fun B b bs w h => Try.Buffer_Bytes B b (u8s bs) w h

set_option maxHeartbeats 1600000 in
set_option maxRecDepth 100000 in
/-- Write(nil): nothing is written. -/
theorem write_nil (B b : Nat) (bs : List Value) (w : World) (h : Lib.IsBuffer 72 5 B b bs w) :
    Calls Try.prog 56 #[.pointer (some ⟨b, 0, none⟩), .slice none 0 0] w fun e w' => e = .returned (.tuple #[.int .i64 0, .nilIface]) ∧ Lib.IsBuffer 72 5 B b bs w' ∧ Below B w w' ∧ Lib.OthersKept 5 (some b) w w' := by
  obtain ⟨hB, v0, lr, hbk, -, -⟩ := id h
  have c2 : w.cell? ⟨b, 2, none⟩ = some (.int .i8 lr) := by rw [Lib.cell_of_heap hbk]; rfl
  have f2 : w.frozen? ⟨b, 2, none⟩ = false := Lib.frozen_of_heap hbk 2
  have h' := h.setLast 0
  have hbel0 : Below B w (w.setCell ⟨b, 2, none⟩ (.int .i8 0)) := (Below.refl B w).setCell (p := ⟨b, 2, none⟩) hB _
  have hk0 : Lib.OthersKept 5 (some b) w (w.setCell ⟨b, 2, none⟩ (.int .i8 0)) := (Lib.OthersKept.refl _ _ w).setCell ⟨b, 2, none⟩ rfl _
  clear hbk v0
  have hce : ∀ d dLen dCap W, (Builtin.copy_ #[35, 35] 3 #[.slice d dLen dCap, .slice none 0 0]).run Try.prog W = .ok (goInt 0) W := fun d dLen dCap W => run_copy_none W 35 35 3 5 d none dLen dCap 0 0 Try.underlying35 Try.size5 (by simp)
  have hT : ∀ W, Lib.IsBuffer 72 5 B b bs W → Calls Try.prog 57 #[.pointer (some ⟨b, 0, none⟩), .int .i64 0] W _ := fun W hW => Try.Buffer_tryGrow_own B b 0 bs W hW
  go_enter Try.func56, Try.ntmps56
  go_wp2_with (go_at_call 57; refine (hT _ ?_).mono ?_)
  · exact h'
  rintro e W1 (⟨rfl, xs, hxl, hI, hbel, hk, hg⟩ | ⟨rfl, rfl, hnr⟩)
  · clear h' c2 f2 hT
    have hx0 : xs = [] := List.eq_nil_of_length_eq_zero hxl
    subst hx0
    rw [List.append_nil] at hI
    obtain ⟨-, lr2, hc⟩ := hI.cases
    rcases hc with ⟨hb0, hbk2⟩ | ⟨g, cap, cur, hbk2, -, -, hnc, hcm, -, -, -⟩
    · subst hb0
      have d0 : W1.cell? ⟨b, 0, none⟩ = some (.slice none 0 0) := by rw [Lib.cell_of_heap hbk2]; rfl
      go_wp2
      all_goals (go_ret2; exact ⟨rfl, hI, hbel0.trans hbel, hk0.trans hk⟩)
    · have d0 : W1.cell? ⟨b, 0, none⟩ = some (.slice (some ⟨g, 0, none⟩) bs.length cap) := by rw [Lib.cell_of_heap hbk2]; rfl
      unfold maxLen at hcm
      go_wp2
      all_goals (go_ret2; exact ⟨rfl, hI, hbel0.trans hbel, hk0.trans hk⟩)
  · obtain ⟨_, _, _, _, hlt⟩ := hnr
    omega

theorem write_said : WriteSaid := by
  intro B b bs zs pa n c w hI hB hp hc hab hlim
  cases pa with
  | none =>
    have e1 := hp.2.1 rfl
    have e2 := hc rfl
    have e3 : zs = [] := List.eq_nil_of_length_eq_zero (by rw [hp.1, e1])
    subst e1 e2 e3
    refine (write_nil B b (u8s bs) w hI).mono ?_
    rintro e w' ⟨rfl, h1, h2, h3⟩
    refine ⟨rfl, ?_, h2, h3⟩
    show Lib.IsBuffer 72 5 B b (u8s bs ++ []) w'
    rw [List.append_nil]
    exact h1
  | some a =>
    exact Try.Buffer_Write_any B b (u8s bs) (u8s zs) a n c w hI hB (u8s_one bs) (by rw [u8s_length]; exact hp.1) (hab a rfl) hp.src (u8s_one zs) (by rw [u8s_length]; exact hlim)
end Go.Proofs.Qxb6604611a
