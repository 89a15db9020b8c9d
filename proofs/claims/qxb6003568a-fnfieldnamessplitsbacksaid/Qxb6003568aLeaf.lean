import Derived.Test.Qxb6003568aRows
import Derived.WalkKit
import Derived.WalkSpells
import Derived.Below
import Derived.Deep.OwnRows
import Derived.Deep.WholeRow
import Derived.Deep.QuietTactic
import Derived.BigQuiet
import Derived.Lib.SliceRun
import Derived.Lib.Hide
import Derived.Lib.Buffer
namespace Go.Proofs.Qxb6003568a
open Go.RowKit

/-- the slice at a of strings reads as xs -/
def Names (w : World) (a : Option Addr) (xs : List ByteArray) : Prop :=
  (a = none → xs = []) ∧ ∀ x, a = some x → ∀ j s, xs[j]? = some s → w.cell? (x.add j) = some (.string s)

theorem Names.at_ {w : World} {a : Option Addr} {xs : List ByteArray} (h : Names w a xs) (hn : 0 < xs.length) :
    ∃ b o, a = some ⟨b, o, none⟩ ∧ b < w.heap.size ∧ ∀ j s, xs[j]? = some s → w.cell? ⟨b, o + j, none⟩ = some (.string s) := by
  cases a with
  | none => rw [h.1 rfl] at hn; exact absurd hn (Nat.lt_irrefl _)
  | some x =>
    obtain ⟨b, o, s⟩ := x
    have h0 := h.2 _ rfl 0 xs[0] (List.getElem?_eq_getElem hn)
    have e1 : s = none := by simpa [Addr.add] using World.cell?_spot h0
    subst e1
    refine ⟨b, o, rfl, ?_, fun j s hj => by rw [← Lib.addr_add]; exact h.2 _ rfl j s hj⟩
    have := World.block_lt_of_cell? w _ h0
    rw [Lib.addr_add] at this
    exact this

theorem Names.below {w w' : World} {a : Option Addr} {xs : List ByteArray} (h : Names w a xs) (hb : Below w.heap.size w w') : Names w' a xs :=
  ⟨h.1, fun x hx j s hj => by rw [hb.cell (p := x.add j) (World.block_lt_of_cell? w _ (h.2 x hx j s hj))]; exact h.2 x hx j s hj⟩

theorem Names.nil (w : World) (a : Option Addr) : Names w a [] := ⟨fun _ => rfl, fun _ _ j s hj => by simp at hj⟩

/-- all the strings are short -/
def Short (xs : List ByteArray) : Prop := ∀ s ∈ xs, s.size ≤ 1048576

/-- how zzBytes ends -/
def ZzEnd (xs : List ByteArray) (w : World) (e : Ending) (w' : World) : Prop := ∃ r : Bool, e = .returned (.bool r) ∧ (r = true → xs.length ≤ 1048576 ∧ Short xs) ∧ w' = w
theorem ZzEnd.no (xs : List ByteArray) (w : World) : ZzEnd xs w (.returned (.bool false)) w := ⟨false, rfl, (fun h => by cases h), rfl⟩
theorem ZzEnd.yes {xs : List ByteArray} {w : World} (h1 : xs.length ≤ 1048576) (h2 : Short xs) : ZzEnd xs w (.returned (.bool true)) w := ⟨true, rfl, fun _ => ⟨h1, h2⟩, rfl⟩

theorem short_step {xs : List ByteArray} {k : Nat} {s : ByteArray} (h : Short (xs.take k)) (hs : xs[k]? = some s) (hl : s.size ≤ 1048576) : Short (xs.take (k + 1)) := by
  intro x hx
  rw [List.take_add_one, hs] at hx
  rcases List.mem_append.1 hx with h' | h'
  · exact h x h'
  · simp at h'; rw [h']; exact hl
theorem short_all {xs : List ByteArray} {k : Nat} (h : Short (xs.take k)) (hk : xs.length ≤ k) : Short xs := by rwa [List.take_of_length_le hk] at h

set_option maxHeartbeats 1600000 in
theorem zz6_some (b o d : Nat) (xs : List ByteArray) (n : Nat) (hn : xs.length = n) (w : World) (hm : n ≤ maxLen)
    (h : ∀ j s, xs[j]? = some s → w.cell? ⟨b, o + j, none⟩ = some (.string s)) (hS : ∀ s ∈ xs, s.size ≤ maxLen) :
    Calls Try.prog 6 #[.slice (some ⟨b, o, none⟩) n d] w fun e w' => ZzEnd xs w e w' := by
  unfold maxLen at hm hS
  have H := Lib.hid h
  have HS := Lib.hid hS
  have HN := Lib.hid hn
  clear h hS hn
  by_cases h2 : 1048576 < n
  · go_enter Try.func6, Try.ntmps6
    go_wp2
    go_ret
    exact ZzEnd.no _ _
  have h2 : n ≤ 1048576 := by omega
  go_enter Try.func6, Try.ntmps6
  go_wp2
  go_loop [3, 4] (fun s i => ∃ k t : Nat, k ≤ n ∧ t ≤ 1048576 ∧ i = .int .i64 k ∧ s = .int .i64 t ∧ Short (xs.take k)) (fun _ i => n - (intOf i).toNat)
  case atStart => exact ⟨0, n, by omega, by omega, rfl, by go_num, fun s hs => by simp at hs⟩
  case round =>
    obtain ⟨k, t, hk, ht, rfl, rfl, hj⟩ := hrel
    have HJ := Lib.hid hj
    clear hj
    by_cases hlt : k < n
    · obtain ⟨s, hs⟩ : ∃ s, xs[k]? = some s := ⟨_, List.getElem?_eq_getElem (by rw [HN.out]; exact hlt)⟩
      have hc := H.out k s hs
      have hl := HS.out s (List.mem_of_getElem? hs)
      have HX := Lib.hid hs
      clear hs
      by_cases g1 : 1048576 < s.size
      · go_wp2
        go_ret
        exact ZzEnd.no _ _
      by_cases g2 : 1048576 < t + s.size
      · have g1 : s.size ≤ 1048576 := by omega
        go_wp2
        go_ret
        exact ZzEnd.no _ _
      have g1 : s.size ≤ 1048576 := by omega
      have g2 : t + s.size ≤ 1048576 := by omega
      go_wp2
      go_round
      case rel => exact ⟨k + 1, t + s.size, by omega, by omega, by go_num, by go_num, short_step HJ.out HX.out g1⟩
      case measure => simp [intOf]; omega
    · go_wp2
      go_ret
      exact ZzEnd.yes (by rw [HN.out]; exact h2) (short_all HJ.out (by rw [HN.out]; omega))

set_option maxHeartbeats 1600000 in
theorem zz6_none (b : Option Addr) (d : Nat) (w : World) :
    Calls Try.prog 6 #[.slice b 0 d] w fun e w' => ZzEnd [] w e w' := by
  go_enter Try.func6, Try.ntmps6
  go_wp2
  go_loop [3, 4] (fun s i => i = .int .i64 0) (fun _ i => 0)
  case atStart => rfl
  case round =>
    subst hrel
    go_wp2
    go_ret
    exact ZzEnd.yes (by simp) (fun s hs => by simp at hs)

theorem zz6 (a : Option Addr) (d : Nat) (xs : List ByteArray) (n : Nat) (hn : xs.length = n) (w : World) (hm : n ≤ maxLen) (h : Names w a xs) (hS : ∀ s ∈ xs, s.size ≤ maxLen) :
    Calls Try.prog 6 #[.slice a n d] w fun e w' => ZzEnd xs w e w' := by
  by_cases h0 : n = 0
  · subst h0
    have e := List.eq_nil_of_length_eq_zero hn
    subst e
    exact zz6_none a d w
  · obtain ⟨bb, o, rfl, _, hc⟩ := h.at_ (by omega)
    exact zz6_some bb o d xs n hn w hm hc hS

set_option maxHeartbeats 1600000 in
theorem zz12_some (b o d : Nat) (xs : List ByteArray) (n : Nat) (hn : xs.length = n) (w : World) (hm : n ≤ maxLen)
    (h : ∀ j s, xs[j]? = some s → w.cell? ⟨b, o + j, none⟩ = some (.string s)) (hS : ∀ s ∈ xs, s.size ≤ maxLen) :
    Calls Try.prog 12 #[.slice (some ⟨b, o, none⟩) n d] w fun e w' => ZzEnd xs w e w' := by
  unfold maxLen at hm hS
  have H := Lib.hid h
  have HS := Lib.hid hS
  have HN := Lib.hid hn
  clear h hS hn
  by_cases h2 : 1048576 < n
  · go_enter Try.func12, Try.ntmps12
    go_wp2
    go_ret
    exact ZzEnd.no _ _
  have h2 : n ≤ 1048576 := by omega
  go_enter Try.func12, Try.ntmps12
  go_wp2
  go_loop [3, 4] (fun s i => ∃ k t : Nat, k ≤ n ∧ t ≤ 1048576 ∧ i = .int .i64 k ∧ s = .int .i64 t ∧ Short (xs.take k)) (fun _ i => n - (intOf i).toNat)
  case atStart => exact ⟨0, n, by omega, by omega, rfl, by go_num, fun s hs => by simp at hs⟩
  case round =>
    obtain ⟨k, t, hk, ht, rfl, rfl, hj⟩ := hrel
    have HJ := Lib.hid hj
    clear hj
    by_cases hlt : k < n
    · obtain ⟨s, hs⟩ : ∃ s, xs[k]? = some s := ⟨_, List.getElem?_eq_getElem (by rw [HN.out]; exact hlt)⟩
      have hc := H.out k s hs
      have hl := HS.out s (List.mem_of_getElem? hs)
      have HX := Lib.hid hs
      clear hs
      by_cases g1 : 1048576 < s.size
      · go_wp2
        go_ret
        exact ZzEnd.no _ _
      by_cases g2 : 1048576 < t + s.size
      · have g1 : s.size ≤ 1048576 := by omega
        go_wp2
        go_ret
        exact ZzEnd.no _ _
      have g1 : s.size ≤ 1048576 := by omega
      have g2 : t + s.size ≤ 1048576 := by omega
      go_wp2
      go_round
      case rel => exact ⟨k + 1, t + s.size, by omega, by omega, by go_num, by go_num, short_step HJ.out HX.out g1⟩
      case measure => simp [intOf]; omega
    · go_wp2
      go_ret
      exact ZzEnd.yes (by rw [HN.out]; exact h2) (short_all HJ.out (by rw [HN.out]; omega))

set_option maxHeartbeats 1600000 in
theorem zz12_none (b : Option Addr) (d : Nat) (w : World) :
    Calls Try.prog 12 #[.slice b 0 d] w fun e w' => ZzEnd [] w e w' := by
  go_enter Try.func12, Try.ntmps12
  go_wp2
  go_loop [3, 4] (fun s i => i = .int .i64 0) (fun _ i => 0)
  case atStart => rfl
  case round =>
    subst hrel
    go_wp2
    go_ret
    exact ZzEnd.yes (by simp) (fun s hs => by simp at hs)

theorem zz12 (a : Option Addr) (d : Nat) (xs : List ByteArray) (n : Nat) (hn : xs.length = n) (w : World) (hm : n ≤ maxLen) (h : Names w a xs) (hS : ∀ s ∈ xs, s.size ≤ maxLen) :
    Calls Try.prog 12 #[.slice a n d] w fun e w' => ZzEnd xs w e w' := by
  by_cases h0 : n = 0
  · subst h0
    have e := List.eq_nil_of_length_eq_zero hn
    subst e
    exact zz12_none a d w
  · obtain ⟨bb, o, rfl, _, hc⟩ := h.at_ (by omega)
    exact zz12_some bb o d xs n hn w hm hc hS
end Go.Proofs.Qxb6003568a
