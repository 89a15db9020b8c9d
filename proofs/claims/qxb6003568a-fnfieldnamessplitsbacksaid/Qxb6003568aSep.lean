import Derived.Test.Qxb6003568aL4
import Derived.Test.Qxb6003568aPlain
namespace Go.Proofs.Qxb6003568a
open Go.RowKit

/-- how hasSep ends -/
def HsEnd (s : ByteArray) (w : World) (e : Ending) (w' : World) : Prop := ∃ r : Bool, e = .returned (.bool r) ∧ (r = false → NoSep s.data.toList) ∧ w' = w
theorem HsEnd.yes (s : ByteArray) (w : World) : HsEnd s w (.returned (.bool true)) w := ⟨true, rfl, (fun h => by cases h), rfl⟩
theorem HsEnd.no {s : ByteArray} {w : World} (h : NoSep s.data.toList) : HsEnd s w (.returned (.bool false)) w := ⟨false, rfl, fun _ => h, rfl⟩

/-- no comma and blank at a place below k -/
def NoSepTo (l : List UInt8) (k : Nat) : Prop := ∀ i : Nat, i < k → ¬ (l[i]? = some (44 : UInt8) ∧ l[i + 1]? = some (32 : UInt8))

theorem byte_at (s : ByteArray) (k : Nat) (h : k < s.size) : s.data.toList[k]? = some s[k] := by
  rw [List.getElem?_eq_getElem (by simpa using h)]
  rfl
theorem byte_eq {s : ByteArray} {k : Nat} (h : k < s.size) (c : UInt8) (hc : s.data.toList[k]? = some c) : s[k].toNat = c.toNat := by
  rw [byte_at s k h] at hc
  rw [Option.some.inj hc]
theorem eq_byte {s : ByteArray} {k : Nat} (h : k < s.size) (c : UInt8) (hc : s[k].toNat = c.toNat) : s.data.toList[k]? = some c := by
  rw [byte_at s k h, UInt8.toNat_inj.1 hc]

theorem noSepTo_step {s : ByteArray} {k : Nat} (h : NoSepTo s.data.toList k) (hk : k + 1 < s.size) (hb : ¬ (s[k].toNat = 44 ∧ s[k + 1].toNat = 32)) : NoSepTo s.data.toList (k + 1) := by
  intro i hi ⟨h1, h2⟩
  by_cases e : i = k
  · subst e
    exact hb ⟨byte_eq (by omega) 44 h1, byte_eq hk 32 h2⟩
  · exact h i (by omega) ⟨h1, h2⟩

theorem noSep_of {s : ByteArray} {k : Nat} (h : NoSepTo s.data.toList k) (hk : s.size ≤ k + 1) : NoSep s.data.toList := by
  intro i ⟨h1, h2⟩
  by_cases e : i < k
  · exact h i e ⟨h1, h2⟩
  · have : i + 1 < s.data.toList.length := by
      obtain ⟨hh, _⟩ := List.getElem?_eq_some_iff.1 h2
      exact hh
    have e2 : s.data.toList.length = s.size := by rw [Array.length_toList]; rfl
    omega

set_option maxHeartbeats 1600000 in
theorem hasSep (s : ByteArray) (w : World) (hs : s.size ≤ 1048576) : Calls Try.prog 8 #[.string s] w fun e w' => HsEnd s w e w' := by
  go_enter Try.func8, Try.ntmps8
  go_wp2
  go_loop [3] (fun i => ∃ k : Nat, k ≤ s.size ∧ i = .int .i64 k ∧ NoSepTo s.data.toList k) (fun i => s.size - (intOf i).toNat)
  case atStart => exact ⟨0, Nat.zero_le _, rfl, fun i hi => absurd hi (Nat.not_lt_zero _)⟩
  case round =>
    obtain ⟨k, hk, rfl, hN⟩ := hrel
    have HN := Lib.hid hN
    clear hN
    by_cases hlt : k + 1 < s.size
    · have hlt0 : k < s.size := by omega
      by_cases c1 : s[k].toNat = 44
      · by_cases c2 : s[k + 1].toNat = 32
        · go_wp2
          go_ret
          exact HsEnd.yes _ _
        · have HN2 := Lib.hid (noSepTo_step HN.out hlt (fun h => c2 h.2))
          have f2 : (((s[k + 1].toNat : Nat) : Int) == 32) = false := beq_eq_false_iff_ne.2 (by omega)
          go_wp2
          go_round
          case rel => exact ⟨k + 1, by omega, by go_num, HN2.out⟩
          case measure => simp [intOf]; omega
      · have HN2 := Lib.hid (noSepTo_step HN.out hlt (fun h => c1 h.1))
        have f1 : (((s[k].toNat : Nat) : Int) == 44) = false := beq_eq_false_iff_ne.2 (by omega)
        go_wp2
        go_round
        case rel => exact ⟨k + 1, by omega, by go_num, HN2.out⟩
        case measure => simp [intOf]; omega
    · go_wp2
      go_ret
      exact HsEnd.no (noSep_of HN.out (by omega))
end Go.Proofs.Qxb6003568a
