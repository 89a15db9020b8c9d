import Derived.Test.Qxb6603778aHeap
namespace Go.Proofs.Qxb6603778a
open Go.RowKit

/-- a list of nodes that came in: n pointers, each to a tree of depth at most f -/
def NList (w : World) (B L f : Nat) (la : Option Addr) (n : Nat) (P : Nat → Option Addr) : Prop := NKids w B la n P ∧ ∀ i, i < n → NodeAt w B L f (P i)

theorem NList.agree {B s L f : Nat} {w w' : World} {la : Option Addr} {n : Nat} {P : Nat → Option Addr} (h : NList w B L f la n P) (hA : Agree B s w w') : NList w' B L f la n P :=
  ⟨h.1.agree hA, fun i hi => (h.2 i hi).agree hA⟩

/-- how fits ends -/
def FitsEnd (w : World) (B : Nat) (t : Option Addr) (na nc : Nat) (A C : Nat → Option Addr) (e : Ending) (w' : World) : Prop :=
  ∃ r : Bool, e = .returned (.bool r) ∧ (r = true → na ≤ 131072 ∧ nc ≤ 131072 ∧ NodeAt w B 1048576 1048576 t ∧ (∀ i, i < na → NodeAt w B 1048576 1048576 (A i)) ∧ ∀ i, i < nc → NodeAt w B 1048576 1048576 (C i)) ∧ w' = w
theorem FitsEnd.no (w : World) (B : Nat) (t : Option Addr) (na nc : Nat) (A C : Nat → Option Addr) : FitsEnd w B t na nc A C (.returned (.bool false)) w := ⟨false, rfl, (fun h => by cases h), rfl⟩

/-- what has been seen to fit while the budget is not spent -/
def Seen (w : World) (B : Nat) (t : Option Addr) (A C : Nat → Option Addr) (z : Int) (k l : Nat) : Prop :=
  0 ≤ z → NodeAt w B 1048576 1048576 t ∧ (∀ i, i < k → NodeAt w B 1048576 1048576 (A i)) ∧ ∀ i, i < l → NodeAt w B 1048576 1048576 (C i)

theorem meas_node {w : World} {B : Nat} {p : Option Addr} {z r : Int} (h : 0 ≤ r → r < z ∧ NodeAt w B 1048576 z.toNat p) (hz : z ≤ 1048576) (hr : 0 ≤ r) : NodeAt w B 1048576 1048576 p := (h hr).2.mono (by omega)

set_option maxHeartbeats 3200000 in
theorem fits_any (f B : Nat) (t : Option Addr) (la lc : Option Addr) (na ca nc cc : Nat) (A C : Nat → Option Addr) (w : World) (ht : NodeAt w B maxLen f t) (hA : NList w B maxLen f la na A) (hC : NList w B maxLen f lc nc C) (hna : na ≤ maxLen) (hnc : nc ≤ maxLen) :
    Calls Try.prog 5 #[.pointer t, .slice la na ca, .slice lc nc cc, .int .i64 1048576] w fun e w' => FitsEnd w B t na nc A C e w' := by
  unfold maxLen at hna hnc
  have HT := Lib.hid ht
  have HA := Lib.hid hA
  have HC := Lib.hid hC
  clear ht hA hC
  by_cases g1 : 131072 < na
  · go_enter Try.func5, Try.ntmps5
    go_wp2_with fail
    go_ret
    exact FitsEnd.no _ _ _ _ _ _ _
  have g1 : na ≤ 131072 := by omega
  by_cases g2 : (1048576 - 8 * (na : Int)) / 8 < nc
  · go_enter Try.func5, Try.ntmps5
    go_wp2_with fail
    go_ret
    exact FitsEnd.no _ _ _ _ _ _ _
  have g2 : (nc : Int) ≤ (1048576 - 8 * (na : Int)) / 8 := by omega
  have g3 : nc ≤ 131072 := by omega
  go_enter Try.func5, Try.ntmps5
  go_wp2_with (go_at_call 17; refine (measure_any f B t _ w HT.out (by omega) (by omega)).mono ?_; rintro e w1 ⟨r, rfl, hr1, hr2, rfl⟩; refine Hid.out ?_)
  refine Lib.hid ?_
  have hrub : r ≤ 1048576 := by
    by_cases e : 0 ≤ r
    · have := (hr2 e).1; omega
    · omega
  have S0 : Hid (Seen w1 B t A C r 0 0) := fun h => ⟨meas_node hr2 (by omega) h, fun i hi => absurd hi (Nat.not_lt_zero _), fun i hi => absurd hi (Nat.not_lt_zero _)⟩
  clear hr2
  go_wp2_with fail
  go_loop [9, 10] (fun rr i => ∃ (k : Nat) (z : Int), k ≤ na ∧ -1 ≤ z ∧ z ≤ 1048576 ∧ i = .int .i64 k ∧ rr = .int .i64 z ∧ Seen w1 B t A C z k 0) (fun _ i => na - (intOf i).toNat)
  case atStart => exact ⟨0, r, Nat.zero_le _, hr1, hrub, rfl, rfl, S0.out⟩
  case round =>
    obtain ⟨k, z, hk, hz1, hz2, rfl, rfl, hS⟩ := hrel
    have S1 := Lib.hid hS
    clear hS S0
    by_cases hgo : k < na ∧ 0 ≤ z
    · obtain ⟨hlt, hz0⟩ := hgo
      obtain ⟨kb, ko, rfl, hkB, hkc⟩ := HA.out.1.at_ (by omega)
      have hck := hkc k hlt
      clear hkc
      go_wp2_with (go_at_call 17; refine (measure_any f B (A k) z w1 (HA.out.2 k hlt) (by omega) (by omega)).mono ?_; rintro e w2 ⟨r2, rfl, hr3, hr4, rfl⟩; refine Hid.out ?_)
      refine Lib.hid ?_
      have hrub2 : r2 ≤ 1048576 := by
        by_cases e : 0 ≤ r2
        · have := (hr4 e).1; omega
        · omega
      have S2 : Hid (Seen w2 B t A C r2 (k + 1) 0) := fun h => by
        obtain ⟨s1, s2, s3⟩ := S1.out hz0
        refine ⟨s1, fun i hi => ?_, s3⟩
        by_cases e : i = k
        · rw [e]; exact meas_node hr4 hz2 h
        · exact s2 i (by omega)
      clear hr4 S1
      go_wp2_with fail
      go_round
      case rel => exact ⟨k + 1, r2, by omega, hr3, hrub2, by go_num, rfl, S2.out⟩
      case measure => simp [intOf]; omega
    · have S3 : Hid (Seen w1 B t A C z na 0) := fun h => by
        obtain ⟨s1, s2, s3⟩ := S1.out h
        exact ⟨s1, fun i hi => s2 i (by omega), s3⟩
      have hex : Hid (¬ (k < na ∧ 0 ≤ z)) := hgo
      clear hgo S1
      by_cases hlt : k < na
      all_goals
        have hzz : k < na → z < 0 := fun h => by have := hex.out; omega
        have HZZ := Lib.hid hzz
        clear hzz
        first
          | (have hz0 := HZZ.out hlt
             have hd : decide ((0 : Int) ≤ z) = false := decide_eq_false (by omega))
          | skip
        go_wp2_with fail
        go_loop [9, 11] (fun rr i => ∃ (l : Nat) (y : Int), l ≤ nc ∧ -1 ≤ y ∧ y ≤ 1048576 ∧ i = .int .i64 l ∧ rr = .int .i64 y ∧ Seen w1 B t A C y na l) (fun _ i => nc - (intOf i).toNat)
        case atStart => exact ⟨0, z, Nat.zero_le _, hz1, hz2, rfl, rfl, S3.out⟩
        case round =>
          obtain ⟨l, y, hl, hy1, hy2, rfl, rfl, hS⟩ := hrel
          have S4 := Lib.hid hS
          clear hS S3
          by_cases hgo : l < nc ∧ 0 ≤ y
          · obtain ⟨hlt2, hy0⟩ := hgo
            obtain ⟨kb, ko, rfl, hkB, hkc⟩ := HC.out.1.at_ (by omega)
            have hck := hkc l hlt2
            clear hkc
            go_wp2_with (go_at_call 17; refine (measure_any f B (C l) y w1 (HC.out.2 l hlt2) (by omega) (by omega)).mono ?_; rintro e w2 ⟨r2, rfl, hr3, hr4, rfl⟩; refine Hid.out ?_)
            refine Lib.hid ?_
            have hrub2 : r2 ≤ 1048576 := by
              by_cases e : 0 ≤ r2
              · have := (hr4 e).1; omega
              · omega
            have S5 : Hid (Seen w2 B t A C r2 na (l + 1)) := fun h => by
              obtain ⟨s1, s2, s3⟩ := S4.out hy0
              refine ⟨s1, s2, fun i hi => ?_⟩
              by_cases e : i = l
              · rw [e]; exact meas_node hr4 hy2 h
              · exact s3 i (by omega)
            clear hr4 S4
            go_wp2_with fail
            go_round
            case rel => exact ⟨l + 1, r2, by omega, hr3, hrub2, by go_num, rfl, S5.out⟩
            case measure => simp [intOf]; omega
          · by_cases hy0 : 0 ≤ y
            · have hle : ¬ l < nc := fun h => hgo ⟨h, hy0⟩
              obtain ⟨s1, s2, s3⟩ := S4.out hy0
              have FE : Hid (FitsEnd w1 B t na nc A C (.returned (.bool true)) w1) := ⟨true, rfl, fun _ => ⟨g1, g3, s1, s2, fun i hi => s3 i (by omega)⟩, rfl⟩
              clear s1 s2 s3 hgo
              go_wp2_with fail
              go_ret
              exact FE.out
            · have hyn : y < 0 := by omega
              have hd2 : decide ((0 : Int) ≤ y) = false := decide_eq_false (by omega)
              clear hgo
              by_cases hlt2 : l < nc
              all_goals
                go_wp2_with fail
                go_ret
                exact FitsEnd.no _ _ _ _ _ _ _
end Go.Proofs.Qxb6603778a
