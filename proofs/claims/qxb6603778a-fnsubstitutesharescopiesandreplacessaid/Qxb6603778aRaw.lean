import Derived.Test.Qxb6603778aSame
namespace Go.Proofs.Qxb6603778a
open Go.RowKit

theorem zzfile (b : Nat) (x : ByteArray) (w : World) (h : w.cell? ⟨b, 0, none⟩ = some (.string x)) : Calls Try.prog 28 #[.pointer (some ⟨b, 0, none⟩)] w fun e w' => e = .returned (.string x) ∧ w' = w := by
  go_enter Try.func28, Try.ntmps28
  go_wp2_with fail
  go_ret
  exact ⟨rfl, rfl⟩
theorem zzline (b : Nat) (x : Int) (w : World) (h : w.cell? ⟨b, 1, none⟩ = some (.int .i64 x)) : Calls Try.prog 29 #[.pointer (some ⟨b, 0, none⟩)] w fun e w' => e = .returned (.int .i64 x) ∧ w' = w := by
  go_enter Try.func29, Try.ntmps29
  go_wp2_with fail
  go_ret
  exact ⟨rfl, rfl⟩
theorem zzcol (b : Nat) (x : Int) (w : World) (h : w.cell? ⟨b, 2, none⟩ = some (.int .i64 x)) : Calls Try.prog 30 #[.pointer (some ⟨b, 0, none⟩)] w fun e w' => e = .returned (.int .i64 x) ∧ w' = w := by
  go_enter Try.func30, Try.ntmps30
  go_wp2_with fail
  go_ret
  exact ⟨rfl, rfl⟩

theorem Built.drewN {B s : Nat} {w : World} {f : Nat} {p q : Option Addr} (h : Built w B s f p q) (n : Nat) : Built (w.drewN n) B s f p q := Built.agree (w := w) (w' := w.drewN n) (fun _ _ _ => rfl) h

set_option maxHeartbeats 3200000 in
theorem raw_any (f : Nat) : ∀ (B s : Nat) (p t : Option Addr) (fuel : Int) (w : World), Built w B s f p t → (f : Int) + 1 ≤ fuel → fuel ≤ 1048578 →
    Calls Try.prog 15 #[.pointer p, .pointer t, .int .i64 fuel] w fun e w' => e = .returned (.bool true) ∧ ∃ q, w' = w.drewN q := by
  have nil : ∀ (fuel : Int) (w : World), 0 < fuel → Calls Try.prog 15 #[.pointer none, .pointer none, .int .i64 fuel] w fun e w' => e = .returned (.bool true) ∧ ∃ q, w' = w.drewN q := by
    intro fuel w hf
    go_enter Try.func15, Try.ntmps15
    go_wp2_with fail
    go_ret
    exact ⟨rfl, 0, rfl⟩
  induction f with
  | zero =>
    intro B s p t fuel w h hf1 hf2
    obtain ⟨rfl, rfl⟩ := h
    exact nil _ _ (by omega)
  | succ f ih =>
    intro B s p t fuel w h hf1 hf2
    rcases h with ⟨rfl, rfl⟩ | ⟨b, o, F, la, n, c, P, tb, ts, d, Q, rfl, rfl, -, -, hC, hT, hK, hQ, hiff, hn, hR⟩
    · exact nil _ _ (by omega)
    have h0 : 0 < fuel := by omega
    obtain ⟨c0, c1, c2, c3, c4, c5, c6, c7⟩ := hC
    obtain ⟨t0, t1, t2, t3, t4, t5, t6, t7⟩ := hT.cells
    have HK := Lib.hid hK
    have HQ := Lib.hid hQ
    have HR := Lib.hid hR
    have IH := Lib.hid ih
    have n29 := fun (w : World) (a : Option Addr) (n c n' c' : Nat) => Lib.run_eql_slice_nil (P := Try.prog) w _ _ a n c n' c' Try.underlying29
    have n23 := fun (w : World) (a : Option Addr) (n c n' c' : Nat) => Lib.run_eql_slice_nil (P := Try.prog) w _ _ a n c n' c' Try.underlying23
    have hnil : ts.isNone = la.isNone := by
      cases la with
      | none => rw [hiff.1 rfl]
      | some x => cases ts with
        | none => have := hiff.2 rfl; simp at this
        | some y => rfl
    clear nil hT hK hQ hR ih hiff
    go_enter Try.func15, Try.ntmps15
    go_wp2_with fail
    go_quiet ((first | (go_at_call 21; exact Calls.quiet_of_same (zzkind _ _ _ t3)) | (go_at_call 24; exact Calls.quiet_of_same (zzname _ _ _ t4)) | (go_at_call 22; exact Calls.quiet_of_same (zznum _ _ _ t5)) | (go_at_call 23; exact Calls.quiet_of_same (zztext _ _ _ t6)) | (go_at_call 28; exact Calls.quiet_of_same (zzfile _ _ _ t0)) | (go_at_call 29; exact Calls.quiet_of_same (zzline _ _ _ t1)) | (go_at_call 30; exact Calls.quiet_of_same (zzcol _ _ _ t2))))
    go_wp2_with (go_at_call 25; refine (zzargs _ _ _ _ _ (by exact t7)).mono ?_; rintro e w1 ⟨rfl, rfl⟩)
    go_loopw [8] (fun i wr => ∃ k q : Nat, k ≤ n ∧ i = .int .i64 k ∧ wr = w.drewN q) (fun i _ => n - (intOf i).toNat)
    case atStart => exact ⟨0, _, Nat.zero_le _, rfl, rfl⟩
    case round =>
      obtain ⟨k, q, hk, rfl, rfl⟩ := hrel
      by_cases hlt : k < n
      · obtain ⟨kb, ko, rfl, -, hkc⟩ := HK.out.at_ (by omega)
        obtain ⟨qb, rfl, -, hqc⟩ := HQ.out.at_ (by omega)
        have hck := hkc k hlt
        have hqk := hqc k hlt
        have hw1 : IntKind.i64.wrap (fuel - 1) = fuel - 1 := IntWalk.i64_in _ (by omega)
        clear hkc hqc
        go_wp2_with fail
        go_quiet ((go_at_call 15; exact quiet_add (IH.out _ _ _ _ _ _ ((HR.out k hlt).drewN _) (by omega) (by omega))))
        go_wp2_with fail
        go_roundw
        case rel => exact ⟨k + 1, _, by omega, by go_num, rfl⟩
        case measure => simp [intOf]; omega
      · go_wp2_with fail
        go_ret
        exact ⟨rfl, q, rfl⟩

set_option maxHeartbeats 1600000 in
theorem rawList_any (f B s : Nat) (la lt : Option Addr) (n c d : Nat) (P Q : Nat → Option Addr) (w : World) (hK : NKids w B la n P) (hQ : TKids w (s ≤ ·) lt n Q) (hR : ∀ i, i < n → Built w B s f (P i) (Q i)) (hf : f ≤ 1048576) (hn : n ≤ 1048576) :
    Calls Try.prog 16 #[.slice la n c, .slice lt n d] w fun e w' => e = .returned (.bool true) ∧ ∃ q, w' = w.drewN q := by
  have HK := Lib.hid hK
  have HQ := Lib.hid hQ
  have HR := Lib.hid hR
  clear hK hQ hR
  go_enter Try.func16, Try.ntmps16
  go_wp2_with fail
  go_loopw [5] (fun i wr => ∃ k q : Nat, k ≤ n ∧ i = .int .i64 k ∧ wr = w.drewN q) (fun i _ => n - (intOf i).toNat)
  case atStart => exact ⟨0, 0, Nat.zero_le _, rfl, rfl⟩
  case round =>
    obtain ⟨k, q, hk, rfl, rfl⟩ := hrel
    by_cases hlt : k < n
    · obtain ⟨kb, ko, rfl, -, hkc⟩ := HK.out.at_ (by omega)
      obtain ⟨qb, rfl, -, hqc⟩ := HQ.out.at_ (by omega)
      have hck := hkc k hlt
      have hqk := hqc k hlt
      clear hkc hqc
      go_wp2_with fail
      go_quiet ((go_at_call 15; exact quiet_add (raw_any f _ _ _ _ _ _ ((HR.out k hlt).drewN _) (by omega) (by omega))))
      go_wp2_with fail
      go_roundw
      case rel => exact ⟨k + 1, _, by omega, by go_num, rfl⟩
      case measure => simp [intOf]; omega
    · go_wp2_with fail
      go_ret
      exact ⟨rfl, q, rfl⟩
end Go.Proofs.Qxb6603778a
