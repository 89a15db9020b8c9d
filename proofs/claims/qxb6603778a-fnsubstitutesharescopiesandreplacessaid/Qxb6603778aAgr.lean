import Derived.Test.Qxb6603778aRaw
import Derived.LaidEqlPtr
namespace Go.Proofs.Qxb6603778a
open Go.RowKit

theorem Try.size53 : (Try.prog.info? 53).map (fun i => i.size) = some 8 := by kernel_rfl
theorem Try.size27 : (Try.prog.info? 27).map (fun i => i.size) = some 1 := by kernel_rfl

theorem eq_same (p : Option Addr) (w : World) : (binOp .eql 27 (.pointer p) (.pointer p)).run Try.prog w = .ok (.bool true) w := by
  obtain ⟨j, hj, -⟩ := Option.map_eq_some_iff.1 Try.size53
  cases p with
  | none =>
    rw [run_eql_pointer_nil]
    · rfl
    · kernel_rfl
  | some a => exact run_eql_ptr_same w a Try.underlying27 hj
theorem eq_other {a b : Nat} {ca cb : Array Value} {ta tb : TypeId} (w : World) (hne : a ≠ b) (ha : w.heap[a]? = some (.cells ca ta (0, 0))) (hb : w.heap[b]? = some (.cells cb tb (0, 0))) :
    (binOp .eql 27 (.pointer (some ⟨a, 0, none⟩)) (.pointer (some ⟨b, 0, none⟩))).run Try.prog w = .ok (.bool false) w := by
  obtain ⟨j, hj, hs⟩ := Option.map_eq_some_iff.1 Try.size53
  exact run_eql_ptr_other w Try.underlying27 hj (by rw [hs]; decide) (fun h => hne (congrArg Addr.block h)) ha hb
theorem eq_other' {a b : Nat} {ca cb : Array Value} {ta tb : TypeId} (w : World) (hne : a ≠ b) (ha : w.heap[a]? = some (.cells ca ta (0, 0))) (hb : w.heap[b]? = some (.cells cb tb (0, 0))) :
    (binOp .eql 48 (.pointer (some ⟨a, 0, none⟩)) (.pointer (some ⟨b, 0, none⟩))).run Try.prog w = .ok (.bool false) w := by
  obtain ⟨j, hj, hs⟩ := Option.map_eq_some_iff.1 Try.size27
  exact run_eql_ptr_other w Try.underlying48 hj (by rw [hs]; decide) (fun h => hne (congrArg Addr.block h)) ha hb

/-- a list that is not empty: its block -/
theorem TKids.block {w : World} {ok : Nat → Prop} {la : Option Addr} {n : Nat} {Q : Nat → Option Addr} (h : TKids w ok la n Q) (hn : 0 < n) : ∃ kb cur, la = some ⟨kb, 0, none⟩ ∧ ok kb ∧ w.heap[kb]? = some (.cells cur 27 (0, 0)) ∧ ∀ i, i < n → w.cell? ⟨kb, i, none⟩ = some (.pointer (Q i)) := by
  rcases h with ⟨_, h⟩ | ⟨kb, cur, h1, h2, h3, h4, h5⟩
  · omega
  · exact ⟨kb, cur, h1, h2, h3, fun i hi => by rw [Lib.cell_of_heap h3]; exact h5 i hi⟩

set_option maxHeartbeats 1600000 in
theorem sameFields_any (a b : Nat) (F : Flds) (la lb : Option Addr) (n c m d : Nat) (w : World) (ha : TermCells w a F la n c) (hb : TermCells w b F lb m d) :
    Calls Try.prog 27 #[.pointer (some ⟨a, 0, none⟩), .pointer (some ⟨b, 0, none⟩)] w fun e w' => e = .returned (.bool true) ∧ w' = w := by
  obtain ⟨a0, a1, a2, a3, a4, a5, a6, a7⟩ := ha.cells
  obtain ⟨b0, b1, b2, b3, b4, b5, b6, b7⟩ := hb.cells
  clear ha hb a7 b7
  go_enter Try.func27, Try.ntmps27
  go_wp2
  go_ret
  exact ⟨rfl, rfl⟩

theorem first_yes (la : Option Addr) (m c : Nat) (N : Nat → ByteArray) (nm : ByteArray) (i : Nat) (w : World) (hP : Pars w la m N) (hm : m ≤ 131072) (hi : i < m) (he : N i = nm) (hf : ∀ j, j < i → N j ≠ nm) :
    Calls Try.prog 26 #[.slice la m c, .string nm] w fun e w' => e = .returned (.int .i64 i) ∧ w' = w := by
  have HP := Lib.hid hP
  have HE := Lib.hid he
  have HF := Lib.hid hf
  clear hP he hf
  go_enter Try.func26, Try.ntmps26
  go_wp2_with fail
  go_loop [5] (fun k => ∃ j : Nat, j ≤ i ∧ k = .int .i64 j) (fun k => m - (intOf k).toNat)
  case atStart => exact ⟨0, Nat.zero_le _, rfl⟩
  case round =>
    obtain ⟨j, hj, rfl⟩ := hrel
    have hjm : j < m := by omega
    obtain ⟨R, hR1, hR2⟩ := HP.out
    obtain ⟨kb, rfl, -, hkc⟩ := hR1.at_ (by omega)
    have hck := hkc j hjm
    obtain ⟨pb, G, pt, pn, pd, e1, e2, e3⟩ := hR2 j hjm
    rw [e1] at hck
    have hpn := e2.cells.2.2.2.2.1
    rw [e3] at hpn
    clear hkc hR1 hR2 e1 e2 e3
    by_cases hji : j = i
    · subst hji
      have hs := str_eq _ _ HE.out
      go_wp2_with (go_at_call 24; refine (zzname _ _ _ hpn).mono ?_; rintro e w1 ⟨rfl, rfl⟩)
      go_ret
      exact ⟨rfl, rfl⟩
    · have hs := str_ne _ _ (HF.out j (by omega))
      go_wp2_with (go_at_call 24; refine (zzname _ _ _ hpn).mono ?_; rintro e w1 ⟨rfl, rfl⟩)
      go_round
      case rel => exact ⟨j + 1, by omega, by go_num⟩
      case measure => simp [intOf]; omega

theorem first_no (la : Option Addr) (m c : Nat) (N : Nat → ByteArray) (nm : ByteArray) (w : World) (hP : Pars w la m N) (hm : m ≤ 131072) (hf : ∀ j, j < m → N j ≠ nm) :
    Calls Try.prog 26 #[.slice la m c, .string nm] w fun e w' => e = .returned (.int .i64 (-1)) ∧ w' = w := by
  have HP := Lib.hid hP
  have HF := Lib.hid hf
  clear hP hf
  go_enter Try.func26, Try.ntmps26
  go_wp2_with fail
  go_loop [5] (fun k => ∃ j : Nat, j ≤ m ∧ k = .int .i64 j) (fun k => m - (intOf k).toNat)
  case atStart => exact ⟨0, Nat.zero_le _, rfl⟩
  case round =>
    obtain ⟨j, hj, rfl⟩ := hrel
    by_cases hjm : j < m
    · obtain ⟨R, hR1, hR2⟩ := HP.out
      obtain ⟨kb, rfl, -, hkc⟩ := hR1.at_ (by omega)
      have hck := hkc j hjm
      obtain ⟨pb, G, pt, pn, pd, e1, e2, e3⟩ := hR2 j hjm
      rw [e1] at hck
      have hpn := e2.cells.2.2.2.2.1
      rw [e3] at hpn
      have hs := str_ne _ _ (HF.out j hjm)
      clear hkc hR1 hR2 e1 e2 e3
      go_wp2_with (go_at_call 24; refine (zzname _ _ _ hpn).mono ?_; rintro e w1 ⟨rfl, rfl⟩)
      go_round
      case rel => exact ⟨j + 1, by omega, by go_num⟩
      case measure => simp [intOf]; omega
    · go_wp2_with fail
      go_ret
      exact ⟨rfl, rfl⟩

theorem Sub.drewN {B s m : Nat} {N : Nat → ByteArray} {A : Nat → Option Addr} {w : World} {f : Nat} {q r : Option Addr} (h : Sub w B s m N A f q r) (n : Nat) : Sub (w.drewN n) B s m N A f q r := Sub.agree (w := w) (w' := w.drewN n) (fun _ _ _ => rfl) h

set_option maxHeartbeats 3200000 in
theorem agree_any (f : Nat) : ∀ (B s : Nat) (la lb : Option Addr) (m c m' c' : Nat) (N : Nat → ByteArray) (A : Nat → Option Addr) (q r : Option Addr) (fuel : Int) (w : World),
    Sub w B s m N A f q r → B ≤ s → Pars w la m N → TKids w (fun _ => True) lb m' A → m ≤ m' → m' ≤ 131072 → (f : Int) + 1 ≤ fuel → fuel ≤ 1048578 →
    Calls Try.prog 14 #[.pointer q, .pointer r, .slice la m c, .slice lb m' c', .int .i64 fuel] w fun e w' => e = .returned (.bool true) ∧ ∃ x, w' = w.drewN x := by
  have nil : ∀ (la lb : Option Addr) (m c m' c' : Nat) (fuel : Int) (w : World), 0 < fuel → Calls Try.prog 14 #[.pointer none, .pointer none, .slice la m c, .slice lb m' c', .int .i64 fuel] w fun e w' => e = .returned (.bool true) ∧ ∃ x, w' = w.drewN x := by
    intro la lb m c m' c' fuel w hf
    go_enter Try.func14, Try.ntmps14
    go_wp2_with fail
    go_ret
    exact ⟨rfl, 0, rfl⟩
  induction f with
  | zero =>
    intro B s la lb m c m' c' N A q r fuel w h hBs hP hA hm hm' hf1 hf2
    obtain ⟨rfl, rfl⟩ := h
    exact nil _ _ _ _ _ _ _ _ (by omega)
  | succ f ih =>
    intro B s la lb m c m' c' N A q r fuel w h hBs hP hA hm hm' hf1 hf2
    rcases h with ⟨rfl, rfl⟩ | ⟨tb, F, ts, n, d, Q, rfl, hB, hC, hK, hn, hcase⟩
    · exact nil _ _ _ _ _ _ _ _ (by omega)
    have h0 : 0 < fuel := by omega
    obtain ⟨c0, c1, c2, c3, c4, c5, c6, c7⟩ := hC.cells
    clear nil
    rcases hcase with ⟨rfl, hk, i, hi, hNi, hfirst, rfl⟩ | ⟨rfl, hno, rfl⟩ | ⟨hpos, rb, rt, R, rfl, r1, r2, r3, r4⟩
    · -- a parameter
      obtain ⟨ab, rfl, -, hac⟩ := hA.at_ (by omega)
      have hak := hac i (by omega)
      have hk1 : (F.kind == 0) = true := beq_iff_eq.2 hk
      have HF := Lib.hid (first_yes la m c N F.name i w hP (by omega) hi hNi hfirst)
      have he := eq_same (A i)
      clear hac hK hC hP ih hfirst hNi hk hA
      go_enter Try.func14, Try.ntmps14
      go_wp2_with (first | (go_at_call 25; refine (zzargs _ _ _ _ _ c7).mono ?_; rintro e w1 ⟨rfl, rfl⟩) | (go_at_call 21; refine (zzkind _ _ _ c3).mono ?_; rintro e w1 ⟨rfl, rfl⟩) | (go_at_call 24; refine (zzname _ _ _ c4).mono ?_; rintro e w1 ⟨rfl, rfl⟩) | (go_at_call 26; refine HF.out.mono ?_; rintro e w1 ⟨rfl, rfl⟩))
      go_ret
      exact ⟨rfl, 0, rfl⟩
    · -- itself
      have he := eq_same (some ⟨tb, 0, none⟩)
      by_cases hk : F.kind = 0
      · have hk1 : (F.kind == 0) = true := beq_iff_eq.2 hk
        have HF := Lib.hid (first_no la m c N F.name w hP (by omega) (hno hk))
        clear hK hC hP ih hno hk hA
        go_enter Try.func14, Try.ntmps14
        go_wp2_with (first | (go_at_call 25; refine (zzargs _ _ _ _ _ c7).mono ?_; rintro e w1 ⟨rfl, rfl⟩) | (go_at_call 21; refine (zzkind _ _ _ c3).mono ?_; rintro e w1 ⟨rfl, rfl⟩) | (go_at_call 24; refine (zzname _ _ _ c4).mono ?_; rintro e w1 ⟨rfl, rfl⟩) | (go_at_call 26; refine HF.out.mono ?_; rintro e w1 ⟨rfl, rfl⟩))
        go_ret
        exact ⟨rfl, 0, rfl⟩
      · have hk1 : (F.kind == 0) = false := beq_eq_false_iff_ne.2 hk
        clear hK hC hP ih hno hk hA
        go_enter Try.func14, Try.ntmps14
        go_wp2_with (first | (go_at_call 25; refine (zzargs _ _ _ _ _ c7).mono ?_; rintro e w1 ⟨rfl, rfl⟩) | (go_at_call 21; refine (zzkind _ _ _ c3).mono ?_; rintro e w1 ⟨rfl, rfl⟩))
        go_ret
        exact ⟨rfl, 0, rfl⟩
    · -- a copy
      have he := eq_other w (show rb ≠ tb by omega) r2 hC
      obtain ⟨kb, kc, rfl, hkb, hkh, hkc⟩ := hK.block hpos
      obtain ⟨ub, uc, rfl, hub, huh, huc⟩ := r3.block hpos
      have he' : ∀ x, (binOp .eql 48 (.pointer (some ⟨ub, 0, none⟩)) (.pointer (some ⟨kb, 0, none⟩))).run Try.prog (w.drewN x) = .ok (.bool false) (w.drewN x) := fun x => eq_other' (w.drewN x) (by omega) huh hkh
      have HSF := Lib.hid (sameFields_any tb rb F _ _ _ _ _ _ w hC r2)
      obtain ⟨-, -, -, -, -, -, -, u7⟩ := r2.cells
      have HP := Lib.hid hP
      have HA := Lib.hid hA
      have HR := Lib.hid r4
      have IH := Lib.hid ih
      have HKC := Lib.hid hkc
      have HUC := Lib.hid huc
      have hn0 : ((n : Int) == 0) = false := beq_eq_false_iff_ne.2 (by omega)
      have hnn : ((n : Int) != (n : Int)) = false := by simp
      clear hP hA r4 ih hkc huc hK r3 hC r2 huh hkh
      go_enter Try.func14, Try.ntmps14
      go_wp2_with (first | (go_at_call 25; refine (zzargs _ _ _ _ _ (by first | exact c7 | exact u7)).mono ?_; rintro e w1 ⟨rfl, rfl⟩) | (go_at_call 27; refine HSF.out.mono ?_; rintro e w1 ⟨rfl, rfl⟩))
      go_quiet (fail)
      go_wp2_with fail
      go_loopw [14] (fun i wr => ∃ k x : Nat, k ≤ n ∧ i = .int .i64 k ∧ wr = w1.drewN x) (fun i _ => n - (intOf i).toNat)
      case atStart => exact ⟨0, _, Nat.zero_le _, rfl, rfl⟩
      case round =>
        obtain ⟨k, x, hk, rfl, rfl⟩ := hrel
        by_cases hlt : k < n
        · have hck := HKC.out k hlt
          have huk := HUC.out k hlt
          have hw1 : IntKind.i64.wrap (fuel - 1) = fuel - 1 := IntWalk.i64_in _ (by omega)
          go_wp2_with fail
          go_quiet ((go_at_call 14; exact quiet_add (IH.out _ _ _ _ _ _ _ _ _ _ _ _ _ _ ((HR.out k hlt).drewN _) hBs (HP.out.below (drewN_below _ _ _)) (HA.out.below (drewN_below _ _ _)) hm hm' (by omega) (by omega))))
          go_wp2_with fail
          go_roundw
          case rel => exact ⟨k + 1, _, by omega, by go_num, rfl⟩
          case measure => simp [intOf]; omega
        · go_wp2_with fail
          go_ret
          exact ⟨rfl, x, rfl⟩
end Go.Proofs.Qxb6603778a
