import Derived.Test.Qxb6603778aAgr
namespace Go.Proofs.Qxb6603778a
open Go.RowKit

def NnEnd (w : World) (n : Nat) (P : Nat → Option Addr) (e : Ending) (w' : World) : Prop := ∃ r : Bool, e = .returned (.bool r) ∧ (r = true → ∀ i, i < n → P i ≠ none) ∧ w' = w

set_option maxHeartbeats 1600000 in
theorem noNil_any (B : Nat) (la : Option Addr) (n c : Nat) (P : Nat → Option Addr) (w : World) (hn : n ≤ 131072) (h : NKids w B la n P) : Calls Try.prog 13 #[.slice la n c] w fun e w' => NnEnd w n P e w' := by
  have H := Lib.hid h
  clear h
  go_enter Try.func13, Try.ntmps13
  go_wp2_with fail
  go_loop [3] (fun i => ∃ k : Nat, k ≤ n ∧ i = .int .i64 k ∧ ∀ j, j < k → P j ≠ none) (fun i => n - (intOf i).toNat)
  case atStart => exact ⟨0, Nat.zero_le _, rfl, fun j hj => absurd hj (Nat.not_lt_zero _)⟩
  case round =>
    obtain ⟨k, hk, rfl, hj⟩ := hrel
    have HJ := Lib.hid hj
    clear hj
    by_cases hlt : k < n
    · obtain ⟨kb, ko, rfl, hkB, hkc⟩ := H.out.at_ (by omega)
      have hck := hkc k hlt
      clear hkc
      cases hpk : P k with
      | none =>
        rw [hpk] at hck
        go_wp2_with fail
        go_ret
        exact ⟨false, rfl, (fun h => by cases h), rfl⟩
      | some a =>
        rw [hpk] at hck
        have HJ2 : Hid (∀ j, j < k + 1 → P j ≠ none) := fun j hj => by
          by_cases e : j = k
          · rw [e, hpk]; simp
          · exact HJ.out j (by omega)
        clear HJ
        go_wp2_with fail
        go_round
        case rel => exact ⟨k + 1, by omega, by go_num, HJ2.out⟩
        case measure => simp [intOf]; omega
    · go_wp2_with fail
      go_ret
      exact ⟨true, rfl, fun _ i hi => HJ.out i (by omega), rfl⟩

/-- what build makes of a node that is not nil has a name -/
theorem Built.named {w : World} {B s f : Nat} {p q : Option Addr} (h : Built w B s f p q) (hp : p ≠ none) : ∃ nm, ∃ (tb : Nat) (F : Flds) (ts : Option Addr) (n d : Nat), q = some ⟨tb, 0, none⟩ ∧ TermCells w tb F ts n d ∧ F.name = nm := by
  cases f with
  | zero => exact absurd h.1 hp
  | succ f =>
    rcases h with ⟨h, _⟩ | ⟨b, o, F, la, n, c, P, tb, ts, d, Q, h1, h2, h3, h4, h5, h6, h7⟩
    · exact absurd h hp
    · exact ⟨F.name, tb, F, ts, n, d, h2, h6, rfl⟩

set_option maxHeartbeats 3200000 in
theorem law4 (f B : Nat) (t lp lf : Option Addr) (np cp nf cf : Nat) (Pp Pf : Nat → Option Addr) (w : World) (hB : B ≤ w.heap.size) (ht : NodeAt w B maxLen f t) (hP : NList w B maxLen f lp np Pp) (hF : NList w B maxLen f lf nf Pf)
    (hnp : np ≤ maxLen) (hnf : nf ≤ maxLen) (hzp : lp = none → np = 0 ∧ cp = 0) (hzf : lf = none → nf = 0 ∧ cf = 0) :
    Calls Try.prog 4 #[.pointer t, .slice lp np cp, .slice lf nf cf] w fun e w' => e = .returned (.bool true) ∧ Below w.heap.size w w' := by
  have HF0 := Lib.hid (fits_any f B t lp lf np cp nf cf Pp Pf w ht hP hF hnp hnf)
  have HKp := Lib.hid hP.1
  have HKf := Lib.hid hF.1
  have HZp := Lib.hid hzp
  have HZf := Lib.hid hzf
  clear ht hP hF hnp hnf hzp hzf
  go_enter Try.func4, Try.ntmps4
  go_wp2_with (go_at_call 5; refine HF0.out.mono ?_; rintro e w1 ⟨r, rfl, hr, rfl⟩; refine Hid.out ?_)
  refine Lib.hid ?_
  cases r with
  | false =>
    clear hr HF0
    go_wp2_with fail
    go_ret
    exact ⟨rfl, Below.refl _ _⟩
  | true =>
    obtain ⟨h1, h2, ht, hp, hf⟩ := hr rfl
    have HT := Lib.hid ht
    have HP : Hid (NList w1 B 1048576 1048576 lp np Pp) := ⟨HKp.out, hp⟩
    have HF : Hid (NList w1 B 1048576 1048576 lf nf Pf) := ⟨HKf.out, hf⟩
    clear hr HF0 ht hp hf HKp HKf
    by_cases hne : nf < np
    · have e0 : decide ((nf : Int) < (np : Int)) = true := decide_eq_true (by omega)
      go_wp2_with fail
      go_ret
      exact ⟨rfl, Below.refl _ _⟩
    · have e0 : decide ((nf : Int) < (np : Int)) = false := decide_eq_false (by omega)
      have hle : np ≤ nf := by omega
      go_wp2_with (go_at_call 13; refine (noNil_any B _ _ _ _ _ h1 HP.out.1).mono ?_; rintro e w2 ⟨r1, rfl, hr1, rfl⟩; refine Hid.out ?_)
      refine Lib.hid ?_
      cases r1 with
      | false =>
        clear hr1
        go_wp2_with fail
        go_ret
        exact ⟨rfl, Below.refl _ _⟩
      | true =>
        have HNN := Lib.hid (hr1 rfl)
        clear hr1
        go_wp2_with (go_at_call 9; refine (build_any 1048576 B t 1048578 _ HT.out hB (by omega) (by omega)).mono ?_; rintro e w6 ⟨qt, rfl, hq1, b1⟩; refine Hid.out ?_)
        refine Lib.hid ?_
        have A1 := Agree.of_below b1 B 0
        have HQ1 := Lib.hid hq1
        have HP := Lib.hid (HP.out.agree A1)
        have HF := Lib.hid (HF.out.agree A1)
        have hB1 : B ≤ w6.heap.size := Nat.le_trans hB b1.size
        clear hq1 A1 HT
        go_wp2_with (go_at_call 10; refine (buildList_any 1048576 B _ _ _ Pp _ HP.out (fun h => (HZp.out h).1) (fun h => (HZp.out h).2) hB1 (by omega) (by omega)).mono ?_; rintro e w7 ⟨l2, d2, Q2, rfl, k2, hq2, -, b2⟩; refine Hid.out ?_)
        refine Lib.hid ?_
        have A2 := Agree.of_below b2 B 0
        have K2 := Lib.hid k2
        have HQ1 : Hid (Built w7 B w2.heap.size 1048576 t qt) := HQ1.out.agree (Agree.of_below b2 _ _)
        have HQ2 := Lib.hid hq2
        have HP := Lib.hid (HP.out.agree A2)
        have HF := Lib.hid (HF.out.agree A2)
        have hB2 : B ≤ w7.heap.size := Nat.le_trans hB1 b2.size
        clear k2 hq2 A2
        go_wp2_with (go_at_call 10; refine (buildList_any 1048576 B _ _ _ Pf _ HF.out (fun h => (HZf.out h).1) (fun h => (HZf.out h).2) hB2 (by omega) (by omega)).mono ?_; rintro e w8 ⟨l3, d3, Q3, rfl, k3, hq3, -, b3⟩; refine Hid.out ?_)
        refine Lib.hid ?_
        have A3 := Agree.of_below b3 B 0
        have K3 := Lib.hid k3
        have K2 := Lib.hid (K2.out.below b3)
        have HQ1 : Hid (Built w8 B w2.heap.size 1048576 t qt) := HQ1.out.agree (Agree.of_below b3 _ _)
        have HQ2 : Hid (∀ i, i < np → Built w8 B w6.heap.size 1048576 (Pp i) (Q2 i)) := fun i hi => (HQ2.out i hi).agree (Agree.of_below b3 _ _)
        have HQ3 := Lib.hid hq3
        have HP := Lib.hid (HP.out.agree A3)
        have HF := Lib.hid (HF.out.agree A3)
        obtain ⟨NP, hNP⟩ := Deep.choose_lt (fun i hi => (HQ2.out i hi).named (HNN.out i hi))
        have Par1 : Hid (Pars w8 l2 np NP) := ⟨Q2, K2.out.weak (fun _ _ => trivial), hNP⟩
        have Arg1 := Lib.hid (K3.out.weak (ok' := fun _ => True) (fun _ _ => trivial))
        have TA1 := Lib.hid HQ1.out.term
        clear k3 hq3 A3 hNP HNN
        go_wp2_with (go_at_call 11; refine (zzsubst 1048576 w8.heap.size _ _ _ _ _ _ NP Q3 _ _ TA1.out (Nat.le_refl _) Par1.out Arg1.out hle h2).mono ?_; rintro e w9 ⟨r9, rfl, hs9, b9⟩; refine Hid.out ?_)
        refine Lib.hid ?_
        have HS1 := Lib.hid hs9
        have HQ1 : Hid (Built w9 B w2.heap.size 1048576 t qt) := HQ1.out.agree (Agree.of_below b9 _ _)
        have HQ2 : Hid (∀ i, i < np → Built w9 B w6.heap.size 1048576 (Pp i) (Q2 i)) := fun i hi => (HQ2.out i hi).agree (Agree.of_below b9 _ _)
        have HQ3 : Hid (∀ i, i < nf → Built w9 B w7.heap.size 1048576 (Pf i) (Q3 i)) := fun i hi => (HQ3.out i hi).agree (Agree.of_below b9 _ _)
        have HP := Lib.hid (HP.out.agree (Agree.of_below b9 B 0)).1
        have HF := Lib.hid (HF.out.agree (Agree.of_below b9 B 0)).1
        have K2 := Lib.hid (K2.out.below b9)
        have K3 := Lib.hid (K3.out.below b9)
        have Par1 := Lib.hid (Par1.out.below b9)
        have Arg1 := Lib.hid (Arg1.out.below b9)
        have BF : Below w2.heap.size w2 w9 := ((b1.trans (b2.mono b1.size)).trans (b3.mono (Nat.le_trans b1.size b2.size))).trans (b9.mono (Nat.le_trans (Nat.le_trans b1.size b2.size) b3.size))
        clear hs9 TA1 b1 b2 b3 b9
        have R1 := Lib.hid (fun x => raw_any 1048576 _ _ _ _ 1048578 (w9.drewN x) (HQ1.out.drewN x) (by omega) (by omega))
        have R2 := Lib.hid (fun x => rawList_any 1048576 _ _ _ _ _ cp d2 _ _ (w9.drewN x) (HP.out.agree (Agree.drewN _ 0 w9 x)) (K2.out.below (drewN_below _ _ _)) (fun i hi => (HQ2.out i hi).drewN x) (by omega) (by omega))
        have R3 := Lib.hid (fun x => rawList_any 1048576 _ _ _ _ _ cf d3 _ _ (w9.drewN x) (HF.out.agree (Agree.drewN _ 0 w9 x)) (K3.out.below (drewN_below _ _ _)) (fun i hi => (HQ3.out i hi).drewN x) (by omega) (by omega))
        clear HQ1 HQ2 HQ3 HP HF K2 K3
        go_wp2_with (go_at_call 14; refine (agree_any 1048576 w8.heap.size w8.heap.size _ _ _ _ _ _ NP Q3 _ _ 1048578 _ HS1.out (Nat.le_refl _) Par1.out Arg1.out hle h2 (by omega) (by omega)).mono ?_; rintro e w10 ⟨rfl, q10, rfl⟩)
        clear HS1 Par1 Arg1
        refine (R1.out _).mono ?_
        rintro e w11 ⟨rfl, q11, rfl⟩
        go_wp2_with fail
        refine (R2.out _).mono ?_
        rintro e w12 ⟨rfl, q12, rfl⟩
        go_wp2_with fail
        refine (R3.out _).mono ?_
        rintro e w13 ⟨rfl, q13, rfl⟩
        go_wp2_with fail
        go_ret
        exact ⟨rfl, BF.trans (drewN_below _ _ _)⟩
end Go.Proofs.Qxb6603778a
