import Derived.Test.Qxb6603778aPlain
namespace Go.Proofs.Qxb6603778a
open Go.RowKit

theorem NodeCells.drewN {w : World} {b o : Nat} {F : Flds} {la : Option Addr} {n c : Nat} (h : NodeCells w b o F la n c) (q : Nat) : NodeCells (w.drewN q) b o F la n c := h

/-- a list of bare terms serves as parameters -/
theorem pars_of {w : World} {ok : Nat → Prop} {la : Option Addr} {m : Nat} {R : Nat → Option Addr} {N : Nat → ByteArray} (h : TKids w ok la m R) (hb : ∀ i, i < m → BareTerm w (R i) (N i)) : Pars w la m N := by
  refine ⟨R, h.weak (fun _ _ => trivial), fun i hi => ?_⟩
  obtain ⟨tb, F, ts, d, h1, h2, _, _, h5⟩ := hb i hi
  exact ⟨tb, F, ts, 0, d, h1, h2, h5⟩

set_option maxHeartbeats 3200000 in
theorem law3 (f B : Nat) (t lp lf : Option Addr) (np cp nf cf : Nat) (Pp Pf : Nat → Option Addr) (w : World) (hB : B ≤ w.heap.size) (ht : NodeAt w B maxLen f t) (hP : NList w B maxLen f lp np Pp) (hF : NList w B maxLen f lf nf Pf)
    (hnp : np ≤ maxLen) (hnf : nf ≤ maxLen) (hzp : lp = none → np = 0 ∧ cp = 0) (hzf : lf = none → nf = 0 ∧ cf = 0) :
    Calls Try.prog 3 #[.pointer t, .slice lp np cp, .slice lf nf cf] w fun e w' => e = .returned (.bool true) ∧ Below w.heap.size w w' := by
  have HF0 := Lib.hid (fits_any f B t lp lf np cp nf cf Pp Pf w ht hP hF hnp hnf)
  have HKp := Lib.hid hP.1
  have HKf := Lib.hid hF.1
  have HZp := Lib.hid hzp
  have HZf := Lib.hid hzf
  clear ht hP hF hnp hnf hzp hzf
  go_enter Try.func3, Try.ntmps3
  go_wp2_with (go_at_call 5; refine HF0.out.mono ?_; rintro e w1 ⟨r, rfl, hr, rfl⟩; refine Hid.out ?_)
  refine Lib.hid ?_
  cases r with
  | false =>
    clear hr HF0
    go_wp2_with fail
    go_ret
    exact ⟨rfl, Below.refl _ _⟩
  | true =>
    obtain ⟨h1, h2, ht, hp, hf⟩ := hr rfl
    have HT := Lib.hid ht
    have HP : Hid (NList w1 B 1048576 1048576 lp np Pp) := ⟨HKp.out, hp⟩
    have HF : Hid (NList w1 B 1048576 1048576 lf nf Pf) := ⟨HKf.out, hf⟩
    clear hr HF0 ht hp hf HKp HKf
    by_cases hne : np = nf
    · have e0 : ((np : Int) != (nf : Int)) = false := by rw [hne]; simp
      subst hne
      go_wp2_with (go_at_call 6; refine (allBare_any 1048576 B 1048576 _ _ _ _ _ h1 HP.out).mono ?_; rintro e w2 ⟨r1, rfl, hr1, rfl⟩; refine Hid.out ?_)
      refine Lib.hid ?_
      cases r1 with
      | false =>
        clear hr1
        go_wp2_with fail
        go_ret
        exact ⟨rfl, Below.refl _ _⟩
      | true =>
        obtain ⟨NP, hNP⟩ := Deep.choose_lt (hr1 rfl)
        have HNP := Lib.hid hNP
        clear hr1 hNP
        go_wp2_with (go_at_call 6; refine (allBare_any 1048576 B 1048576 _ _ _ _ _ h1 HF.out).mono ?_; rintro e w3 ⟨r2, rfl, hr2, rfl⟩; refine Hid.out ?_)
        refine Lib.hid ?_
        cases r2 with
        | false =>
          clear hr2
          go_wp2_with fail
          go_ret
          exact ⟨rfl, Below.refl _ _⟩
        | true =>
          obtain ⟨NF, hNF⟩ := Deep.choose_lt (hr2 rfl)
          have HNF := Lib.hid hNF
          clear hr2 hNF
          go_wp2_with (go_at_call 7; refine (distinct_any B _ _ _ _ NF _ h1 HF.out.1 HNF.out).mono ?_; rintro e w4 ⟨r3, rfl, hr3, q3, rfl⟩; refine Hid.out ?_)
          refine Lib.hid ?_
          cases r3 with
          | false =>
            clear hr3
            go_wp2_with fail
            go_ret
            exact ⟨rfl, drewN_below _ _ _⟩
          | true =>
            have HDi := Lib.hid (hr3 rfl)
            clear hr3
            have A3 := Agree.drewN B 0 w3 q3
            go_wp2_with (go_at_call 8; refine (uses_any 1048576 B 1048576 t _ _ _ Pf NF 1048578 _ (HT.out.agree A3) (by omega) h1 (HF.out.1.agree A3) (fun j hj => (HNF.out j hj).agree A3) (by omega) (by omega)).mono ?_; rintro e w5 ⟨r4, rfl, hr4, q4, rfl⟩; refine Hid.out ?_)
            refine Lib.hid ?_
            cases r4 with
            | true =>
              clear hr4
              go_wp2_with fail
              go_ret
              exact ⟨rfl, drewN_below _ _ _⟩
            | false =>
              have HU := Lib.hid (NoUse.agree (s := 0) (w := w3.drewN q3) (w' := w3.drewN (q3 + q4)) (fun _ _ _ => rfl) (hr4 rfl))
              have AV := Agree.drewN B 0 w3 (q3 + q4)
              have HT := Lib.hid (HT.out.agree AV)
              have HP := Lib.hid (HP.out.agree AV)
              have HF := Lib.hid (HF.out.agree AV)
              have HNP : Hid (∀ i, i < np → Bare (w3.drewN (q3 + q4)) B (Pp i) (NP i)) := fun i hi => (HNP.out i hi).agree AV
              have HNF : Hid (∀ i, i < np → Bare (w3.drewN (q3 + q4)) B (Pf i) (NF i)) := fun i hi => (HNF.out i hi).agree AV
              have b0 := drewN_below w3.heap.size w3 (q3 + q4)
              have hBV : B ≤ (w3.drewN (q3 + q4)).heap.size := hB
              clear hr4 AV A3
              go_wp2_with (go_at_call 9; refine (build_any 1048576 B t 1048578 _ HT.out hBV (by omega) (by omega)).mono ?_; rintro e w6 ⟨qt, rfl, hq1, b1⟩; refine Hid.out ?_)
              refine Lib.hid ?_
              have A1 := Agree.of_below b1 B 0
              have HQ1 := Lib.hid hq1
              have HP := Lib.hid (HP.out.agree A1)
              have HF := Lib.hid (HF.out.agree A1)
              have HNP : Hid (∀ i, i < np → Bare w6 B (Pp i) (NP i)) := fun i hi => (HNP.out i hi).agree A1
              have HNF : Hid (∀ i, i < np → Bare w6 B (Pf i) (NF i)) := fun i hi => (HNF.out i hi).agree A1
              have HU := Lib.hid (HU.out.agree A1)
              have hB1 : B ≤ w6.heap.size := Nat.le_trans hBV b1.size
              clear hq1 A1
              go_wp2_with (go_at_call 10; refine (buildList_any 1048576 B _ _ _ Pp _ HP.out (fun h => (HZp.out h).1) (fun h => (HZp.out h).2) hB1 (by omega) (by omega)).mono ?_; rintro e w7 ⟨l2, d2, Q2, rfl, k2, hq2, -, b2⟩; refine Hid.out ?_)
              refine Lib.hid ?_
              have A2 := Agree.of_below b2 B 0
              have K2 := Lib.hid k2
              have HQ1 : Hid (Built w7 B (w3.drewN (q3 + q4)).heap.size 1048576 t qt) := HQ1.out.agree (Agree.of_below b2 _ _)
              have HBp : Hid (∀ i, i < np → BareTerm w7 (Q2 i) (NP i)) := fun i hi => (hq2 i hi).bare ((HNP.out i hi).agree A2)
              have HF := Lib.hid (HF.out.agree A2)
              have HNF : Hid (∀ i, i < np → Bare w7 B (Pf i) (NF i)) := fun i hi => (HNF.out i hi).agree A2
              have HU := Lib.hid (HU.out.agree A2)
              have hB2 : B ≤ w7.heap.size := Nat.le_trans hB1 b2.size
              clear k2 hq2 A2
              go_wp2_with (go_at_call 10; refine (buildList_any 1048576 B _ _ _ Pf _ HF.out (fun h => (HZf.out h).1) (fun h => (HZf.out h).2) hB2 (by omega) (by omega)).mono ?_; rintro e w8 ⟨l3, d3, Q3, rfl, k3, hq3, -, b3⟩; refine Hid.out ?_)
              refine Lib.hid ?_
              have A3 := Agree.of_below b3 B 0
              have K3 := Lib.hid k3
              have K2 := Lib.hid (K2.out.below b3)
              have HQ1 : Hid (Built w8 B (w3.drewN (q3 + q4)).heap.size 1048576 t qt) := HQ1.out.agree (Agree.of_below b3 _ _)
              have HBp : Hid (∀ i, i < np → BareTerm w8 (Q2 i) (NP i)) := fun i hi => (HBp.out i hi).below b3
              have HBf : Hid (∀ i, i < np → BareTerm w8 (Q3 i) (NF i)) := fun i hi => (hq3 i hi).bare ((HNF.out i hi).agree A3)
              have HU := Lib.hid (HU.out.agree A3)
              have Par1 := Lib.hid (pars_of K2.out HBp.out)
              have Arg1 := Lib.hid (K3.out.weak (ok' := fun _ => True) (fun _ _ => trivial))
              have TA1 := Lib.hid HQ1.out.term
              clear k3 hq3 A3
              go_wp2_with (go_at_call 11; refine (zzsubst 1048576 w8.heap.size _ _ _ _ _ _ NP Q3 _ _ TA1.out (Nat.le_refl _) Par1.out Arg1.out (Nat.le_refl _) h1).mono ?_; rintro e w9 ⟨r9, rfl, hs9, b9⟩; refine Hid.out ?_)
              refine Lib.hid ?_
              have HS1 := Lib.hid hs9
              have HBp : Hid (∀ i, i < np → BareTerm w9 (Q2 i) (NP i)) := fun i hi => (HBp.out i hi).below b9
              have HBf : Hid (∀ i, i < np → BareTerm w9 (Q3 i) (NF i)) := fun i hi => (HBf.out i hi).below b9
              have HQ1 : Hid (Built w9 B (w3.drewN (q3 + q4)).heap.size 1048576 t qt) := HQ1.out.agree (Agree.of_below b9 _ _)
              have HU := Lib.hid (HU.out.agree (Agree.of_below b9 B 0))
              have Par2 := Lib.hid (pars_of (K3.out.below b9) HBf.out)
              have Arg2 := Lib.hid ((K2.out.below b9).weak (ok' := fun _ => True) (fun _ _ => trivial))
              have TA2 := Lib.hid (HS1.out.term (fun i hi f => (HBf.out i hi).term f))
              clear hs9 TA1 Par1 Arg1 K2 K3
              go_wp2_with (go_at_call 11; refine (zzsubst 1048576 w9.heap.size _ _ _ _ _ _ NF Q2 _ _ TA2.out (Nat.le_refl _) Par2.out Arg2.out (Nat.le_refl _) h1).mono ?_; rintro e w10 ⟨r10, rfl, hs10, b10⟩; refine Hid.out ?_)
              refine Lib.hid ?_
              have HBp : Hid (∀ i, i < np → BareTerm w10 (Q2 i) (NP i)) := fun i hi => (HBp.out i hi).below b10
              have HBf : Hid (∀ i, i < np → BareTerm w10 (Q3 i) (NF i)) := fun i hi => (HBf.out i hi).below b10
              have HQ1 : Hid (Built w10 B (w3.drewN (q3 + q4)).heap.size 1048576 t qt) := HQ1.out.agree (Agree.of_below b10 _ _)
              have HU := Lib.hid (HU.out.agree (Agree.of_below b10 B 0))
              have HS1 : Hid (Sub w10 w8.heap.size w8.heap.size np NP Q3 1048576 qt r9) := HS1.out.agree (Agree.of_below b10 _ _)
              have HSM := Lib.hid (round_trip HBf.out HBp.out HDi.out HQ1.out HS1.out hs10 HU.out)
              have BF : Below w3.heap.size w3 w10 := ((((b0.trans (b1.mono (Nat.le_refl _))).trans (b2.mono b1.size)).trans (b3.mono (Nat.le_trans b1.size b2.size))).trans (b9.mono (Nat.le_trans (Nat.le_trans b1.size b2.size) b3.size))).trans (b10.mono (Nat.le_trans (Nat.le_trans (Nat.le_trans b1.size b2.size) b3.size) b9.size))
              clear hs10 TA2 Par2 Arg2 HBp HBf HQ1 HU HS1 b0 b1 b2 b3 b9 b10
              go_wp2_with (go_at_call 12; refine (same_any 1048576 _ _ 1048578 _ HSM.out (by omega) (by omega)).mono ?_; rintro e w11 ⟨rfl, q11, rfl⟩)
              go_ret
              exact ⟨rfl, BF.trans (drewN_below _ _ _)⟩
    · have e0 : ((np : Int) != (nf : Int)) = true := by rw [bne_iff_ne]; omega
      go_wp2_with fail
      go_ret
      exact ⟨rfl, Below.refl _ _⟩
end Go.Proofs.Qxb6603778a
