import Derived.Test.Qxb6603778aBare
namespace Go.Proofs.Qxb6603778a
open Go.RowKit

/-- no bare name in the tree is one of the m names N -/
def NoUse (w : World) (B m : Nat) (N : Nat → ByteArray) : Nat → Option Addr → Prop
  | 0, _ => True
  | f + 1, p => p = none ∨ ∃ (b o : Nat) (F : Flds) (la : Option Addr) (n c : Nat) (P : Nat → Option Addr),
      p = some ⟨b, o, none⟩ ∧ b < B ∧ NodeCells w b o F la n c ∧ NKids w B la n P ∧ (F.kind = 0 → n = 0 → ∀ j, j < m → N j ≠ F.name) ∧ ∀ i, i < n → NoUse w B m N f (P i)

theorem NoUse.agree {B s m : Nat} {N : Nat → ByteArray} {w w' : World} (hA : Agree B s w w') : ∀ {f : Nat} {p : Option Addr}, NoUse w B m N f p → NoUse w' B m N f p
  | 0, _, _ => trivial
  | f + 1, p, h => by
    rcases h with h | ⟨b, o, F, la, n, c, P, h1, h2, h3, h4, h5, h6⟩
    · exact .inl h
    · exact .inr ⟨b, o, F, la, n, c, P, h1, h2, h3.agree hA h2, h4.agree hA, h5, fun i hi => NoUse.agree hA (h6 i hi)⟩

theorem Agree.drewN (B s : Nat) (w : World) (q : Nat) : Agree B s w (w.drewN q) := fun _ _ _ => rfl

def UnEnd (w : World) (B m : Nat) (N : Nat → ByteArray) (f : Nat) (p : Option Addr) (e : Ending) (w' : World) : Prop := ∃ r : Bool, e = .returned (.bool r) ∧ (r = false → NoUse w B m N f p) ∧ ∃ q, w' = w.drewN q
theorem UnEnd.yes (w : World) (B m : Nat) (N : Nat → ByteArray) (f : Nat) (p : Option Addr) (q : Nat) : UnEnd w B m N f p (.returned (.bool true)) (w.drewN q) := ⟨true, rfl, (fun h => by cases h), q, rfl⟩

set_option maxHeartbeats 3200000 in
theorem uses_any (f : Nat) : ∀ (B L : Nat) (p : Option Addr) (ln : Option Addr) (m c : Nat) (NP : Nat → Option Addr) (N : Nat → ByteArray) (fuel : Int) (w : World), NodeAt w B L f p → L ≤ 1048576 → m ≤ 131072 → NKids w B ln m NP → (∀ j, j < m → Bare w B (NP j) (N j)) → fuel ≤ 1048578 → -1048578 ≤ fuel →
    Calls Try.prog 8 #[.pointer p, .slice ln m c, .int .i64 fuel] w fun e w' => UnEnd w B m N f p e w' := by
  have nil : ∀ (f B : Nat) (ln : Option Addr) (m c : Nat) (N : Nat → ByteArray) (fuel : Int) (w : World), 0 < fuel → Calls Try.prog 8 #[.pointer none, .slice ln m c, .int .i64 fuel] w fun e w' => UnEnd w B m N f none e w' := by
    intro f B ln m c N fuel w hf
    go_enter Try.func8, Try.ntmps8
    go_wp2_with fail
    go_ret
    refine ⟨false, rfl, fun _ => ?_, 0, rfl⟩
    cases f with
    | zero => trivial
    | succ f => exact .inl rfl
  have spent : ∀ (f B : Nat) (p ln : Option Addr) (m c : Nat) (N : Nat → ByteArray) (fuel : Int) (w : World), fuel ≤ 0 → Calls Try.prog 8 #[.pointer p, .slice ln m c, .int .i64 fuel] w fun e w' => UnEnd w B m N f p e w' := by
    intro f B p ln m c N fuel w hf
    go_enter Try.func8, Try.ntmps8
    go_wp2_with fail
    go_ret
    exact UnEnd.yes _ _ _ _ _ _ 0
  induction f with
  | zero =>
    intro B L p ln m c NP N fuel w hp hL hm hK hBa hf1 hf2
    obtain rfl : p = none := hp
    by_cases h0 : fuel ≤ 0
    · exact spent _ _ _ _ _ _ _ _ _ h0
    · exact nil _ _ _ _ _ _ _ _ (by omega)
  | succ f ih =>
    intro B L p ln m c NP N fuel w hp hL hm hK hBa hf1 hf2
    by_cases h0 : fuel ≤ 0
    · exact spent _ _ _ _ _ _ _ _ _ h0
    have h0 : 0 < fuel := by omega
    rcases hp with rfl | ⟨nb, no, F, la, n, d, P, rfl, hB, hC, hz, hz', hl1, hl2, hl3, hl4, hKn, hR⟩
    · exact nil _ _ _ _ _ _ _ _ h0
    have HC := Lib.hid hC
    obtain ⟨c0, c1, -, -, -, -, -, c7⟩ := hC
    have IH := Lib.hid ih
    have HKn := Lib.hid hKn
    have HR := Lib.hid hR
    have HK := Lib.hid hK
    have HBa := Lib.hid hBa
    clear nil spent ih hKn hR hK hBa hz hz'
    by_cases hbare : F.kind = 0 ∧ n = 0
    · obtain ⟨hk0, hn0⟩ := hbare
      have hk1 : (F.kind == 0) = true := beq_iff_eq.2 hk0
      clear hk0
      subst hn0
      go_enter Try.func8, Try.ntmps8
      go_wp2_with fail
      go_loopw [7] (fun i wr => ∃ k q : Nat, k ≤ m ∧ i = .int .i64 k ∧ wr = w.drewN q ∧ ∀ j, j < k → N j ≠ F.name) (fun i _ => m - (intOf i).toNat)
      case atStart => exact ⟨0, 0, Nat.zero_le _, rfl, rfl, fun j hj => absurd hj (Nat.not_lt_zero _)⟩
      case round =>
        obtain ⟨k, q, hk, rfl, rfl, hd⟩ := hrel
        have HD := Lib.hid hd
        clear hd
        by_cases hlt : k < m
        · obtain ⟨kb, ko, rfl, hkB, hkc⟩ := HK.out.at_ (by omega)
          have hck := hkc k hlt
          clear hkc
          obtain ⟨b1, o1, F1, la1, d1, e1, -, hc1, -, hN1⟩ := HBa.out k hlt
          rw [e1] at hck
          have hcn := hc1.2.1
          rw [hN1] at hcn
          clear hc1 e1 hN1
          by_cases hne : N k = F.name
          · have hs := str_eq _ _ hne
            clear hne
            go_wp2_with fail
            go_quiet (fail)
            go_wp2_with fail
            go_ret
            rw [World.drewN_drewN]
            exact UnEnd.yes _ _ _ _ _ _ _
          · have hs := str_ne _ _ hne
            have HD2 : Hid (∀ j, j < k + 1 → N j ≠ F.name) := fun j hj => by
              by_cases e : j = k
              · rw [e]; exact hne
              · exact HD.out j (by omega)
            clear hne HD
            go_wp2_with fail
            go_quiet (fail)
            go_wp2_with fail
            go_roundw
            case rel => exact ⟨k + 1, _, by omega, by go_num, rfl, HD2.out⟩
            case measure => simp [intOf]; omega
        · go_wp2_with fail
          go_ret
          exact ⟨false, rfl, fun _ => .inr ⟨nb, no, F, la, 0, d, P, rfl, hB, HC.out, HKn.out, fun _ _ j hj => HD.out j (by omega), fun i hi => absurd hi (Nat.not_lt_zero _)⟩, q, rfl⟩
    · have HNB := Lib.hid hbare
      have hn : n ≤ 1048576 := by omega
      by_cases hk0 : F.kind = 0
      all_goals
        first
          | (have hk1 : (F.kind == 0) = true := beq_iff_eq.2 hk0
             have hn1 : ((n : Int) == 0) = false := beq_eq_false_iff_ne.2 (by have := HNB.out; omega))
          | (have hk1 : (F.kind == 0) = false := beq_eq_false_iff_ne.2 hk0)
        clear hk0 hbare
        go_enter Try.func8, Try.ntmps8
        go_wp2_with fail
        go_loopw [8] (fun i wr => ∃ k q : Nat, k ≤ n ∧ i = .int .i64 k ∧ wr = w.drewN q ∧ ∀ j, j < k → NoUse w B m N f (P j)) (fun i _ => n - (intOf i).toNat)
        case atStart => exact ⟨0, 0, Nat.zero_le _, rfl, rfl, fun j hj => absurd hj (Nat.not_lt_zero _)⟩
        case round =>
          obtain ⟨k, q, hk, rfl, rfl, hd⟩ := hrel
          have HD := Lib.hid hd
          clear hd
          by_cases hlt : k < n
          · obtain ⟨kb, ko, rfl, hkB, hkc⟩ := HKn.out.at_ (by omega)
            have hck := hkc k hlt
            clear hkc
            have A := Agree.drewN B 0 w q
            have HI := Lib.hid (IH.out B L (P k) ln m c NP N (fuel - 1) (w.drewN q) ((HR.out k hlt).agree A) hL hm (HK.out.agree A) (fun j hj => (HBa.out j hj).agree A) (by omega) (by omega))
            clear A
            go_wp2_with (go_at_call 8; refine HI.out.mono ?_; rintro e w1 ⟨r, rfl, hr, q1, rfl⟩; refine Hid.out ?_)
            refine Lib.hid ?_
            cases r with
            | true =>
              clear hr HI
              go_wp2_with fail
              go_ret
              exact UnEnd.yes _ _ _ _ _ _ _
            | false =>
              have HD2 : Hid (∀ j, j < k + 1 → NoUse w B m N f (P j)) := fun j hj => by
                by_cases e : j = k
                · rw [e]; exact NoUse.agree (s := 0) (w := w.drewN q) (w' := w) (fun _ _ _ => rfl) (hr rfl)
                · exact HD.out j (by omega)
              clear hr HI HD
              go_wp2_with fail
              go_roundw
              case rel => exact ⟨k + 1, _, by omega, by go_num, rfl, HD2.out⟩
              case measure => simp [intOf]; omega
          · go_wp2_with fail
            go_ret
            exact ⟨false, rfl, fun _ => .inr ⟨nb, no, F, la, n, d, P, rfl, hB, HC.out, HKn.out, fun h1 h2 => absurd ⟨h1, h2⟩ HNB.out, fun i hi => HD.out i (by omega)⟩, q, rfl⟩
end Go.Proofs.Qxb6603778a
