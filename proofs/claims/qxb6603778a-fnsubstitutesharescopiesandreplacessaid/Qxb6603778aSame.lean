import Derived.Test.Qxb6603778aSub2
namespace Go.Proofs.Qxb6603778a
open Go.RowKit

theorem zzkind (b : Nat) (x : Int) (w : World) (h : w.cell? ⟨b, 3, none⟩ = some (.int .i64 x)) : Calls Try.prog 21 #[.pointer (some ⟨b, 0, none⟩)] w fun e w' => e = .returned (.int .i64 x) ∧ w' = w := by
  go_enter Try.func21, Try.ntmps21
  go_wp2_with fail
  go_ret
  exact ⟨rfl, rfl⟩
theorem zznum (b : Nat) (x : Int) (w : World) (h : w.cell? ⟨b, 5, none⟩ = some (.int .u64 x)) : Calls Try.prog 22 #[.pointer (some ⟨b, 0, none⟩)] w fun e w' => e = .returned (.int .u64 x) ∧ w' = w := by
  go_enter Try.func22, Try.ntmps22
  go_wp2_with fail
  go_ret
  exact ⟨rfl, rfl⟩
theorem zztext (b : Nat) (x : ByteArray) (w : World) (h : w.cell? ⟨b, 6, none⟩ = some (.string x)) : Calls Try.prog 23 #[.pointer (some ⟨b, 0, none⟩)] w fun e w' => e = .returned (.string x) ∧ w' = w := by
  go_enter Try.func23, Try.ntmps23
  go_wp2_with fail
  go_ret
  exact ⟨rfl, rfl⟩
theorem zzname (b : Nat) (x : ByteArray) (w : World) (h : w.cell? ⟨b, 4, none⟩ = some (.string x)) : Calls Try.prog 24 #[.pointer (some ⟨b, 0, none⟩)] w fun e w' => e = .returned (.string x) ∧ w' = w := by
  go_enter Try.func24, Try.ntmps24
  go_wp2_with fail
  go_ret
  exact ⟨rfl, rfl⟩
theorem zzargs (b : Nat) (a : Option Addr) (n c : Nat) (w : World) (h : w.cell? ⟨b, 7, none⟩ = some (.slice a n c)) : Calls Try.prog 25 #[.pointer (some ⟨b, 0, none⟩)] w fun e w' => e = .returned (.slice a n c) ∧ w' = w := by
  go_enter Try.func25, Try.ntmps25
  go_wp2_with fail
  go_ret
  exact ⟨rfl, rfl⟩

theorem quiet_same_add {P : Program} {f : FuncId} {args : Array Value} {w : World} {q n : Nat} {v : Value}
    (h : Calls P f args (w.drewN (q + n)) fun e w' => e = .returned v ∧ w' = w.drewN (q + n)) : Calls P f args (w.drewN (q + n)) fun e w'' => e = .returned v ∧ ∃ m, w'' = w.drewN (q + m) :=
  h.mono fun _ _ ⟨he, hm⟩ => ⟨he, n, hm⟩
theorem quiet_add {P : Program} {f : FuncId} {args : Array Value} {w : World} {q n : Nat} {v : Value}
    (h : Calls P f args (w.drewN (q + n)) fun e w' => e = .returned v ∧ ∃ m, w' = (w.drewN (q + n)).drewN m) : Calls P f args (w.drewN (q + n)) fun e w'' => e = .returned v ∧ ∃ m, w'' = w.drewN (q + m) :=
  h.mono fun _ _ ⟨he, m, hm⟩ => ⟨he, n + m, by rw [hm, World.drewN_drewN, Nat.add_assoc]⟩

/-- the term t means what the node p means -/
def SM (w : World) : Nat → Option Addr → Option Addr → Prop
  | 0, p, t => p = none ∧ t = none
  | f + 1, p, t => (p = none ∧ t = none) ∨ ∃ (b o : Nat) (F : Flds) (la : Option Addr) (n c : Nat) (P : Nat → Option Addr) (tb : Nat) (G : Flds) (ts : Option Addr) (d : Nat) (Q : Nat → Option Addr) (B : Nat),
      p = some ⟨b, o, none⟩ ∧ t = some ⟨tb, 0, none⟩ ∧ NodeCells w b o F la n c ∧ TermCells w tb G ts n d ∧ G.kind = F.kind ∧ (F.kind = 1 → G.num = F.num) ∧ (F.kind = 2 → G.text = F.text) ∧ (F.kind ≠ 1 → F.kind ≠ 2 → G.name = F.name) ∧
      NKids w B la n P ∧ TKids w (fun _ => True) ts n Q ∧ n ≤ 1048576 ∧ ∀ i, i < n → SM w f (P i) (Q i)

theorem SM.drewN {w : World} (q : Nat) : ∀ {f : Nat} {p t : Option Addr}, SM w f p t → SM (w.drewN q) f p t
  | 0, _, _, h => h
  | f + 1, p, t, h => by
    rcases h with h | ⟨b, o, F, la, n, c, P, tb, G, ts, d, Q, B, h1, h2, h3, h4, h5, h6, h7, h8, h9, h10, h11, h12⟩
    · exact .inl h
    · exact .inr ⟨b, o, F, la, n, c, P, tb, G, ts, d, Q, B, h1, h2, h3, h4, h5, h6, h7, h8, h9, h10, h11, fun i hi => SM.drewN q (h12 i hi)⟩

set_option maxHeartbeats 3200000 in
theorem same_any (f : Nat) : ∀ (p t : Option Addr) (fuel : Int) (w : World), SM w f p t → (f : Int) + 1 ≤ fuel → fuel ≤ 1048578 →
    Calls Try.prog 12 #[.pointer p, .pointer t, .int .i64 fuel] w fun e w' => e = .returned (.bool true) ∧ ∃ q, w' = w.drewN q := by
  have nil : ∀ (fuel : Int) (w : World), 0 < fuel → Calls Try.prog 12 #[.pointer none, .pointer none, .int .i64 fuel] w fun e w' => e = .returned (.bool true) ∧ ∃ q, w' = w.drewN q := by
    intro fuel w hf
    go_enter Try.func12, Try.ntmps12
    go_wp2_with fail
    go_ret
    exact ⟨rfl, 0, rfl⟩
  induction f with
  | zero =>
    intro p t fuel w h hf1 hf2
    obtain ⟨rfl, rfl⟩ := h
    exact nil _ _ (by omega)
  | succ f ih =>
    intro p t fuel w h hf1 hf2
    rcases h with ⟨rfl, rfl⟩ | ⟨b, o, F, la, n, c, P, tb, G, ts, d, Q, B, rfl, rfl, hC, hT, hk, hm1, hm2, hm3, hK, hQ, hn, hR⟩
    · exact nil _ _ (by omega)
    have h0 : 0 < fuel := by omega
    obtain ⟨c0, c1, c2, c3, -, -, -, c7⟩ := hC
    obtain ⟨-, -, -, t3, t4, t5, t6, t7⟩ := hT.cells
    have HK := Lib.hid hK
    have HQ := Lib.hid hQ
    have HR := Lib.hid hR
    have IH := Lib.hid ih
    rw [hk] at t3
    clear nil hT hK hQ hR ih hk
    have hcase : (F.kind = 1) ∨ (F.kind ≠ 1 ∧ F.kind = 2) ∨ (F.kind ≠ 1 ∧ F.kind ≠ 2) := by omega
    rcases hcase with k1 | ⟨k1, k2⟩ | ⟨k1, k2⟩
    · rw [hm1 k1] at t5
      have e1 : (F.kind == 1) = true := beq_iff_eq.2 k1
      clear hm1 hm2 hm3 k1
      go_enter Try.func12, Try.ntmps12
      go_wp2_with fail
      go_quiet ((go_at_call 21; exact Calls.quiet_of_same (zzkind _ _ _ t3)))
      go_wp2_with fail
      go_quiet ((go_at_call 22; exact quiet_same_add (zznum _ _ _ t5)))
      go_wp2_with (go_at_call 25; refine (zzargs _ _ _ _ _ (by exact t7)).mono ?_; rintro e w1 ⟨rfl, rfl⟩)
      go_loopw [8] (fun i wr => ∃ k q : Nat, k ≤ n ∧ i = .int .i64 k ∧ wr = w.drewN q) (fun i _ => n - (intOf i).toNat)
      case atStart => exact ⟨0, _, Nat.zero_le _, rfl, rfl⟩
      case round =>
        obtain ⟨k, q, hk, rfl, rfl⟩ := hrel
        by_cases hlt : k < n
        · obtain ⟨kb, ko, rfl, -, hkc⟩ := HK.out.at_ (by omega)
          obtain ⟨qb, rfl, -, hqc⟩ := HQ.out.at_ (by omega)
          have hck := hkc k hlt
          have hqk := hqc k hlt
          have hw1 : IntKind.i64.wrap (fuel - 1) = fuel - 1 := IntWalk.i64_in _ (by omega)
          clear hkc hqc
          go_wp2_with fail
          go_quiet ((go_at_call 12; exact quiet_add (IH.out _ _ _ _ ((HR.out k hlt).drewN _) (by omega) (by omega))))
          go_wp2_with fail
          go_roundw
          case rel => exact ⟨k + 1, _, by omega, by go_num, rfl⟩
          case measure => simp [intOf]; omega
        · go_wp2_with fail
          go_ret
          exact ⟨rfl, q, rfl⟩
    · rw [hm2 k2] at t6
      have e1 : (F.kind == 1) = false := beq_eq_false_iff_ne.2 k1
      have e2 : (F.kind == 2) = true := beq_iff_eq.2 k2
      clear hm1 hm2 hm3 k1 k2
      go_enter Try.func12, Try.ntmps12
      go_wp2_with fail
      go_quiet ((go_at_call 21; exact Calls.quiet_of_same (zzkind _ _ _ t3)))
      go_wp2_with fail
      go_quiet ((go_at_call 23; exact quiet_same_add (zztext _ _ _ t6)))
      go_wp2_with (go_at_call 25; refine (zzargs _ _ _ _ _ (by exact t7)).mono ?_; rintro e w1 ⟨rfl, rfl⟩)
      go_loopw [8] (fun i wr => ∃ k q : Nat, k ≤ n ∧ i = .int .i64 k ∧ wr = w.drewN q) (fun i _ => n - (intOf i).toNat)
      case atStart => exact ⟨0, _, Nat.zero_le _, rfl, rfl⟩
      case round =>
        obtain ⟨k, q, hk, rfl, rfl⟩ := hrel
        by_cases hlt : k < n
        · obtain ⟨kb, ko, rfl, -, hkc⟩ := HK.out.at_ (by omega)
          obtain ⟨qb, rfl, -, hqc⟩ := HQ.out.at_ (by omega)
          have hck := hkc k hlt
          have hqk := hqc k hlt
          have hw1 : IntKind.i64.wrap (fuel - 1) = fuel - 1 := IntWalk.i64_in _ (by omega)
          clear hkc hqc
          go_wp2_with fail
          go_quiet ((go_at_call 12; exact quiet_add (IH.out _ _ _ _ ((HR.out k hlt).drewN _) (by omega) (by omega))))
          go_wp2_with fail
          go_roundw
          case rel => exact ⟨k + 1, _, by omega, by go_num, rfl⟩
          case measure => simp [intOf]; omega
        · go_wp2_with fail
          go_ret
          exact ⟨rfl, q, rfl⟩
    · rw [hm3 k1 k2] at t4
      have e1 : (F.kind == 1) = false := beq_eq_false_iff_ne.2 k1
      have e2 : (F.kind == 2) = false := beq_eq_false_iff_ne.2 k2
      clear hm1 hm2 hm3 k1 k2
      go_enter Try.func12, Try.ntmps12
      go_wp2_with fail
      go_quiet ((go_at_call 21; exact Calls.quiet_of_same (zzkind _ _ _ t3)))
      go_wp2_with fail
      go_quiet ((go_at_call 24; exact quiet_same_add (zzname _ _ _ t4)))
      go_wp2_with (go_at_call 25; refine (zzargs _ _ _ _ _ (by exact t7)).mono ?_; rintro e w1 ⟨rfl, rfl⟩)
      go_loopw [8] (fun i wr => ∃ k q : Nat, k ≤ n ∧ i = .int .i64 k ∧ wr = w.drewN q) (fun i _ => n - (intOf i).toNat)
      case atStart => exact ⟨0, _, Nat.zero_le _, rfl, rfl⟩
      case round =>
        obtain ⟨k, q, hk, rfl, rfl⟩ := hrel
        by_cases hlt : k < n
        · obtain ⟨kb, ko, rfl, -, hkc⟩ := HK.out.at_ (by omega)
          obtain ⟨qb, rfl, -, hqc⟩ := HQ.out.at_ (by omega)
          have hck := hkc k hlt
          have hqk := hqc k hlt
          have hw1 : IntKind.i64.wrap (fuel - 1) = fuel - 1 := IntWalk.i64_in _ (by omega)
          clear hkc hqc
          go_wp2_with fail
          go_quiet ((go_at_call 12; exact quiet_add (IH.out _ _ _ _ ((HR.out k hlt).drewN _) (by omega) (by omega))))
          go_wp2_with fail
          go_roundw
          case rel => exact ⟨k + 1, _, by omega, by go_num, rfl⟩
          case measure => simp [intOf]; omega
        · go_wp2_with fail
          go_ret
          exact ⟨rfl, q, rfl⟩
end Go.Proofs.Qxb6603778a
