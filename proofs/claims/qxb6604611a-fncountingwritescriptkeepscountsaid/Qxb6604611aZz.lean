import Derived.Test.Qxb6604611aLaw1
namespace Go.Proofs.Qxb6604611a
open Go.RowKit

/-- the sum of the first k lengths -/
def sumTo (L : Nat → Nat) : Nat → Nat
  | 0 => 0
  | k + 1 => sumTo L k + L k

theorem sumTo_mono (L : Nat → Nat) {i j : Nat} (h : i ≤ j) : sumTo L i ≤ sumTo L j := by
  induction j with
  | zero => have : i = 0 := by omega
            subst this; exact Nat.le_refl _
  | succ j ih =>
    by_cases e : i = j + 1
    · subst e; exact Nat.le_refl _
    · have := ih (by omega)
      show _ ≤ sumTo L j + L j
      omega

/-- the slice (a, n) of slices: its i-th cell holds the slice (A i, L i, C i) -/
def Heads (w : World) (a : Option Addr) (n : Nat) (A : Nat → Option Addr) (L C : Nat → Nat) : Prop :=
  (a = none → n = 0) ∧ ∀ x, a = some x → ∀ i, i < n → w.cell? (x.add i) = some (.slice (A i) (L i) (C i))

theorem Heads.at_ {w : World} {a : Option Addr} {n : Nat} {A : Nat → Option Addr} {L C : Nat → Nat} (h : Heads w a n A L C) (hn : 0 < n) :
    ∃ b o, a = some ⟨b, o, none⟩ ∧ ∀ i, i < n → w.cell? ⟨b, o + i, none⟩ = some (.slice (A i) (L i) (C i)) := by
  cases a with
  | none => exact absurd (h.1 rfl) (by omega)
  | some x =>
    obtain ⟨b, o, s⟩ := x
    have e1 : s = none := by simpa [Addr.add] using World.cell?_spot (h.2 _ rfl 0 hn)
    subst e1
    exact ⟨b, o, rfl, fun i hi => by rw [← Lib.addr_add]; exact h.2 _ rfl i hi⟩

/-- how zzBytes ends -/
def Zz19 (l n : Nat) (L : Nat → Nat) (w : World) (e : Ending) (w' : World) : Prop := ∃ r : Bool, e = .returned (.bool r) ∧ (r = true → l ≤ 1048576 ∧ n ≤ 1048576 ∧ ∀ i, i < n → L i ≤ 1048576) ∧ w' = w
theorem Zz19.no (l n : Nat) (L : Nat → Nat) (w : World) : Zz19 l n L w (.returned (.bool false)) w := ⟨false, rfl, (fun h => by cases h), rfl⟩
theorem Zz19.yes {l n : Nat} {L : Nat → Nat} {w : World} (h1 : l ≤ 1048576) (h2 : n ≤ 1048576) (h3 : ∀ i, i < n → L i ≤ 1048576) : Zz19 l n L w (.returned (.bool true)) w := ⟨true, rfl, fun _ => ⟨h1, h2, h3⟩, rfl⟩

set_option maxHeartbeats 1600000 in
theorem zz19_some (a : Option Addr) (l c : Nat) (N : Int) (b o n d : Nat) (A : Nat → Option Addr) (L C : Nat → Nat) (w : World) (hm : l ≤ maxLen) (hn : n ≤ maxLen)
    (h : ∀ i, i < n → w.cell? ⟨b, o + i, none⟩ = some (.slice (A i) (L i) (C i))) (hL : ∀ i, i < n → L i ≤ maxLen) :
    Calls Try.prog 19 #[.slice a l c, .int .i64 N, .slice (some ⟨b, o, none⟩) n d] w fun e w' => Zz19 l n L w e w' := by
  unfold maxLen at hm hn hL
  have H := Lib.hid h
  have HL := Lib.hid hL
  clear h hL
  by_cases h1 : 1048576 < l
  · go_enter Try.func19, Try.ntmps19
    go_wp2
    go_ret
    exact Zz19.no _ _ _ _
  by_cases h2 : 1048576 < n
  · go_enter Try.func19, Try.ntmps19
    go_wp2
    go_ret
    exact Zz19.no _ _ _ _
  by_cases h3 : 1048576 < l + n
  · go_enter Try.func19, Try.ntmps19
    go_wp2
    go_ret
    exact Zz19.no _ _ _ _
  have h1 : l ≤ 1048576 := by omega
  have h2 : n ≤ 1048576 := by omega
  have h3 : l + n ≤ 1048576 := by omega
  go_enter Try.func19, Try.ntmps19
  go_wp2
  go_loop [7, 8] (fun s i => ∃ k t : Nat, k ≤ n ∧ t ≤ 1048576 ∧ i = .int .i64 k ∧ s = .int .i64 t ∧ ∀ j, j < k → L j ≤ 1048576) (fun _ i => n - (intOf i).toNat)
  case atStart => exact ⟨0, l + n, by omega, by omega, rfl, by go_num, fun j hj => absurd hj (Nat.not_lt_zero _)⟩
  case round =>
    obtain ⟨k, t, hk, ht, rfl, rfl, hj⟩ := hrel
    have HJ := Lib.hid hj
    clear hj
    by_cases hlt : k < n
    · have hc := H.out k hlt
      have hl := HL.out k hlt
      have HK : Hid (L k = L k) := rfl
      generalize hx : L k = x at hc hl HK
      have HX := Lib.hid hx
      clear hx
      by_cases g1 : 1048576 < x
      · go_wp2
        go_ret
        exact Zz19.no _ _ _ _
      by_cases g2 : 1048576 < t + x
      · have g1 : x ≤ 1048576 := by omega
        go_wp2
        go_ret
        exact Zz19.no _ _ _ _
      have g1 : x ≤ 1048576 := by omega
      have g2 : t + x ≤ 1048576 := by omega
      go_wp2
      go_round
      case rel =>
        refine ⟨k + 1, t + x, by omega, by omega, by go_num, by go_num, fun j hj => ?_⟩
        by_cases e : j = k
        · rw [e, HX.out]; exact g1
        · exact HJ.out j (by omega)
      case measure => simp [intOf]; omega
    · go_wp2
      go_ret
      exact Zz19.yes h1 h2 (fun i hi => HJ.out i (by omega))

set_option maxHeartbeats 1600000 in
theorem zz19_none (a b : Option Addr) (l c d : Nat) (N : Int) (L : Nat → Nat) (w : World) (hm : l ≤ maxLen) :
    Calls Try.prog 19 #[.slice a l c, .int .i64 N, .slice b 0 d] w fun e w' => Zz19 l 0 L w e w' := by
  unfold maxLen at hm
  by_cases h1 : 1048576 < l
  · go_enter Try.func19, Try.ntmps19
    go_wp2
    go_ret
    exact Zz19.no _ _ _ _
  have h1 : l ≤ 1048576 := by omega
  go_enter Try.func19, Try.ntmps19
  go_wp2
  go_loop [7, 8] (fun s i => i = .int .i64 0) (fun _ i => 0)
  case atStart => rfl
  case round =>
    subst hrel
    go_wp2
    go_ret
    exact Zz19.yes h1 (by omega) (fun i hi => absurd hi (Nat.not_lt_zero _))

theorem zz19 (a b : Option Addr) (l c n d : Nat) (N : Int) (A : Nat → Option Addr) (L C : Nat → Nat) (w : World) (hm : l ≤ maxLen) (hn : n ≤ maxLen) (h : Heads w b n A L C) (hL : ∀ i, i < n → L i ≤ maxLen) :
    Calls Try.prog 19 #[.slice a l c, .int .i64 N, .slice b n d] w fun e w' => Zz19 l n L w e w' := by
  by_cases h0 : n = 0
  · subst h0
    exact zz19_none a b l c d N L w hm
  · obtain ⟨bb, o, rfl, hc⟩ := h.at_ (by omega)
    exact zz19_some a l c N bb o n d A L C w hm hn hc hL
end Go.Proofs.Qxb6604611a
