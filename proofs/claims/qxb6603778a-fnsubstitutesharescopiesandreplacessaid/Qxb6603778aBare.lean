import Derived.Test.Qxb6603778aFits
import Derived.Deep.Draws
import Derived.Deep.Slices
namespace Go.Proofs.Qxb6603778a
open Go.RowKit

/-- p is a bare name: a node of kind 0 without subterms, named nm -/
def Bare (w : World) (B : Nat) (p : Option Addr) (nm : ByteArray) : Prop := ∃ (b o : Nat) (F : Flds) (la : Option Addr) (c : Nat), p = some ⟨b, o, none⟩ ∧ b < B ∧ NodeCells w b o F la 0 c ∧ F.kind = 0 ∧ F.name = nm

theorem Bare.agree {w w' : World} {B s : Nat} {p : Option Addr} {nm : ByteArray} (h : Bare w B p nm) (hA : Agree B s w w') : Bare w' B p nm := by
  obtain ⟨b, o, F, la, c, h1, h2, h3, h4, h5⟩ := h
  exact ⟨b, o, F, la, c, h1, h2, h3.agree hA h2, h4, h5⟩

def BlEnd (w : World) (B : Nat) (p : Option Addr) (e : Ending) (w' : World) : Prop := ∃ r : Bool, e = .returned (.bool r) ∧ (r = true → ∃ nm, Bare w B p nm) ∧ w' = w
theorem BlEnd.no (w : World) (B : Nat) (p : Option Addr) : BlEnd w B p (.returned (.bool false)) w := ⟨false, rfl, (fun h => by cases h), rfl⟩

theorem bareLeaf_any (f B L : Nat) (p : Option Addr) (w : World) (hp : NodeAt w B L f p) : Calls Try.prog 18 #[.pointer p] w fun e w' => BlEnd w B p e w' := by
  have nil : Calls Try.prog 18 #[.pointer none] w fun e w' => BlEnd w B none e w' := by
    go_enter Try.func18, Try.ntmps18
    go_wp2_with fail
    go_ret
    exact BlEnd.no _ _ _
  cases f with
  | zero => obtain rfl : p = none := hp; exact nil
  | succ f =>
    rcases hp with rfl | ⟨b, o, F, la, n, c, P, rfl, hB, hC, -⟩
    · exact nil
    clear nil
    have HC := Lib.hid hC
    obtain ⟨c0, -, -, -, -, -, -, c7⟩ := hC
    by_cases hk : F.kind = 0
    · have hk1 : (F.kind == 0) = true := beq_iff_eq.2 hk
      have HK := Lib.hid hk
      clear hk
      by_cases hn : n = 0
      · subst hn
        go_enter Try.func18, Try.ntmps18
        go_wp2_with fail
        go_ret
        exact ⟨true, rfl, fun _ => ⟨F.name, b, o, F, la, c, rfl, hB, HC.out, HK.out, rfl⟩, rfl⟩
      · have hn1 : ((n : Int) == 0) = false := beq_eq_false_iff_ne.2 (by omega)
        go_enter Try.func18, Try.ntmps18
        go_wp2_with fail
        go_ret
        exact BlEnd.no _ _ _
    · have hk1 : (F.kind == 0) = false := beq_eq_false_iff_ne.2 hk
      clear hk
      go_enter Try.func18, Try.ntmps18
      go_wp2_with fail
      go_ret
      exact BlEnd.no _ _ _

def AbEnd (w : World) (B : Nat) (n : Nat) (P : Nat → Option Addr) (e : Ending) (w' : World) : Prop := ∃ r : Bool, e = .returned (.bool r) ∧ (r = true → ∀ i, i < n → ∃ nm, Bare w B (P i) nm) ∧ w' = w

set_option maxHeartbeats 1600000 in
theorem allBare_any (f B L : Nat) (la : Option Addr) (n c : Nat) (P : Nat → Option Addr) (w : World) (hn : n ≤ 131072) (h : NList w B L f la n P) : Calls Try.prog 6 #[.slice la n c] w fun e w' => AbEnd w B n P e w' := by
  have H := Lib.hid h
  clear h
  go_enter Try.func6, Try.ntmps6
  go_wp2_with fail
  go_loop [3] (fun i => ∃ k : Nat, k ≤ n ∧ i = .int .i64 k ∧ ∀ j, j < k → ∃ nm, Bare w B (P j) nm) (fun i => n - (intOf i).toNat)
  case atStart => exact ⟨0, Nat.zero_le _, rfl, fun j hj => absurd hj (Nat.not_lt_zero _)⟩
  case round =>
    obtain ⟨k, hk, rfl, hj⟩ := hrel
    have HJ := Lib.hid hj
    clear hj
    by_cases hlt : k < n
    · obtain ⟨kb, ko, rfl, hkB, hkc⟩ := H.out.1.at_ (by omega)
      have hck := hkc k hlt
      clear hkc
      go_wp2_with (go_at_call 18; refine (bareLeaf_any f B L (P k) w (H.out.2 k hlt)).mono ?_; rintro e w1 ⟨r, rfl, hr, rfl⟩; refine Hid.out ?_)
      refine Lib.hid ?_
      cases r with
      | false =>
        clear hr
        go_wp2_with fail
        go_ret
        exact ⟨false, rfl, (fun h => by cases h), rfl⟩
      | true =>
        have HJ2 : Hid (∀ j, j < k + 1 → ∃ nm, Bare w1 B (P j) nm) := fun j hj => by
          by_cases e : j = k
          · rw [e]; exact hr rfl
          · exact HJ.out j (by omega)
        clear hr HJ
        go_wp2_with fail
        go_round
        case rel => exact ⟨k + 1, by omega, by go_num, HJ2.out⟩
        case measure => simp [intOf]; omega
    · go_wp2_with fail
      go_ret
      exact ⟨true, rfl, fun _ i hi => HJ.out i (by omega), rfl⟩

theorem str_eq (a b : ByteArray) (h : a = b) : (a.toList == b.toList) = true := by rw [h, beq_self_eq_true]
theorem str_ne (a b : ByteArray) (h : a ≠ b) : (a.toList == b.toList) = false := by
  rw [beq_eq_false_iff_ne]
  intro e
  apply h
  rw [ByteArray.toList_eq, ByteArray.toList_eq] at e
  cases a; cases b
  have := Array.toList_inj.1 e
  simp only at this
  rw [this]

def DnEnd (w : World) (n : Nat) (N : Nat → ByteArray) (e : Ending) (w' : World) : Prop := ∃ r : Bool, e = .returned (.bool r) ∧ (r = true → ∀ i j, i < j → j < n → N i ≠ N j) ∧ ∃ q, w' = w.drewN q

set_option maxHeartbeats 1600000 in
theorem distinct_any (B : Nat) (la : Option Addr) (n c : Nat) (P : Nat → Option Addr) (N : Nat → ByteArray) (w : World) (hn : n ≤ 131072) (h : NKids w B la n P) (hb : ∀ i, i < n → Bare w B (P i) (N i)) :
    Calls Try.prog 7 #[.slice la n c] w fun e w' => DnEnd w n N e w' := by
  have H := Lib.hid h
  have HB := Lib.hid hb
  clear h hb
  go_enter Try.func7, Try.ntmps7
  go_wp2_with fail
  go_loopw [3] (fun i wr => ∃ k q : Nat, k ≤ n ∧ i = .int .i64 k ∧ wr = w.drewN q ∧ ∀ x y, x < k → x < y → y < n → N x ≠ N y) (fun i _ => n - (intOf i).toNat)
  case atStart => exact ⟨0, 0, Nat.zero_le _, rfl, rfl, fun x y hx => absurd hx (Nat.not_lt_zero _)⟩
  case round =>
    obtain ⟨k, q, hk, rfl, rfl, hd⟩ := hrel
    have HD := Lib.hid hd
    clear hd
    by_cases hlt : k < n
    · obtain ⟨kb, ko, rfl, hkB, hkc⟩ := H.out.at_ (by omega)
      have HKC := Lib.hid hkc
      have hck := hkc k hlt
      clear hkc
      obtain ⟨b1, o1, F1, la1, d1, e1, -, hc1, -, hN1⟩ := HB.out k hlt
      rw [e1] at hck
      have hcn := hc1.2.1
      rw [hN1] at hcn
      clear hc1 e1 hN1
      go_wp2_with fail
      go_loopw [4] (fun j wr => ∃ l q : Nat, k + 1 ≤ l ∧ l ≤ n ∧ j = .int .i64 l ∧ wr = w.drewN q ∧ ∀ y, k < y → y < l → N k ≠ N y) (fun j _ => n - (intOf j).toNat)
      case atStart => exact ⟨k + 1, q, Nat.le_refl _, by omega, by go_num, rfl, fun y h1 h2 => by omega⟩
      case round =>
        obtain ⟨l, q2, hl1, hl2, rfl, rfl, hy⟩ := hrel
        have HY := Lib.hid hy
        clear hy
        by_cases hlt2 : l < n
        · have hcl := HKC.out l hlt2
          obtain ⟨b2, o2, F2, la2, d2, e2, -, hc2, -, hN2⟩ := HB.out l hlt2
          rw [e2] at hcl
          have hcn2 := hc2.2.1
          rw [hN2] at hcn2
          clear hc2 e2 hN2
          by_cases hne : N k = N l
          · have hs := str_eq _ _ hne
            clear hne
            go_wp2_with fail
            go_quiet (fail)
            go_wp2_with fail
            go_ret
            exact ⟨false, rfl, (fun h => by cases h), _, World.drewN_drewN _ _ _⟩
          · have hs := str_ne _ _ hne
            have HY2 : Hid (∀ y, k < y → y < l + 1 → N k ≠ N y) := fun y h1 h2 => by
              by_cases e : y = l
              · rw [e]; exact hne
              · exact HY.out y h1 (by omega)
            clear hne HY
            go_wp2_with fail
            go_quiet (fail)
            go_wp2_with fail
            go_roundw
            case rel => exact ⟨l + 1, _, by omega, by omega, by go_num, rfl, HY2.out⟩
            case measure => simp [intOf]; omega
        · have HD2 : Hid (∀ x y, x < k + 1 → x < y → y < n → N x ≠ N y) := fun x y h1 h2 h3 => by
            by_cases e : x = k
            · rw [e]; exact HY.out y (by omega) (by omega)
            · exact HD.out x y (by omega) h2 h3
          clear HD HY
          go_wp2_with fail
          go_roundw
          case rel => exact ⟨k + 1, _, by omega, by go_num, rfl, HD2.out⟩
          case measure => simp [intOf]; omega
    · go_wp2_with fail
      go_ret
      exact ⟨true, rfl, fun _ i j h1 h2 => HD.out i j (by omega) h1 h2, _, rfl⟩
end Go.Proofs.Qxb6603778a
