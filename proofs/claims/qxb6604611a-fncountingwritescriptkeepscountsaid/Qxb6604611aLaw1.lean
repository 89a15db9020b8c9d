import Derived.Test.Qxb6604611aMain
import Derived.Lib.BufferSrc
namespace Go.Proofs.Qxb6604611a
open Go.RowKit

theorem drewN_below (B : Nat) (w : World) (n : Nat) : Below B w (w.drewN n) := ⟨rfl, rfl, rfl, Nat.le_refl _, fun _ _ => rfl⟩

theorem Holds.below {w w' : World} {a : Option Addr} {n : Nat} {zs : List Int} (h : Holds w a n zs) (hb : Below w.heap.size w w') : Holds w' a n zs := by
  obtain ⟨e1, e2, e3⟩ := h
  exact ⟨e1, e2, fun x hx i hi => by rw [hb.cell (p := x.add i) (World.block_lt_of_cell? w _ (e3 x hx i hi))]; exact e3 x hx i hi⟩

theorem Holds.drewN {w : World} {a : Option Addr} {n : Nat} {zs : List Int} (h : Holds w a n zs) (q : Nat) : Holds (w.drewN q) a n zs := h
theorem Holds.zero (w : World) (a : Option Addr) : Holds w a 0 [] := ⟨rfl, fun _ => rfl, fun _ _ _ hi => absurd hi (Nat.not_lt_zero _)⟩

set_option maxHeartbeats 800000 in
theorem law1_big (a0 a2 : Option Addr) (n0 c0 n2 c2 : Nat) (N : Int) (w : World) (hm0 : n0 ≤ maxLen) (hm2 : n2 ≤ maxLen) (h : 1048576 < n0 + n2) :
    Calls Try.prog 4 #[.slice a0 n0 c0, .int .i64 N, .slice a2 n2 c2] w fun e w' => e = .returned (.bool true) ∧ Below w.heap.size w w' := by
  go_enter Try.func4, Try.ntmps4
  go_wp2_with (go_at_call 12; refine (zz_no _ _ _ _ _ _ _ _ h hm0 hm2).mono ?_; rintro e w1 ⟨rfl, rfl⟩)
  go_ret
  exact ⟨rfl, Below.refl _ _⟩

set_option maxHeartbeats 800000 in
theorem law1_mid (a0 a2 : Option Addr) (n0 c0 n2 c2 : Nat) (N : Int) (w : World) (h : n0 + n2 ≤ 1048576) (h2 : 524288 < n0 ∨ 524288 < n2) :
    Calls Try.prog 4 #[.slice a0 n0 c0, .int .i64 N, .slice a2 n2 c2] w fun e w' => e = .returned (.bool true) ∧ Below w.heap.size w w' := by
  rcases h2 with h2 | h2
  · go_enter Try.func4, Try.ntmps4
    go_wp2_with (go_at_call 12; refine (zz_yes _ _ _ _ _ _ _ _ h).mono ?_; rintro e w1 ⟨rfl, rfl⟩)
    go_ret
    exact ⟨rfl, Below.refl _ _⟩
  · go_enter Try.func4, Try.ntmps4
    go_wp2_with (go_at_call 12; refine (zz_yes _ _ _ _ _ _ _ _ h).mono ?_; rintro e w1 ⟨rfl, rfl⟩)
    go_ret
    exact ⟨rfl, Below.refl _ _⟩

set_option maxHeartbeats 1600000 in
theorem law1_small (sW : WriteSaid) (sB : BytesSaid) (a0 a2 : Option Addr) (n0 c0 n2 c2 : Nat) (z0 z2 : List Int) (N : Int) (w : World) (k0 : n0 ≤ 524288) (k2 : n2 ≤ 524288)
    (h0 : Holds w a0 n0 z0) (hc0 : a0 = none → c0 = 0) (h2 : Holds w a2 n2 z2) (hc2 : a2 = none → c2 = 0) :
    Calls Try.prog 4 #[.slice a0 n0 c0, .int .i64 N, .slice a2 n2 c2] w fun e w' => e = .returned (.bool true) ∧ Below w.heap.size w w' := by
  have H0 := Lib.hid h0
  have H2 := Lib.hid h2
  have HC0 := Lib.hid hc0
  have HC2 := Lib.hid hc2
  clear h0 h2 hc0 hc2
  go_enter Try.func4, Try.ntmps4
  go_wp2_with (go_at_call 12; refine (zz_yes _ _ _ _ _ _ _ _ (by omega)).mono ?_; rintro e w0 ⟨rfl, rfl⟩; refine Hid.out ?_)
  refine Lib.hid ?_
  go_wp2_with (go_at_call 13; refine (clone_own _ _ _ _ _ H0.out HC0.out (by omega)).mono ?_; rintro e w1 ⟨a1, c1, rfl, o1, m1, b1⟩; refine Hid.out ?_)
  refine Lib.hid ?_
  have H2' := H2.out.below b1
  have O1 := Lib.hid o1
  have M1 := Lib.hid m1
  have H2 := Lib.hid H2'
  clear o1 m1 H2' H0 HC0
  go_wp2_with (go_at_call 13; refine (clone_own _ _ _ _ _ H2.out HC2.out (by omega)).mono ?_; rintro e w2 ⟨a3, c3, rfl, o3, m3, b2⟩; refine Hid.out ?_)
  refine Lib.hid ?_
  have O1 := Lib.hid (own_below O1.out b2)
  have O3 := Lib.hid o3
  have M3 := Lib.hid m3
  clear o3 m3 H2 HC2
  go_wp2_with (go_at_call 13; refine (clone_own _ _ _ _ _ (own_holds O1.out) M1.out (by omega)).mono ?_; rintro e w3 ⟨a4, c4, rfl, o4, m4, b3⟩; refine Hid.out ?_)
  refine Lib.hid ?_
  have O4 := Lib.hid o4
  have HB4 : w2.heap.size ≤ w3.heap.size := b3.size
  clear o4 m4
  go_wp2_with (go_at_call 14; refine (newbuf_own w2.heap.size _ _ _ _ z0 _ HB4 O4.out).mono ?_; rintro e w4 ⟨rfl, i4, q4, b4, s4⟩; refine Hid.out ?_)
  refine Lib.hid ?_
  have B4 := b3.trans (b4.mono HB4)
  have HB5 : w2.heap.size ≤ w4.heap.size := B4.size
  have I4 := Lib.hid i4
  have Q4 := Lib.hid q4
  clear i4 q4 b4 O4
  go_wp2_with (go_at_call 15; refine (write_own sW w2.heap.size w3.heap.size _ z0 z2 _ _ _ N w4 I4.out Q4.out rfl HB5 (own_holds (own_below O3.out B4)) M3.out (own_lt O3.out) (by have := (own_holds O1.out).1; omega)).mono ?_; rintro e w5 ⟨rfl, i5, b5, q5⟩; refine Hid.out ?_)
  refine Lib.hid ?_
  have B5 := B4.trans b5
  have I5 := Lib.hid i5
  have Q5 := Lib.hid q5
  have cN : w5.cell? ⟨w3.heap.size + 1, 1, none⟩ = some (.int .i64 (wrap64 (N + n2))) := by rw [Lib.cell_of_heap q5]; rfl
  clear i5 q5 b5 I4 Q4
  go_wp2_with (go_at_call 16; refine (countN _ _ _ cN).mono ?_; rintro e w6 ⟨rfl, rfl⟩; refine Hid.out ?_)
  refine Lib.hid ?_
  clear cN
  go_wp2_with (go_at_call 17; refine (bytes_own sB _ _ _ _ _ _ I5.out Q5.out).mono ?_; rintro e w7 ⟨v, rfl, o7, q7, rfl⟩; refine Hid.out ?_)
  refine Lib.hid ?_
  have z0l := (own_holds O1.out).1
  have z2l := (own_holds O3.out).1
  have P1 := Lib.hid (own_holds (own_below O1.out B5))
  have P3 := Lib.hid (own_holds (own_below O3.out B5))
  have BF : Below w0.heap.size w0 w6 := (b1.trans (b2.mono b1.size)).trans (B5.mono (Nat.le_trans b1.size b2.size))
  rw [List.length_append, z0l, z2l] at o7
  have Z0 := Lib.hid z0l
  have Z2 := Lib.hid z2l
  clear I5 Q5 B5 B4 HB4 HB5 s4 b3 z0l z2l O1 O3 b2 b1
  have hv := own_split o7
  have O7 := Lib.hid o7
  clear o7
  rcases hv with ⟨hn, rfl⟩ | ⟨g, cap, hcap, hcm, rfl⟩
  · have h0 : n0 = 0 := by omega
    have h2 : n2 = 0 := by omega
    clear hn
    subst h0 h2
    go_wp2_with (go_at_call 18; refine (equal_any _ _ _ _ _ [] _ (by omega) (Holds.zero _ _) (Holds.zero _ _)).mono ?_; rintro e w8 ⟨rfl, q8, rfl⟩)
    go_ret
    exact ⟨rfl, BF.trans (drewN_below _ _ _)⟩
  · have X1 : Hid (Holds w6 (some ⟨g, 0, none⟩) n0 z0) := by
      have := own_part (w := w6) (xs := []) (ys := z0) (zs := z2) O7.out
      rw [Z0.out] at this
      exact this
    have X2 : Hid (Holds w6 (some ⟨g, n0, none⟩) n2 z2) := by
      have := own_part (w := w6) (xs := z0) (ys := z2) (zs := []) (by rw [List.append_nil]; exact O7.out)
      rw [Z0.out, Z2.out] at this
      exact this
    clear O7 Z0 
    by_cases hcn : cap = n0
    · have h2 : n2 = 0 := by omega
      clear Z2
      subst hcn h2
      go_wp2_with (go_at_call 18; refine (equal_any _ _ _ _ _ z0 _ (by omega) (X1.out.drewN _) (P1.out.drewN _)).mono ?_; rintro e w8 ⟨rfl, q8, rfl⟩; refine Hid.out ?_)
      refine Lib.hid ?_
      go_wp2_with (go_at_call 18; refine (equal_any _ _ _ _ _ [] _ (by omega) (Holds.zero _ _) (Holds.zero _ _)).mono ?_; rintro e w9 ⟨rfl, q9, rfl⟩)
      go_ret
      exact ⟨rfl, BF.trans (drewN_below _ _ _)⟩
    · go_wp2_with (go_at_call 18; refine (equal_any _ _ _ _ _ z0 _ (by omega) (X1.out.drewN _) (P1.out.drewN _)).mono ?_; rintro e w8 ⟨rfl, q8, rfl⟩; refine Hid.out ?_)
      refine Lib.hid ?_
      go_wp2_with (go_at_call 18; refine (equal_any _ _ _ _ _ z2 _ (by omega) (X2.out.drewN _) (P3.out.drewN _)).mono ?_; rintro e w9 ⟨rfl, q9, rfl⟩)
      go_ret
      exact ⟨rfl, BF.trans (drewN_below _ _ _)⟩
end Go.Proofs.Qxb6604611a
