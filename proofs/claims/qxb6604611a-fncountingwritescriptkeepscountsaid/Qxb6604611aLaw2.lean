import Derived.Test.Qxb6604611aLaw2a
namespace Go.Proofs.Qxb6604611a
open Go.RowKit

set_option maxHeartbeats 3200000 in
set_option maxRecDepth 100000 in
theorem law2 (sW : WriteSaid) (sB : BytesSaid) (a0 a2 : Option Addr) (l0 c0 n d : Nat) (N : Int) (A : Nat → Option Addr) (L C : Nat → Nat) (z0 : List Int) (Z : Nat → List Int) (w : World)
    (hN : wrap64 N = N) (hm0 : l0 ≤ maxLen) (hn : n ≤ maxLen) (hLm : ∀ i, i < n → L i ≤ maxLen)
    (h0 : Holds w a0 l0 z0) (hc0 : a0 = none → c0 = 0) (hH : Heads w a2 n A L C) (hd : a2 = none → d = 0) (hP : Parts w n A L C Z) :
    Calls Try.prog 5 #[.slice a0 l0 c0, .int .i64 N, .slice a2 n d] w fun e w' => e = .returned (.bool true) ∧ Below w.heap.size w w' := by
  have HN := Lib.hid hN
  have HLm := Lib.hid hLm
  have H0 := Lib.hid h0
  have HC0 := Lib.hid hc0
  have HH := Lib.hid hH
  have HD := Lib.hid hd
  have HP := Lib.hid hP
  clear hN hLm h0 hc0 hH hd hP
  go_enter Try.func5, Try.ntmps5
  go_wp2_with (go_at_call 19; refine (zz19 _ _ _ _ _ _ _ A L C _ hm0 hn HH.out HLm.out).mono ?_; rintro e w1 ⟨r, rfl, hr, rfl⟩; refine Hid.out ?_)
  refine Lib.hid ?_
  cases r with
  | false =>
    clear hr
    go_wp2
    go_ret
    exact ⟨rfl, Below.refl _ _⟩
  | true =>
    obtain ⟨hl, hnn, hLL⟩ := hr rfl
    have HLL := Lib.hid hLL
    clear hr hLL HLm hm0 hn
    by_cases h65 : 65536 < n
    · go_wp2
      go_ret
      exact ⟨rfl, Below.refl _ _⟩
    have h65 : n ≤ 65536 := by omega
    go_wp2
    go_loop [7, 8] (fun s i => ∃ k : Nat, k ≤ n ∧ i = .int .i64 k ∧ s = .int .i64 ((l0 + 24 * k + sumTo L k : Nat) : Int) ∧ l0 + 24 * k + sumTo L k ≤ 1048576) (fun _ i => n - (intOf i).toNat)
    case atStart => exact ⟨0, Nat.zero_le _, rfl, rfl, hl⟩
    case round =>
      obtain ⟨k, hk, rfl, rfl, hs⟩ := hrel
      by_cases hlt : k < n
      · obtain ⟨b, o, rfl, hcell⟩ := HH.out.at_ (by omega)
        have hc := hcell k hlt
        have hlk := HLL.out k hlt
        clear hcell
        generalize ht : l0 + 24 * k + sumTo L k = t at hs
        generalize hx : L k = x at hc hlk
        have HT := Lib.hid ht
        have HX := Lib.hid hx
        clear ht hx
        by_cases g : 1048576 < t + (24 + x)
        · go_wp2
          go_ret
          exact ⟨rfl, Below.refl _ _⟩
        · have g : t + (24 + x) ≤ 1048576 := by omega
          go_wp2
          go_round
          case rel =>
            have e : l0 + 24 * (k + 1) + sumTo L (k + 1) = t + (24 + x) := by
              have h1 := HT.out
              have h2 := HX.out
              show l0 + 24 * (k + 1) + (sumTo L k + L k) = _
              omega
            exact ⟨k + 1, by omega, by go_num, by rw [e]; go_num, by rw [e]; exact g⟩
          case measure => simp [intOf]; omega
      · have hkn : k = n := by omega
        subst hkn
        have hS : Setup N l0 k z0 L Z := ⟨HN.out, H0.out.1, fun i hi => (HP.out i hi).1.1, hs⟩
        go_wp2_with (go_at_call 13; refine (clone_own _ _ _ _ _ H0.out HC0.out (by omega)).mono ?_; rintro e w2 ⟨a1, c1, rfl, o1, m1, b1⟩; refine Hid.out ?_)
        refine Lib.hid ?_
        have O1 := Lib.hid o1
        have M1 := Lib.hid m1
        have HH1 := Lib.hid (HH.out.below b1)
        have HP1 := Lib.hid (HP.out.below b1)
        clear o1 m1 hlt hk hs HH HP H0 HC0
        go_wp2_with (go_at_call 20; refine (chunks _ _ _ _ _ _ _ _ (by omega) HD.out HH1.out HLL.out HP1.out).mono ?_; rintro e w3 ⟨ac, cc, A', C', rfl, hh3, hp3, hl3, b3⟩; refine Hid.out ?_)
        refine Lib.hid ?_
        have O1 := Lib.hid (own_below O1.out b3)
        have HH3 := Lib.hid hh3
        have HP3 := Lib.hid hp3
        have HL3 := Lib.hid hl3
        have BB : Below w1.heap.size w1 w3 := b1.trans (b3.mono b1.size)
        clear hh3 hp3 hl3 HH1 HP1 HD b1 b3 HLL
        go_wp2_with (go_at_call 13; refine (clone_own _ _ _ _ _ (own_holds O1.out) M1.out (by omega)).mono ?_; rintro e w4 ⟨a4, c4, rfl, o4, m4, b4⟩; refine Hid.out ?_)
        refine Lib.hid ?_
        have O4 := Lib.hid o4
        have HB4 : w3.heap.size ≤ w4.heap.size := b4.size
        clear o4 m4
        go_wp2_with (go_at_call 14; refine (newbuf_own w3.heap.size _ _ _ _ z0 _ HB4 O4.out).mono ?_; rintro e w5 ⟨rfl, i5, q5, b5, s5⟩; refine Hid.out ?_)
        refine Lib.hid ?_
        have S0 : St w3.heap.size w4.heap.size N z0 L Z w3 0 w5 := by
          refine ⟨by rw [show z0 ++ cat Z 0 = z0 from List.append_nil z0]; exact i5, ?_, b4.trans (b5.mono HB4), s5⟩
          rw [q5, show ((sumTo L 0 : Nat) : Int) = 0 from rfl, Int.add_zero, hS.hN]
        have SS := Lib.hid S0
        have HS := Lib.hid hS
        clear i5 q5 b5 s5 S0 hS O4 b4
        generalize hB : w3.heap.size = B at HB4 SS
        generalize hb : w4.heap.size = b at HB4 SS
        go_wp2
        have EB := Lib.hid hB
        clear hB hb
        go_loopw [10, 11] (fun t i wr => ∃ j : Nat, j ≤ k ∧ i = .int .i64 j ∧ t = .int .i64 (sumTo L j : Nat) ∧ St B b N z0 L Z w3 j wr) (fun _ i _ => k - (intOf i).toNat)
        case atStart => exact ⟨0, Nat.zero_le _, rfl, rfl, SS.out⟩
        case round =>
          obtain ⟨j, hj, rfl, rfl, hSt⟩ := hrel
          have ST := Lib.hid hSt
          clear hSt SS
          have hsum := HS.out.hsum
          by_cases hlt : j < k
          · obtain ⟨bb, o, rfl, hcell⟩ := HH3.out.at_ (by omega)
            have hc3 := hcell j hlt
            have hbb : bb < B := by
              have := World.block_lt_of_cell? w3 _ hc3
              rw [EB.out] at this
              exact this
            have hcr : wr.cell? ⟨bb, o + j, none⟩ = some (.slice (A' j) (L j) (C' j)) := by
              rw [ST.out.2.2.1.cell (p := ⟨bb, o + j, none⟩) hbb]; exact hc3
            have hsx : sumTo L j + L j ≤ 1048576 := by
              have := sumTo_mono L (i := j + 1) (j := k) (by omega)
              have e : sumTo L (j + 1) = sumTo L j + L j := rfl
              omega
            have hlx : l0 + (sumTo L j + L j) ≤ 1048576 := by
              have := sumTo_mono L (i := j + 1) (j := k) (by omega)
              have e : sumTo L (j + 1) = sumTo L j + L j := rfl
              omega
            have hHj := Lib.hid ((HP3.out j hlt).1.below (w' := wr) (by rw [EB.out]; exact ST.out.2.2.1))
            have hCj := Lib.hid (HP3.out j hlt).2
            have hAj : Hid (∀ a, A' j = some a → a.block < B) := fun a ha => by have := HL3.out j hlt a ha; rw [EB.out] at this; exact this
            have hlen : (z0 ++ cat Z j).length = l0 + sumTo L j := by rw [List.length_append, HS.out.hz, cat_length HS.out.hZ j hj]
            have hlen2 : (z0 ++ cat Z j ++ Z j).length = l0 + (sumTo L j + L j) := by rw [List.length_append, hlen, HS.out.hZ j hlt, Nat.add_assoc]
            have HLen := Lib.hid hlen
            have HLen2 := Lib.hid hlen2
            have hBs : B ≤ wr.heap.size := by have := ST.out.2.2.2; omega
            clear hcell hc3 hlen hlen2 hsum
            go_wp2_with (go_at_call 15; refine (write_own sW B b (b + 1) (z0 ++ cat Z j) (Z j) _ _ _ _ wr ST.out.1 ST.out.2.1 rfl hBs hHj.out hCj.out hAj.out (by rw [HLen.out]; omega)).mono ?_; rintro e w6 ⟨rfl, i6, b6, q6⟩; refine Hid.out ?_)
            refine Lib.hid ?_
            have hc6 : w6.cell? ⟨bb, o + j, none⟩ = some (.slice (A' j) (L j) (C' j)) := by
              rw [b6.cell (p := ⟨bb, o + j, none⟩) hbb]; exact hcr
            have cN : w6.cell? ⟨b + 1, 1, none⟩ = some (.int .i64 (wrap64 (N + ((sumTo L j : Int) + (L j : Int))))) := by rw [Lib.cell_of_heap q6, ← wrap_step']; rfl
            have I6 := Lib.hid i6
            have B6 := Lib.hid b6
            have Q6 := Lib.hid q6
            clear i6 b6 q6 hcr hHj hCj hAj
            go_wp2_with (go_at_call 16; refine (countN _ _ _ cN).mono ?_; rintro e w7 ⟨rfl, rfl⟩; refine Hid.out ?_)
            refine Lib.hid ?_
            clear cN
            go_wp2_with (go_at_call 17; refine (bytes_own2 sB _ _ _ _ _ _ _ HLen2.out I6.out Q6.out).mono ?_; rintro e w8 ⟨a8, c8, rfl, -, q8, rfl⟩; refine Hid.out ?_)
            refine Lib.hid ?_
            have S2 := Lib.hid (st_next ST.out I6.out B6.out Q6.out q8)
            clear I6 B6 Q6 ST
            go_wp2
            go_roundw
            case rel => exact ⟨j + 1, by omega, by go_num, by rw [show sumTo L (j + 1) = sumTo L j + L j from rfl]; go_num, S2.out⟩
            case measure => simp [intOf]; omega
          · have hjk : j = k := by omega
            subst hjk
            have BF : Below w1.heap.size w1 wr := BB.trans ((ST.out.2.2.1.mono (by rw [← EB.out]; exact BB.size)))
            have P1 := Lib.hid (own_holds (own_below O1.out (w' := wr) (by rw [EB.out]; exact ST.out.2.2.1)))
            have hlen : (z0 ++ cat Z j).length = l0 + sumTo L j := by rw [List.length_append, HS.out.hz, cat_length HS.out.hZ j hj]
            have HLen := Lib.hid hlen
            have hsx : l0 + sumTo L j ≤ 1048576 := by omega
            have HWr : Hid (∀ i, i < j → Holds wr (A' i) (L i) (Z i)) := fun i hi => (HP3.out i hi).1.below (by rw [EB.out]; exact ST.out.2.2.1)
            have HHr : Hid (Heads wr ac j A' L C') := HH3.out.below (by rw [EB.out]; exact ST.out.2.2.1)
            clear hlen hsum hlt
            go_wp2_with (go_at_call 17; refine (bytes_own2 sB _ _ _ _ _ _ _ HLen.out ST.out.1 ST.out.2.1).mono ?_; rintro e w8 ⟨a8, c8, rfl, o8, q8, rfl⟩; refine Hid.out ?_)
            refine Lib.hid ?_
            have hv := own_split o8
            have O8 := Lib.hid o8
            clear o8 ST HP3 HH3 HL3 EB HB4 BB O1 HLen
            rcases hv with ⟨h0, hv⟩ | ⟨g, cap, hcap, hcm, hv⟩
            · simp only [Value.slice.injEq] at hv
              obtain ⟨rfl, -, rfl⟩ := hv
              have hl0 : l0 = 0 := by omega
              have hsj : sumTo L j = 0 := by omega
              have HSZ := Lib.hid (sumTo_zero hsj)
              subst hl0
              go_wp2_with (go_at_call 18; refine (equal_any _ _ _ _ _ [] _ (by omega) (Holds.zero _ _) (Holds.zero _ _)).mono ?_; rintro e w9 ⟨rfl, q9, rfl⟩; refine Hid.out ?_)
              refine Lib.hid ?_
              clear P1
              go_wp2
              go_loopw [15, 16] (fun off i wx => ∃ i' q : Nat, i' ≤ j ∧ i = .int .i64 i' ∧ off = .int .i64 0 ∧ wx = wr.drewN q) (fun _ i _ => j - (intOf i).toNat)
              case atStart => exact ⟨0, _, Nat.zero_le _, rfl, rfl, rfl⟩
              case round =>
                obtain ⟨i, q, hi, rfl, rfl, rfl⟩ := hrel
                by_cases hlt : i < j
                · obtain ⟨bb, o, rfl, hcell⟩ := HHr.out.at_ (by omega)
                  have hcr := hcell i hlt
                  have hLi : L i = 0 := by
                    have h1 := HSZ.out (i + 1) (by omega)
                    have e : sumTo L (i + 1) = sumTo L i + L i := rfl
                    omega
                  rw [hLi] at hcr
                  have hsl := slice_nil
                  have hw0 : IntKind.i64.wrap 0 = 0 := IntWalk.i64_in 0 (by omega)
                  clear hcell
                  go_wp2
                  go_quiet ((go_at_call 18; exact quiet_add (equal_any _ _ _ _ _ [] _ (by omega) (Holds.zero _ _) (Holds.zero _ _))))
                  go_wp2
                  go_roundw
                  case rel => exact ⟨i + 1, _, by omega, by go_num, rfl, rfl⟩
                  case measure => simp [intOf]; omega
                · go_wp2
                  go_ret
                  exact ⟨rfl, BF.trans (drewN_below _ _ _)⟩
            · simp only [Value.slice.injEq, true_and] at hv
              obtain ⟨rfl, rfl⟩ := hv
              have X1 : Hid (Holds wr (some ⟨g, 0, none⟩) l0 z0) := by
                have := own_part (w := wr) (xs := []) (ys := z0) (zs := cat Z j) O8.out
                rw [HS.out.hz] at this
                exact this
              go_wp2_with (go_at_call 18; refine (equal_any _ _ _ _ _ z0 _ (by omega) (X1.out.drewN _) (P1.out.drewN _)).mono ?_; rintro e w9 ⟨rfl, q9, rfl⟩; refine Hid.out ?_)
              refine Lib.hid ?_
              clear X1 P1
              go_wp2
              go_loopw [15, 16] (fun off i wx => ∃ i' q : Nat, i' ≤ j ∧ i = .int .i64 i' ∧ off = .int .i64 ((l0 + sumTo L i' : Nat) : Int) ∧ wx = wr.drewN q) (fun _ i _ => j - (intOf i).toNat)
              case atStart => exact ⟨0, _, Nat.zero_le _, rfl, rfl, rfl⟩
              case round =>
                obtain ⟨i, q, hi, rfl, rfl, rfl⟩ := hrel
                by_cases hlt : i < j
                · obtain ⟨bb, o, rfl, hcell⟩ := HHr.out.at_ (by omega)
                  have hcr := hcell i hlt
                  have hsi : l0 + (sumTo L i + L i) ≤ l0 + sumTo L j := by
                    have := sumTo_mono L (i := i + 1) (j := j) (by omega)
                    have e : sumTo L (i + 1) = sumTo L i + L i := rfl
                    omega
                  have X2 : Hid (Holds wr (some ⟨g, l0 + sumTo L i, none⟩) (L i) (Z i)) := by
                    obtain ⟨r, hr⟩ := cat_split Z i j hlt
                    have := own_part (w := wr) (xs := z0 ++ cat Z i) (ys := Z i) (zs := r) (by rw [List.append_assoc, List.append_assoc, ← List.append_assoc (cat Z i), ← hr]; exact O8.out)
                    rw [List.length_append, HS.out.hz, cat_length HS.out.hZ i (by omega), HS.out.hZ i hlt] at this
                    exact this
                  have HWi := Lib.hid (HWr.out i hlt)
                  obtain ⟨o', hsl, hX⟩ := slice_part wr g (l0 + sumTo L j) c8 (l0 + sumTo L i) (L i) (Z i) (↑l0 + ↑(sumTo L i)) (↑l0 + ↑(sumTo L i) + ↑(L i)) (by go_num) (by go_num) (by omega) X2.out
                  have HX := Lib.hid hX
                  have hw0 : IntKind.i64.wrap ((l0 : Int) + (sumTo L i : Int) + (L i : Int)) = (l0 : Int) + (sumTo L i : Int) + (L i : Int) := IntWalk.i64_in _ (by omega)
                  clear hcell X2 hX
                  go_wp2
                  go_quiet ((go_at_call 18; exact quiet_add (equal_any _ _ _ _ _ (Z i) _ (by omega) (HX.out.drewN _) (HWi.out.drewN _))))
                  go_wp2
                  go_roundw
                  case rel => exact ⟨i + 1, _, by omega, by go_num, by rw [show sumTo L (i + 1) = sumTo L i + L i from rfl]; go_num, rfl⟩
                  case measure => simp [intOf]; omega
                · go_wp2
                  go_ret
                  exact ⟨rfl, BF.trans (drewN_below _ _ _)⟩
end Go.Proofs.Qxb6604611a
