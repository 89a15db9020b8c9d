import Derived.Test.Qxb6003568aSplit
import Derived.Deep.Draws
namespace Go.Proofs.Qxb6003568a
open Go.RowKit

theorem map_data_inj : ∀ {ps xs : List ByteArray}, ps.map (·.data.toList) = xs.map (·.data.toList) → ps = xs := by
  intro ps
  induction ps with
  | nil => intro xs h; cases xs with
    | nil => rfl
    | cons x r => simp at h
  | cons p ps ih => intro xs h; cases xs with
    | nil => simp at h
    | cons x r =>
      simp only [List.map_cons, List.cons.injEq] at h
      have e : p = x := by
        cases p; cases x
        have := Array.toList_inj.1 h.1
        simp only at this
        rw [this]
      rw [e, ih h.2]

theorem parts_back {xs ps : List ByteArray} (hne : xs ≠ []) (hN : ∀ x ∈ xs, NoSep x.data.toList) (h : ps.map (·.data.toList) = cut [] (fieldText xs)) : ps = xs := by
  cases xs with
  | nil => exact absurd rfl hne
  | cons x r =>
    refine map_data_inj (h.trans ?_)
    show cut [] (Lib.join ((x :: r).map (·.data.toList)) [44, 32]) = _
    rw [List.map_cons, cut_join]
    intro y hy
    rw [← List.map_cons (f := fun b : ByteArray => b.data.toList)] at hy
    obtain ⟨z, hz, rfl⟩ := List.mem_map.1 hy
    exact hN z hz

theorem fieldText_length' (xs : List ByteArray) : (fieldText xs).length ≤ nb xs + 4 := by
  cases xs with
  | nil => simp [fieldText]
  | cons x r => have := join_length (x :: r); show (Lib.join ((x :: r).map (·.data.toList)) [44, 32]).length ≤ _; omega

theorem noSep_take {xs : List ByteArray} {k : Nat} {s : ByteArray} (h : ∀ x ∈ xs.take k, NoSep x.data.toList) (hs : xs[k]? = some s) (hn : NoSep s.data.toList) : ∀ x ∈ xs.take (k + 1), NoSep x.data.toList := by
  intro x hx
  rw [List.take_add_one, hs] at hx
  rcases List.mem_append.1 hx with h' | h'
  · exact h x h'
  · simp at h'; rw [h']; exact hn

set_option maxHeartbeats 1600000 in
theorem law3 (a : Option Addr) (d : Nat) (hd : a = none → d = 0) (xs : List ByteArray) (n : Nat) (hn : xs.length = n) (w : World) (hm : n ≤ maxLen) (h : Names w a xs) (hS : ∀ s ∈ xs, s.size ≤ maxLen) :
    Calls Try.prog 3 #[.slice a n d] w fun e w' => e = .returned (.bool true) ∧ Below w.heap.size w w' := by
  have HD := Lib.hid hd
  have HN := Lib.hid hn
  have H := Lib.hid h
  have HS := Lib.hid hS
  clear hd hn h hS
  go_enter Try.func3, Try.ntmps3
  go_wp2_with (go_at_call 6; refine (zz6 _ _ xs _ HN.out _ hm H.out HS.out).mono ?_; rintro e w1 ⟨r, rfl, hr, rfl⟩; refine Hid.out ?_)
  refine Lib.hid ?_
  cases r with
  | false =>
    clear hr
    go_wp2
    go_ret
    exact ⟨rfl, Below.refl _ _⟩
  | true =>
    obtain ⟨hl, hsh⟩ := hr rfl
    rw [HN.out] at hl
    have HSh := Lib.hid hsh
    clear hr hsh HS hm
    by_cases h65 : 65536 < n
    · go_wp2
      go_ret
      exact ⟨rfl, Below.refl _ _⟩
    have h65 : n ≤ 65536 := by omega
    go_wp2_with (go_at_call 7; refine (nb7 _ _ xs _ HN.out _ hl H.out HSh.out).mono ?_; rintro e w2 ⟨t, rfl, ht, hnb, rfl⟩; refine Hid.out ?_)
    refine Lib.hid ?_
    by_cases hbig : 1048576 < t
    · clear hnb
      go_wp2
      go_ret
      exact ⟨rfl, Below.refl _ _⟩
    have hbig : t ≤ 1048576 := by omega
    have HNb := Lib.hid (hnb hbig)
    clear hnb
    go_wp2
    go_loop [18] (fun i => ∃ k : Nat, k ≤ n ∧ i = .int .i64 k ∧ ∀ x ∈ xs.take k, NoSep x.data.toList) (fun i => n - (intOf i).toNat)
    case atStart => exact ⟨0, Nat.zero_le _, rfl, fun x hx => by simp at hx⟩
    case round =>
      obtain ⟨k, hk, rfl, hNo⟩ := hrel
      have HNo := Lib.hid hNo
      clear hNo
      by_cases hlt : k < n
      · obtain ⟨b, o, rfl, hbb, hcc⟩ := H.out.at_ (by rw [HN.out]; omega)
        obtain ⟨s, hs⟩ : ∃ s, xs[k]? = some s := ⟨_, List.getElem?_eq_getElem (by rw [HN.out]; exact hlt)⟩
        have hc := hcc k s hs
        have hss := HSh.out s (List.mem_of_getElem? hs)
        have HX := Lib.hid hs
        clear hs hcc
        go_wp2_with (go_at_call 8; refine (hasSep s _ hss).mono ?_; rintro e w3 ⟨r, rfl, hr, rfl⟩; refine Hid.out ?_)
        refine Lib.hid ?_
        cases r with
        | true =>
          clear hr
          go_wp2
          go_ret
          exact ⟨rfl, Below.refl _ _⟩
        | false =>
          have HN2 := Lib.hid (noSep_take HNo.out HX.out (hr rfl))
          clear hr
          go_wp2
          go_round
          case rel => exact ⟨k + 1, by omega, by go_num, HN2.out⟩
          case measure => simp [intOf]; omega
      · have e : k = n := by omega
        subst e
        have HNoA : Hid (∀ x ∈ xs, NoSep x.data.toList) := by
          have := HNo.out
          rw [List.take_of_length_le (by rw [HN.out]; exact Nat.le_refl _)] at this
          exact this
        clear HNo
        go_wp2_with (go_at_call 9; refine (copy9 _ _ HD.out xs _ HN.out _ hl H.out).mono ?_; rintro e w3 ⟨a3, d3, rfl, n3, hd3, b3⟩; refine Hid.out ?_)
        refine Lib.hid ?_
        have N3 := Lib.hid n3
        have HD3 := Lib.hid hd3
        clear n3 hd3 HD H
        go_wp2_with (go_at_call 10; refine (zf _ _ HD3.out xs _ HN.out _ hl N3.out (by have := join_length xs; have := HNb.out; omega)).mono ?_; rintro e w4 ⟨rfl, b4⟩; refine Hid.out ?_)
        refine Lib.hid ?_
        have N4 := Lib.hid (N3.out.below b4)
        have BF : Below w2.heap.size w2 w4 := b3.trans (b4.mono b3.size)
        clear b3 b4 N3 HSh
        by_cases h0 : k = 0
        · subst h0
          have ex := List.eq_nil_of_length_eq_zero HN.out
          subst ex
          go_wp2
          go_ret
          exact ⟨ret_bool rfl, BF⟩
        · have e0 : ((k : Int) == 0) = false := beq_eq_false_iff_ne.2 (by omega)
          have hft : (fieldText xs).length ≤ 1048580 := by have := fieldText_length' xs; have := HNb.out; omega
          go_wp2_with (go_at_call 11; refine (splitSep _ _ (show (fieldText xs).toArray.size ≤ 2097152 by rw [List.size_toArray]; omega)).mono ?_; rintro e w5 ⟨a5, n5, d5, ps, rfl, hps, n5', hcut, b5⟩; refine Hid.out ?_)
          refine Lib.hid ?_
          have hpx : ps = xs := parts_back (fun e => by have := HN.out; rw [e] at this; simp at this; omega) HNoA.out hcut
          subst hpx
          have hn5 : n5 = k := by rw [← hps, HN.out]
          subst hn5
          have N5 := Lib.hid n5'
          have N6 := Lib.hid (N4.out.below b5)
          have BG := BF.trans (b5.mono BF.size)
          clear n5' hcut hps b5 BF N4 hft HNoA
          go_wp2
          go_loopw [45] (fun i wr => ∃ j q : Nat, j ≤ n5 ∧ i = .int .i64 j ∧ wr = w5.drewN q) (fun i _ => n5 - (intOf i).toNat)
          case atStart => exact ⟨0, 0, Nat.zero_le _, rfl, rfl⟩
          case round =>
            obtain ⟨j, q, hj, rfl, rfl⟩ := hrel
            by_cases hlt : j < n5
            · obtain ⟨b, o, rfl, -, hcc⟩ := N5.out.at_ (by rw [HN.out]; omega)
              obtain ⟨b', o', rfl, -, hcc'⟩ := N6.out.at_ (by rw [HN.out]; omega)
              obtain ⟨s, hs⟩ : ∃ s, ps[j]? = some s := ⟨_, List.getElem?_eq_getElem (by rw [HN.out]; exact hlt)⟩
              have hc := hcc j s hs
              have hc' := hcc' j s hs
              clear hcc hcc' hs
              go_wp2
              go_quiet (fail)
              go_wp2
              go_roundw
              case rel => exact ⟨j + 1, _, by omega, by go_num, rfl⟩
              case measure => simp [intOf]; omega
            · go_wp2
              go_ret
              exact ⟨rfl, BG.trans ⟨rfl, rfl, rfl, Nat.le_refl _, fun _ _ => rfl⟩⟩
end Go.Proofs.Qxb6003568a
