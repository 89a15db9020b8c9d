import Derived.Test.Qxb6003568aL4
namespace Go.Proofs.Qxb6003568a
open Go.RowKit

/-- how zzBytes ends, with the string -/
def ZzEnd2 (xs : List ByteArray) (x : ByteArray) (w : World) (e : Ending) (w' : World) : Prop := ∃ r : Bool, e = .returned (.bool r) ∧ (r = true → xs.length ≤ 1048576 ∧ Short xs ∧ x.size ≤ 1048576) ∧ w' = w
theorem ZzEnd2.no (xs : List ByteArray) (x : ByteArray) (w : World) : ZzEnd2 xs x w (.returned (.bool false)) w := ⟨false, rfl, (fun h => by cases h), rfl⟩
theorem ZzEnd2.yes {xs : List ByteArray} {x : ByteArray} {w : World} (h1 : xs.length ≤ 1048576) (h2 : Short xs) (h3 : x.size ≤ 1048576) : ZzEnd2 xs x w (.returned (.bool true)) w := ⟨true, rfl, fun _ => ⟨h1, h2, h3⟩, rfl⟩

set_option maxHeartbeats 1600000 in
theorem zz13_some (b o d : Nat) (xs : List ByteArray) (x : ByteArray) (n : Nat) (hn : xs.length = n) (w : World) (hm : n ≤ maxLen)
    (h : ∀ j s, xs[j]? = some s → w.cell? ⟨b, o + j, none⟩ = some (.string s)) (hS : ∀ s ∈ xs, s.size ≤ maxLen) (hx : x.size ≤ maxLen) :
    Calls Try.prog 13 #[.slice (some ⟨b, o, none⟩) n d, .string x] w fun e w' => ZzEnd2 xs x w e w' := by
  unfold maxLen at hm hS hx
  have H := Lib.hid h
  have HS := Lib.hid hS
  have HN := Lib.hid hn
  clear h hS hn
  by_cases h2 : 1048576 < n
  · go_enter Try.func13, Try.ntmps13
    go_wp2
    go_ret
    exact ZzEnd2.no _ _ _
  have h2 : n ≤ 1048576 := by omega
  go_enter Try.func13, Try.ntmps13
  go_wp2
  go_loop [5, 6] (fun s i => ∃ k t : Nat, k ≤ n ∧ t ≤ 1048576 ∧ i = .int .i64 k ∧ s = .int .i64 t ∧ Short (xs.take k)) (fun _ i => n - (intOf i).toNat)
  case atStart => exact ⟨0, n, by omega, by omega, rfl, by go_num, fun s hs => by simp at hs⟩
  case round =>
    obtain ⟨k, t, hk, ht, rfl, rfl, hj⟩ := hrel
    have HJ := Lib.hid hj
    clear hj
    by_cases hlt : k < n
    · obtain ⟨s, hs⟩ : ∃ s, xs[k]? = some s := ⟨_, List.getElem?_eq_getElem (by rw [HN.out]; exact hlt)⟩
      have hc := H.out k s hs
      have hl := HS.out s (List.mem_of_getElem? hs)
      have HX := Lib.hid hs
      clear hs
      by_cases g1 : 1048576 < s.size
      · go_wp2
        go_ret
        exact ZzEnd2.no _ _ _
      by_cases g2 : 1048576 < t + s.size
      · have g1 : s.size ≤ 1048576 := by omega
        go_wp2
        go_ret
        exact ZzEnd2.no _ _ _
      have g1 : s.size ≤ 1048576 := by omega
      have g2 : t + s.size ≤ 1048576 := by omega
      go_wp2
      go_round
      case rel => exact ⟨k + 1, t + s.size, by omega, by omega, by go_num, by go_num, short_step HJ.out HX.out g1⟩
      case measure => simp [intOf]; omega
    · by_cases g1 : 1048576 < x.size
      · go_wp2
        go_ret
        exact ZzEnd2.no _ _ _
      have g1 : x.size ≤ 1048576 := by omega
      by_cases g2 : 1048576 < t + x.size
      · go_wp2
        go_ret
        exact ZzEnd2.no _ _ _
      have g2 : t + x.size ≤ 1048576 := by omega
      go_wp2
      go_ret
      exact ZzEnd2.yes (by rw [HN.out]; exact h2) (short_all HJ.out (by rw [HN.out]; omega)) g1

set_option maxHeartbeats 1600000 in
theorem zz13_none (b : Option Addr) (d : Nat) (x : ByteArray) (w : World) (hx : x.size ≤ maxLen) :
    Calls Try.prog 13 #[.slice b 0 d, .string x] w fun e w' => ZzEnd2 [] x w e w' := by
  unfold maxLen at hx
  go_enter Try.func13, Try.ntmps13
  go_wp2
  go_loop [5, 6] (fun s i => s = .int .i64 0 ∧ i = .int .i64 0) (fun _ i => 0)
  case atStart => exact ⟨rfl, rfl⟩
  case round =>
    obtain ⟨rfl, rfl⟩ := hrel
    by_cases g1 : 1048576 < x.size
    · go_wp2
      go_ret
      exact ZzEnd2.no _ _ _
    have g1 : x.size ≤ 1048576 := by omega
    go_wp2
    go_ret
    exact ZzEnd2.yes (by simp) (fun s hs => by simp at hs) g1

theorem zz13 (a : Option Addr) (d : Nat) (xs : List ByteArray) (x : ByteArray) (n : Nat) (hn : xs.length = n) (w : World) (hm : n ≤ maxLen) (h : Names w a xs) (hS : ∀ s ∈ xs, s.size ≤ maxLen) (hx : x.size ≤ maxLen) :
    Calls Try.prog 13 #[.slice a n d, .string x] w fun e w' => ZzEnd2 xs x w e w' := by
  by_cases h0 : n = 0
  · subst h0
    have e := List.eq_nil_of_length_eq_zero hn
    subst e
    exact zz13_none a d x w hx
  · obtain ⟨bb, o, rfl, _, hc⟩ := h.at_ (by omega)
    exact zz13_some bb o d xs x n hn w hm hc hS hx

theorem fieldText_length (xs : List ByteArray) : (fieldText xs).length ≤ nb xs + 4 := by
  cases xs with
  | nil => simp [fieldText]
  | cons x r => have := join_length (x :: r); show (Lib.join ((x :: r).map (·.data.toList)) [44, 32]).length ≤ _; omega

theorem text_single (x : ByteArray) : (fieldText [x] == x.toList) = true := by
  have e : fieldText [x] = x.toList := by
    show Lib.join ([x].map (·.data.toList)) [44, 32] = _
    rw [List.map_cons, List.map_nil, Lib.join_one, Lib.toList_data]
  rw [e, beq_self_eq_true]

theorem text_snoc (xs : List ByteArray) (x : ByteArray) (h : xs ≠ []) : (fieldText (xs ++ [x]) == ((⟨(fieldText xs).toArray⟩ : ByteArray) ++ (⟨#[44, 32]⟩ : ByteArray) ++ x).toList) = true := by
  cases xs with
  | nil => exact absurd rfl h
  | cons y r =>
    have e1 : fieldText (y :: r ++ [x]) = Lib.join ((y :: r ++ [x]).map (·.data.toList)) [44, 32] := rfl
    have e2 : fieldText (y :: r) = Lib.join ((y :: r).map (·.data.toList)) [44, 32] := rfl
    rw [beq_iff_eq, e1, e2, Lib.toList_data]
    rw [List.cons_append, List.map_cons, List.map_cons, Lib.join_cons, Lib.join_cons, List.map_append]
    simp [Lib.joinTail, ByteArray.data_append]

theorem nb_snoc (xs : List ByteArray) (x : ByteArray) : nb (xs ++ [x]) = nb xs + (16 + x.size) := by simp [nb]

set_option maxHeartbeats 1600000 in
theorem law5 (a : Option Addr) (d : Nat) (hd : a = none → d = 0) (xs : List ByteArray) (n : Nat) (hn : xs.length = n) (x : ByteArray) (w : World) (hm : n ≤ maxLen) (h : Names w a xs) (hS : ∀ s ∈ xs, s.size ≤ maxLen) (hx : x.size ≤ maxLen) :
    Calls Try.prog 5 #[.slice a n d, .string x] w fun e w' => e = .returned (.bool true) ∧ Below w.heap.size w w' := by
  have HD := Lib.hid hd
  have HN := Lib.hid hn
  have H := Lib.hid h
  have HS := Lib.hid hS
  clear hd hn h hS
  go_enter Try.func5, Try.ntmps5
  go_wp2_with (go_at_call 13; refine (zz13 _ _ xs x _ HN.out _ hm H.out HS.out hx).mono ?_; rintro e w1 ⟨r, rfl, hr, rfl⟩; refine Hid.out ?_)
  refine Lib.hid ?_
  cases r with
  | false =>
    clear hr
    go_wp2
    go_ret
    exact ⟨rfl, Below.refl _ _⟩
  | true =>
    obtain ⟨hl, hsh, hxs⟩ := hr rfl
    rw [HN.out] at hl
    have HSh := Lib.hid hsh
    clear hr hsh HS hm hx
    by_cases h65 : 65536 < n
    · go_wp2
      go_ret
      exact ⟨rfl, Below.refl _ _⟩
    have h65 : n ≤ 65536 := by omega
    go_wp2_with (go_at_call 7; refine (nb7 _ _ xs _ HN.out _ hl H.out HSh.out).mono ?_; rintro e w2 ⟨t, rfl, ht, hnb, rfl⟩; refine Hid.out ?_)
    refine Lib.hid ?_
    by_cases hbig : 1048576 < t + 16 + x.size
    · clear hnb
      go_wp2
      go_ret
      exact ⟨rfl, Below.refl _ _⟩
    have hbig : t + 16 + x.size ≤ 1048576 := by omega
    have HNb := Lib.hid (hnb (by omega))
    clear hnb
    go_wp2_with (go_at_call 9; refine (copy9 _ _ HD.out xs _ HN.out _ hl H.out).mono ?_; rintro e w3 ⟨a3, d3, rfl, n3, hd3, b3⟩; refine Hid.out ?_)
    refine Lib.hid ?_
    have N3 := Lib.hid n3
    have HD3 := Lib.hid hd3
    clear n3 hd3 HD H
    have hmk := run_make_row' (P := Try.prog) 22 9 (.string ⟨#[]⟩) 16 Try.underlying22 Try.info9 rfl .i64 .i64 (n + 1) (by omega) (by omega) w3
    have ec : ((n + 1 : Nat) : Int) = (n : Int) + 1 := by omega
    rw [ec] at hmk
    clear ec
    have M0 := Lib.hid (copied_start w3 (n + 1) (xs ++ [x]))
    go_wp2
    go_loopw [33] (fun i wr => ∃ k : Nat, k ≤ n ∧ i = .int .i64 k ∧ Copied w3 w3.heap.size (n + 1) k (xs ++ [x]) wr) (fun i _ => n - (intOf i).toNat)
    case atStart => exact ⟨0, Nat.zero_le _, rfl, M0.out⟩
    case round =>
      obtain ⟨k, hk, rfl, hM⟩ := hrel
      have HM := Lib.hid hM
      clear hM M0 hmk
      by_cases hlt : k < n
      · obtain ⟨b, o, rfl, hbb, hcc⟩ := N3.out.at_ (by rw [HN.out]; omega)
        obtain ⟨s, hs⟩ : ∃ s, xs[k]? = some s := ⟨_, List.getElem?_eq_getElem (by rw [HN.out]; exact hlt)⟩
        have h0 := hcc k s hs
        have hs2 : (xs ++ [x])[k]? = some s := by rw [List.getElem?_append_left (by rw [HN.out]; exact hlt)]; exact hs
        have hc : wr.cell? ⟨b, o + k, none⟩ = some (.string s) := by
          rw [HM.out.1.cell (p := ⟨b, o + k, none⟩) (World.block_lt_of_cell? w3 _ h0)]
          exact h0
        obtain ⟨⟨v, hv⟩, hfz⟩ := copied_slot (j := k) HM.out (by omega)
        have M2 := Lib.hid (copied_step HM.out (by omega) hs2)
        clear hs hs2 h0 HM hcc
        go_wp2
        go_roundw
        case rel => exact ⟨k + 1, by omega, by go_num, M2.out⟩
        case measure => simp [intOf]; omega
      · have e : k = n := by omega
        subst e
        obtain ⟨⟨v, hv⟩, hfz⟩ := copied_slot (j := k) HM.out (by omega)
        have hs2 : (xs ++ [x])[k]? = some x := by rw [List.getElem?_append_right (by rw [HN.out]; exact Nat.le_refl _), HN.out, Nat.sub_self]; rfl
        have M2 := copied_step HM.out (by omega) hs2
        have HL : Hid ((xs ++ [x]).length = k + 1) := by show (xs ++ [x]).length = k + 1; rw [List.length_append, HN.out]; rfl
        have M3 := Lib.hid (copied_names M2 HL.out)
        have B3 := Lib.hid M2.1
        clear hs2 HM M2
        go_wp2_with (go_at_call 10; refine (zf _ _ (fun h => by cases h) (xs ++ [x]) _ HL.out _ (by omega) M3.out (by have := join_length (xs ++ [x]); have := nb_snoc xs x; have := HNb.out; omega)).mono ?_; rintro e w5 ⟨rfl, b5⟩; refine Hid.out ?_)
        refine Lib.hid ?_
        have B5 : Below w3.heap.size w3 w5 := B3.out.trans (b5.mono B3.out.size)
        have N5 := Lib.hid (N3.out.below B5)
        have BF : Below w2.heap.size w2 w5 := b3.trans (B5.mono b3.size)
        clear B3 b5 M3 hv hfz N3 b3 B5
        by_cases hk0 : k = 0
        · subst hk0
          have ex : xs = [] := List.eq_nil_of_length_eq_zero HN.out
          subst ex
          go_wp2
          go_ret
          exact ⟨ret_bool (text_single x), BF⟩
        · have e0 : ((k : Int) == 0) = false := beq_eq_false_iff_ne.2 (by omega)
          go_wp2_with (go_at_call 10; refine (zf _ _ HD3.out xs _ HN.out _ hl N5.out (by have := join_length xs; have := HNb.out; omega)).mono ?_; rintro e w6 ⟨rfl, b6⟩; refine Hid.out ?_)
          refine Lib.hid ?_
          have hft : (fieldText xs).length ≤ 1048580 := by have := fieldText_length xs; have := HNb.out; omega
          go_wp2
          go_ret
          exact ⟨ret_bool (text_snoc xs x (fun e => by have := HN.out; rw [e] at this; simp at this; omega)), BF.trans (b6.mono BF.size)⟩
end Go.Proofs.Qxb6003568a
