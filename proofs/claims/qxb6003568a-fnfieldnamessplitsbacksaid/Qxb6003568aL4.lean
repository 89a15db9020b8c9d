import Derived.Test.Qxb6003568aZf
import Derived.Lib.Strings
namespace Go.Proofs.Qxb6003568a
open Go.RowKit

theorem joinTail_length (r : List ByteArray) : (Lib.joinTail [44, 32] (r.map (·.data.toList))).length ≤ nb r := by
  induction r with
  | nil => simp [Lib.joinTail, nb]
  | cons x r ih =>
    simp only [Lib.joinTail, nb, List.map_cons, List.flatten_cons, List.length_append, List.length_cons, List.length_nil, List.sum_cons] at ih ⊢
    have : x.data.toList.length = x.size := by rw [Array.length_toList]; rfl
    omega

theorem join_length (xs : List ByteArray) : (Lib.join (xs.map (·.data.toList)) [44, 32]).length ≤ nb xs := by
  cases xs with
  | nil => simp [Lib.join, nb]
  | cons x r =>
    rw [List.map_cons, Lib.join_cons, List.length_append]
    have h := joinTail_length r
    have : x.data.toList.length = x.size := by rw [Array.length_toList]; rfl
    have e : nb (x :: r) = (16 + x.size) + nb r := by simp [nb]
    omega

/-- what copyNames gives -/
def CopyEnd (w : World) (n : Nat) (xs : List ByteArray) (e : Ending) (w' : World) : Prop := ∃ a d, e = .returned (.slice a n d) ∧ Names w' a xs ∧ (a = none → d = 0) ∧ Below w.heap.size w w'

theorem copy_nil (w : World) : Calls Try.prog 9 #[.slice none 0 0] w fun e w' => e = .returned (.slice none 0 0) ∧ w' = w := by
  have q := fun (w : World) (a : Option Addr) (n c n' c' : Nat) => run_neq_slice_nil_any (P := Try.prog) w _ _ a n c n' c' Try.underlying22
  go_enter Try.func9, Try.ntmps9
  go_wp2
  go_ret
  exact ⟨rfl, rfl⟩

theorem copy_empty (x : Addr) (d : Nat) (w : World) : Calls Try.prog 9 #[.slice (some x) 0 d] w fun e w' => e = .returned (.slice (some ⟨w.heap.size, 0, none⟩) 0 0) ∧ Below w.heap.size w w' := by
  have q := fun (w : World) (a : Option Addr) (n c n' c' : Nat) => run_neq_slice_nil_any (P := Try.prog) w _ _ a n c n' c' Try.underlying22
  have hmk : (Instr.makeSlice 22 (.int .i64 0) (.int .i64 0)).run Try.prog w = .ok (.slice (some ⟨w.heap.size, 0, none⟩) 0 0) (w.alloc (.cells (madeCells #[.string ⟨#[]⟩] 0) 9)) := run_make_row' (P := Try.prog) 22 9 (.string ⟨#[]⟩) 16 Try.underlying22 Try.info9 rfl .i64 .i64 0 (by omega) (by omega) w
  have B0 := Lib.hid ((Below.refl w.heap.size w).alloc (Nat.le_refl _) (.cells (madeCells #[.string ⟨#[]⟩] 0) 9))
  go_enter Try.func9, Try.ntmps9
  go_wp2
  go_loop [12] (fun i => i = .int .i64 0) (fun _ => 0)
  case atStart => rfl
  case round =>
    subst hrel
    go_wp2
    go_ret
    exact ⟨rfl, B0.out⟩

theorem copy9 (a : Option Addr) (d : Nat) (hd : a = none → d = 0) (xs : List ByteArray) (n : Nat) (hn : xs.length = n) (w : World) (hm : n ≤ 1048576) (h : Names w a xs) :
    Calls Try.prog 9 #[.slice a n d] w fun e w' => CopyEnd w n xs e w' := by
  by_cases h0 : n = 0
  · subst h0
    have e := List.eq_nil_of_length_eq_zero hn
    subst e
    cases a with
    | none =>
      have := hd rfl
      subst this
      refine (copy_nil w).mono ?_
      rintro e w' ⟨rfl, rfl⟩
      exact ⟨none, 0, rfl, Names.nil _ _, fun _ => rfl, Below.refl _ _⟩
    | some x =>
      refine (copy_empty x d w).mono ?_
      rintro e w' ⟨rfl, hb⟩
      exact ⟨_, _, rfl, Names.nil _ _, (fun h => by cases h), hb⟩
  · obtain ⟨bb, o, rfl, _, hc⟩ := h.at_ (by omega)
    refine (copy_some bb o d xs n hn w hm hc).mono ?_
    rintro e w' ⟨rfl, hM⟩
    exact ⟨_, _, rfl, copied_names hM hn, (fun h => by cases h), hM.1⟩

theorem text_one (x : ByteArray) : ((fieldText [x] == [110, 111, 110, 101]) == (x.toList == [110, 111, 110, 101])) = true := by
  have e : fieldText [x] = x.toList := by
    show Lib.join ([x].map (·.data.toList)) [44, 32] = _
    rw [List.map_cons, List.map_nil, Lib.join_one, Lib.toList_data]
  rw [e, beq_self_eq_true]

theorem text_two (x y : ByteArray) (r : List ByteArray) : (!fieldText (x :: y :: r) == [110, 111, 110, 101]) = true := by
  have e : (44 : UInt8) ∈ fieldText (x :: y :: r) := by
    show (44 : UInt8) ∈ Lib.join ((x :: y :: r).map (·.data.toList)) [44, 32]
    rw [List.map_cons, Lib.join_cons, List.map_cons]
    simp [Lib.joinTail]
  rw [Bool.not_eq_true', beq_eq_false_iff_ne]
  intro h
  rw [h] at e
  revert e
  decide

theorem ret_bool {x y : Bool} (h : x = y) : Ending.returned (.bool x) = .returned (.bool y) := by rw [h]

set_option maxHeartbeats 1600000 in
theorem law4 (a : Option Addr) (d : Nat) (hd : a = none → d = 0) (xs : List ByteArray) (n : Nat) (hn : xs.length = n) (w : World) (hm : n ≤ maxLen) (h : Names w a xs) (hS : ∀ s ∈ xs, s.size ≤ maxLen) :
    Calls Try.prog 4 #[.slice a n d] w fun e w' => e = .returned (.bool true) ∧ Below w.heap.size w w' := by
  have HD := Lib.hid hd
  have HN := Lib.hid hn
  have H := Lib.hid h
  have HS := Lib.hid hS
  clear hd hn h hS
  go_enter Try.func4, Try.ntmps4
  go_wp2_with (go_at_call 12; refine (zz12 _ _ xs _ HN.out _ hm H.out HS.out).mono ?_; rintro e w1 ⟨r, rfl, hr, rfl⟩; refine Hid.out ?_)
  refine Lib.hid ?_
  cases r with
  | false =>
    clear hr
    go_wp2
    go_ret
    exact ⟨rfl, Below.refl _ _⟩
  | true =>
    obtain ⟨hl, hsh⟩ := hr rfl
    rw [HN.out] at hl
    have HSh := Lib.hid hsh
    clear hr hsh HS hm
    by_cases h65 : 65536 < n
    · go_wp2
      go_ret
      exact ⟨rfl, Below.refl _ _⟩
    have h65 : n ≤ 65536 := by omega
    go_wp2_with (go_at_call 7; refine (nb7 _ _ xs _ HN.out _ hl H.out HSh.out).mono ?_; rintro e w2 ⟨t, rfl, ht, hnb, rfl⟩; refine Hid.out ?_)
    refine Lib.hid ?_
    by_cases hbig : 1048576 < t
    · clear hnb
      go_wp2
      go_ret
      exact ⟨rfl, Below.refl _ _⟩
    have hbig : t ≤ 1048576 := by omega
    have HNb := Lib.hid (hnb hbig)
    clear hnb
    go_wp2_with (go_at_call 9; refine (copy9 _ _ HD.out xs _ HN.out _ hl H.out).mono ?_; rintro e w3 ⟨a3, d3, rfl, n3, hd3, b3⟩; refine Hid.out ?_)
    refine Lib.hid ?_
    have N3 := Lib.hid n3
    have HD3 := Lib.hid hd3
    clear n3 hd3 HD H
    go_wp2_with (go_at_call 10; refine (zf _ _ HD3.out xs _ HN.out _ hl N3.out (by have := join_length xs; have := HNb.out; omega)).mono ?_; rintro e w4 ⟨rfl, b4⟩; refine Hid.out ?_)
    refine Lib.hid ?_
    have N4 := Lib.hid (N3.out.below b4)
    have BF : Below w2.heap.size w2 w4 := b3.trans (b4.mono b3.size)
    clear b3 b4 N3 HNb HSh
    match xs, HN, N4 with
    | [], HN, N4 =>
      have h0 : n = 0 := HN.out.symm
      subst h0
      go_wp2
      go_ret
      exact ⟨ret_bool rfl, BF⟩
    | [x], HN, N4 =>
      have h0 : n = 1 := HN.out.symm
      subst h0
      obtain ⟨b, o, rfl, hlt, hc⟩ := N4.out.at_ (by simp)
      have hc0 : w4.cell? ⟨b, o, none⟩ = some (.string x) := hc 0 x rfl
      clear hc
      go_wp2
      go_ret
      exact ⟨ret_bool (text_one x), BF⟩
    | x :: y :: r, HN, N4 =>
      have h0 : 2 ≤ n := by have := HN.out; simp at this; omega
      have e0 : ((n : Int) == 0) = false := beq_eq_false_iff_ne.2 (by omega)
      have e1 : ((n : Int) == 1) = false := beq_eq_false_iff_ne.2 (by omega)
      go_wp2
      go_ret
      exact ⟨ret_bool (text_two x y r), BF⟩
end Go.Proofs.Qxb6003568a
