import Derived.Test.Qxb6003568aFn
namespace Go.Proofs.Qxb6003568a
open Go.RowKit

theorem Try.info34 : (Try.prog.info? 34).map (fun i => (i.zero, i.size, i.bytes)) = some (some (.agg #[.string ⟨#[]⟩, .string ⟨#[]⟩, .slice none 0 0, .bool false, .pointer none]), 5, 72) := by kernel_rfl

/-- the cells of a zero property -/
def zp : Array Value := #[.string ⟨#[]⟩, .string ⟨#[]⟩, .slice none 0 0, .bool false, .pointer none]

theorem make_props (n : Nat) (hn : n ≤ 1048576) (w : World) :
    (Instr.makeSlice 30 (.int .i64 (n : Int)) (.int .i64 (n : Int))).run Try.prog w = .ok (.slice (some ⟨w.heap.size, 0, none⟩) n n) (w.alloc (.cells (madeCells zp (n * 5)) 34)) := by
  obtain ⟨i, hi, hzz⟩ := Option.map_eq_some_iff.1 Try.info34
  simp only [Prod.mk.injEq] at hzz
  obtain ⟨hz, hs, hb⟩ := hzz
  have := run_make (P := Try.prog) w 30 34 i _ Try.underlying30 hi hz .i64 .i64 (n : Int) (n : Int) (by omega) (Int.le_refl _) (by rw [hb]; omega) (by omega)
  rw [this, hs]
  simp only [Int.toNat_natCast]
  rfl

theorem props_made (w : World) (n : Nat) (xs : List ByteArray) : Props (w.alloc (.cells (madeCells zp (n * 5)) 34)) w.heap.size n 0 xs := by
  have key : ∀ j r, j < n → r < 5 → (madeCells zp (n * 5))[j * 5 + r]? = some (zp[r]!) := by
    intro j r hj hr
    have hz : zp.size = 5 := rfl
    have h1 : (j * 5 + r) % 5 = r := by omega
    have h2 : j * 5 + r < n * 5 := by omega
    simp only [madeCells]
    rw [Array.getElem?_map, Array.getElem?_range]
    simp [h2, hz, h1]
  refine ⟨_, Deep.blk_alloc_new _ _, size_madeCells _ _, fun j hj => ⟨fun s h => absurd h (Nat.not_lt_zero _), ⟨⟨#[]⟩, key j 0 hj (by omega)⟩, key j 1 hj (by omega), key j 2 hj (by omega), key j 3 hj (by omega), key j 4 hj (by omega)⟩⟩

theorem props_step {wr : World} {g n k : Nat} {xs : List ByteArray} {s : ByteArray} (h : Props wr g n k xs) (hk : k < n) (hs : xs[k]? = some s) : Props (wr.setCell ⟨g, k * 5, none⟩ (.string s)) g n (k + 1) xs := by
  obtain ⟨cur, h2, h3, h4⟩ := h
  refine ⟨cur.setIfInBounds (k * 5) (.string s), ?_, by simp [h3], fun j hj => ?_⟩
  · simp [World.setCell, Array.getElem?_modify, h2]
  obtain ⟨p0, ⟨s0, p0'⟩, p1, p2, p3, p4⟩ := h4 j hj
  refine ⟨fun t hjk ht => ?_, ?_, ?_, ?_, ?_, ?_⟩
  · by_cases e : j = k
    · subst e
      rw [hs] at ht
      obtain rfl := Option.some.inj ht
      rw [Array.getElem?_setIfInBounds_self_of_lt (by omega)]
    · rw [Array.getElem?_setIfInBounds_ne (by omega)]
      exact p0 t (by omega) ht
  · by_cases e : j = k
    · subst e
      exact ⟨s, by rw [Array.getElem?_setIfInBounds_self_of_lt (by omega)]⟩
    · exact ⟨s0, by rw [Array.getElem?_setIfInBounds_ne (by omega)]; exact p0'⟩
  all_goals (rw [Array.getElem?_setIfInBounds_ne (by omega)]; assumption)

theorem props_slot {wr : World} {g n k j : Nat} {xs : List ByteArray} (h : Props wr g n k xs) (hj : j < n) : (∃ v, wr.cell? ⟨g, j * 5, none⟩ = some v) ∧ wr.frozen? ⟨g, j * 5, none⟩ = false := by
  obtain ⟨cur, h2, h3, h4⟩ := h
  obtain ⟨-, ⟨s0, p0⟩, -⟩ := h4 j hj
  exact ⟨⟨_, by rw [Lib.cell_of_heap h2]; exact p0⟩, Lib.frozen_of_heap h2 _⟩

theorem props_alloc {wr : World} {g n k : Nat} {xs : List ByteArray} (h : Props wr g n k xs) (o : Obj) : Props (wr.alloc o) g n k xs := by
  obtain ⟨cur, h2, h3, h4⟩ := h
  exact ⟨cur, by rw [Below.heap_alloc _ _ _ (Lib.lt_of_heap h2)]; exact h2, h3, h4⟩

/-- what ZZFieldNames says of the names -/
def fieldText (xs : List ByteArray) : List UInt8 := match xs with
  | [] => [110, 111, 110, 101]
  | _ => Lib.join (xs.map (·.data.toList)) [44, 32]

set_option maxHeartbeats 1600000 in
theorem zf_some (b o d : Nat) (xs : List ByteArray) (n : Nat) (hn : xs.length = n) (hpos : 0 < n) (w : World) (hm : n ≤ 1048576)
    (h : ∀ j s, xs[j]? = some s → w.cell? ⟨b, o + j, none⟩ = some (.string s)) (hlen : (Lib.join (xs.map (·.data.toList)) [44, 32]).length ≤ 140737488355328) :
    Calls Try.prog 10 #[.slice (some ⟨b, o, none⟩) n d] w fun e w' => e = .returned (.string ⟨(Lib.join (xs.map (·.data.toList)) [44, 32]).toArray⟩) ∧ Below w.heap.size w w' := by
  have q := fun (w : World) (a : Option Addr) (n c n' c' : Nat) => run_neq_slice_nil_any (P := Try.prog) w _ _ a n c n' c' Try.underlying22
  have hmk := make_props n hm w
  have H := Lib.hid h
  have HN := Lib.hid hn
  have HLen := Lib.hid hlen
  have M0 := Lib.hid (props_made w n xs)
  have B0 := Lib.hid ((Below.refl w.heap.size w).alloc (Nat.le_refl _) (.cells (madeCells zp (n * 5)) 34))
  clear h hn hlen
  go_enter Try.func10, Try.ntmps10
  go_wp2
  go_loopw [13] (fun i wr => ∃ k : Nat, k ≤ n ∧ i = .int .i64 k ∧ Props wr w.heap.size n k xs ∧ Below w.heap.size w wr) (fun i _ => n - (intOf i).toNat)
  case atStart => exact ⟨0, Nat.zero_le _, rfl, M0.out, B0.out⟩
  case round =>
    obtain ⟨k, hk, rfl, hM, hb⟩ := hrel
    have HM := Lib.hid hM
    clear hM M0 B0 hmk
    by_cases hlt : k < n
    · obtain ⟨s, hs⟩ : ∃ s, xs[k]? = some s := ⟨_, List.getElem?_eq_getElem (by rw [HN.out]; exact hlt)⟩
      have h0 := H.out k s hs
      have hc : wr.cell? ⟨b, o + k, none⟩ = some (.string s) := by
        rw [hb.cell (p := ⟨b, o + k, none⟩) (World.block_lt_of_cell? w _ h0)]
        exact h0
      obtain ⟨⟨v, hv⟩, hfz⟩ := props_slot HM.out hlt
      have M2 := Lib.hid (props_step HM.out hlt hs)
      have B2 := Lib.hid (hb.setCell (p := ⟨w.heap.size, k * 5, none⟩) (Nat.le_refl _) (.string s))
      clear hs h0 HM
      go_wp2
      go_roundw
      case rel => exact ⟨k + 1, by omega, by go_num, M2.out, B2.out⟩
      case measure => simp [intOf]; omega
    · have e : k = n := by omega
      subst e
      go_wp2_with (go_at_call 14; refine (fieldNames_some wr.heap.size w.heap.size k k xs _ HN.out hpos hm (by simp) (props_alloc HM.out _) HLen.out).mono ?_; rintro e w2 ⟨rfl, b2⟩)
      go_ret
      have := hb.size
      exact ⟨rfl, (hb.alloc this _).trans (b2.mono (by simp; omega))⟩

theorem zf_nil (w : World) :
    Calls Try.prog 10 #[.slice none 0 0] w fun e w' => e = .returned (.string ⟨#[110, 111, 110, 101]⟩) ∧ Below w.heap.size w w' := by
  have q := fun (w : World) (a : Option Addr) (n c n' c' : Nat) => run_neq_slice_nil_any (P := Try.prog) w _ _ a n c n' c' Try.underlying22
  go_enter Try.func10, Try.ntmps10
  go_wp2_with (go_at_call 14; refine (fieldNames_none w.heap.size 0 none _ (by simp)).mono ?_; rintro e w2 ⟨rfl, rfl⟩)
  go_ret
  exact ⟨rfl, (Below.refl _ _).alloc (Nat.le_refl _) _⟩

set_option maxHeartbeats 1600000 in
theorem zf_empty (x : Addr) (d : Nat) (w : World) :
    Calls Try.prog 10 #[.slice (some x) 0 d] w fun e w' => e = .returned (.string ⟨#[110, 111, 110, 101]⟩) ∧ Below w.heap.size w w' := by
  have q := fun (w : World) (a : Option Addr) (n c n' c' : Nat) => run_neq_slice_nil_any (P := Try.prog) w _ _ a n c n' c' Try.underlying22
  have hmk : (Instr.makeSlice 30 (.int .i64 0) (.int .i64 0)).run Try.prog w = .ok (.slice (some ⟨w.heap.size, 0, none⟩) 0 0) (w.alloc (.cells (madeCells zp (0 * 5)) 34)) := make_props 0 (by omega) w
  have B0 := Lib.hid ((Below.refl w.heap.size w).alloc (Nat.le_refl _) (.cells (madeCells zp (0 * 5)) 34))
  go_enter Try.func10, Try.ntmps10
  go_wp2
  go_loopw [13] (fun i wr => i = .int .i64 0 ∧ Below w.heap.size w wr) (fun i _ => 0)
  case atStart => exact ⟨rfl, B0.out⟩
  case round =>
    obtain ⟨rfl, hb⟩ := hrel
    clear hmk
    go_wp2_with (go_at_call 14; refine (fieldNames_none wr.heap.size 0 (some ⟨w.heap.size, 0, none⟩) _ (by simp)).mono ?_; rintro e w2 ⟨rfl, rfl⟩)
    go_ret
    exact ⟨rfl, hb.alloc hb.size _⟩

theorem zf (a : Option Addr) (d : Nat) (hd : a = none → d = 0) (xs : List ByteArray) (n : Nat) (hn : xs.length = n) (w : World) (hm : n ≤ 1048576) (h : Names w a xs)
    (hlen : (Lib.join (xs.map (·.data.toList)) [44, 32]).length ≤ 140737488355328) :
    Calls Try.prog 10 #[.slice a n d] w fun e w' => e = .returned (.string ⟨(fieldText xs).toArray⟩) ∧ Below w.heap.size w w' := by
  by_cases h0 : n = 0
  · subst h0
    have e := List.eq_nil_of_length_eq_zero hn
    subst e
    cases a with
    | none =>
      have := hd rfl
      subst this
      exact zf_nil w
    | some x => exact zf_empty x d w
  · obtain ⟨bb, o, rfl, _, hc⟩ := h.at_ (by omega)
    have e : fieldText xs = Lib.join (xs.map (·.data.toList)) [44, 32] := by
      cases xs with
      | nil => simp at hn; omega
      | cons x r => rfl
    rw [e]
    exact zf_some bb o d xs n hn (by omega) w hm hc hlen
end Go.Proofs.Qxb6003568a
