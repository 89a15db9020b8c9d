import Derived.Test.Qxb6003568aNb
import Derived.Test.Qxb6003568aShelf
namespace Go.Proofs.Qxb6003568a
open Go.RowKit

/-- the strings as cells -/
def strs (xs : List ByteArray) : List Value := xs.map Value.string
theorem strs_length (xs : List ByteArray) : (strs xs).length = xs.length := by simp [strs]
theorem strs_at {xs : List ByteArray} {j : Nat} {s : ByteArray} (h : xs[j]? = some s) : (strs xs)[j]? = some (.string s) := by simp [strs, h]
theorem strs_snoc {xs : List ByteArray} {k : Nat} {s : ByteArray} (hs : xs[k]? = some s) : strs (xs.take (k + 1)) = strs (xs.take k) ++ [.string s] := by
  unfold strs
  rw [List.take_add_one, hs]
  simp

/-- the properties: block g holds n of them, named xs -/
def Props (w : World) (g n k : Nat) (xs : List ByteArray) : Prop :=
  ∃ cur : Array Value, w.heap[g]? = some (.cells cur 34 (0, 0)) ∧ cur.size = n * 5 ∧
    ∀ j, j < n → (∀ s, j < k → xs[j]? = some s → cur[j * 5]? = some (.string s)) ∧ (∃ s0, cur[j * 5]? = some (.string s0)) ∧ cur[j * 5 + 1]? = some (.string ⟨#[]⟩) ∧ cur[j * 5 + 2]? = some (.slice none 0 0) ∧ cur[j * 5 + 3]? = some (.bool false) ∧ cur[j * 5 + 4]? = some (.pointer none)

set_option maxHeartbeats 1600000 in
theorem fieldNames_some (sb pb n d : Nat) (xs : List ByteArray) (w : World) (hn : xs.length = n) (hpos : 0 < n) (hm : n ≤ 1048576)
    (hs : w.cell? ⟨sb, 2, none⟩ = some (.slice (some ⟨pb, 0, none⟩) n d)) (hp : Props w pb n n xs) (hlen : (Lib.join (xs.map (·.data.toList)) [44, 32]).length ≤ 140737488355328) :
    Calls Try.prog 14 #[.pointer (some ⟨sb, 0, none⟩)] w fun e w' => e = .returned (.string ⟨(Lib.join (xs.map (·.data.toList)) [44, 32]).toArray⟩) ∧ Below w.heap.size w w' := by
  obtain ⟨i0, hi, hz0, hz1, hz2⟩ := info_parts Try.info9
  have HN := Lib.hid hn
  have HP := Lib.hid hp
  have HLen := Lib.hid hlen
  clear hn hp hlen
  have hne : ((n : Int) == 0) = false := beq_eq_false_iff_ne.2 (by omega)
  go_enter Try.func14, Try.ntmps14
  go_wp2
  go_loopw [3, 17] (fun v i wr => ∃ k : Nat, k ≤ n ∧ i = .int .i64 k ∧ wr.ownsRow w.heap.size 9 1 v k (strs (xs.take k)) ∧ Below w.heap.size w wr) (fun _ i _ => n - (intOf i).toNat)
  case atStart => exact ⟨0, Nat.zero_le _, rfl, World.ownsRow_nil _ _ _ _, Below.refl _ _⟩
  case round =>
    obtain ⟨k, hk, rfl, hown, hb⟩ := hrel
    by_cases hlt : k < n
    · obtain ⟨s, hs⟩ : ∃ s, xs[k]? = some s := ⟨_, List.getElem?_eq_getElem (by rw [HN.out]; exact hlt)⟩
      obtain ⟨cur, hcur, hsz, hall⟩ := HP.out
      obtain ⟨p0, -, p1, p2, p3, p4⟩ := hall k hlt
      have hpb := Lib.lt_of_heap hcur
      have hcr : wr.heap[pb]? = some (.cells cur 34 (0, 0)) := by rw [hb.block pb hpb]; exact hcur
      have q0 : wr.cell? ⟨pb, k * 5, none⟩ = some (.string s) := by rw [Lib.cell_of_heap hcr]; exact p0 s hlt hs
      have q1 : wr.cell? ⟨pb, k * 5 + 1, none⟩ = some (.string ⟨#[]⟩) := by rw [Lib.cell_of_heap hcr]; exact p1
      have q2 : wr.cell? ⟨pb, k * 5 + 2, none⟩ = some (.slice none 0 0) := by rw [Lib.cell_of_heap hcr]; exact p2
      have q3 : wr.cell? ⟨pb, k * 5 + 3, none⟩ = some (.bool false) := by rw [Lib.cell_of_heap hcr]; exact p3
      have q4 : wr.cell? ⟨pb, k * 5 + 4, none⟩ = some (.pointer none) := by rw [Lib.cell_of_heap hcr]; exact p4
      have HX := Lib.hid hs
      have HO := Lib.hid hown
      clear hs p0 p1 p2 p3 p4 hall hcur hcr hsz hown
      go_wp2_with (at_builtin; refine wpList_append_own _ rfl _ _ 22 rfl w.heap.size 9 i0 (.string ⟨#[]⟩) 1 16 Try.underlying22 hi hz0 hz1 hz2 rfl (by decide) _ k (strs (xs.take k)) rfl ((HO.out.alloc _).alloc _) ⟨wr.heap.size + 1, 0, none⟩ 1 1 [.string s] rfl rfl ?c1 ?c2 ?c3 ?c4 ?c5 ?_)
      case c1 =>
        intro j u hj
        match j, hj with
        | 0, hj => simp at hj; subst hj; simp [Addr.add]
      case c2 => intro u hu; simp at hu; subst hu; rfl
      case c3 => unfold maxLen; omega
      case c4 => omega
      case c5 => have := hb.size; simp; omega
      intro v' w2 hown' hgrow' _
      have hb2 : Below w.heap.size w w2 := by
        have := hb.size
        refine ((hb.alloc this _).alloc (by simp; omega) _).grown hgrow' (by simp; omega) (fun j hj => ?_)
        exact (HO.out.lt j hj).1
      rw [← strs_snoc HX.out] at hown'
      clear hgrow' q0 q1 q2 q3 q4
      go_wp2
      go_roundw
      case rel => exact ⟨k + 1, by omega, by go_num, hown', hb2⟩
      case measure => simp [intOf]; omega
    · have hkn : k = n := by omega
      subst hkn
      rw [List.take_of_length_le (by rw [HN.out]; exact Nat.le_refl _)] at hown
      rcases hown.2 with ⟨-, h0⟩ | ⟨g, cap, cur, rfl, hg0, hg, hcap, hcm, hcs, htk⟩
      · omega
      have hcells : ∀ (j : Nat) x, xs[j]? = some x → wr.cell? ⟨g, 0 + j, none⟩ = some (.string x) := by
        intro j x hj
        rw [Nat.zero_add, Lib.cell_of_heap hg]
        have h1 := strs_at hj
        rw [← htk, List.getElem?_take] at h1
        split at h1
        · simpa using h1
        · cases h1
      have HJ : Hid (Calls Try.prog 15 #[.slice (some ⟨g, 0, none⟩) k cap, .string ⟨#[44, 32]⟩] wr fun e w' => e = .returned (.string ⟨(Lib.join (xs.map (·.data.toList)) [44, 32]).toArray⟩) ∧ Below wr.heap.size wr w') := by
        have := Try.strings_Join g 0 cap xs ⟨#[44, 32]⟩ wr hcells (Lib.lt_of_heap hg) (by rw [HN.out]; omega) (by rw [HN.out]; exact hcap) HLen.out
        rw [HN.out] at this
        exact this
      clear hcells hown hg hcs htk
      go_wp2_with (go_at_call 15; refine HJ.out.mono ?_; rintro e w2 ⟨rfl, b2⟩)
      go_ret
      exact ⟨rfl, hb.trans (b2.mono hb.size)⟩

/-- no property: none -/
theorem fieldNames_none (sb d : Nat) (a : Option Addr) (w : World) (hs : w.cell? ⟨sb, 2, none⟩ = some (.slice a 0 d)) :
    Calls Try.prog 14 #[.pointer (some ⟨sb, 0, none⟩)] w fun e w' => e = .returned (.string ⟨#[110, 111, 110, 101]⟩) ∧ w' = w := by
  go_enter Try.func14, Try.ntmps14
  go_wp2
  go_ret
  exact ⟨rfl, rfl⟩
end Go.Proofs.Qxb6003568a
