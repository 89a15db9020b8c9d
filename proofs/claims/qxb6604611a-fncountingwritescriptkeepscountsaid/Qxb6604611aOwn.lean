import Derived.Test.Qxb6604611aEq
import Derived.Test.Qxb6604611aCw
namespace Go.Proofs.Qxb6604611a
open Go.RowKit

/-- bytes as cells -/
def u8s (zs : List Int) : List Value := zs.map (Value.int .u8)
theorem u8s_length (zs : List Int) : (u8s zs).length = zs.length := by simp [u8s]
theorem u8s_append (a b : List Int) : u8s (a ++ b) = u8s a ++ u8s b := by simp [u8s]
theorem u8s_one (zs : List Int) : ∀ v ∈ u8s zs, v.oneCell' = true := by
  intro v hv
  simp only [u8s, List.mem_map] at hv
  obtain ⟨z, _, rfl⟩ := hv
  rfl
theorem u8s_at (zs : List Int) (i : Nat) (h : i < zs.length) : (u8s zs)[i]? = some (.int .u8 (zs.getD i 0)) := by
  simp [u8s, h]

/-- the slice (a, n) reads as zs -/
def Holds (w : World) (a : Option Addr) (n : Nat) (zs : List Int) : Prop :=
  zs.length = n ∧ (a = none → n = 0) ∧ ∀ x, a = some x → ∀ i, i < n → w.cell? (x.add i) = some (.int .u8 (zs.getD i 0))

theorem Holds.src {w : World} {x : Addr} {n : Nat} {zs : List Int} (h : Holds w (some x) n zs) : ∀ j v, (u8s zs)[j]? = some v → w.cell? (x.add j) = some v := by
  intro j v hj
  have hlt : j < zs.length := by
    rcases Nat.lt_or_ge j zs.length with h' | h'
    · exact h'
    · rw [List.getElem?_eq_none (by rw [u8s_length]; exact h')] at hj; cases hj
  rw [u8s_at zs j hlt] at hj
  rw [← hj]
  exact h.2.2 x rfl j (by rw [← h.1]; exact hlt)

theorem own_holds {w : World} {B : Nat} {a : Option Addr} {n c : Nat} {zs : List Int} (h : w.ownsRow B 5 1 (.slice a n c) n (u8s zs)) : Holds w a n zs := by
  obtain ⟨hl, h⟩ := h
  rw [u8s_length] at hl
  refine ⟨by omega, ?_, ?_⟩
  · rintro rfl
    rcases h with ⟨_, h⟩ | ⟨g, cap, cur, h, _⟩
    · exact h
    · simp at h
  · rintro x rfl i hi
    rcases h with ⟨h, _⟩ | ⟨g, cap, cur, h, _, hg, _, _, _, ht⟩
    · simp at h
    · simp only [Value.slice.injEq, Option.some.injEq] at h
      obtain ⟨rfl, -, rfl⟩ := h
      refine Lib.cells_of_row hg n i _ ?_
      rw [Nat.mul_one] at ht
      rw [ht]
      exact u8s_at zs i (by omega)

theorem own_below {w w' : World} {B : Nat} {v : Value} {n : Nat} {xs : List Value} (h : w.ownsRow B 5 1 v n xs) (hb : Below w.heap.size w w') : w'.ownsRow B 5 1 v n xs := by
  obtain ⟨hl, h⟩ := h
  refine ⟨hl, ?_⟩
  rcases h with h | ⟨g, cap, cur, h1, h2, hg, r⟩
  · exact .inl h
  · exact .inr ⟨g, cap, cur, h1, h2, by rw [hb.block g (Lib.lt_of_heap hg)]; exact hg, r⟩

theorem clone_own (a : Option Addr) (n c : Nat) (zs : List Int) (w : World) (h : Holds w a n zs) (hc : a = none → c = 0) (hlim : n ≤ 1048576) :
    Calls Try.prog 13 #[.slice a n c] w fun e w' => ∃ a' c', e = .returned (.slice a' n c') ∧ w'.ownsRow w.heap.size 5 1 (.slice a' n c') n (u8s zs) ∧ (a' = none → c' = 0) ∧ Below w.heap.size w w' := by
  cases a with
  | none =>
    obtain ⟨h1, h2, -⟩ := h
    have h2 := h2 rfl
    have hc := hc rfl
    subst h2 hc
    have : zs = [] := List.eq_nil_of_length_eq_zero h1
    subst this
    refine (clone_nil w).mono ?_
    rintro e w' ⟨rfl, rfl⟩
    exact ⟨none, 0, rfl, World.ownsRow_nil _ _ _ _, fun _ => rfl, Below.refl _ _⟩
  | some x =>
    refine (clone_some x n c (u8s zs) w (by rw [u8s_length]; exact h.1) h.src (u8s_one zs) hlim).mono ?_
    rintro e w' ⟨rfl, rfl⟩
    refine ⟨_, _, rfl, ⟨by rw [u8s_length, h.1]; omega, .inr ⟨w.heap.size, n, (u8s zs).toArray, rfl, Nat.le_refl _, Deep.blk_alloc_new _ _, Nat.le_refl _, by unfold maxLen; omega, by simp [u8s_length, h.1], ?_⟩⟩, (fun h => by cases h), (Below.refl _ _).alloc (Nat.le_refl _) _⟩
    rw [Nat.mul_one, List.take_of_length_le (by simp [u8s_length, h.1])]

theorem equal_any (a b : Option Addr) (n c d : Nat) (zs : List Int) (w : World) (hn : n ≤ 2097152) (h1 : Holds w a n zs) (h2 : Holds w b n zs) :
    Calls Try.prog 18 #[.slice a n c, .slice b n d] w fun e w' => e = .returned (.bool true) ∧ ∃ n, w' = w.drewN n := by
  by_cases h0 : n = 0
  · subst h0; exact equal_empty a b c d w
  · cases a with
    | none => exact absurd (h1.2.1 rfl) h0
    | some x =>
      cases b with
      | none => exact absurd (h2.2.1 rfl) h0
      | some y =>
        obtain ⟨b1, o1, s1⟩ := x
        obtain ⟨b2, o2, s2⟩ := y
        have e1 : s1 = none := by simpa [Addr.add] using World.cell?_spot (h1.2.2 _ rfl 0 (by omega))
        have e2 : s2 = none := by simpa [Addr.add] using World.cell?_spot (h2.2.2 _ rfl 0 (by omega))
        subst e1 e2
        refine equal_some b1 o1 b2 o2 n c d zs w h1.1 hn (fun i hi => ?_) (fun i hi => ?_)
        · rw [← Lib.addr_add]; exact h1.2.2 _ rfl i hi
        · rw [← Lib.addr_add]; exact h2.2.2 _ rfl i hi
end Go.Proofs.Qxb6604611a
