import Derived.Lib.Join
import Derived.Lib.Strings
namespace Go.Proofs.Qxb6003568a

/-- the list holds no comma followed by a blank -/
def NoSep (l : List UInt8) : Prop := ∀ i : Nat, ¬ (l[i]? = some (44 : UInt8) ∧ l[i + 1]? = some (32 : UInt8))

/-- cut at each comma and blank, scanning from the left: cur is what has been passed since the last cut -/
def cut (cur : List UInt8) : List UInt8 → List (List UInt8)
  | [] => [cur]
  | [c] => [cur ++ [c]]
  | c :: d :: t => if c = 44 ∧ d = 32 then cur :: cut [] t else cut (cur ++ [c]) (d :: t)

theorem cut_sep (cur t : List UInt8) : cut cur (44 :: 32 :: t) = cur :: cut [] t := by simp [cut]
theorem cut_step (cur : List UInt8) (c : UInt8) (t : List UInt8) (h : ¬ (c = 44 ∧ t[0]? = some 32)) : cut cur (c :: t) = cut (cur ++ [c]) t := by
  cases t with
  | nil => simp [cut]
  | cons d t =>
    rw [cut, if_neg]
    intro ⟨h1, h2⟩
    exact h ⟨h1, by simp [h2]⟩

theorem noSep_tail {c : UInt8} {l : List UInt8} (h : NoSep (c :: l)) : NoSep l := fun i hi => h (i + 1) (by simpa using hi)

theorem cut_word (x cur : List UInt8) (h : NoSep x) : cut cur x = [cur ++ x] := by
  induction x generalizing cur with
  | nil => simp [cut]
  | cons c x ih =>
    rw [cut_step cur c x (fun hc => h 0 (by simpa using hc)), ih _ (noSep_tail h)]
    simp

theorem cut_word_sep (x cur t : List UInt8) (h : NoSep x) : cut cur (x ++ 44 :: 32 :: t) = (cur ++ x) :: cut [] t := by
  induction x generalizing cur with
  | nil => simp [cut]
  | cons c x ih =>
    have hc : ¬ (c = 44 ∧ (x ++ 44 :: 32 :: t)[0]? = some 32) := by
      intro ⟨h1, h2⟩
      cases x with
      | nil => simp at h2
      | cons d x => exact h 0 ⟨by simp [h1], by simpa using h2⟩
    rw [List.cons_append, cut_step cur c _ hc, ih _ (noSep_tail h)]
    simp

/-- cutting what Join made gives the names back -/
theorem cut_join (x : List UInt8) (r : List (List UInt8)) (h : ∀ y ∈ x :: r, NoSep y) : cut [] (Lib.join (x :: r) [44, 32]) = x :: r := by
  induction r generalizing x with
  | nil => rw [Lib.join_one, cut_word x [] (h x (by simp))]; simp
  | cons y r ih =>
    have e : Lib.join (x :: y :: r) [44, 32] = x ++ 44 :: 32 :: Lib.join (y :: r) [44, 32] := by
      rw [Lib.join_cons, Lib.join_cons]
      simp [Lib.joinTail]
    rw [e, cut_word_sep x [] _ (h x (by simp)), ih y (fun z hz => h z (by simp at hz ⊢; exact Or.inr hz))]
    simp

/-! what the loop of splitSep does, by places -/

theorem drop_at (l : List UInt8) (k : Nat) (h : k < l.length) : l.drop k = l[k] :: l.drop (k + 1) := List.drop_eq_getElem_cons h

theorem place_sep (l : List UInt8) (st k : Nat) (h1 : l[k]? = some 44) (h2 : l[k + 1]? = some 32) :
    cut ((l.drop st).take (k - st)) (l.drop k) = (l.drop st).take (k - st) :: cut ((l.drop (k + 2)).take (k + 2 - (k + 2))) (l.drop (k + 2)) := by
  obtain ⟨hk, e1⟩ := List.getElem?_eq_some_iff.1 h1
  obtain ⟨hk2, e2⟩ := List.getElem?_eq_some_iff.1 h2
  rw [drop_at l k hk, drop_at l (k + 1) hk2, e1, e2, cut_sep, Nat.sub_self, List.take_zero]

theorem place_step (l : List UInt8) (st k : Nat) (hst : st ≤ k) (hk : k < l.length) (h : ¬ (l[k]? = some 44 ∧ l[k + 1]? = some 32)) :
    cut ((l.drop st).take (k - st)) (l.drop k) = cut ((l.drop st).take (k + 1 - st)) (l.drop (k + 1)) := by
  rw [drop_at l k hk, cut_step]
  · congr 1
    have e : k + 1 - st = (k - st) + 1 := by omega
    rw [e, List.take_add_one]
    congr 1
    rw [List.getElem?_drop, show st + (k - st) = k by omega, List.getElem?_eq_getElem hk]
    rfl
  · intro ⟨h1, h2⟩
    refine h ⟨by rw [List.getElem?_eq_getElem hk, h1], ?_⟩
    rw [List.getElem?_drop] at h2
    simpa using h2

theorem place_end (l : List UInt8) (st : Nat) : cut ((l.drop st).take (l.length - st)) (l.drop l.length) = [l.drop st] := by
  rw [List.drop_length, List.take_of_length_le (by simp)]
  simp [cut]
end Go.Proofs.Qxb6003568a
