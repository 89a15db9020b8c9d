import Derived.Test.Qxb6003568aSep
namespace Go.Proofs.Qxb6003568a
open Go.RowKit

/-- the parts made so far, and what is still to come of them -/
def Parts (s : ByteArray) (ps : List ByteArray) (st k : Nat) : Prop :=
  ps.map (·.data.toList) ++ cut ((s.data.toList.drop st).take (k - st)) (s.data.toList.drop k) = cut [] s.data.toList

theorem parts_start (s : ByteArray) : Parts s [] 0 0 := by
  unfold Parts
  simp

theorem parts_sep {s : ByteArray} {ps : List ByteArray} {st k : Nat} (h : Parts s ps st k) (h0 : k < s.size) (h1 : k + 1 < s.size) (c1 : s[k].toNat = 44) (c2 : s[k + 1].toNat = 32) : Parts s (ps ++ [s.extract st k]) (k + 2) (k + 2) := by
  unfold Parts at h ⊢
  rw [place_sep _ _ _ (eq_byte h0 44 c1) (eq_byte h1 32 c2)] at h
  rw [← h, List.map_append, List.append_assoc]
  congr 1
  simp only [List.map_cons, List.map_nil, Lib.extract_data]
  rfl

theorem parts_step {s : ByteArray} {ps : List ByteArray} {st k : Nat} (h : Parts s ps st k) (hst : st ≤ k) (h0 : k < s.size) (hc : ¬ (s.data.toList[k]? = some (44 : UInt8) ∧ s.data.toList[k + 1]? = some (32 : UInt8))) : Parts s ps st (k + 1) := by
  unfold Parts at h ⊢
  rw [place_step _ _ _ hst (by simpa using h0) hc] at h
  exact h

theorem parts_end {s : ByteArray} {ps : List ByteArray} {st : Nat} (h : Parts s ps st s.size) : (ps ++ [s.extract st s.size]).map (·.data.toList) = cut [] s.data.toList := by
  unfold Parts at h
  have e : s.size = s.data.toList.length := by rw [Array.length_toList]; rfl
  rw [e, place_end] at h
  rw [← h, List.map_append]
  congr 1
  simp only [List.map_cons, List.map_nil, Lib.extract_data]
  rw [List.take_of_length_le (by rw [List.length_drop]; omega)]

/-- what splitSep gives -/
def SplitEnd (s : ByteArray) (w : World) (e : Ending) (w' : World) : Prop :=
  ∃ a n d, ∃ ps : List ByteArray, e = .returned (.slice a n d) ∧ ps.length = n ∧ Names w' a ps ∧ ps.map (·.data.toList) = cut [] s.data.toList ∧ Below w.heap.size w w'

theorem own_names {w : World} {B : Nat} {v : Value} {n : Nat} {ps : List ByteArray} (h : w.ownsRow B 9 1 v n (strs ps)) : ∃ a d, v = .slice a n d ∧ ps.length = n ∧ Names w a ps := by
  obtain ⟨hl, h⟩ := h
  rw [strs_length, Nat.mul_one] at hl
  rcases h with ⟨rfl, rfl⟩ | ⟨g, cap, cur, rfl, _, hg, _, _, _, ht⟩
  · have := List.eq_nil_of_length_eq_zero hl
    subst this
    exact ⟨none, 0, rfl, rfl, Names.nil _ _⟩
  · refine ⟨_, cap, rfl, hl, (fun e => by cases e), fun x hx j s hj => ?_⟩
    have hx := Option.some.inj hx
    subst hx
    rw [Nat.mul_one] at ht
    refine Lib.cells_of_row hg n j _ ?_
    rw [ht]
    exact strs_at hj

set_option maxHeartbeats 1600000 in
theorem splitSep (s : ByteArray) (w : World) (hs : s.size ≤ 2097152) : Calls Try.prog 11 #[.string s] w fun e w' => SplitEnd s w e w' := by
  obtain ⟨i0, hi, hz0, hz1, hz2⟩ := info_parts Try.info9
  go_enter Try.func11, Try.ntmps11
  go_wp2
  go_loopw [3, 4, 5] (fun v st i wr => ∃ k t : Nat, ∃ ps : List ByteArray, t ≤ k ∧ k ≤ s.size ∧ ps.length ≤ k ∧ i = .int .i64 k ∧ st = .int .i64 t ∧ wr.ownsRow w.heap.size 9 1 v ps.length (strs ps) ∧ Below w.heap.size w wr ∧ Parts s ps t k) (fun _ _ i _ => s.size - (intOf i).toNat)
  case atStart => exact ⟨0, 0, [], Nat.le_refl _, Nat.zero_le _, Nat.le_refl _, rfl, rfl, World.ownsRow_nil _ _ _ _, Below.refl _ _, parts_start s⟩
  case round =>
    obtain ⟨k, t, ps, htk, hk, hpk, rfl, rfl, hown, hb, hP⟩ := hrel
    have HP := Lib.hid hP
    have HO := Lib.hid hown
    clear hP hown
    by_cases hlt : k < s.size
    · by_cases hlt1 : k + 1 < s.size
      · by_cases c1 : s[k].toNat = 44
        · by_cases c2 : s[k + 1].toNat = 32
          · have HP2 := Lib.hid (parts_sep HP.out hlt hlt1 c1 c2)
            go_wp2_with (at_builtin; refine wpList_append_own _ rfl _ _ 22 rfl w.heap.size 9 i0 (.string ⟨#[]⟩) 1 16 Try.underlying22 hi hz0 hz1 hz2 rfl (by decide) _ ps.length (strs ps) rfl (HO.out.alloc _) ⟨wr.heap.size, 0, none⟩ 1 1 [.string (s.extract t k)] rfl rfl ?c1 ?c2 ?c3 ?c4 ?c5 ?_)
            case c1 =>
              intro j u hj
              match j, hj with
              | 0, hj => simp at hj; subst hj; simp [Addr.add]
            case c2 => intro u hu; simp at hu; subst hu; rfl
            case c3 => unfold maxLen; omega
            case c4 => omega
            case c5 => have := hb.size; simp; omega
            intro v' w2 hown' hgrow' _
            have hb2 : Below w.heap.size w w2 := by
              have := hb.size
              refine (hb.alloc this _).grown hgrow' (by simp; omega) (fun j hj => ?_)
              exact (HO.out.lt j hj).1
            have hown2 : w2.ownsRow w.heap.size 9 1 v' (ps ++ [s.extract t k]).length (strs (ps ++ [s.extract t k])) := by
              have e1 : strs (ps ++ [s.extract t k]) = strs ps ++ [.string (s.extract t k)] := by simp [strs]
              rw [e1, List.length_append]
              exact hown'
            clear hgrow' hown'
            go_wp2
            go_roundw
            case rel => exact ⟨k + 2, k + 2, ps ++ [s.extract t k], Nat.le_refl _, by omega, by simp; omega, by go_num, by go_num, hown2, hb2, HP2.out⟩
            case measure => simp [intOf]; omega
          · have HP2 := Lib.hid (parts_step HP.out htk hlt (fun h => c2 (byte_eq hlt1 32 h.2)))
            have f2 : (((s[k + 1].toNat : Nat) : Int) == 32) = false := beq_eq_false_iff_ne.2 (by omega)
            go_wp2
            go_roundw
            case rel => exact ⟨k + 1, t, ps, by omega, by omega, by omega, by go_num, rfl, HO.out, hb, HP2.out⟩
            case measure => simp [intOf]; omega
        · have HP2 := Lib.hid (parts_step HP.out htk hlt (fun h => c1 (byte_eq hlt 44 h.1)))
          have f1 : (((s[k].toNat : Nat) : Int) == 44) = false := beq_eq_false_iff_ne.2 (by omega)
          go_wp2
          go_roundw
          case rel => exact ⟨k + 1, t, ps, by omega, by omega, by omega, by go_num, rfl, HO.out, hb, HP2.out⟩
          case measure => simp [intOf]; omega
      · have HP2 := Lib.hid (parts_step HP.out htk hlt (fun h => by
          obtain ⟨hh, _⟩ := List.getElem?_eq_some_iff.1 h.2
          have e2 : s.data.toList.length = s.size := by rw [Array.length_toList]; rfl
          omega))
        go_wp2
        go_roundw
        case rel => exact ⟨k + 1, t, ps, by omega, by omega, by omega, by go_num, rfl, HO.out, hb, HP2.out⟩
        case measure => simp [intOf]; omega
    · have e : k = s.size := by omega
      subst e
      have HE := Lib.hid (parts_end HP.out)
      go_wp2_with (at_builtin; refine wpList_append_own _ rfl _ _ 22 rfl w.heap.size 9 i0 (.string ⟨#[]⟩) 1 16 Try.underlying22 hi hz0 hz1 hz2 rfl (by decide) _ ps.length (strs ps) rfl (HO.out.alloc _) ⟨wr.heap.size, 0, none⟩ 1 1 [.string (s.extract t s.size)] rfl rfl ?c1 ?c2 ?c3 ?c4 ?c5 ?_)
      case c1 =>
        intro j u hj
        match j, hj with
        | 0, hj => simp at hj; subst hj; simp [Addr.add]
      case c2 => intro u hu; simp at hu; subst hu; rfl
      case c3 => unfold maxLen; omega
      case c4 => omega
      case c5 => have := hb.size; simp; omega
      intro v' w2 hown' hgrow' _
      have hb2 : Below w.heap.size w w2 := by
        have := hb.size
        refine (hb.alloc this _).grown hgrow' (by simp; omega) (fun j hj => ?_)
        exact (HO.out.lt j hj).1
      have hown2 : w2.ownsRow w.heap.size 9 1 v' (ps.length + 1) (strs (ps ++ [s.extract t s.size])) := by
        have e1 : strs (ps ++ [s.extract t s.size]) = strs ps ++ [.string (s.extract t s.size)] := by simp [strs]
        rw [e1]
        exact hown'
      obtain ⟨a, d, rfl, hl, hnm⟩ := own_names hown2
      clear hgrow' hown' hown2
      go_wp2
      go_ret
      exact ⟨a, _, d, _, rfl, hl, hnm, HE.out, hb2⟩
end Go.Proofs.Qxb6003568a
