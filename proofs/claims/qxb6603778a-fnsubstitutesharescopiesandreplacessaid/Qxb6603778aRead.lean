import Derived.Test.Qxb6603778aFits
import Derived.ChangeArms
import Derived.Deep.Slices
namespace Go.Proofs.Qxb6603778a
open Go.RowKit

theorem Try.cells3 : Try.prog.cellsOf 3 = 1 := by kernel_rfl
theorem Try.cells9 : Try.prog.cellsOf 9 = 1 := by kernel_rfl
theorem Try.cells38 : Try.prog.cellsOf 38 = 1 := by kernel_rfl
theorem Try.cells23 : Try.prog.cellsOf 23 = 1 := by kernel_rfl
theorem Try.cells22 : Try.prog.cellsOf 22 = 1 := by kernel_rfl
theorem Try.cells40 : Try.prog.cellsOf 40 = 8 := by kernel_rfl

section
variable {H : Type} {enc : TypeId × Value → H} {W : World} {sp : Nat → Bool} {held : Bool}

theorem slice_nodes {fuel : Nat} {v : Value} {x : DataW H × List MemPlace} (ih : ∀ l, l < fuel → ∀ p x, DataW.trod enc Try.prog W 0 sp held l 22 [.pointer p] = some x → NodeAt W W.heap.size maxLen l p)
    (h : DataW.trod enc Try.prog W 0 sp held fuel 23 [v] = some x) :
    ∃ la n c P, v = .slice la n c ∧ (la = none → n = 0 ∧ c = 0) ∧ n ≤ maxLen ∧ NKids W W.heap.size la n P ∧ ∀ i, i < n → NodeAt W W.heap.size maxLen fuel (P i) := by
  rcases DataW.trod_slice Try.underlying23 h with ⟨e, _⟩ | ⟨a, len, cap, elems, rest, l, rfl, e, _, _, hl, hm, hlen, hel, _, _⟩
  · simp only [List.cons.injEq, and_true] at e
    subst e
    exact ⟨none, 0, 0, fun _ => none, rfl, fun _ => ⟨rfl, rfl⟩, by unfold maxLen; omega, .inl ⟨rfl, .inl rfl⟩, fun i hi => absurd hi (Nat.not_lt_zero _)⟩
  · simp only [List.cons.injEq, and_true] at e
    subst e
    have each : ∀ i, i < len → ∃ p : Option Addr, W.cell? (a.add i) = some (.pointer p) ∧ NodeAt W W.heap.size maxLen (l + 1) p := by
      intro i hi
      have h1 := hel i hi
      rw [List.getElem?_eq_getElem (by omega)] at h1
      obtain ⟨cs, hc, hd⟩ := Option.bind_eq_some_iff.1 h1
      rw [Try.cells22, Nat.mul_one] at hc
      obtain ⟨_, hcl, hcc⟩ := World.cells?_some hc
      match cs, hcl with
      | [u], _ =>
        have hu : W.cell? (a.add i) = some u := by
          have := hcc 0 (by omega)
          simpa [Addr.add] using this
        rcases DataW.trod_pointer Try.underlying22 hd with ⟨e, _⟩ | ⟨b, cs', y, n, _, e, _, _, _⟩
        · simp only [List.cons.injEq, and_true] at e
          subst e
          exact ⟨none, hu, NodeAt.nil _⟩
        · simp only [List.cons.injEq, and_true] at e
          subst e
          exact ⟨some b, hu, (ih l (by omega) _ _ hd).up⟩
    obtain ⟨P, hP⟩ := Deep.choose_lt each
    refine ⟨some a, len, cap, P, rfl, (fun e => by cases e), by omega, ?_, fun i hi => (hP i hi).2⟩
    by_cases h0 : len = 0
    · exact .inl ⟨h0, .inr (by simp)⟩
    · obtain ⟨kb, ko, s⟩ := a
      have hs : s = none := by simpa [Addr.add] using World.cell?_spot (hP 0 (by omega)).1
      subst hs
      refine .inr ⟨kb, ko, rfl, ?_, fun i hi => ?_⟩
      · have := World.block_lt_of_cell? W _ (hP 0 (by omega)).1
        rw [Lib.addr_add] at this
        exact this
      · rw [← Lib.addr_add]
        exact (hP i hi).1

theorem node_of : ∀ (fuel : Nat) (p : Option Addr) (x : DataW H × List MemPlace), DataW.trod enc Try.prog W 0 sp held fuel 22 [.pointer p] = some x → NodeAt W W.heap.size maxLen fuel p := by
  intro fuel
  induction fuel using Nat.strongRecOn with
  | _ fuel ih =>
    intro p x h
    rcases DataW.trod_pointer Try.underlying22 h with ⟨e, _⟩ | ⟨a, cs, y, n, rfl, e, _, hcells, hy⟩
    · simp only [List.cons.injEq, Value.pointer.injEq, and_true] at e
      subst e
      exact NodeAt.nil _
    simp only [List.cons.injEq, Value.pointer.injEq, and_true] at e
    subst e
    rw [Try.cells40] at hcells
    obtain ⟨_, hlen, hc⟩ := World.cells?_some hcells
    obtain ⟨xs, m, rfl, _, _, hxl, hf⟩ := DataW.trod_struct Try.underlying40 hy
    match cs, hlen with
    | [v0, v1, v2, v3, v4, v5, v6, v7], _ =>
      have hxl : xs.length = 8 := hxl
      match xs, hxl with
      | [y0, y1, y2, y3, y4, y5, y6, y7], _ =>
        have f0 : DataW.trod enc Try.prog W 0 sp held m 3 (([v0, v1, v2, v3, v4, v5, v6, v7].drop 0).take (Try.prog.cellsOf 3)) = some y0 := hf 0 _ rfl
        rw [Try.cells3] at f0
        have f1 : DataW.trod enc Try.prog W 0 sp held m 9 (([v0, v1, v2, v3, v4, v5, v6, v7].drop 1).take (Try.prog.cellsOf 9)) = some y1 := hf 1 _ rfl
        rw [Try.cells9] at f1
        have f2 : DataW.trod enc Try.prog W 0 sp held m 38 (([v0, v1, v2, v3, v4, v5, v6, v7].drop 2).take (Try.prog.cellsOf 38)) = some y2 := hf 2 _ rfl
        rw [Try.cells38] at f2
        have f3 : DataW.trod enc Try.prog W 0 sp held m 9 (([v0, v1, v2, v3, v4, v5, v6, v7].drop 3).take (Try.prog.cellsOf 9)) = some y3 := hf 3 _ rfl
        rw [Try.cells9] at f3
        have f4 : DataW.trod enc Try.prog W 0 sp held m 9 (([v0, v1, v2, v3, v4, v5, v6, v7].drop 4).take (Try.prog.cellsOf 9)) = some y4 := hf 4 _ rfl
        rw [Try.cells9] at f4
        have f5 : DataW.trod enc Try.prog W 0 sp held m 3 (([v0, v1, v2, v3, v4, v5, v6, v7].drop 5).take (Try.prog.cellsOf 3)) = some y5 := hf 5 _ rfl
        rw [Try.cells3] at f5
        have f6 : DataW.trod enc Try.prog W 0 sp held m 3 (([v0, v1, v2, v3, v4, v5, v6, v7].drop 6).take (Try.prog.cellsOf 3)) = some y6 := hf 6 _ rfl
        rw [Try.cells3] at f6
        have f7 : DataW.trod enc Try.prog W 0 sp held m 23 (([v0, v1, v2, v3, v4, v5, v6, v7].drop 7).take (Try.prog.cellsOf 23)) = some y7 := hf 7 _ rfl
        rw [Try.cells23] at f7
        have f0 : DataW.trod enc Try.prog W 0 sp held m 3 [v0] = some y0 := f0
        have f1 : DataW.trod enc Try.prog W 0 sp held m 9 [v1] = some y1 := f1
        have f2 : DataW.trod enc Try.prog W 0 sp held m 38 [v2] = some y2 := f2
        have f3 : DataW.trod enc Try.prog W 0 sp held m 9 [v3] = some y3 := f3
        have f4 : DataW.trod enc Try.prog W 0 sp held m 9 [v4] = some y4 := f4
        have f5 : DataW.trod enc Try.prog W 0 sp held m 3 [v5] = some y5 := f5
        have f6 : DataW.trod enc Try.prog W 0 sp held m 3 [v6] = some y6 := f6
        have f7 : DataW.trod enc Try.prog W 0 sp held m 23 [v7] = some y7 := f7
        obtain ⟨k0, e0, _, _⟩ := DataW.trod_int Try.underlying3 f0
        obtain ⟨s1, e1, _, l1⟩ := DataW.trod_string Try.underlying9 f1
        obtain ⟨k2, e2, _, _⟩ := DataW.trod_int Try.underlying38 f2
        obtain ⟨s3, e3, _, l3⟩ := DataW.trod_string Try.underlying9 f3
        obtain ⟨s4, e4, _, l4⟩ := DataW.trod_string Try.underlying9 f4
        obtain ⟨k5, e5, _, _⟩ := DataW.trod_int Try.underlying3 f5
        obtain ⟨k6, e6, _, _⟩ := DataW.trod_int Try.underlying3 f6
        simp only [List.cons.injEq, and_true] at e0 e1 e2 e3 e4 e5 e6
        subst e0 e1 e2 e3 e4 e5 e6
        obtain ⟨la, ln, lc, P, rfl, hz, hm, hK, hR⟩ := slice_nodes (fun l hl => ih l (by omega)) f7
        obtain ⟨b, o, s⟩ := a
        have hs : s = none := by
          have := hc 0 (by omega)
          simpa [Addr.add] using World.cell?_spot (v := .int .i64 k0) this
        subst hs
        have g : ∀ i v, i < 8 → [Value.int .i64 k0, .string s1, .int .u64 k2, .string s3, .string s4, .int .i64 k5, .int .i64 k6, .slice la ln lc][i]? = some v → W.cell? ⟨b, o + i, none⟩ = some v := by
          intro i v hi hv
          rw [← Lib.addr_add, hc i hi, hv]
        refine .inr ⟨b, o, ⟨k0, s1, k2, s3, s4, k5, k6⟩, la, ln, lc, P, rfl, ?_, ⟨g 0 _ (by omega) rfl, g 1 _ (by omega) rfl, g 2 _ (by omega) rfl, g 3 _ (by omega) rfl, g 4 _ (by omega) rfl, g 5 _ (by omega) rfl, g 6 _ (by omega) rfl, g 7 _ (by omega) rfl⟩, fun e => (hz e).2, fun e => (hz e).1, l1, l3, l4, hm, hK, fun i hi => (hR i hi).mono (by omega)⟩
        exact World.block_lt_of_cell? W ⟨b, o, none⟩ (g 0 _ (by omega) rfl)

theorem list_of {fuel : Nat} {v : Value} {x : DataW H × List MemPlace} (h : DataW.trod enc Try.prog W 0 sp held fuel 23 [v] = some x) :
    ∃ la n c P, v = .slice la n c ∧ (la = none → n = 0 ∧ c = 0) ∧ n ≤ maxLen ∧ NList W W.heap.size maxLen fuel la n P := by
  obtain ⟨la, n, c, P, h1, h2, h3, h4, h5⟩ := slice_nodes (fun l _ p x hp => node_of l p x hp) h
  exact ⟨la, n, c, P, h1, h2, h3, h4, h5⟩
end
end Go.Proofs.Qxb6603778a
