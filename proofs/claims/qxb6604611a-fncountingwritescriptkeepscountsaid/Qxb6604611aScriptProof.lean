import Derived.Test.Qxb6604611aRows
import Derived.WalkKit
import Derived.ProofKit
import Derived.OpenShut
import Derived.ShutString
import Derived.ChangeOld
import Derived.Below
import Derived.Test.Qxb6604611aLaw2
import Derived.Deep.Matrix
import Derived.Test.Qxb6604611aBuf
namespace Go.Proofs.Qxb6604611a.fnCountingWriteScriptKeepsCount
open Go.ChangeShapes Go.WideShapes Go.ChangeAt Go.RowKit
open Go.ChangeMaps (open_string shut_string)
set_option linter.unusedVariables false

theorem own : ownKnob Try.prog.godebug = none := by kernel_rfl
theorem laidOut : laidOutB Try.prog = true := by kernel_rfl

/-- WHAT THE WALK IS TOLD OF A SLICE OF INTEGERS THAT CAME IN: it is nil; or it leads to a row of 'cap' cells, the numbers 'zs' (the first 'len' are its elements, the rest its spare room), each fitting its kind. -/
def IsRow (k : IntKind) (w : World) (a : Option Addr) (len cap : Nat) (zs : List Int) : Prop :=
  (a = none ∧ len = 0 ∧ cap = 0 ∧ zs = []) ∨
  ∃ x, a = some x ∧ len ≤ cap ∧ cap ≤ maxLen ∧ zs.length = cap ∧ (∀ i, i < zs.length → w.cell? (x.add i) = some (.int k (zs.getD i 0))) ∧ ∀ n ∈ zs, (Lit.int k n).wf = true

theorem row_holds {w : World} {a : Option Addr} {len cap : Nat} {zs : List Int} (h : IsRow .u8 w a len cap zs) : Holds w a len (zs.take len) ∧ (a = none → cap = 0) ∧ len ≤ maxLen := by
  rcases h with ⟨rfl, rfl, rfl, rfl⟩ | ⟨x, rfl, h1, h2, h3, h4, _⟩
  · exact ⟨⟨rfl, fun _ => rfl, fun x hx => by cases hx⟩, fun _ => rfl, by unfold maxLen; omega⟩
  · refine ⟨⟨by rw [List.length_take]; omega, (fun e => by cases e), ?_⟩, (fun e => by cases e), by omega⟩
    intro y hy i hi
    have hy := Option.some.inj hy
    subst hy
    rw [h4 i (by omega), List.getD_eq_getElem?_getD, List.getD_eq_getElem?_getD, List.getElem?_take, if_pos hi]

/-- what a slice of byte slices that came in is: each of its first n cells holds a slice (A i, L i, C i) that reads as Z i -/
def IsRows (w : World) (a : Option Addr) (n d : Nat) : Prop :=
  n ≤ maxLen ∧ (a = none → d = 0) ∧ ∃ (A : Nat → Option Addr) (L C : Nat → Nat) (Z : Nat → List Int), Heads w a n A L C ∧ Parts w n A L C Z ∧ ∀ i, i < n → L i ≤ maxLen

theorem wrap_of_wf {a : Int} (h : (Lit.int .i64 a).wf = true) : wrap64 a = a := by
  have := bounds_i64 h
  simp only [wrap64]
  omega

theorem walk (a0 : Option Addr) (len0 cap0 : Nat) (z0 : List Int) (a1 : Int) (a2 : Option Addr) (len2 cap2 : Nat) (w : World) (w0 : IsRow .u8 w a0 len0 cap0 z0) (w1 : (Lit.int .i64 a1).wf = true) (w2 : IsRows w a2 len2 cap2) :
    Calls Try.prog 5 #[.slice a0 len0 cap0, .int .i64 a1, .slice a2 len2 cap2] w fun e w' => e = .returned (.bool true) ∧ Below w.heap.size w w' := by
  obtain ⟨h0, c0, m0⟩ := row_holds w0
  obtain ⟨m2, c2, A, L, C, Z, hH, hP, hL⟩ := w2
  exact law2 write_said bytes_said a0 a2 len0 cap0 len2 cap2 a1 A L C _ Z w (wrap_of_wf w1) m0 m2 hL h0 c0 hH c2 hP

/-! ### THE ROW's STEP: WRITTEN OUT: LEAVE IT -/
set_option maxRecDepth 100000 in
theorem lifted (os : Os) (started : os.Started) (H : Type) (enc : TypeId × Value → H) :
    ReturnsInHanded {} Try.checked os 5 .any (Rows.fnCountingWriteScriptKeepsCountSpec.pre6 enc Try.prog Try.f5 Rows.fnCountingWriteScriptKeepsCountRow.domain false) (Rows.fnCountingWriteScriptKeepsCountSpec.post enc Try.prog Try.f5 false true false false) := by
  refine returnsInHanded_of_change (C := Try.checked) own started (by kernel_rfl) Try.func5
    (ChangeSpec.witness6 (enc := enc) (C := Try.checked) false ⟨#[], #[.slice none 0 0, .int .i64 0, .slice none 0 0], []⟩ 8 (by kernel_rfl) (by kernel_rfl) (by kernel_rfl) (by kernel_rfl)) ?_
  intro W base args ds gs before hval0 hW hcnd _
  have hval : ∀ (j : Nat) t v, Try.f5.params[j]? = some t → args[j]? = some v → Value.okWide Try.prog W .any base t v := hval0
  have hW' := hW
  obtain ⟨p, q, hA0, hV, rfl, hfz, hnd⟩ := hW
  have hA : DataW.TrodAll enc Try.prog W 0 (fun _ => true) true Try.f5.params.toList args.toList ds p := hA0
  rw [Try.params5] at hA hval
  obtain ⟨v0, vs0, d0, ds0, p0, q0, hargs, rfl, rfl, h0, r0⟩ := trodAll_cons hA
  obtain ⟨v1, vs1, d1, ds1, p1, q1, rfl, rfl, rfl, h1, r1⟩ := trodAll_cons r0
  obtain ⟨v2, vs2, d2, ds2, p2, q2, rfl, rfl, rfl, h2, r2⟩ := trodAll_cons r1
  obtain ⟨rfl, rfl, rfl⟩ := trodAll_nil r2
  obtain rfl : args = #[v0, v1, v2] := by cases args; simp_all
  obtain ⟨rfl, rfl⟩ := trodVars_none hV
  obtain ⟨a0, len0, cap0, rfl⟩ := okWide_slice Try.underlying35 (hval 0 35 v0 rfl rfl)
  have k0 := h0
  have lt0 : ∀ x ∈ p0, x.block < W.heap.size := by obtain ⟨m, hm⟩ := k0; exact DataW.trod_lt m _ _ _ hm
  obtain ⟨z0, w0⟩ : ∃ zs, IsRow .u8 W a0 len0 cap0 zs := by
    obtain ⟨fuel, hf⟩ := h0
    rcases open_ints Try.underlying35 Try.underlying5 (by kernel_rfl) hf with ⟨hcs, _⟩ | ⟨x, l, c, zs, hcs, _, hl, hm, hz, _, hcell, hwz⟩
    · simp [Value.cells] at hcs
      obtain ⟨rfl, rfl, rfl⟩ := hcs
      exact ⟨[], .inl ⟨rfl, rfl, rfl, rfl⟩⟩
    · simp [Value.cells] at hcs
      obtain ⟨rfl, rfl, rfl⟩ := hcs
      exact ⟨zs, .inr ⟨_, rfl, hl, hm, by simpa using hz, hcell, hwz⟩⟩
  obtain ⟨a1, rfl, rfl, rfl, w1⟩ := open_int Try.underlying2 (hval 1 2 v1 rfl rfl) h1
  obtain ⟨a2, len2, cap2, rfl⟩ := okWide_slice Try.underlying45 (hval 2 45 v2 rfl rfl)
  have k2 := h2
  have lt2 : ∀ x ∈ p2, x.block < W.heap.size := by obtain ⟨m, hm⟩ := k2; exact DataW.trod_lt m _ _ _ hm
  have w2 : IsRows W a2 len2 cap2 := by
    obtain ⟨fuel, hf⟩ := h2
    rcases Deep.open_int_rows Try.underlying45 Try.underlying35 Try.underlying5 (by kernel_rfl) (by kernel_rfl) hf with ⟨hcs, _⟩ | ⟨x, l, c, A, L, C, Z, hcs, _, hl, hm, _, hall⟩
    · simp [Value.cells] at hcs
      obtain ⟨rfl, rfl, rfl⟩ := hcs
      exact ⟨by unfold maxLen; omega, fun _ => rfl, fun _ => none, fun _ => 0, fun _ => 0, fun _ => [], ⟨fun _ => rfl, fun _ _ i hi => absurd hi (Nat.not_lt_zero _)⟩, fun i hi => absurd hi (Nat.not_lt_zero _), fun i hi => absurd hi (Nat.not_lt_zero _)⟩
    · simp [Value.cells] at hcs
      obtain ⟨rfl, rfl, rfl⟩ := hcs
      refine ⟨by omega, (fun e => by cases e), A, L, C, fun i => (Z i).take (L i), ⟨(fun e => by cases e), fun y hy i hi => ?_⟩, fun i hi => ?_, fun i hi => ?_⟩
      · have hy := Option.some.inj hy
        subst hy
        exact (hall i (by omega)).1
      · obtain ⟨_, r1, r2, r3, _, r5, r6⟩ := hall i (by omega)
        refine ⟨⟨by rw [List.length_take]; omega, fun e => by have := r5 e; omega, fun y hy j hj => ?_⟩, r5⟩
        rw [(r6 y hy).2 j (by omega), List.getD_eq_getElem?_getD, List.getD_eq_getElem?_getD, List.getElem?_take, if_pos hj]
      · obtain ⟨_, r1, r2, _⟩ := hall i (by omega)
        omega
  clear hA0 hval0
  refine (walk a0 len0 cap0 z0 a1 a2 len2 cap2 W w0 w1 w2).mono fun e W' ⟨he, bel⟩ => ?_
  subst he
  exact ⟨_, rfl, _, _, _, [], _, [], hW', trodAll_mk1 (shut_bool Try.underlying4 _), (trodAll_cons_mk (Below.trod laidOut (by kernel_rfl) (of_decide_eq_true (by kernel_rfl)) k0 bel lt0) (trodAll_cons_mk (shut_int Try.underlying2 w1) (trodAll_cons_mk (Below.trod laidOut (by kernel_rfl) (of_decide_eq_true (by kernel_rfl)) k2 bel lt2) trodAll_mk0))), rfl, bel.frame _, fun h => by cases h⟩

theorem over : Rows.fnCountingWriteScriptKeepsCountRow.holds Try.pinned (OpenSpec.ofChange Rows.fnCountingWriteScriptKeepsCountSpec) :=
  OpenClaim.holds_of_wide 5 Try.f5 rfl rfl rfl rfl rfl rfl rfl ⟨rfl, rfl, rfl, rfl, rfl⟩ rfl rfl rfl rfl rfl (by kernel_rfl) Try.func5 (by kernel_rfl)
    (of_decide_eq_true (by kernel_rfl)) (by unfold Func.isWrapper; first | (rw [if_pos (by decide +kernel)]; kernel_rfl) | (rw [if_neg (by decide +kernel)]; exact ⟨rfl, rfl⟩))
    (fun os started H enc _ => lifted os started H enc)

end Go.Proofs.Qxb6604611a.fnCountingWriteScriptKeepsCount

namespace Go.Proofs.Qxb6604611a
theorem countingWriteScript_proved : Rows.FnCountingWriteScriptKeepsCountSaid := fnCountingWriteScriptKeepsCount.over
end Go.Proofs.Qxb6604611a
