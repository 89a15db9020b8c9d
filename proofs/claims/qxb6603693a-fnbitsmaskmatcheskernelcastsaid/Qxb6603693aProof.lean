import Derived.Test.Qxb6603693aRows
import Derived.WalkKit
import Derived.ProofKit
import Derived.OpenShut
import Derived.ShutString
namespace Go.Proofs.Qxb6603693a.fnBitsMaskMatchesKernelCast
open Go.ChangeShapes Go.WideShapes Go.ChangeAt Go.RowKit
open Go.ChangeMaps (open_string shut_string)
set_option linter.unusedVariables false      -- a walk need not use every 'w<i>' (that an integer argument fits its kind)

theorem own : ownKnob Try.prog.godebug = none := by kernel_rfl

theorem mask_nat (a m : Nat) (k : Nat) (ha : a < 18446744073709551616) (hm : m < 18446744073709551616) (hk : m = 2 ^ k - 1) : bits .and .u64 (a : Int) (m : Int) = ((a % 2 ^ k : Nat) : Int) := by
  rw [u64_and_nat a m ha hm, hk, Nat.and_two_pow_sub_one_eq_mod]

theorem mask64 {a : Int} (h : (Lit.int .u64 a).wf = true) : (bits .and .u64 a 18446744073709551615 == a) = true := by
  have hb := bounds_u64 h
  obtain ⟨n, rfl⟩ := Int.eq_ofNat_of_zero_le hb.1
  have := mask_nat n 18446744073709551615 64 (by omega) (by omega) (by decide)
  rw [beq_iff_eq]
  refine this.trans ?_
  rw [Nat.mod_eq_of_lt (by omega)]

theorem mask32 {a : Int} (h : (Lit.int .u64 a).wf = true) : (bits .and .u64 a 4294967295 == a % 4294967296) = true := by
  have hb := bounds_u64 h
  obtain ⟨n, rfl⟩ := Int.eq_ofNat_of_zero_le hb.1
  have := mask_nat n 4294967295 32 (by omega) (by omega) (by decide)
  rw [beq_iff_eq]
  refine this.trans ?_
  omega

theorem mask16 {a : Int} (h : (Lit.int .u64 a).wf = true) : (bits .and .u64 a 65535 == a % 65536) = true := by
  have hb := bounds_u64 h
  obtain ⟨n, rfl⟩ := Int.eq_ofNat_of_zero_le hb.1
  have := mask_nat n 65535 16 (by omega) (by omega) (by decide)
  rw [beq_iff_eq]
  refine this.trans ?_
  omega

theorem mask32s {a : Int} (h : (Lit.int .u64 a).wf = true) : (bits .and .u64 a 4294967295 == wrap32 a % 4294967296) = true := by
  have h1 := beq_iff_eq.1 (mask32 h)
  rw [beq_iff_eq, h1]
  simp only [wrap32]
  omega

theorem mask16u {a : Int} (h : (Lit.int .u64 a).wf = true) : (bits .and .u64 a 65535 == IntKind.u64.wrap (IntKind.u16.wrap a)) = true := by
  have h1 := beq_iff_eq.1 (mask16 h)
  have e : IntKind.u16.wrap a = a % 65536 := IntKind.wrap_u16 a
  rw [beq_iff_eq, h1, e, IntWalk.u64_in _ (by omega)]

theorem ret_bool {x y : Bool} (h : x = y) : Ending.returned (.bool x) = .returned (.bool y) := by rw [h]

/-! ### STEP 1: THE WALK: the Go text returns true. 'Grown w w'': the world has at most new blocks (Derived/RowKit3.lean). Part the cases AHEAD of 'go_enter' where a test parts the walk; take each callee by a contract of your own. -/
theorem walk (a0 : Int) (a1 : Int) (w0 : (Lit.int .u8 a0).wf = true) (w1 : (Lit.int .u64 a1).wf = true) (w : World) :
    Calls Try.prog 3 #[.int .u8 a0, .int .u64 a1] w fun e w' => e = .returned (.bool true) ∧ Grown w w' := by
  have hb := bounds_u8 w0
  by_cases h3 : 3 < a0
  · go_enter Try.func3, Try.ntmps3
    go_wp2
    go_ret
    exact ⟨rfl, Grown.refl _⟩
  have h0 : a0 = 0 ∨ a0 = 1 ∨ a0 = 2 ∨ a0 = 3 := by omega
  clear hb h3 w0
  rcases h0 with rfl | rfl | rfl | rfl
  · go_enter Try.func3, Try.ntmps3
    go_wp2
    go_ret
    exact ⟨ret_bool (mask64 w1), Grown.refl _⟩
  · go_enter Try.func3, Try.ntmps3
    go_wp2
    go_ret
    exact ⟨ret_bool (mask32s w1), Grown.refl _⟩
  · go_enter Try.func3, Try.ntmps3
    go_wp2
    go_ret
    exact ⟨ret_bool (mask32 w1), Grown.refl _⟩
  · go_enter Try.func3, Try.ntmps3
    go_wp2
    go_ret
    exact ⟨ret_bool (mask16u w1), Grown.refl _⟩

/-! ### THE ROW's STEP: WRITTEN OUT: LEAVE IT -/
set_option maxRecDepth 100000 in
theorem lifted (os : Os) (started : os.Started) (H : Type) (enc : TypeId × Value → H) :
    ReturnsInHanded {} Try.checked os 3 .any (Rows.fnBitsMaskMatchesKernelCastSpec.pre6 enc Try.prog Try.f3 Rows.fnBitsMaskMatchesKernelCastRow.domain false) (Rows.fnBitsMaskMatchesKernelCastSpec.post enc Try.prog Try.f3 false true false false) := by
  refine returnsInHanded_of_change (C := Try.checked) own started (by kernel_rfl) Try.func3
    (ChangeSpec.witness6 (enc := enc) (C := Try.checked) false ⟨#[], #[.int .u8 0, .int .u64 0], []⟩ 8 (by kernel_rfl) (by kernel_rfl) (by kernel_rfl) (by kernel_rfl)) ?_
  intro W base args ds gs before hval0 hW hcnd _
  have hval : ∀ (j : Nat) t v, Try.f3.params[j]? = some t → args[j]? = some v → Value.okWide Try.prog W .any base t v := hval0
  have hW' := hW
  obtain ⟨p, q, hA0, hV, rfl, hfz, hnd⟩ := hW
  have hA : DataW.TrodAll enc Try.prog W 0 (fun _ => true) true Try.f3.params.toList args.toList ds p := hA0
  rw [Try.params3] at hA hval
  obtain ⟨v0, vs0, d0, ds0, p0, q0, hargs, rfl, rfl, h0, r0⟩ := trodAll_cons hA
  obtain ⟨v1, vs1, d1, ds1, p1, q1, rfl, rfl, rfl, h1, r1⟩ := trodAll_cons r0
  obtain ⟨rfl, rfl, rfl⟩ := trodAll_nil r1
  obtain rfl : args = #[v0, v1] := by cases args; simp_all
  obtain ⟨rfl, rfl⟩ := trodVars_none hV
  obtain ⟨a0, rfl, rfl, rfl, w0⟩ := open_int Try.underlying5 (hval 0 5 v0 rfl rfl) h0
  obtain ⟨a1, rfl, rfl, rfl, w1⟩ := open_int Try.underlying22 (hval 1 22 v1 rfl rfl) h1
  clear hA0 hval0
  simp only [List.append_nil] at hW'
  refine (walk a0 a1 w0 w1 W).mono fun e W' ⟨he, hg⟩ => ?_
  subst he
  exact ⟨_, rfl, post_of_same (pa := []) (pv := []) hW' (fun _ _ _ => (trodAll_cons_mk (shut_bool Try.underlying4 _) trodAll_mk0)) (fun sp _ => (trodAll_cons_mk (shut_int Try.underlying5 w0) (trodAll_cons_mk (shut_int Try.underlying22 w1) trodAll_mk0))) (fun _ _ => rfl) rfl
    (hg.frame _) hg.2.1 (ok_one (by kernel_rfl) rfl (okWide_bool_mk Try.underlying4 _))⟩

theorem over : Rows.fnBitsMaskMatchesKernelCastRow.holds Try.pinned (OpenSpec.ofChange Rows.fnBitsMaskMatchesKernelCastSpec) :=
  OpenClaim.holds_of_wide 3 Try.f3 rfl rfl rfl rfl rfl rfl rfl ⟨rfl, rfl, rfl, rfl, rfl⟩ rfl rfl rfl rfl rfl (by kernel_rfl) Try.func3 (by kernel_rfl)
    (of_decide_eq_true (by kernel_rfl)) (by unfold Func.isWrapper; first | (rw [if_pos (by decide +kernel)]; kernel_rfl) | (rw [if_neg (by decide +kernel)]; exact ⟨rfl, rfl⟩))
    (fun os started H enc _ => lifted os started H enc)

end Go.Proofs.Qxb6603693a.fnBitsMaskMatchesKernelCast

namespace Go.Proofs.Qxb6603693a
theorem bitsMask_proved : Rows.FnBitsMaskMatchesKernelCastSaid := fnBitsMaskMatchesKernelCast.over
end Go.Proofs.Qxb6603693a
