import Derived.Test.Qxb6603778aSub
namespace Go.Proofs.Qxb6603778a
open Go.RowKit

set_option maxHeartbeats 3200000 in
theorem subst_any (f : Nat) : ∀ (B : Nat) (la lb : Option Addr) (m c m' c' : Nat) (N : Nat → ByteArray) (A : Nat → Option Addr) (q : Option Addr) (w : World),
    TermAt w B f q → B ≤ w.heap.size → Pars w la m N → TKids w (fun _ => True) lb m' A → m ≤ m' → m' ≤ 131072 →
    Calls Try.prog 20 #[.pointer q, .slice la m c, .slice lb m' c'] w fun e w' => SubEnd w B m N A f q e w' := by
  have nil : ∀ (f B : Nat) (la lb : Option Addr) (m c m' c' : Nat) (N : Nat → ByteArray) (A : Nat → Option Addr) (w : World), Calls Try.prog 20 #[.pointer none, .slice la m c, .slice lb m' c'] w fun e w' => SubEnd w B m N A f none e w' := by
    intro f B la lb m c m' c' N A w
    go_enter Try.func20, Try.ntmps20
    go_wp2_with fail
    go_ret
    refine ⟨none, rfl, ?_, Below.refl _ _⟩
    cases f with
    | zero => exact ⟨rfl, rfl⟩
    | succ f => exact .inl ⟨rfl, rfl⟩
  induction f with
  | zero =>
    intro B la lb m c m' c' N A q w hq hBw hP hA hm hm'
    obtain rfl : q = none := hq
    exact nil _ _ _ _ _ _ _ _ _ _ _
  | succ f ih =>
    intro B la lb m c m' c' N A q w hq hBw hP hA hm hm'
    rcases hq with rfl | ⟨tb, F, ts, n, d, Q, rfl, hB, hC, hK, hn, hR⟩
    · exact nil _ _ _ _ _ _ _ _ _ _ _
    by_cases hn0 : n = 0
    · subst hn0
      by_cases hk : F.kind = 0
      · exact subst_leaf f B la lb m c m' c' N A tb F ts d w hB hC (hK.zero _) hk hP hA hm hm'
      · exact subst_plain f B la lb m c m' c' N A tb F ts d w hB hC (hK.zero _) hk
    have hpos : 0 < n := by omega
    obtain ⟨c0, c1, c2, c3, c4, c5, c6, c7⟩ := hC.cells
    have HC := Lib.hid hC
    have HK := Lib.hid hK
    have HR := Lib.hid hR
    have HP := Lib.hid hP
    have HA := Lib.hid hA
    have IH := Lib.hid ih
    have hne : ((n : Int) == 0) = false := beq_eq_false_iff_ne.2 (by omega)
    have hmk := fun w => run_make_row' (P := Try.prog) 29 27 (.pointer none) 8 Try.underlying29 Try.info27 rfl .i64 .i64 n (by omega) (by omega) w
    have htb : tb < w.heap.size := by omega
    have htb1 : tb < w.heap.size + 1 := by omega
    clear nil hC hK hR hP hA ih
    have M0 : Hid (Filled (w.alloc (.cells (tcells F (some ⟨w.heap.size + 1, 0, none⟩) n n) 53)) (w.heap.size + 1) n 0 (fun wr i x => Sub wr B (w.heap.size + 2) m N A f (Q i) x) ((w.alloc (.cells (tcells F (some ⟨w.heap.size + 1, 0, none⟩) n n) 53)).alloc (.cells (madeCells #[.pointer none] n) 27))) := by
      have := filled_start (w.alloc (.cells (tcells F (some ⟨w.heap.size + 1, 0, none⟩) n n) 53)) n (fun wr i x => Sub wr B (w.heap.size + 2) m N A f (Q i) x)
      have e : (w.alloc (.cells (tcells F (some ⟨w.heap.size + 1, 0, none⟩) n n) 53)).heap.size = w.heap.size + 1 := by simp
      rw [e] at this
      exact this
    by_cases hk : F.kind = 0
    all_goals
      first
        | (have hk1 : (F.kind == 0) = true := beq_iff_eq.2 hk)
        | (have hk1 : (F.kind == 0) = false := beq_eq_false_iff_ne.2 hk)
      clear hk
      go_enter Try.func20, Try.ntmps20
      go_wp2_with fail
      clear hmk
      go_loopw [71] (fun i wr => ∃ k : Nat, k ≤ n ∧ i = .int .i64 k ∧ Filled (w.alloc (.cells (tcells F (some ⟨w.heap.size + 1, 0, none⟩) n n) 53)) (w.heap.size + 1) n k (fun wr i x => Sub wr B (w.heap.size + 2) m N A f (Q i) x) wr) (fun i _ => n - (intOf i).toNat)
      case atStart => exact ⟨0, Nat.zero_le _, rfl, M0.out⟩
      case round =>
        obtain ⟨k, hk, rfl, hM⟩ := hrel
        have HM := Lib.hid hM
        have hbw : Below w.heap.size w wr := ((Below.refl w.heap.size w).alloc (Nat.le_refl _) _).trans (hM.1.mono (by omega))
        have hob : TermCells wr w.heap.size F (some ⟨w.heap.size + 1, 0, none⟩) n n := by
          unfold TermCells
          rw [hM.1.block w.heap.size (by omega)]
          exact Deep.blk_alloc_new w _
        have HOb := Lib.hid hob
        have HBw := Lib.hid hbw
        clear hM M0 hbw hob
        by_cases hlt : k < n
        · obtain ⟨kb, rfl, hkB, hkc⟩ := HK.out.at_ hpos
          have hck := (Agree.of_below HBw.out B 0).cell (.inl hkB) (hkc k hlt)
          have hgl : w.heap.size + 1 < wr.heap.size := by
            obtain ⟨-, cur, Q, h2, -⟩ := HM.out
            exact Lib.lt_of_heap h2
          have h7r := HOb.out.cells.2.2.2.2.2.2.2
          have HI : Hid (Calls Try.prog 20 #[.pointer (Q k), .slice la m c, .slice lb m' c'] wr.drew fun e w' => ∃ r, e = .returned (.pointer r) ∧ Sub w' B wr.heap.size m N A f (Q k) r ∧ Below wr.heap.size wr w') := by
            have bd : Below w.heap.size w wr.drew := HBw.out.drew
            refine (IH.out B la lb m c m' c' N A (Q k) wr.drew ((HR.out k hlt).agree (Agree.of_below bd B 0)) (by have := bd.size; omega) (HP.out.below bd) (HA.out.below bd) hm hm').mono ?_
            rintro e w' ⟨r, e1, e2, e3⟩
            exact ⟨r, e1, e2, ⟨e3.os, e3.tape, e3.output, e3.size, e3.block⟩⟩
          clear hkc
          go_wp2_with fail
          go_region_held (fun w' => w'.cell? ⟨w.heap.size, 7, none⟩ = some (.slice (some ⟨w.heap.size + 1, 0, none⟩) n n)) (go_keep) (first | (go_at_call 20; refine HI.out.mono ?_; rintro e w2 ⟨r2, rfl, hr2, b2⟩; have h7 := (TermCells.below HOb.out b2).cells.2.2.2.2.2.2.2; obtain ⟨⟨v, hv⟩, hfz⟩ := filled_slot HM.out hlt b2; have M2 := Lib.hid (filled_step HM.out hlt b2 (fun i x _ hr => hr.agree (Agree.store b2 (by omega) (by omega))) ((hr2.weak (s' := w.heap.size + 2) (by omega)).agree (Agree.store' (by omega) (by omega))))))
          go_wp2_with fail
          go_roundw
          case rel => exact ⟨k + 1, by omega, by go_num, M2.out⟩
          case measure => simp [intOf]; omega
        · have hkn : k = n := by omega
          subst hkn
          obtain ⟨R, hR1, hR2⟩ := filled_kids (ok := (w.heap.size ≤ ·)) HM.out (by omega)
          have hA := Agree.of_below HBw.out B 0
          have SE : Hid (SubEnd w B m N A (f + 1) (some ⟨tb, 0, none⟩) (.returned (.pointer (some ⟨w.heap.size, 0, none⟩))) wr) :=
            ⟨_, rfl, .inr ⟨tb, F, ts, k, d, Q, rfl, hB, HC.out.agree hA (.inl hB), HK.out.agree hA (fun x hx => .inl hx), hn, .inr (.inr ⟨hpos, w.heap.size, _, R, rfl, Nat.le_refl _, HOb.out, hR1, fun i hi => (hR2 i hi).weak (by omega)⟩)⟩, HBw.out⟩
          clear hR1 hR2 hA HM
          go_wp2_with fail
          go_ret
          exact SE.out

theorem zzsubst (f B : Nat) (la lb : Option Addr) (m c m' c' : Nat) (N : Nat → ByteArray) (A : Nat → Option Addr) (q : Option Addr) (w : World)
    (h1 : TermAt w B f q) (h2 : B ≤ w.heap.size) (h3 : Pars w la m N) (h4 : TKids w (fun _ => True) lb m' A) (h5 : m ≤ m') (h6 : m' ≤ 131072) :
    Calls Try.prog 11 #[.pointer q, .slice la m c, .slice lb m' c'] w fun e w' => SubEnd w B m N A f q e w' := by
  have H := Lib.hid (subst_any f B la lb m c m' c' N A q w h1 h2 h3 h4 h5 h6)
  clear h1 h3 h4
  go_enter Try.func11, Try.ntmps11
  go_wp2_with (go_at_call 20; refine H.out.mono ?_; rintro e w1 ⟨r, rfl, hr, hb⟩)
  go_ret
  exact ⟨r, rfl, hr, hb⟩
end Go.Proofs.Qxb6603778a
