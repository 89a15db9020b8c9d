import Derived.Test.Qxb6603778aBuild
namespace Go.Proofs.Qxb6603778a
open Go.RowKit

/-- what buildList gives -/
def ListEnd (w : World) (B f : Nat) (la : Option Addr) (n : Nat) (P : Nat → Option Addr) (e : Ending) (w' : World) : Prop :=
  ∃ lt d Q, e = .returned (.slice lt n d) ∧ TKids w' (w.heap.size ≤ ·) lt n Q ∧ (∀ i, i < n → Built w' B w.heap.size f (P i) (Q i)) ∧ (la = none ↔ lt = none) ∧ Below w.heap.size w w'

set_option maxHeartbeats 3200000 in
theorem buildList_any (f B : Nat) (la : Option Addr) (n c : Nat) (P : Nat → Option Addr) (w : World) (hP : NList w B 1048576 f la n P) (hnn : la = none → n = 0) (hz : la = none → c = 0) (hBw : B ≤ w.heap.size) (hf : f ≤ 1048578) (hn : n ≤ 1048576) :
    Calls Try.prog 10 #[.slice la n c] w fun e w' => ListEnd w B f la n P e w' := by
  have q := fun (w : World) (a : Option Addr) (n c n' c' : Nat) => Lib.run_eql_slice_nil (P := Try.prog) w _ _ a n c n' c' Try.underlying23
  cases la with
  | none =>
    have hn0 := hnn rfl
    have hc0 := hz rfl
    subst hn0 hc0
    clear hP
    go_enter Try.func10, Try.ntmps10
    go_wp2_with fail
    go_ret
    exact ⟨none, 0, fun _ => none, rfl, .inl ⟨rfl, rfl⟩, fun i hi => absurd hi (Nat.not_lt_zero _), Iff.rfl, Below.refl _ _⟩
  | some x =>
    have hmk := run_make_row' (P := Try.prog) 29 27 (.pointer none) 8 Try.underlying29 Try.info27 rfl .i64 .i64 n (by omega) (by omega) w
    have M0 := Lib.hid (filled_start w n (fun wr i q => Built wr B (w.heap.size + 1) f (P i) q))
    have HP := Lib.hid hP
    clear hP hnn hz
    go_enter Try.func10, Try.ntmps10
    go_wp2_with fail
    go_loopw [4] (fun i wr => ∃ k : Nat, k ≤ n ∧ i = .int .i64 k ∧ Filled w w.heap.size n k (fun wr i q => Built wr B (w.heap.size + 1) f (P i) q) wr) (fun i _ => n - (intOf i).toNat)
    case atStart => exact ⟨0, Nat.zero_le _, rfl, M0.out⟩
    case round =>
      obtain ⟨k, hk, rfl, hM⟩ := hrel
      have HM := Lib.hid hM
      have hAr := Agree.of_below (hM.1) B 0
      clear hM M0 hmk
      by_cases hlt : k < n
      · obtain ⟨kb, ko, hx, hkB, hkc⟩ := HP.out.1.at_ (by omega)
        have hx := Option.some.inj hx
        subst hx
        have hck := hAr.cell (.inl hkB) (hkc k hlt)
        have HI := Lib.hid (build_any f B (P k) 1048578 wr ((HP.out.2 k hlt).agree hAr) (by have := HM.out.1.size; omega) (by omega) (by omega))
        clear hkc hAr
        go_wp2_with (go_at_call 9; refine HI.out.mono ?_; rintro e w2 ⟨q2, rfl, hq2, b2⟩; refine Hid.out ?_)
        refine Lib.hid ?_
        obtain ⟨⟨v, hv⟩, hfz⟩ := filled_slot HM.out hlt b2
        have hgl : w.heap.size < wr.heap.size := by
          obtain ⟨-, cur, Q, h2, -⟩ := HM.out
          exact Lib.lt_of_heap h2
        have M2 := Lib.hid (filled_step HM.out hlt b2 (fun i x _ hr => hr.agree (Agree.store b2 hBw (by omega))) ((hq2.weak (s' := w.heap.size + 1) (by omega)).agree (Agree.store' hBw (by omega))))
        clear hq2 b2 HI HM hck
        go_wp2_with fail
        go_roundw
        case rel => exact ⟨k + 1, by omega, by go_num, M2.out⟩
        case measure => simp [intOf]; omega
      · have hkn : k = n := by omega
        subst hkn
        obtain ⟨Q, hQ1, hQ2⟩ := filled_kids (ok := (w.heap.size ≤ ·)) HM.out (Nat.le_refl _)
        have LE : Hid (ListEnd w B f (some x) k P (.returned (.slice (some ⟨w.heap.size, 0, none⟩) k k)) wr) := ⟨_, _, Q, rfl, hQ1, fun i hi => (hQ2 i hi).weak (by omega), by simp, HM.out.1⟩
        clear hQ1 hQ2 hAr HM
        go_wp2_with fail
        go_ret
        exact LE.out

/-- a tree of terms of depth at most f, in blocks below B -/
def TermAt (w : World) (B : Nat) : Nat → Option Addr → Prop
  | 0, q => q = none
  | f + 1, q => q = none ∨ ∃ (tb : Nat) (F : Flds) (ts : Option Addr) (n d : Nat) (Q : Nat → Option Addr),
      q = some ⟨tb, 0, none⟩ ∧ tb < B ∧ TermCells w tb F ts n d ∧ TKids w (· < B) ts n Q ∧ n ≤ 1048576 ∧ ∀ i, i < n → TermAt w B f (Q i)

theorem TermAt.agree {B s : Nat} {w w' : World} (hA : Agree B s w w') : ∀ {f : Nat} {q : Option Addr}, TermAt w B f q → TermAt w' B f q
  | 0, _, h => h
  | f + 1, q, h => by
    rcases h with h | ⟨tb, F, ts, n, d, Q, h1, h2, h3, h4, h5, h6⟩
    · exact .inl h
    · exact .inr ⟨tb, F, ts, n, d, Q, h1, h2, h3.agree hA (.inl h2), h4.agree hA (fun k hk => .inl hk), h5, fun i hi => TermAt.agree hA (h6 i hi)⟩

theorem TermAt.grow {B B' : Nat} {w : World} (hB : B ≤ B') : ∀ {f : Nat} {q : Option Addr}, TermAt w B f q → TermAt w B' f q
  | 0, _, h => h
  | f + 1, q, h => by
    rcases h with h | ⟨tb, F, ts, n, d, Q, h1, h2, h3, h4, h5, h6⟩
    · exact .inl h
    · exact .inr ⟨tb, F, ts, n, d, Q, h1, by omega, h3, h4.weak (fun k hk => by omega), h5, fun i hi => TermAt.grow hB (h6 i hi)⟩

theorem TermAt.nil {B : Nat} {w : World} (f : Nat) : TermAt w B f none := by
  cases f with
  | zero => rfl
  | succ f => exact .inl rfl

theorem TKids.lt {w : World} {ok : Nat → Prop} {la : Option Addr} {n : Nat} {Q : Nat → Option Addr} (h : TKids w ok la n Q) : TKids w (· < w.heap.size) la n Q := by
  rcases h with h | ⟨kb, cur, h1, h2, h3, h4⟩
  · exact .inl h
  · exact .inr ⟨kb, cur, h1, Lib.lt_of_heap h3, h3, h4⟩

/-- what build made is a tree of terms -/
theorem Built.term {B s : Nat} {w : World} : ∀ {f : Nat} {p q : Option Addr}, Built w B s f p q → TermAt w w.heap.size f q
  | 0, _, _, h => h.2
  | f + 1, p, q, h => by
    rcases h with h | ⟨b, o, F, la, n, c, P, tb, ts, d, Q, h1, h2, h3, h4, h5, h6, h7, h8, h9, h9', h10⟩
    · exact .inl h.2
    · exact .inr ⟨tb, F, ts, n, d, Q, h2, Lib.lt_of_heap h6, h6, h8.lt, h9', fun i hi => Built.term (h10 i hi)⟩
end Go.Proofs.Qxb6603778a
