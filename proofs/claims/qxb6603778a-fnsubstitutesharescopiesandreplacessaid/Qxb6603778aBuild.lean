import Derived.Test.Qxb6603778aUses
import Derived.Deep.RegionHeld
namespace Go.Proofs.Qxb6603778a
open Go.RowKit

/-- the cells of a term -/
def tcells (F : Flds) (la : Option Addr) (n c : Nat) : Array Value :=
  #[.string F.file, .int .i64 F.line, .int .i64 F.col, .int .i64 F.kind, .string F.name, .int .u64 F.num, .string F.text, .slice la n c]
/-- a term in block b -/
def TermCells (w : World) (b : Nat) (F : Flds) (la : Option Addr) (n c : Nat) : Prop := w.heap[b]? = some (.cells (tcells F la n c) 53 (0, 0))
/-- a list of terms in a block of its own, at its head -/
def TKids (w : World) (ok : Nat → Prop) (la : Option Addr) (n : Nat) (Q : Nat → Option Addr) : Prop :=
  (la = none ∧ n = 0) ∨ ∃ (kb : Nat) (cur : Array Value), la = some ⟨kb, 0, none⟩ ∧ ok kb ∧ w.heap[kb]? = some (.cells cur 27 (0, 0)) ∧ cur.size = n ∧ ∀ i, i < n → cur[i]? = some (.pointer (Q i))

/-- q is the term that build makes of the node p: field for field, nil for nil -/
def Built (w : World) (B s : Nat) : Nat → Option Addr → Option Addr → Prop
  | 0, p, q => p = none ∧ q = none
  | f + 1, p, q => (p = none ∧ q = none) ∨ ∃ (b o : Nat) (F : Flds) (la : Option Addr) (n c : Nat) (P : Nat → Option Addr) (tb : Nat) (ts : Option Addr) (d : Nat) (Q : Nat → Option Addr),
      p = some ⟨b, o, none⟩ ∧ q = some ⟨tb, 0, none⟩ ∧ b < B ∧ s ≤ tb ∧ NodeCells w b o F la n c ∧ TermCells w tb F ts n d ∧ NKids w B la n P ∧ TKids w (s ≤ ·) ts n Q ∧ (la = none ↔ ts = none) ∧ n ≤ 1048576 ∧ ∀ i, i < n → Built w B s f (P i) (Q i)

theorem TermCells.agree {B s : Nat} {w w' : World} {b : Nat} {F : Flds} {la : Option Addr} {n c : Nat} (h : TermCells w b F la n c) (hA : Agree B s w w') (hb : b < B ∨ s ≤ b) : TermCells w' b F la n c := hA.heap hb h

theorem TKids.agree {B s : Nat} {w w' : World} {ok : Nat → Prop} {la : Option Addr} {n : Nat} {Q : Nat → Option Addr} (h : TKids w ok la n Q) (hA : Agree B s w w') (hb : ∀ k, ok k → k < B ∨ s ≤ k) : TKids w' ok la n Q := by
  rcases h with h | ⟨kb, cur, h1, h2, h3, h4, h5⟩
  · exact .inl h
  · exact .inr ⟨kb, cur, h1, h2, hA.heap (hb kb h2) h3, h4, h5⟩

theorem TKids.weak {w : World} {ok ok' : Nat → Prop} {la : Option Addr} {n : Nat} {Q : Nat → Option Addr} (h : TKids w ok la n Q) (hb : ∀ k, ok k → ok' k) : TKids w ok' la n Q := by
  rcases h with h | ⟨kb, cur, h1, h2, h3⟩
  · exact .inl h
  · exact .inr ⟨kb, cur, h1, hb kb h2, h3⟩

theorem Built.agree {B s : Nat} {w w' : World} (hA : Agree B s w w') : ∀ {f : Nat} {p q : Option Addr}, Built w B s f p q → Built w' B s f p q
  | 0, _, _, h => h
  | f + 1, p, q, h => by
    rcases h with h | ⟨b, o, F, la, n, c, P, tb, ts, d, Q, h1, h2, h3, h4, h5, h6, h7, h8, h9, h9', h10⟩
    · exact .inl h
    · exact .inr ⟨b, o, F, la, n, c, P, tb, ts, d, Q, h1, h2, h3, h4, h5.agree hA h3, h6.agree hA (.inr h4), h7.agree hA, h8.agree hA (fun k hk => .inr hk), h9, h9', fun i hi => Built.agree hA (h10 i hi)⟩

theorem Built.weak {B s s' : Nat} {w : World} (hs : s' ≤ s) : ∀ {f : Nat} {p q : Option Addr}, Built w B s f p q → Built w B s' f p q
  | 0, _, _, h => h
  | f + 1, p, q, h => by
    rcases h with h | ⟨b, o, F, la, n, c, P, tb, ts, d, Q, h1, h2, h3, h4, h5, h6, h7, h8, h9, h9', h10⟩
    · exact .inl h
    · exact .inr ⟨b, o, F, la, n, c, P, tb, ts, d, Q, h1, h2, h3, by omega, h5, h6, h7, h8.weak (fun k hk => Nat.le_trans hs hk), h9, h9', fun i hi => Built.weak hs (h10 i hi)⟩

theorem Built.nil {B s : Nat} {w : World} (f : Nat) : Built w B s f none none := by
  cases f with
  | zero => exact ⟨rfl, rfl⟩
  | succ f => exact .inl ⟨rfl, rfl⟩

theorem zzmake (F : Flds) (la : Option Addr) (n c : Nat) (w : World) :
    Calls Try.prog 19 #[.int .i64 F.kind, .string F.name, .int .u64 F.num, .string F.text, .string F.file, .int .i64 F.line, .int .i64 F.col, .slice la n c] w fun e w' =>
      e = .returned (.pointer (some ⟨w.heap.size, 0, none⟩)) ∧ w' = w.alloc (.cells (tcells F la n c) 53) := by
  go_enter Try.func19, Try.ntmps19
  go_wp2_with fail
  go_ret
  exact ⟨rfl, rfl⟩

theorem Try.info27 : (Try.prog.info? 27).map (fun i => (i.zero, i.size, i.bytes)) = some (some (.pointer none), 1, 8) := by kernel_rfl

/-- what a loop that fills a list of terms has made after k rounds: the list lies in block g -/
def Filled (w : World) (g n k : Nat) (R : World → Nat → Option Addr → Prop) (wr : World) : Prop :=
  Below g w wr ∧ ∃ (cur : Array Value) (Q : Nat → Option Addr), wr.heap[g]? = some (.cells cur 27 (0, 0)) ∧ cur.size = n ∧ (∀ i, i < k → cur[i]? = some (.pointer (Q i)) ∧ R wr i (Q i))

theorem filled_start (w : World) (n : Nat) (R : World → Nat → Option Addr → Prop) : Filled w w.heap.size n 0 R (w.alloc (.cells (madeCells #[.pointer none] n) 27)) :=
  ⟨(Below.refl _ _).alloc (Nat.le_refl _) _, _, fun _ => none, Deep.blk_alloc_new _ _, size_madeCells _ _, fun _ h => absurd h (Nat.not_lt_zero _)⟩

/-- one round more: the callee has gone from wr to w2 and given q; it is stored at k. -/
theorem filled_step {w wr w2 : World} {g n k : Nat} {R : World → Nat → Option Addr → Prop} {q : Option Addr} (h : Filled w g n k R wr) (hk : k < n) (hb : Below wr.heap.size wr w2)
    (hR1 : ∀ i x, i < k → R wr i x → R (w2.setCell ⟨g, k, none⟩ (.pointer q)) i x) (hR2 : R (w2.setCell ⟨g, k, none⟩ (.pointer q)) k q) :
    Filled w g n (k + 1) R (w2.setCell ⟨g, k, none⟩ (.pointer q)) := by
  obtain ⟨h1, cur, Q, h2, h3, h4⟩ := h
  have hg : g < wr.heap.size := Lib.lt_of_heap h2
  have hg2 : w2.heap[g]? = some (.cells cur 27 (0, 0)) := by rw [hb.block g hg]; exact h2
  refine ⟨(h1.trans (hb.mono (by omega))).setCell (p := ⟨g, k, none⟩) (Nat.le_refl _) _, cur.setIfInBounds k (.pointer q), (fun i => if i = k then q else Q i), ?_, by simp [h3], ?_⟩
  · simp [World.setCell, Array.getElem?_modify, hg2]
  · intro i hi
    by_cases e : i = k
    · subst e
      simp only [if_true]
      exact ⟨by simp [h3, hk], hR2⟩
    · simp only [e, if_false]
      obtain ⟨p1, p2⟩ := h4 i (by omega)
      exact ⟨by rw [Array.getElem?_setIfInBounds_ne (by omega)]; exact p1, hR1 i _ (by omega) p2⟩

theorem filled_slot {w wr w2 : World} {g n k j : Nat} {R : World → Nat → Option Addr → Prop} (h : Filled w g n k R wr) (hj : j < n) (hb : Below wr.heap.size wr w2) : (∃ v, w2.cell? ⟨g, j, none⟩ = some v) ∧ w2.frozen? ⟨g, j, none⟩ = false := by
  obtain ⟨-, cur, Q, h2, h3, -⟩ := h
  have hg2 : w2.heap[g]? = some (.cells cur 27 (0, 0)) := by rw [hb.block g (Lib.lt_of_heap h2)]; exact h2
  refine ⟨⟨cur[j], ?_⟩, Lib.frozen_of_heap hg2 j⟩
  rw [Lib.cell_of_heap hg2]
  simp [h3, hj]

/-- a store into block g, which lies from B on and below s, turns nothing that the relations speak of -/
theorem Agree.store {B s g k : Nat} {wr w2 : World} {v : Value} (hb : Below wr.heap.size wr w2) (h1 : B ≤ g) (h2 : g < s) : Agree B s wr (w2.setCell ⟨g, k, none⟩ v) := by
  intro x hx hlt
  have e : x ≠ g := by omega
  rw [Below.heap_setCell _ _ _ _ e, hb.block x hlt]
theorem Agree.store' {B s g k : Nat} {w2 : World} {v : Value} (h1 : B ≤ g) (h2 : g < s) : Agree B s w2 (w2.setCell ⟨g, k, none⟩ v) := by
  intro x hx hlt
  have e : x ≠ g := by omega
  rw [Below.heap_setCell _ _ _ _ e]

/-- how build ends -/
def BuildEnd (w : World) (B f : Nat) (p : Option Addr) (e : Ending) (w' : World) : Prop := ∃ q, e = .returned (.pointer q) ∧ Built w' B w.heap.size f p q ∧ Below w.heap.size w w'

theorem built_end {w wr : World} {B f nb no : Nat} {F : Flds} {la : Option Addr} {n c : Nat} {P : Nat → Option Addr} {ts : Option Addr} {d : Nat} {Q : Nat → Option Addr} (hB : nb < B) (hC : NodeCells w nb no F la n c) (hK : NKids w B la n P)
    (hb : Below w.heap.size w wr) (hts : TKids wr (w.heap.size ≤ ·) ts n Q) (hiff : la = none ↔ ts = none) (hn : n ≤ 1048576) (hch : ∀ i, i < n → Built wr B w.heap.size f (P i) (Q i)) :
    BuildEnd w B (f + 1) (some ⟨nb, no, none⟩) (.returned (.pointer (some ⟨wr.heap.size, 0, none⟩))) (wr.alloc (.cells (tcells F ts n d) 53)).drew := by
  have hb2 : Below wr.heap.size wr (wr.alloc (.cells (tcells F ts n d) 53)).drew := ((Below.refl _ _).alloc (Nat.le_refl _) _).drew
  have hb3 : Below w.heap.size w (wr.alloc (.cells (tcells F ts n d) 53)).drew := hb.trans (hb2.mono hb.size)
  have hA := Agree.of_below hb2 B w.heap.size
  have hA0 := Agree.of_below hb3 B w.heap.size
  exact ⟨_, rfl, .inr ⟨nb, no, F, la, n, c, P, wr.heap.size, ts, d, Q, rfl, rfl, hB, hb.size, hC.agree hA0 hB, Deep.blk_alloc_new wr _, hK.agree hA0, hts.agree hA (fun k hk => .inr hk), hiff, hn, fun i hi => (hch i hi).agree hA⟩, hb3⟩

theorem filled_kids {w wr : World} {g n : Nat} {R : World → Nat → Option Addr → Prop} {ok : Nat → Prop} (h : Filled w g n n R wr) (hok : ok g) : ∃ Q, TKids wr ok (some ⟨g, 0, none⟩) n Q ∧ ∀ i, i < n → R wr i (Q i) := by
  obtain ⟨-, cur, Q, h2, h3, h4⟩ := h
  exact ⟨Q, .inr ⟨g, cur, rfl, hok, h2, h3, fun i hi => (h4 i hi).1⟩, fun i hi => (h4 i hi).2⟩

set_option maxHeartbeats 3200000 in
theorem build_any (f : Nat) : ∀ (B : Nat) (p : Option Addr) (fuel : Int) (w : World), NodeAt w B 1048576 f p → B ≤ w.heap.size → f ≤ fuel → fuel ≤ 1048578 →
    Calls Try.prog 9 #[.pointer p, .int .i64 fuel] w fun e w' => BuildEnd w B f p e w' := by
  have nil : ∀ (f B : Nat) (fuel : Int) (w : World), Calls Try.prog 9 #[.pointer none, .int .i64 fuel] w fun e w' => BuildEnd w B f none e w' := by
    intro f B fuel w
    go_enter Try.func9, Try.ntmps9
    go_wp2_with fail
    go_ret
    exact ⟨none, rfl, Built.nil _, Below.refl _ _⟩
  induction f with
  | zero =>
    intro B p fuel w hp hBw hf1 hf2
    obtain rfl : p = none := hp
    exact nil _ _ _ _
  | succ f ih =>
    intro B p fuel w hp hBw hf1 hf2
    rcases hp with rfl | ⟨nb, no, F, la, n, c, P, rfl, hB, hC, hz, hz', hl1, hl2, hl3, hl4, hKn, hR⟩
    · exact nil _ _ _ _
    have h0 : 0 < fuel := by omega
    have HC := Lib.hid hC
    have IH := Lib.hid ih
    have HKn := Lib.hid hKn
    have HR := Lib.hid hR
    clear nil ih hKn hR
    have q := fun (w : World) (a : Option Addr) (n c n' c' : Nat) => run_neq_slice_nil_any (P := Try.prog) w _ _ a n c n' c' Try.underlying23
    cases la with
    | none =>
      have hn0 := hz' rfl
      have hc0 := hz rfl
      subst hn0 hc0
      obtain ⟨c0, c1, c2, c3, c4, c5, c6, c7⟩ := hC
      clear hz hz'
      go_enter Try.func9, Try.ntmps9
      go_wp2_with fail
      go_region_held (fun w' => w'.cell? ⟨nb, no, none⟩ = some (.int .i64 F.kind) ∧ w'.cell? ⟨nb, no + 1, none⟩ = some (.string F.name) ∧ w'.cell? ⟨nb, no + 2, none⟩ = some (.int .u64 F.num) ∧ w'.cell? ⟨nb, no + 3, none⟩ = some (.string F.text) ∧
        w'.cell? ⟨nb, no + 4, none⟩ = some (.string F.file) ∧ w'.cell? ⟨nb, no + 5, none⟩ = some (.int .i64 F.line) ∧ w'.cell? ⟨nb, no + 6, none⟩ = some (.int .i64 F.col)) (go_keep) (first | (go_at_call 19; refine (zzmake F none 0 0 _).mono ?_; rintro e w1 ⟨rfl, rfl⟩))
      have BE := Lib.hid (built_end (d := 0) (Q := fun _ => none) hB HC.out HKn.out (Below.refl _ _) (.inl ⟨rfl, rfl⟩) (Iff.rfl) (by omega) (f := f) (fun i hi => absurd hi (Nat.not_lt_zero _)))
      go_wp2_with fail
      go_ret
      exact BE.out
    | some x =>
      have hmk := run_make_row' (P := Try.prog) 29 27 (.pointer none) 8 Try.underlying29 Try.info27 rfl .i64 .i64 n (by omega) (by omega) w
      have M0 := Lib.hid (filled_start w n (fun wr i q => Built wr B (w.heap.size + 1) f (P i) q))
      have c7 := hC.2.2.2.2.2.2.2
      clear hz hz' hC
      go_enter Try.func9, Try.ntmps9
      go_wp2_with fail
      go_loopw [6] (fun i wr => ∃ k : Nat, k ≤ n ∧ i = .int .i64 k ∧ Filled w w.heap.size n k (fun wr i q => Built wr B (w.heap.size + 1) f (P i) q) wr) (fun i _ => n - (intOf i).toNat)
      case atStart => exact ⟨0, Nat.zero_le _, rfl, M0.out⟩
      case round =>
        obtain ⟨k, hk, rfl, hM⟩ := hrel
        have HM := Lib.hid hM
        have hAr := Agree.of_below (hM.1) B 0
        have HCr := Lib.hid (HC.out.agree hAr hB)
        have c7r := HCr.out.2.2.2.2.2.2.2
        clear hM M0 hmk c7
        by_cases hlt : k < n
        · obtain ⟨kb, ko, hx, hkB, hkc⟩ := HKn.out.at_ (by omega)
          have hx := Option.some.inj hx
          subst hx
          have hck := hAr.cell (.inl hkB) (hkc k hlt)
          have HI := Lib.hid (IH.out B (P k) (fuel - 1) wr ((HR.out k hlt).agree hAr) (by have := HM.out.1.size; omega) (by omega) (by omega))
          clear hkc hAr
          go_wp2_with (go_at_call 9; refine HI.out.mono ?_; rintro e w2 ⟨q2, rfl, hq2, b2⟩; refine Hid.out ?_)
          refine Lib.hid ?_
          obtain ⟨⟨v, hv⟩, hfz⟩ := filled_slot HM.out hlt b2
          have hgl : w.heap.size < wr.heap.size := by
            obtain ⟨-, cur, Q, h2, -⟩ := HM.out
            exact Lib.lt_of_heap h2
          have M2 := Lib.hid (filled_step HM.out hlt b2 (fun i x _ hr => hr.agree (Agree.store b2 hBw (by omega))) ((hq2.weak (s' := w.heap.size + 1) (by omega)).agree (Agree.store' hBw (by omega))))
          clear hq2 b2 HI HM HCr c7r hck
          go_wp2_with fail
          go_roundw
          case rel => exact ⟨k + 1, by omega, by go_num, M2.out⟩
          case measure => simp [intOf]; omega
        · have hkn : k = n := by omega
          subst hkn
          obtain ⟨Q, hQ1, hQ2⟩ := filled_kids (ok := (w.heap.size ≤ ·)) HM.out (Nat.le_refl _)
          have BE := Lib.hid (built_end (d := k) hB HC.out HKn.out HM.out.1 hQ1 (by simp) (by omega) (fun i hi => (hQ2 i hi).weak (by omega)))
          obtain ⟨c0, c1, c2, c3, c4, c5, c6, -⟩ := HCr.out
          clear hQ1 hQ2 hAr HM
          go_wp2_with fail
          go_region_held (fun w' => w'.cell? ⟨nb, no, none⟩ = some (.int .i64 F.kind) ∧ w'.cell? ⟨nb, no + 1, none⟩ = some (.string F.name) ∧ w'.cell? ⟨nb, no + 2, none⟩ = some (.int .u64 F.num) ∧ w'.cell? ⟨nb, no + 3, none⟩ = some (.string F.text) ∧
            w'.cell? ⟨nb, no + 4, none⟩ = some (.string F.file) ∧ w'.cell? ⟨nb, no + 5, none⟩ = some (.int .i64 F.line) ∧ w'.cell? ⟨nb, no + 6, none⟩ = some (.int .i64 F.col)) (go_keep) (first | (go_at_call 19; refine (zzmake F (some ⟨w.heap.size, 0, none⟩) k k _).mono ?_; rintro e w1 ⟨rfl, rfl⟩))
          go_wp2_with fail
          go_ret
          exact BE.out
end Go.Proofs.Qxb6603778a
