import Derived.Test.Qxb6604611aZz
namespace Go.Proofs.Qxb6604611a
open Go.RowKit

theorem Try.info35 : (Try.prog.info? 35).map (fun i => (i.zero, i.size, i.bytes)) = some (some (.slice none 0 0), 1, 24) := by kernel_rfl

/-- every chunk reads as Z says -/
def Parts (w : World) (n : Nat) (A : Nat → Option Addr) (L C : Nat → Nat) (Z : Nat → List Int) : Prop :=
  ∀ i, i < n → Holds w (A i) (L i) (Z i) ∧ (A i = none → C i = 0)

theorem Parts.below {w w' : World} {n : Nat} {A : Nat → Option Addr} {L C : Nat → Nat} {Z : Nat → List Int} (h : Parts w n A L C Z) (hb : Below w.heap.size w w') : Parts w' n A L C Z :=
  fun i hi => ⟨(h i hi).1.below hb, (h i hi).2⟩

/-- what the clone loop has made after k rounds: the new row lies in block g -/
def Made (w : World) (g n k : Nat) (L : Nat → Nat) (Z : Nat → List Int) (wr : World) : Prop :=
  Below g w wr ∧ ∃ (cur : Array Value) (A : Nat → Option Addr) (C : Nat → Nat), wr.heap[g]? = some (.cells cur 35 (0, 0)) ∧ cur.size = n ∧
    (∀ i, i < k → cur[i]? = some (.slice (A i) (L i) (C i))) ∧ Parts wr k A L C Z ∧ (∀ i, i < k → ∀ x, A i = some x → g < x.block ∧ x.block < wr.heap.size)

theorem made_start (w : World) (n : Nat) (L : Nat → Nat) (Z : Nat → List Int) : Made w w.heap.size n 0 L Z (w.alloc (.cells (madeCells #[.slice none 0 0] n) 35)) :=
  ⟨(Below.refl _ _).alloc (Nat.le_refl _) _, _, fun _ => none, fun _ => 0, Deep.blk_alloc_new _ _, size_madeCells _ _, fun _ h => absurd h (Nat.not_lt_zero _), fun _ h => absurd h (Nat.not_lt_zero _), fun _ h => absurd h (Nat.not_lt_zero _)⟩

/-- one round more: the clone of chunk k has been made (w2), and is stored. -/
theorem made_step {w wr w2 : World} {g n k : Nat} {L : Nat → Nat} {Z : Nat → List Int} {a : Option Addr} {c : Nat} (h : Made w g n k L Z wr) (hk : k < n)
    (ho : w2.ownsRow wr.heap.size 5 1 (.slice a (L k) c) (L k) (u8s (Z k))) (hc : a = none → c = 0) (hb : Below wr.heap.size wr w2) :
    Made w g n (k + 1) L Z (w2.setCell ⟨g, k, none⟩ (.slice a (L k) c)) := by
  obtain ⟨h1, cur, A, C, h2, h3, h4, h5, h6⟩ := h
  have hg : g < wr.heap.size := Lib.lt_of_heap h2
  have hg2 : w2.heap[g]? = some (.cells cur 35 (0, 0)) := by rw [hb.block g hg]; exact h2
  have hset : ∀ (x : Addr), x.block ≠ g → ∀ j, (w2.setCell ⟨g, k, none⟩ (.slice a (L k) c)).cell? (x.add j) = w2.cell? (x.add j) := by
    intro x hx j
    refine World.cell?_of_block ?_
    rw [Below.heap_setCell]
    rw [Lib.block_add]; exact hx
  have hh := own_holds ho
  have hnew : ∀ x, a = some x → g < x.block ∧ x.block < w2.heap.size := by
    intro x hx
    refine ⟨?_, own_lt ho x hx⟩
    subst hx
    rcases ho.2 with ⟨h, _⟩ | ⟨g', cap, cur', h, hB, _⟩
    · simp at h
    · simp only [Value.slice.injEq, Option.some.injEq] at h
      rw [h.1]
      show g < g'
      omega
  refine ⟨(h1.trans (hb.mono (by omega))).setCell (p := ⟨g, k, none⟩) (Nat.le_refl _) _, cur.setIfInBounds k (.slice a (L k) c), (fun i => if i = k then a else A i), (fun i => if i = k then c else C i), ?_, ?_, ?_, ?_, ?_⟩
  · simp [World.setCell, Array.getElem?_modify, hg2]
  · simp [h3]
  · intro i hi
    by_cases e : i = k
    · subst e
      simp [h3, hk]
    · have := h4 i (by omega)
      simp only [e, if_false]
      rw [Array.getElem?_setIfInBounds_ne (by omega)]
      exact this
  · intro i hi
    by_cases e : i = k
    · subst e
      simp only [if_true]
      refine ⟨⟨hh.1, hh.2.1, fun x hx j hj => ?_⟩, hc⟩
      rw [hset x (by have := (hnew x hx).1; omega) j]
      exact hh.2.2 x hx j hj
    · simp only [e, if_false]
      obtain ⟨⟨p1, p2, p3⟩, p4⟩ := h5 i (by omega)
      refine ⟨⟨p1, p2, fun x hx j hj => ?_⟩, p4⟩
      have hx6 := h6 i (by omega) x hx
      rw [hset x (by omega) j, hb.cell (p := x.add j) (by rw [Lib.block_add]; exact hx6.2)]
      exact p3 x hx j hj
  · intro i hi x hx
    have hs : (w2.setCell ⟨g, k, none⟩ (.slice a (L k) c)).heap.size = w2.heap.size := by simp [World.setCell]
    rw [hs]
    by_cases e : i = k
    · subst e
      simp only [if_true] at hx
      exact hnew x hx
    · simp only [e, if_false] at hx
      have := h6 i (by omega) x hx
      have := hb.size
      omega

theorem made_slot {w wr w2 : World} {g n k j : Nat} {L : Nat → Nat} {Z : Nat → List Int} (h : Made w g n k L Z wr) (hj : j < n) (hb : Below wr.heap.size wr w2) :
    (∃ v, w2.cell? ⟨g, j, none⟩ = some v) ∧ w2.frozen? ⟨g, j, none⟩ = false := by
  obtain ⟨-, cur, A, C, h2, h3, -⟩ := h
  have hg : w2.heap[g]? = some (.cells cur 35 (0, 0)) := by rw [hb.block g (Lib.lt_of_heap h2)]; exact h2
  refine ⟨⟨cur[j], ?_⟩, Lib.frozen_of_heap hg j⟩
  rw [Lib.cell_of_heap hg]
  simp [h3, hj]

set_option maxHeartbeats 1600000 in
theorem chunks_some (b o n d : Nat) (A : Nat → Option Addr) (L C : Nat → Nat) (Z : Nat → List Int) (w : World) (hn : n ≤ 1048576)
    (h : ∀ i, i < n → w.cell? ⟨b, o + i, none⟩ = some (.slice (A i) (L i) (C i))) (hL : ∀ i, i < n → L i ≤ 1048576) (hP : Parts w n A L C Z) :
    Calls Try.prog 20 #[.slice (some ⟨b, o, none⟩) n d] w fun e w' => e = .returned (.slice (some ⟨w.heap.size, 0, none⟩) n n) ∧ Made w w.heap.size n n L Z w' := by
  have q := fun (w : World) (a : Option Addr) (n c n' c' : Nat) => Lib.run_eql_slice_nil (P := Try.prog) w _ _ a n c n' c' Try.underlying45
  have hmk := run_make_row' (P := Try.prog) 45 35 (.slice none 0 0) 24 Try.underlying45 Try.info35 rfl .i64 .i64 n (by omega) (by omega) w
  have H := Lib.hid h
  have HL := Lib.hid hL
  have HP := Lib.hid hP
  clear h hL hP
  have M0 := made_start w n L Z
  go_enter Try.func20, Try.ntmps20
  go_wp2
  go_loopw [4] (fun i wr => ∃ k : Nat, k ≤ n ∧ i = .int .i64 k ∧ Made w w.heap.size n k L Z wr) (fun i _ => n - (intOf i).toNat)
  case atStart => exact ⟨0, Nat.zero_le _, rfl, M0⟩
  case round =>
    obtain ⟨k, hk, rfl, hM⟩ := hrel
    have HM := Lib.hid hM
    clear hM M0 hmk
    by_cases hlt : k < n
    · have hc : wr.cell? ⟨b, o + k, none⟩ = some (.slice (A k) (L k) (C k)) := by
        have h0 := H.out k hlt
        rw [HM.out.1.cell (p := ⟨b, o + k, none⟩) (World.block_lt_of_cell? w _ h0)]
        exact h0
      have hH := Lib.hid ((HP.out k hlt).1.below HM.out.1)
      have hCk := Lib.hid (HP.out k hlt).2
      have hlk := HL.out k hlt
      go_wp2_with (go_at_call 13; refine (clone_own _ _ _ _ _ hH.out hCk.out hlk).mono ?_; rintro e w2 ⟨a', c', rfl, o2, m2, b2⟩; refine Hid.out ?_)
      refine Lib.hid ?_
      obtain ⟨⟨v, hv⟩, hfz⟩ := made_slot HM.out hlt b2
      have M2 := Lib.hid (made_step HM.out hlt o2 m2 b2)
      clear o2 m2 b2 hc hH hCk hlk HM
      go_wp2
      go_roundw
      case rel => exact ⟨k + 1, by omega, by go_num, M2.out⟩
      case measure => simp [intOf]; omega
    · go_wp2
      go_ret
      have e : k = n := by omega
      exact ⟨rfl, by have := HM.out; rw [e] at this; exact this⟩

/-- what CloneChunks gives: a slice of the same chunks, in new memory. -/
def Cloned (w : World) (n : Nat) (L : Nat → Nat) (Z : Nat → List Int) (e : Ending) (w' : World) : Prop :=
  ∃ a c A C, e = .returned (.slice a n c) ∧ Heads w' a n A L C ∧ Parts w' n A L C Z ∧ (∀ i, i < n → ∀ x, A i = some x → x.block < w'.heap.size) ∧ Below w.heap.size w w'

theorem chunks_none (w : World) : Calls Try.prog 20 #[.slice none 0 0] w fun e w' => e = .returned (.slice none 0 0) ∧ w' = w := by
  have q := fun (w : World) (a : Option Addr) (n c n' c' : Nat) => Lib.run_eql_slice_nil (P := Try.prog) w _ _ a n c n' c' Try.underlying45
  go_enter Try.func20, Try.ntmps20
  go_wp2
  go_ret
  exact ⟨rfl, rfl⟩

theorem chunks_empty (x : Addr) (d : Nat) (w : World) : Calls Try.prog 20 #[.slice (some x) 0 d] w fun e w' => e = .returned (.slice (some ⟨w.heap.size, 0, none⟩) 0 0) ∧ Below w.heap.size w w' := by
  have q := fun (w : World) (a : Option Addr) (n c n' c' : Nat) => Lib.run_eql_slice_nil (P := Try.prog) w _ _ a n c n' c' Try.underlying45
  have hmk : (Instr.makeSlice 45 (.int .i64 0) (.int .i64 0)).run Try.prog w = .ok (.slice (some ⟨w.heap.size, 0, none⟩) 0 0) (w.alloc (.cells (madeCells #[.slice none 0 0] 0) 35)) := run_make_row' (P := Try.prog) 45 35 (.slice none 0 0) 24 Try.underlying45 Try.info35 rfl .i64 .i64 0 (by omega) (by omega) w
  have hb := (Below.refl w.heap.size w).alloc (Nat.le_refl _) (.cells (madeCells #[.slice none 0 0] 0) 35)
  go_enter Try.func20, Try.ntmps20
  go_wp2
  go_loop [4] (fun i => i = .int .i64 0) (fun _ => 0)
  case atStart => rfl
  case round =>
    subst hrel
    go_wp2
    go_ret
    exact ⟨rfl, hb⟩

theorem chunks (a : Option Addr) (n d : Nat) (A : Nat → Option Addr) (L C : Nat → Nat) (Z : Nat → List Int) (w : World) (hn : n ≤ 1048576) (hd : a = none → d = 0)
    (h : Heads w a n A L C) (hL : ∀ i, i < n → L i ≤ 1048576) (hP : Parts w n A L C Z) :
    Calls Try.prog 20 #[.slice a n d] w fun e w' => Cloned w n L Z e w' := by
  by_cases h0 : n = 0
  · subst h0
    cases a with
    | none =>
      have := hd rfl
      subst this
      refine (chunks_none w).mono ?_
      rintro e w' ⟨rfl, rfl⟩
      exact ⟨none, 0, A, C, rfl, h, hP, (fun i hi => absurd hi (Nat.not_lt_zero _)), Below.refl _ _⟩
    | some x =>
      refine (chunks_empty x d w).mono ?_
      rintro e w' ⟨rfl, hb⟩
      exact ⟨_, 0, A, C, rfl, ⟨fun _ => rfl, fun _ _ i hi => absurd hi (Nat.not_lt_zero _)⟩, fun i hi => absurd hi (Nat.not_lt_zero _), (fun i hi => absurd hi (Nat.not_lt_zero _)), hb⟩
  · obtain ⟨b, o, rfl, hc⟩ := h.at_ (by omega)
    refine (chunks_some b o n d A L C Z w hn hc hL hP).mono ?_
    rintro e w' ⟨rfl, hM⟩
    obtain ⟨h1, cur, A', C', h2, h3, h4, h5, h6⟩ := hM
    refine ⟨_, n, A', C', rfl, ⟨(fun e => by cases e), fun x hx i hi => ?_⟩, h5, fun i hi x hx => (h6 i hi x hx).2, h1⟩
    have hx := Option.some.inj hx
    subst hx
    rw [Lib.addr_add, Nat.zero_add, Lib.cell_of_heap h2]
    exact h4 i hi
end Go.Proofs.Qxb6604611a
