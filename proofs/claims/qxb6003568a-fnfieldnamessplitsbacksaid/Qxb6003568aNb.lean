import Derived.Test.Qxb6003568aLeaf
namespace Go.Proofs.Qxb6003568a
open Go.RowKit

/-- sixteen for each string header, plus the string's length -/
def nb (xs : List ByteArray) : Nat := (xs.map fun s => 16 + s.size).sum
theorem nb_step {xs : List ByteArray} {k : Nat} {s : ByteArray} (hs : xs[k]? = some s) : nb (xs.take (k + 1)) = nb (xs.take k) + (16 + s.size) := by
  unfold nb
  rw [List.take_add_one, hs]
  simp
theorem nb_all {xs : List ByteArray} {k : Nat} (hk : xs.length ≤ k) : nb (xs.take k) = nb xs := by rw [List.take_of_length_le hk]

/-- how namesBytes ends -/
def NbEnd (xs : List ByteArray) (w : World) (e : Ending) (w' : World) : Prop := ∃ t : Nat, e = .returned (.int .i64 t) ∧ t ≤ 3145728 ∧ (t ≤ 1048576 → nb xs = t) ∧ w' = w
theorem NbEnd.big {xs : List ByteArray} {w : World} {t : Nat} {z : Int} (hz : z = t) (h1 : 1048576 < t) (h2 : t ≤ 3145728) : NbEnd xs w (.returned (.int .i64 z)) w := ⟨t, by rw [hz], h2, (fun h => by omega), rfl⟩
theorem NbEnd.fit {xs : List ByteArray} {w : World} {t : Nat} (h1 : nb xs = t) (h2 : t ≤ 1048576) : NbEnd xs w (.returned (.int .i64 t)) w := ⟨t, rfl, by omega, fun _ => h1, rfl⟩

set_option maxHeartbeats 1600000 in
theorem nb_some (b o d : Nat) (xs : List ByteArray) (n : Nat) (hn : xs.length = n) (w : World) (hm : n ≤ 1048576)
    (h : ∀ j s, xs[j]? = some s → w.cell? ⟨b, o + j, none⟩ = some (.string s)) (hS : Short xs) :
    Calls Try.prog 7 #[.slice (some ⟨b, o, none⟩) n d] w fun e w' => NbEnd xs w e w' := by
  have H := Lib.hid h
  have HS := Lib.hid hS
  have HN := Lib.hid hn
  clear h hS hn
  go_enter Try.func7, Try.ntmps7
  go_wp2
  go_loop [3, 7] (fun s i => ∃ k t : Nat, k ≤ n ∧ t ≤ 1048576 ∧ i = .int .i64 k ∧ s = .int .i64 t ∧ nb (xs.take k) = t) (fun _ i => n - (intOf i).toNat)
  case atStart => exact ⟨0, 0, by omega, by omega, rfl, rfl, rfl⟩
  case round =>
    obtain ⟨k, t, hk, ht, rfl, rfl, hj⟩ := hrel
    have HJ := Lib.hid hj
    clear hj
    by_cases hlt : k < n
    · obtain ⟨s, hs⟩ : ∃ s, xs[k]? = some s := ⟨_, List.getElem?_eq_getElem (by rw [HN.out]; exact hlt)⟩
      have hc := H.out k s hs
      have hl := HS.out s (List.mem_of_getElem? hs)
      have HX := Lib.hid hs
      clear hs
      by_cases g2 : 1048576 < t + (16 + s.size)
      · go_wp2
        go_ret
        exact NbEnd.big (t := t + (16 + s.size)) (by go_num) g2 (by omega)
      have g2 : t + (16 + s.size) ≤ 1048576 := by omega
      go_wp2
      go_round
      case rel => exact ⟨k + 1, t + (16 + s.size), by omega, by omega, by go_num, by go_num, by rw [nb_step HX.out, HJ.out]⟩
      case measure => simp [intOf]; omega
    · go_wp2
      go_ret
      exact NbEnd.fit (by rw [← HJ.out, nb_all (by rw [HN.out]; omega)]) ht

set_option maxHeartbeats 1600000 in
theorem nb_none (b : Option Addr) (d : Nat) (w : World) :
    Calls Try.prog 7 #[.slice b 0 d] w fun e w' => NbEnd [] w e w' := by
  go_enter Try.func7, Try.ntmps7
  go_wp2
  go_loop [3, 7] (fun s i => s = .int .i64 0 ∧ i = .int .i64 0) (fun _ i => 0)
  case atStart => exact ⟨rfl, rfl⟩
  case round =>
    obtain ⟨rfl, rfl⟩ := hrel
    go_wp2
    go_ret
    exact NbEnd.fit (t := 0) rfl (by omega)

theorem nb7 (a : Option Addr) (d : Nat) (xs : List ByteArray) (n : Nat) (hn : xs.length = n) (w : World) (hm : n ≤ 1048576) (h : Names w a xs) (hS : Short xs) :
    Calls Try.prog 7 #[.slice a n d] w fun e w' => NbEnd xs w e w' := by
  by_cases h0 : n = 0
  · subst h0
    have e := List.eq_nil_of_length_eq_zero hn
    subst e
    exact nb_none a d w
  · obtain ⟨bb, o, rfl, _, hc⟩ := h.at_ (by omega)
    exact nb_some bb o d xs n hn w hm hc hS

theorem Try.info9 : (Try.prog.info? 9).map (fun i => (i.zero, i.size, i.bytes)) = some (some (.string ⟨#[]⟩), 1, 16) := by kernel_rfl

/-- a row of n strings in block g, of which the first k are xs's first k -/
def Copied (w : World) (g n k : Nat) (xs : List ByteArray) (wr : World) : Prop :=
  Below g w wr ∧ ∃ cur : Array Value, wr.heap[g]? = some (.cells cur 9 (0, 0)) ∧ cur.size = n ∧ ∀ j s, j < k → xs[j]? = some s → cur[j]? = some (.string s)

theorem copied_start (w : World) (n : Nat) (xs : List ByteArray) : Copied w w.heap.size n 0 xs (w.alloc (.cells (madeCells #[.string ⟨#[]⟩] n) 9)) :=
  ⟨(Below.refl _ _).alloc (Nat.le_refl _) _, _, Deep.blk_alloc_new _ _, size_madeCells _ _, fun _ _ h => absurd h (Nat.not_lt_zero _)⟩

theorem copied_step {w wr : World} {g n k : Nat} {xs : List ByteArray} {s : ByteArray} (h : Copied w g n k xs wr) (hk : k < n) (hs : xs[k]? = some s) :
    Copied w g n (k + 1) xs (wr.setCell ⟨g, k, none⟩ (.string s)) := by
  obtain ⟨h1, cur, h2, h3, h4⟩ := h
  refine ⟨h1.setCell (p := ⟨g, k, none⟩) (Nat.le_refl _) _, cur.setIfInBounds k (.string s), ?_, by simp [h3], ?_⟩
  · simp [World.setCell, Array.getElem?_modify, h2]
  · intro j t hj ht
    by_cases e : j = k
    · subst e
      rw [hs] at ht
      obtain rfl := Option.some.inj ht
      simp [h3, hk]
    · rw [Array.getElem?_setIfInBounds_ne (by omega)]
      exact h4 j t (by omega) ht

theorem copied_slot {w wr : World} {g n k j : Nat} {xs : List ByteArray} (h : Copied w g n k xs wr) (hj : j < n) : (∃ v, wr.cell? ⟨g, j, none⟩ = some v) ∧ wr.frozen? ⟨g, j, none⟩ = false := by
  obtain ⟨-, cur, h2, h3, -⟩ := h
  refine ⟨⟨cur[j], ?_⟩, Lib.frozen_of_heap h2 j⟩
  rw [Lib.cell_of_heap h2]
  simp [h3, hj]

theorem copied_names {w wr : World} {g n : Nat} {xs : List ByteArray} (h : Copied w g n n xs wr) (hn : xs.length = n) : Names wr (some ⟨g, 0, none⟩) xs := by
  obtain ⟨-, cur, h2, h3, h4⟩ := h
  refine ⟨(fun e => by cases e), fun x hx j s hj => ?_⟩
  have hx := Option.some.inj hx
  subst hx
  rw [Lib.addr_add, Nat.zero_add, Lib.cell_of_heap h2]
  refine h4 j s ?_ hj
  rcases Nat.lt_or_ge j xs.length with h' | h'
  · omega
  · rw [List.getElem?_eq_none h'] at hj; cases hj

set_option maxHeartbeats 1600000 in
theorem copy_some (b o d : Nat) (xs : List ByteArray) (n : Nat) (hn : xs.length = n) (w : World) (hm : n ≤ 1048576)
    (h : ∀ j s, xs[j]? = some s → w.cell? ⟨b, o + j, none⟩ = some (.string s)) :
    Calls Try.prog 9 #[.slice (some ⟨b, o, none⟩) n d] w fun e w' => e = .returned (.slice (some ⟨w.heap.size, 0, none⟩) n n) ∧ Copied w w.heap.size n n xs w' := by
  have q := fun (w : World) (a : Option Addr) (n c n' c' : Nat) => run_neq_slice_nil_any (P := Try.prog) w _ _ a n c n' c' Try.underlying22
  have hmk := run_make_row' (P := Try.prog) 22 9 (.string ⟨#[]⟩) 16 Try.underlying22 Try.info9 rfl .i64 .i64 n (by omega) (by omega) w
  have H := Lib.hid h
  have HN := Lib.hid hn
  have M0 := copied_start w n xs
  clear h hn
  go_enter Try.func9, Try.ntmps9
  go_wp2
  go_loopw [12] (fun i wr => ∃ k : Nat, k ≤ n ∧ i = .int .i64 k ∧ Copied w w.heap.size n k xs wr) (fun i _ => n - (intOf i).toNat)
  case atStart => exact ⟨0, Nat.zero_le _, rfl, M0⟩
  case round =>
    obtain ⟨k, hk, rfl, hM⟩ := hrel
    have HM := Lib.hid hM
    clear hM M0 hmk
    by_cases hlt : k < n
    · obtain ⟨s, hs⟩ : ∃ s, xs[k]? = some s := ⟨_, List.getElem?_eq_getElem (by rw [HN.out]; exact hlt)⟩
      have h0 := H.out k s hs
      have hc : wr.cell? ⟨b, o + k, none⟩ = some (.string s) := by
        rw [HM.out.1.cell (p := ⟨b, o + k, none⟩) (World.block_lt_of_cell? w _ h0)]
        exact h0
      obtain ⟨⟨v, hv⟩, hfz⟩ := copied_slot HM.out hlt
      have M2 := Lib.hid (copied_step HM.out hlt hs)
      clear hs h0 HM
      go_wp2
      go_roundw
      case rel => exact ⟨k + 1, by omega, by go_num, M2.out⟩
      case measure => simp [intOf]; omega
    · go_wp2
      go_ret
      have e : k = n := by omega
      exact ⟨rfl, by have := HM.out; rw [e] at this; exact this⟩
end Go.Proofs.Qxb6003568a
