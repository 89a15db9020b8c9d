import Derived.Test.Qxb6604611aChunks
namespace Go.Proofs.Qxb6604611a
open Go.RowKit

/-- the first k chunks, one behind the other -/
def cat (Z : Nat → List Int) : Nat → List Int
  | 0 => []
  | k + 1 => cat Z k ++ Z k

theorem cat_length {Z : Nat → List Int} {L : Nat → Nat} {n : Nat} (h : ∀ i, i < n → (Z i).length = L i) : ∀ k, k ≤ n → (cat Z k).length = sumTo L k := by
  intro k
  induction k with
  | zero => intro _; rfl
  | succ k ih =>
    intro hk
    show (cat Z k ++ Z k).length = sumTo L k + L k
    rw [List.length_append, ih (by omega), h k (by omega)]

/-- the whole is what lies ahead of chunk k, chunk k, and what lies behind it -/
theorem cat_split (Z : Nat → List Int) (k n : Nat) (hk : k < n) : ∃ r, cat Z n = cat Z k ++ Z k ++ r := by
  induction n with
  | zero => omega
  | succ n ih =>
    by_cases e : k = n
    · subst e; exact ⟨[], by rw [List.append_nil]; rfl⟩
    · obtain ⟨r, hr⟩ := ih (by omega)
      exact ⟨r ++ Z n, by show cat Z n ++ Z n = _; rw [hr, List.append_assoc]⟩

theorem Heads.below {w w' : World} {a : Option Addr} {n : Nat} {A : Nat → Option Addr} {L C : Nat → Nat} (h : Heads w a n A L C) (hb : Below w.heap.size w w') : Heads w' a n A L C :=
  ⟨h.1, fun x hx i hi => by rw [hb.cell (p := x.add i) (World.block_lt_of_cell? w _ (h.2 x hx i hi))]; exact h.2 x hx i hi⟩

theorem bytes_own' (sB : BytesSaid) (B b cb : Nat) (bs : List Int) (N : Int) (w : World) (hI : Lib.IsBuffer 72 5 B b (u8s bs) w)
    (hcw : w.heap[cb]? = some (.cells #[.iface 50 (.pointer (some ⟨b, 0, none⟩)), .int .i64 N] 55 (0, 0))) :
    Calls Try.prog 17 #[.pointer (some ⟨cb, 0, none⟩)] w fun e w' => ∃ a c, e = .returned (.slice a bs.length c) ∧ w.ownsRow B 5 1 (.slice a bs.length c) bs.length (u8s bs) ∧ ∃ n, w' = w.drewN n := by
  refine (bytes_own sB B b cb bs N w hI hcw).mono ?_
  rintro e w' ⟨v, rfl, ho, q, rfl⟩
  rcases own_split ho with ⟨h0, rfl⟩ | ⟨g, cap, _, _, rfl⟩
  · exact ⟨none, 0, by rw [h0], by rw [h0] at ho ⊢; exact ho, q, rfl⟩
  · exact ⟨_, cap, rfl, ho, q, rfl⟩

theorem bytes_own2 (sB : BytesSaid) (B b cb m : Nat) (bs : List Int) (N : Int) (w : World) (hm : bs.length = m) (hI : Lib.IsBuffer 72 5 B b (u8s bs) w)
    (hcw : w.heap[cb]? = some (.cells #[.iface 50 (.pointer (some ⟨b, 0, none⟩)), .int .i64 N] 55 (0, 0))) :
    Calls Try.prog 17 #[.pointer (some ⟨cb, 0, none⟩)] w fun e w' => ∃ a c, e = .returned (.slice a m c) ∧ w.ownsRow B 5 1 (.slice a m c) m (u8s bs) ∧ ∃ n, w' = w.drewN n := by
  subst hm
  exact bytes_own' sB B b cb bs N w hI hcw

/-- the state of the second loop after k rounds -/
def St (B b : Nat) (N : Int) (z0 : List Int) (L : Nat → Nat) (Z : Nat → List Int) (w2 : World) (k : Nat) (wr : World) : Prop :=
  Lib.IsBuffer 72 5 B b (u8s (z0 ++ cat Z k)) wr ∧ wr.heap[b + 1]? = some (.cells #[.iface 50 (.pointer (some ⟨b, 0, none⟩)), .int .i64 (wrap64 (N + sumTo L k))] 55 (0, 0)) ∧ Below B w2 wr ∧ b + 2 ≤ wr.heap.size

/-- what the law's second half starts from -/
structure Setup (N : Int) (l0 n : Nat) (z0 : List Int) (L : Nat → Nat) (Z : Nat → List Int) : Prop where
  hN : wrap64 N = N
  hz : z0.length = l0
  hZ : ∀ i, i < n → (Z i).length = L i
  hsum : l0 + 24 * n + sumTo L n ≤ 1048576

theorem wrap_step (N : Int) (s x : Nat) : wrap64 (wrap64 (N + (s : Int)) + (x : Int)) = wrap64 (N + ((s + x : Nat) : Int)) := by
  simp only [wrap64]
  omega
theorem wrap_step' (N : Int) (s x : Nat) : wrap64 (wrap64 (N + (s : Int)) + (x : Int)) = wrap64 (N + ((s : Int) + (x : Int))) := by
  rw [wrap_step, Int.natCast_add]

/-- one round of the second loop -/
theorem st_next {B b : Nat} {N : Int} {z0 : List Int} {L : Nat → Nat} {Z : Nat → List Int} {w2 wr w6 : World} {j : Nat} (h : St B b N z0 L Z w2 j wr)
    (i6 : Lib.IsBuffer 72 5 B b (u8s (z0 ++ cat Z j ++ Z j)) w6) (b6 : Below B wr w6)
    (q6 : w6.heap[b + 1]? = some (.cells #[.iface 50 (.pointer (some ⟨b, 0, none⟩)), .int .i64 (wrap64 (wrap64 (N + sumTo L j) + L j))] 55 (0, 0))) (q : Nat) :
    St B b N z0 L Z w2 (j + 1) (w6.drewN q) := by
  obtain ⟨-, -, h3, h4⟩ := h
  refine ⟨?_, ?_, (h3.trans b6).trans (drewN_below _ _ _), Nat.le_trans h4 b6.size⟩
  · show Lib.IsBuffer 72 5 B b (u8s (z0 ++ (cat Z j ++ Z j))) w6
    rw [← List.append_assoc]
    exact i6
  · show w6.heap[b + 1]? = some (.cells #[.iface 50 (.pointer (some ⟨b, 0, none⟩)), .int .i64 (wrap64 (N + ((sumTo L j + L j : Nat) : Int)))] 55 (0, 0))
    rw [← wrap_step]
    exact q6
theorem Try.elem35 : Try.prog.elem 35 = 5 := by kernel_rfl
theorem Try.sizeOf5' : ∀ w, (sizeOf 5).run Try.prog w = .ok 1 w := fun w => by kernel_rfl

/-- 'got[lo:lo+n]': where it lies is the row's own place (or its head, where no room is left), and it reads as that part. -/
theorem slice_part (wr : World) (g m cap lo n : Nat) (z : List Int) (x y : Int) (hx : x = (lo : Int)) (hy : y = ((lo + n : Nat) : Int)) (hcap : lo + n ≤ cap) (hH : Holds wr (some ⟨g, lo, none⟩) n z) :
    ∃ o, (∀ W : World, (Instr.slice 35 (.slice (some ⟨g, 0, none⟩) m cap) (some (.int .i64 x)) (some (.int .i64 y)) none).run Try.prog W = .ok (.slice (some ⟨g, o, none⟩) n (cap - lo)) W) ∧ Holds wr (some ⟨g, o, none⟩) n z := by
  subst hx hy
  have h0 : ∀ W : World, (Instr.slice 35 (.slice (some ⟨g, 0, none⟩) m cap) (some (.int .i64 (lo : Int))) (some (.int .i64 ((lo + n : Nat) : Int))) none).run Try.prog W = .ok (sliced (some ⟨g, 0, none⟩) lo (lo + n) cap 1) W := by
    intro W
    have := run_slice_lh (P := Try.prog) W 35 (some ⟨g, 0, none⟩) m cap (by rw [Try.elem35]; exact Try.underlying35) .i64 .i64 (lo : Int) ((lo + n : Nat) : Int) (by omega) (by omega) (by omega)
    rw [this, Try.elem35, Try.sizeOf5']
    rfl
  by_cases e : cap = lo
  · have hn : n = 0 := by omega
    subst hn
    refine ⟨0, fun W => ?_, ?_⟩
    · rw [h0 W]; simp [sliced, e]
    · obtain ⟨h1, _, _⟩ := hH
      exact ⟨h1, fun _ => rfl, fun _ _ i hi => absurd hi (Nat.not_lt_zero _)⟩
  · refine ⟨lo, fun W => ?_, hH⟩
    rw [h0 W]
    simp [sliced, e, Lib.addr_add]

theorem slice_nil (m : Nat) (W : World) : (Instr.slice 35 (.slice none m 0) (some (.int .i64 0)) (some (.int .i64 0)) none).run Try.prog W = .ok (.slice none 0 0) W := by
  have := run_slice_lh (P := Try.prog) W 35 none m 0 (by rw [Try.elem35]; exact Try.underlying35) .i64 .i64 0 0 (by omega) (by omega) (by omega)
  rw [this, Try.elem35, Try.sizeOf5']
  rfl

theorem quiet_add {P : Program} {f : FuncId} {args : Array Value} {w : World} {q n : Nat} {v : Value}
    (h : Calls P f args (w.drewN (q + n)) fun e w' => e = .returned v ∧ ∃ m, w' = (w.drewN (q + n)).drewN m) : Calls P f args (w.drewN (q + n)) fun e w'' => e = .returned v ∧ ∃ m, w'' = w.drewN (q + m) :=
  h.mono fun _ _ ⟨he, m, hm⟩ => ⟨he, n + m, by rw [hm, World.drewN_drewN, Nat.add_assoc]⟩

theorem sumTo_zero {L : Nat → Nat} {n : Nat} (h : sumTo L n = 0) : ∀ i, i ≤ n → sumTo L i = 0 := fun i hi => by
  have := sumTo_mono L hi
  omega
end Go.Proofs.Qxb6604611a
