import Derived.Test.Qxb6604611aOwn
namespace Go.Proofs.Qxb6604611a
open Go.RowKit

/-- What (*bytes.Buffer).Write does to a buffer of the call's own. -/
def WriteSaid : Prop := ∀ (B b : Nat) (bs zs : List Int) (pa : Option Addr) (n c : Nat) (w : World), Lib.IsBuffer 72 5 B b (u8s bs) w → B ≤ w.heap.size → Holds w pa n zs → (pa = none → c = 0) → (∀ a, pa = some a → a.block ≠ b) → bs.length + n ≤ 140737488355328 →
  Calls Try.prog 56 #[.pointer (some ⟨b, 0, none⟩), .slice pa n c] w fun e w' => e = .returned (.tuple #[.int .i64 n, .nilIface]) ∧ Lib.IsBuffer 72 5 B b (u8s bs ++ u8s zs) w' ∧ Below B w w' ∧ Lib.OthersKept 5 (some b) w w'

def BytesSaid : Prop := ∀ (B b : Nat) (bs : List Int) (w : World), Lib.IsBuffer 72 5 B b (u8s bs) w →
  Calls Try.prog 26 #[.pointer (some ⟨b, 0, none⟩)] w fun e w' => ∃ v, e = .returned v ∧ w'.ownsRow B 5 1 v (u8s bs).length (u8s bs) ∧ ∃ n, w' = w.drewN n

theorem cw_buffer (w : World) (B : Nat) (v : Value) (n : Int) (cs : List Value) (hB : B ≤ w.heap.size) (h : w.ownsRow B 5 1 v cs.length cs) : Lib.IsBuffer 72 5 B w.heap.size cs (cwWorld w v n) := by
  have hne : v.ownBlock ≠ some w.heap.size := by
    rcases h.2 with ⟨rfl, _⟩ | ⟨g, cap, cur, rfl, _, hg, _⟩
    · simp [Value.ownBlock]
    · have := Lib.lt_of_heap hg
      simp only [Value.ownBlock]
      intro e
      have := Option.some.inj e
      omega
  unfold cwWorld
  refine Lib.IsBuffer.alloc ⟨hB, v, 0, Deep.blk_alloc_new _ _, h.alloc _, hne⟩ _

theorem cw_heap (w : World) (v : Value) (n : Int) : (cwWorld w v n).heap[w.heap.size + 1]? = some (.cells #[.iface 50 (.pointer (some ⟨w.heap.size, 0, none⟩)), .int .i64 n] 55 (0, 0)) := by
  unfold cwWorld
  have := Deep.blk_alloc_new (w.alloc (.cells #[v, .int .i64 0, .int .i8 0] 72)) (.cells #[.iface 50 (.pointer (some ⟨w.heap.size, 0, none⟩)), .int .i64 n] 55)
  simpa using this

theorem cw_size (w : World) (v : Value) (n : Int) : (cwWorld w v n).heap.size = w.heap.size + 2 := by simp [cwWorld]
theorem cw_below (w : World) (v : Value) (n : Int) : Below w.heap.size w (cwWorld w v n) := by
  unfold cwWorld
  exact ((Below.refl _ _).alloc (Nat.le_refl _) _).alloc (by simp) _

theorem newbuf_own (B : Nat) (a : Option Addr) (l c : Nat) (n : Int) (zs : List Int) (w : World) (hB : B ≤ w.heap.size) (h : w.ownsRow B 5 1 (.slice a l c) l (u8s zs)) :
    Calls Try.prog 14 #[.slice a l c, .int .i64 n] w fun e w' => e = .returned (.pointer (some ⟨w.heap.size + 1, 0, none⟩)) ∧ Lib.IsBuffer 72 5 B w.heap.size (u8s zs) w' ∧
      w'.heap[w.heap.size + 1]? = some (.cells #[.iface 50 (.pointer (some ⟨w.heap.size, 0, none⟩)), .int .i64 n] 55 (0, 0)) ∧ Below w.heap.size w w' ∧ w.heap.size + 2 ≤ w'.heap.size := by
  refine (newbuf a l c n w).mono ?_
  rintro e w' ⟨rfl, rfl⟩
  have hl : (u8s zs).length = l := by have := h.1; omega
  exact ⟨rfl, cw_buffer w B _ n _ hB (by rw [hl]; exact h), cw_heap _ _ _, cw_below _ _ _, by rw [cw_size]; exact Nat.le_refl _⟩

/-- ZZcountingWrite, over what the buffer's Write does. -/
theorem write_own (sW : WriteSaid) (B b cb : Nat) (bs zs : List Int) (pa : Option Addr) (n c : Nat) (N : Int) (w : World)
    (hI : Lib.IsBuffer 72 5 B b (u8s bs) w) (hcw : w.heap[cb]? = some (.cells #[.iface 50 (.pointer (some ⟨b, 0, none⟩)), .int .i64 N] 55 (0, 0))) (hcb : cb = b + 1) (hB : B ≤ w.heap.size)
    (hp : Holds w pa n zs) (hc : pa = none → c = 0) (hpb : ∀ a, pa = some a → a.block < B) (hlim : bs.length + n ≤ 140737488355328) :
    Calls Try.prog 15 #[.pointer (some ⟨cb, 0, none⟩), .slice pa n c] w fun e w' => e = .returned (.tuple #[.int .i64 n, .bool false]) ∧ Lib.IsBuffer 72 5 B b (u8s (bs ++ zs)) w' ∧ Below B w w' ∧
      w'.heap[cb]? = some (.cells #[.iface 50 (.pointer (some ⟨b, 0, none⟩)), .int .i64 (wrap64 (N + n))] 55 (0, 0)) := by
  have hBb : B ≤ b := hI.1
  rw [u8s_append]
  exact zz_write B b cb (u8s bs) (u8s zs) pa n c N w hcw (by omega) (by omega) (sW B b bs zs pa n c w hI hB hp hc (fun a ha => by have := hpb a ha; omega) hlim)

theorem bytes_own (sB : BytesSaid) (B b cb : Nat) (bs : List Int) (N : Int) (w : World) (hI : Lib.IsBuffer 72 5 B b (u8s bs) w)
    (hcw : w.heap[cb]? = some (.cells #[.iface 50 (.pointer (some ⟨b, 0, none⟩)), .int .i64 N] 55 (0, 0))) :
    Calls Try.prog 17 #[.pointer (some ⟨cb, 0, none⟩)] w fun e w' => ∃ v, e = .returned v ∧ w'.ownsRow B 5 1 v bs.length (u8s bs) ∧ ∃ n, w' = w.drewN n := by
  have := zz_bytes B b cb (u8s bs) N w hcw (sB B b bs w hI)
  rw [u8s_length] at this
  exact this

theorem own_lt {w : World} {B : Nat} {a : Option Addr} {l n c : Nat} {xs : List Value} (h : w.ownsRow B 5 1 (.slice a l c) n xs) : ∀ x, a = some x → x.block < w.heap.size := by
  rintro x rfl
  rcases h.2 with ⟨h, _⟩ | ⟨g, cap, cur, h, _, hg, _⟩
  · simp at h
  · simp only [Value.slice.injEq, Option.some.injEq] at h
    rw [h.1]
    exact Lib.lt_of_heap hg

theorem own_split {w : World} {B : Nat} {v : Value} {n : Nat} {xs : List Value} (h : w.ownsRow B 5 1 v n xs) :
    (n = 0 ∧ v = .slice none 0 0) ∨ ∃ g cap, n ≤ cap ∧ cap ≤ 9223372036854775807 ∧ v = .slice (some ⟨g, 0, none⟩) n cap := by
  rcases h.2 with ⟨h, h'⟩ | ⟨g, cap, cur, h, _, _, h1, h2, _⟩
  · exact .inl ⟨h', h⟩
  · exact .inr ⟨g, cap, h1, by unfold maxLen at h2; omega, h⟩

/-- A part of an owned row reads as that part. -/
theorem own_part {w : World} {B g cap : Nat} {n : Nat} {xs ys zs : List Int} (h : w.ownsRow B 5 1 (.slice (some ⟨g, 0, none⟩) n cap) n (u8s (xs ++ ys ++ zs))) : Holds w (some ⟨g, xs.length, none⟩) ys.length ys := by
  have hh := own_holds h
  refine ⟨rfl, (fun e => by cases e), ?_⟩
  rintro x hx i hi
  have hx := Option.some.inj hx
  subst hx
  have h3 := hh.2.2 _ rfl (xs.length + i) (by rw [← hh.1]; simp; omega)
  rw [Lib.addr_add] at h3 ⊢
  rw [Nat.zero_add] at h3
  rw [h3]
  congr 2
  rw [List.getD_eq_getElem?_getD, List.getD_eq_getElem?_getD, List.append_assoc, List.getElem?_append_right (by omega), Nat.add_sub_cancel_left, List.getElem?_append_left hi]

end Go.Proofs.Qxb6604611a
