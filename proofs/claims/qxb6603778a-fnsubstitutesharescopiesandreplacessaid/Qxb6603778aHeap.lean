import Derived.Test.Qxb6603778aRows
import Derived.WalkKit
import Derived.WalkSpells
import Derived.Below
import Derived.Deep.OwnRows
import Derived.Deep.QuietTactic
import Derived.BigQuiet
import Derived.Lib.SliceRun
import Derived.Lib.Hide
import Derived.Lib.Buffer
namespace Go.Proofs.Qxb6603778a
open Go.RowKit

/-- the fields of a node and of a term, but for the list -/
structure Flds where
  kind : Int
  name : ByteArray
  num : Int
  text : ByteArray
  file : ByteArray
  line : Int
  col : Int

/-- a Node at block b, offset o -/
def NodeCells (w : World) (b o : Nat) (F : Flds) (la : Option Addr) (n c : Nat) : Prop :=
  w.cell? ⟨b, o, none⟩ = some (.int .i64 F.kind) ∧ w.cell? ⟨b, o + 1, none⟩ = some (.string F.name) ∧ w.cell? ⟨b, o + 2, none⟩ = some (.int .u64 F.num) ∧ w.cell? ⟨b, o + 3, none⟩ = some (.string F.text) ∧
  w.cell? ⟨b, o + 4, none⟩ = some (.string F.file) ∧ w.cell? ⟨b, o + 5, none⟩ = some (.int .i64 F.line) ∧ w.cell? ⟨b, o + 6, none⟩ = some (.int .i64 F.col) ∧ w.cell? ⟨b, o + 7, none⟩ = some (.slice la n c)

/-- the pointers of a list of nodes that came in -/
def NKids (w : World) (B : Nat) (la : Option Addr) (n : Nat) (P : Nat → Option Addr) : Prop :=
  (n = 0 ∧ (la = none ∨ la ≠ none)) ∨ ∃ kb ko, la = some ⟨kb, ko, none⟩ ∧ kb < B ∧ ∀ i, i < n → w.cell? ⟨kb, ko + i, none⟩ = some (.pointer (P i))

/-- a tree of nodes of depth at most f, in blocks below B, every length at most L -/
def NodeAt (w : World) (B L : Nat) : Nat → Option Addr → Prop
  | 0, p => p = none
  | f + 1, p => p = none ∨ ∃ (b o : Nat) (F : Flds) (la : Option Addr) (n c : Nat) (P : Nat → Option Addr),
      p = some ⟨b, o, none⟩ ∧ b < B ∧ NodeCells w b o F la n c ∧ (la = none → c = 0) ∧ (la = none → n = 0) ∧ F.name.size ≤ L ∧ F.text.size ≤ L ∧ F.file.size ≤ L ∧ n ≤ L ∧ NKids w B la n P ∧ ∀ i, i < n → NodeAt w B L f (P i)

/-- the worlds agree on what lies below B and from s on -/
def Agree (B s : Nat) (w w' : World) : Prop := ∀ k, k < B ∨ s ≤ k → k < w.heap.size → w'.heap[k]? = w.heap[k]?

theorem Agree.of_below {w w' : World} (h : Below w.heap.size w w') (B s : Nat) : Agree B s w w' := fun k _ hk => h.block k hk
theorem Agree.cell {B s : Nat} {w w' : World} (h : Agree B s w w') {b o : Nat} {v : Value} (hb : b < B ∨ s ≤ b) (hc : w.cell? ⟨b, o, none⟩ = some v) : w'.cell? ⟨b, o, none⟩ = some v := by
  rw [World.cell?_of_block (w := w) (a := ⟨b, o, none⟩) (h b hb (World.block_lt_of_cell? w _ hc))]
  exact hc
theorem Agree.heap {B s : Nat} {w w' : World} (h : Agree B s w w') {b : Nat} {x : Obj} (hb : b < B ∨ s ≤ b) (hc : w.heap[b]? = some x) : w'.heap[b]? = some x := by
  rw [h b hb (Lib.lt_of_heap hc)]
  exact hc

theorem NodeCells.agree {B s : Nat} {w w' : World} {b o : Nat} {F : Flds} {la : Option Addr} {n c : Nat} (h : NodeCells w b o F la n c) (hA : Agree B s w w') (hb : b < B) : NodeCells w' b o F la n c := by
  obtain ⟨h0, h1, h2, h3, h4, h5, h6, h7⟩ := h
  exact ⟨hA.cell (.inl hb) h0, hA.cell (.inl hb) h1, hA.cell (.inl hb) h2, hA.cell (.inl hb) h3, hA.cell (.inl hb) h4, hA.cell (.inl hb) h5, hA.cell (.inl hb) h6, hA.cell (.inl hb) h7⟩

theorem NKids.agree {B s : Nat} {w w' : World} {la : Option Addr} {n : Nat} {P : Nat → Option Addr} (h : NKids w B la n P) (hA : Agree B s w w') : NKids w' B la n P := by
  rcases h with h | ⟨kb, ko, e, hb, hc⟩
  · exact .inl h
  · exact .inr ⟨kb, ko, e, hb, fun i hi => hA.cell (.inl hb) (hc i hi)⟩

theorem NKids.at_ {w : World} {B : Nat} {la : Option Addr} {n : Nat} {P : Nat → Option Addr} (h : NKids w B la n P) (hn : 0 < n) : ∃ kb ko, la = some ⟨kb, ko, none⟩ ∧ kb < B ∧ ∀ i, i < n → w.cell? ⟨kb, ko + i, none⟩ = some (.pointer (P i)) := by
  rcases h with ⟨h, _⟩ | h
  · omega
  · exact h

theorem NodeAt.agree {B s L : Nat} {w w' : World} (hA : Agree B s w w') : ∀ {f : Nat} {p : Option Addr}, NodeAt w B L f p → NodeAt w' B L f p
  | 0, _, h => h
  | f + 1, p, h => by
    rcases h with h | ⟨b, o, F, la, n, c, P, h1, h2, h3, h4, h4', h5, h6, h7, h8, h9, h10⟩
    · exact .inl h
    · exact .inr ⟨b, o, F, la, n, c, P, h1, h2, h3.agree hA h2, h4, h4', h5, h6, h7, h8, h9.agree hA, fun i hi => NodeAt.agree hA (h10 i hi)⟩

theorem NodeAt.up {B L : Nat} {w : World} : ∀ {f : Nat} {p : Option Addr}, NodeAt w B L f p → NodeAt w B L (f + 1) p
  | 0, _, h => .inl h
  | f + 1, p, h => by
    rcases h with h | ⟨b, o, F, la, n, c, P, h1, h2, h3, h4, h4', h5, h6, h7, h8, h9, h10⟩
    · exact .inl h
    · exact .inr ⟨b, o, F, la, n, c, P, h1, h2, h3, h4, h4', h5, h6, h7, h8, h9, fun i hi => NodeAt.up (h10 i hi)⟩

theorem NodeAt.mono {B L : Nat} {w : World} {f g : Nat} {p : Option Addr} (h : NodeAt w B L f p) (hg : f ≤ g) : NodeAt w B L g p := by
  induction g with
  | zero => have : f = 0 := by omega
            subst this; exact h
  | succ g ih =>
    by_cases e : f = g + 1
    · subst e; exact h
    · exact (ih (by omega)).up

theorem NodeAt.nil {B L : Nat} {w : World} (f : Nat) : NodeAt w B L f none := by
  cases f with
  | zero => rfl
  | succ f => exact .inl rfl

/-- how measure ends -/
def MeasEnd (w : World) (B : Nat) (p : Option Addr) (b : Int) (e : Ending) (w' : World) : Prop :=
  ∃ r : Int, e = .returned (.int .i64 r) ∧ -1 ≤ r ∧ (0 ≤ r → r < b ∧ NodeAt w B 1048576 b.toNat p) ∧ w' = w
theorem MeasEnd.no (w : World) (B : Nat) (p : Option Addr) (b : Int) : MeasEnd w B p b (.returned (.int .i64 (-1))) w := ⟨-1, rfl, by omega, (fun h => by omega), rfl⟩

set_option maxHeartbeats 3200000 in
theorem measure_any (f : Nat) : ∀ (B : Nat) (p : Option Addr) (b : Int) (w : World), NodeAt w B maxLen f p → b ≤ 1048576 → -1048576 ≤ b →
    Calls Try.prog 17 #[.pointer p, .int .i64 b] w fun e w' => MeasEnd w B p b e w' := by
  induction f with
  | zero =>
    intro B p b w hp hb hb0
    obtain rfl : p = none := hp
    by_cases h0 : b ≤ 0
    · go_enter Try.func17, Try.ntmps17
      go_wp2_with fail
      go_ret
      exact MeasEnd.no _ _ _ _
    · have h0 : 0 < b := by omega
      go_enter Try.func17, Try.ntmps17
      go_wp2_with fail
      go_ret
      exact ⟨b - 1, rfl, by omega, fun _ => ⟨by omega, NodeAt.nil _⟩, rfl⟩
  | succ f ih =>
    intro B p b w hp hb hb0
    by_cases h0 : b ≤ 0
    · clear hp ih
      go_enter Try.func17, Try.ntmps17
      go_wp2_with fail
      go_ret
      exact MeasEnd.no _ _ _ _
    have h0 : 0 < b := by omega
    rcases hp with rfl | ⟨nb, no, F, la, n, c, P, rfl, hB, hC, hz, hz', hl1, hl2, hl3, hl4, hK, hR⟩
    · clear ih
      go_enter Try.func17, Try.ntmps17
      go_wp2_with fail
      go_ret
      exact ⟨b - 1, rfl, by omega, fun _ => ⟨by omega, NodeAt.nil _⟩, rfl⟩
    unfold maxLen at hl1 hl2 hl3 hl4
    obtain ⟨c0, c1, c2, c3, c4, c5, c6, c7⟩ := hC
    have IH := Lib.hid ih
    have HK := Lib.hid hK
    have HR := Lib.hid hR
    have HC : Hid (NodeCells w nb no F la n c) := ⟨c0, c1, c2, c3, c4, c5, c6, c7⟩
    have HZ := Lib.hid hz
    have HZ' := Lib.hid hz'
    clear ih hK hR hz hz' c0 c2 c5 c6
    by_cases g1 : b - 1 < F.name.size
    · go_enter Try.func17, Try.ntmps17
      go_wp2_with fail
      go_ret
      exact MeasEnd.no _ _ _ _
    have g1 : F.name.size ≤ b - 1 := by omega
    by_cases g2 : b - 1 - F.name.size < F.text.size
    · go_enter Try.func17, Try.ntmps17
      go_wp2_with fail
      go_ret
      exact MeasEnd.no _ _ _ _
    have g2 : F.text.size ≤ b - 1 - F.name.size := by omega
    by_cases g3 : b - 1 - F.name.size - F.text.size < F.file.size
    · go_enter Try.func17, Try.ntmps17
      go_wp2_with fail
      go_ret
      exact MeasEnd.no _ _ _ _
    have g3 : F.file.size ≤ b - 1 - F.name.size - F.text.size := by omega
    by_cases g4 : (b - 1 - F.name.size - F.text.size - F.file.size) / 8 < n
    · go_enter Try.func17, Try.ntmps17
      go_wp2_with fail
      go_ret
      exact MeasEnd.no _ _ _ _
    have g4 : (n : Int) ≤ (b - 1 - F.name.size - F.text.size - F.file.size) / 8 := by omega
    go_enter Try.func17, Try.ntmps17
    go_wp2_with fail
    go_loop [1, 5] (fun bb i => ∃ (k : Nat) (z : Int), k ≤ n ∧ 0 ≤ z ∧ z ≤ b - 1 ∧ i = .int .i64 k ∧ bb = .int .i64 z ∧ ∀ j, j < k → NodeAt w B 1048576 (b - 1).toNat (P j)) (fun _ i => n - (intOf i).toNat)
    case atStart => exact ⟨0, b - 1 - F.name.size - F.text.size - F.file.size - 8 * n, Nat.zero_le _, by omega, by omega, rfl, by go_num, fun j hj => absurd hj (Nat.not_lt_zero _)⟩
    case round =>
      obtain ⟨k, z, hk, hz0, hz1, rfl, rfl, hj⟩ := hrel
      have HJ := Lib.hid hj
      clear hj
      by_cases hlt : k < n
      · obtain ⟨kb, ko, rfl, hkB, hkc⟩ := HK.out.at_ (by omega)
        have hck := hkc k hlt
        clear hkc
        go_wp2_with (go_at_call 17; refine (IH.out B (P k) z w (HR.out k hlt) (by omega) (by omega)).mono ?_; rintro e w1 ⟨r, rfl, hr1, hr2, rfl⟩; refine Hid.out ?_)
        refine Lib.hid ?_
        have HR2 := Lib.hid hr2
        clear hr2
        by_cases hneg : r < 0
        · go_wp2_with fail
          go_ret
          exact MeasEnd.no _ _ _ _
        · have hneg : 0 ≤ r := by omega
          obtain ⟨hrz, hnk⟩ := HR2.out hneg
          have HNk : Hid (∀ j, j < k + 1 → NodeAt w1 B 1048576 (b - 1).toNat (P j)) := by
            intro j hj
            by_cases e : j = k
            · rw [e]; exact hnk.mono (by omega)
            · exact HJ.out j (by omega)
          clear hnk HR2 HJ
          go_wp2_with fail
          go_round
          case rel => exact ⟨k + 1, r, by omega, by omega, by omega, by go_num, rfl, HNk.out⟩
          case measure => simp [intOf]; omega
      · go_wp2_with fail
        go_ret
        refine ⟨z, rfl, by omega, fun _ => ⟨by omega, ?_⟩, rfl⟩
        have e : b.toNat = (b - 1).toNat + 1 := by omega
        rw [e]
        exact .inr ⟨nb, no, F, la, n, c, P, rfl, hB, HC.out, HZ.out, HZ'.out, by omega, by omega, by omega, by omega, HK.out, fun i hi => HJ.out i (by omega)⟩
end Go.Proofs.Qxb6603778a
