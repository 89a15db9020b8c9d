import Derived.Test.Qxb6603778aList
namespace Go.Proofs.Qxb6603778a
open Go.RowKit

/-- the parameters: m terms, none nil, named N -/
def Pars (w : World) (la : Option Addr) (m : Nat) (N : Nat → ByteArray) : Prop :=
  ∃ R, TKids w (fun _ => True) la m R ∧ ∀ i, i < m → ∃ (tb : Nat) (F : Flds) (ts : Option Addr) (n d : Nat), R i = some ⟨tb, 0, none⟩ ∧ TermCells w tb F ts n d ∧ F.name = N i

theorem TKids.below {w w' : World} {ok : Nat → Prop} {la : Option Addr} {n : Nat} {Q : Nat → Option Addr} (h : TKids w ok la n Q) (hb : Below w.heap.size w w') : TKids w' ok la n Q := by
  rcases h with h | ⟨kb, cur, h1, h2, h3, h4, h5⟩
  · exact .inl h
  · exact .inr ⟨kb, cur, h1, h2, by rw [hb.block kb (Lib.lt_of_heap h3)]; exact h3, h4, h5⟩
theorem TermCells.below {w w' : World} {b : Nat} {F : Flds} {la : Option Addr} {n c : Nat} (h : TermCells w b F la n c) (hb : Below w.heap.size w w') : TermCells w' b F la n c := by
  unfold TermCells at h ⊢
  rw [hb.block b (Lib.lt_of_heap h)]
  exact h
theorem Pars.below {w w' : World} {la : Option Addr} {m : Nat} {N : Nat → ByteArray} (h : Pars w la m N) (hb : Below w.heap.size w w') : Pars w' la m N := by
  obtain ⟨R, h1, h2⟩ := h
  refine ⟨R, h1.below hb, fun i hi => ?_⟩
  obtain ⟨tb, F, ts, n, d, e1, e2, e3⟩ := h2 i hi
  exact ⟨tb, F, ts, n, d, e1, e2.below hb, e3⟩

theorem TKids.at_ {w : World} {ok : Nat → Prop} {la : Option Addr} {n : Nat} {Q : Nat → Option Addr} (h : TKids w ok la n Q) (hn : 0 < n) : ∃ kb, la = some ⟨kb, 0, none⟩ ∧ ok kb ∧ ∀ i, i < n → w.cell? ⟨kb, i, none⟩ = some (.pointer (Q i)) := by
  rcases h with ⟨_, h⟩ | ⟨kb, cur, h1, h2, h3, h4, h5⟩
  · omega
  · exact ⟨kb, h1, h2, fun i hi => by rw [Lib.cell_of_heap h3]; exact h5 i hi⟩

/-- the cells of a term, one by one -/
theorem TermCells.cells {w : World} {b : Nat} {F : Flds} {la : Option Addr} {n c : Nat} (h : TermCells w b F la n c) :
    w.cell? ⟨b, 0, none⟩ = some (.string F.file) ∧ w.cell? ⟨b, 1, none⟩ = some (.int .i64 F.line) ∧ w.cell? ⟨b, 2, none⟩ = some (.int .i64 F.col) ∧ w.cell? ⟨b, 3, none⟩ = some (.int .i64 F.kind) ∧
    w.cell? ⟨b, 4, none⟩ = some (.string F.name) ∧ w.cell? ⟨b, 5, none⟩ = some (.int .u64 F.num) ∧ w.cell? ⟨b, 6, none⟩ = some (.string F.text) ∧ w.cell? ⟨b, 7, none⟩ = some (.slice la n c) := by
  refine ⟨?_, ?_, ?_, ?_, ?_, ?_, ?_, ?_⟩ <;> (rw [Lib.cell_of_heap h]; rfl)

/-- r is what substitution of the m parameters named N by A makes of q -/
def Sub (w : World) (B s m : Nat) (N : Nat → ByteArray) (A : Nat → Option Addr) : Nat → Option Addr → Option Addr → Prop
  | 0, q, r => q = none ∧ r = none
  | f + 1, q, r => (q = none ∧ r = none) ∨ ∃ (tb : Nat) (F : Flds) (ts : Option Addr) (n d : Nat) (Q : Nat → Option Addr),
      q = some ⟨tb, 0, none⟩ ∧ tb < B ∧ TermCells w tb F ts n d ∧ TKids w (· < B) ts n Q ∧ n ≤ 1048576 ∧
      ((n = 0 ∧ F.kind = 0 ∧ ∃ i, i < m ∧ N i = F.name ∧ (∀ j, j < i → N j ≠ F.name) ∧ r = A i) ∨
       (n = 0 ∧ (F.kind = 0 → ∀ j, j < m → N j ≠ F.name) ∧ r = q) ∨
       (0 < n ∧ ∃ (rb : Nat) (rt : Option Addr) (R : Nat → Option Addr), r = some ⟨rb, 0, none⟩ ∧ s ≤ rb ∧ TermCells w rb F rt n n ∧ TKids w (s ≤ ·) rt n R ∧ ∀ i, i < n → Sub w B s m N A f (Q i) (R i)))

theorem Sub.agree {B s m : Nat} {N : Nat → ByteArray} {A : Nat → Option Addr} {w w' : World} (hA : Agree B s w w') : ∀ {f : Nat} {q r : Option Addr}, Sub w B s m N A f q r → Sub w' B s m N A f q r
  | 0, _, _, h => h
  | f + 1, q, r, h => by
    rcases h with h | ⟨tb, F, ts, n, d, Q, h1, h2, h3, h4, h5, h6⟩
    · exact .inl h
    · refine .inr ⟨tb, F, ts, n, d, Q, h1, h2, h3.agree hA (.inl h2), h4.agree hA (fun k hk => .inl hk), h5, ?_⟩
      rcases h6 with h6 | h6 | ⟨g1, rb, rt, R, g2, g3, g4, g5, g6⟩
      · exact .inl h6
      · exact .inr (.inl h6)
      · exact .inr (.inr ⟨g1, rb, rt, R, g2, g3, g4.agree hA (.inr g3), g5.agree hA (fun k hk => .inr hk), fun i hi => Sub.agree hA (g6 i hi)⟩)

theorem Sub.weak {B s s' m : Nat} {N : Nat → ByteArray} {A : Nat → Option Addr} {w : World} (hs : s' ≤ s) : ∀ {f : Nat} {q r : Option Addr}, Sub w B s m N A f q r → Sub w B s' m N A f q r
  | 0, _, _, h => h
  | f + 1, q, r, h => by
    rcases h with h | ⟨tb, F, ts, n, d, Q, h1, h2, h3, h4, h5, h6⟩
    · exact .inl h
    · refine .inr ⟨tb, F, ts, n, d, Q, h1, h2, h3, h4, h5, ?_⟩
      rcases h6 with h6 | h6 | ⟨g1, rb, rt, R, g2, g3, g4, g5, g6⟩
      · exact .inl h6
      · exact .inr (.inl h6)
      · exact .inr (.inr ⟨g1, rb, rt, R, g2, by omega, g4, g5.weak (fun k hk => Nat.le_trans hs hk), fun i hi => Sub.weak hs (g6 i hi)⟩)

/-- how substitute ends -/
def SubEnd (w : World) (B m : Nat) (N : Nat → ByteArray) (A : Nat → Option Addr) (f : Nat) (q : Option Addr) (e : Ending) (w' : World) : Prop := ∃ r, e = .returned (.pointer r) ∧ Sub w' B w.heap.size m N A f q r ∧ Below w.heap.size w w'

theorem drewN_below (B : Nat) (w : World) (n : Nat) : Below B w (w.drewN n) := ⟨rfl, rfl, rfl, Nat.le_refl _, fun _ _ => rfl⟩

/-- a bare name: the first parameter of that name, or itself -/
theorem subst_leaf (f B : Nat) (la lb : Option Addr) (m c m' c' : Nat) (N : Nat → ByteArray) (A : Nat → Option Addr) (tb : Nat) (F : Flds) (ts : Option Addr) (d : Nat) (w : World)
    (hB : tb < B) (hC : TermCells w tb F ts 0 d) (hK : TKids w (· < B) ts 0 (fun _ => none)) (hk : F.kind = 0) (hP : Pars w la m N) (hA : TKids w (fun _ => True) lb m' A) (hm : m ≤ m') (hm' : m' ≤ 131072) :
    Calls Try.prog 20 #[.pointer (some ⟨tb, 0, none⟩), .slice la m c, .slice lb m' c'] w fun e w' => SubEnd w B m N A (f + 1) (some ⟨tb, 0, none⟩) e w' := by
  have HC := Lib.hid hC
  have HKi := Lib.hid hK
  have HKd := Lib.hid hk
  have HP := Lib.hid hP
  have HA := Lib.hid hA
  obtain ⟨-, -, -, c3, c4, -, -, c7⟩ := hC.cells
  have hk1 : (F.kind == 0) = true := beq_iff_eq.2 hk
  clear hC hK hk hP hA
  go_enter Try.func20, Try.ntmps20
  go_wp2_with fail
  go_loopw [29] (fun i wr => ∃ k q : Nat, k ≤ m ∧ i = .int .i64 k ∧ wr = w.drewN q ∧ ∀ j, j < k → N j ≠ F.name) (fun i _ => m - (intOf i).toNat)
  case atStart => exact ⟨0, 0, Nat.zero_le _, rfl, rfl, fun j hj => absurd hj (Nat.not_lt_zero _)⟩
  case round =>
    obtain ⟨k, q, hk, rfl, rfl, hd⟩ := hrel
    have HD := Lib.hid hd
    clear hd
    by_cases hlt : k < m
    · obtain ⟨R, hR1, hR2⟩ := HP.out
      obtain ⟨kb, rfl, -, hkc⟩ := hR1.at_ (by omega)
      obtain ⟨ab, rfl, -, hac⟩ := HA.out.at_ (by omega)
      have hck := hkc k hlt
      have hak := hac k (by omega)
      obtain ⟨pb, G, pt, pn, pd, e1, e2, e3⟩ := hR2 k hlt
      rw [e1] at hck
      have hpn := e2.cells.2.2.2.2.1
      rw [e3] at hpn
      clear hkc hac hR1 hR2 e1 e2 e3
      by_cases hne : N k = F.name
      · have hs := str_eq _ _ hne
        have HNe := Lib.hid hne
        clear hne
        go_wp2_with fail
        go_quiet (fail)
        go_wp2_with fail
        go_ret
        refine ⟨A k, rfl, .inr ⟨tb, F, ts, 0, d, fun _ => none, rfl, hB, HC.out, HKi.out, by omega, .inl ⟨rfl, HKd.out, k, hlt, HNe.out, HD.out, rfl⟩⟩, drewN_below _ _ _⟩
      · have hs := str_ne _ _ hne
        have HD2 : Hid (∀ j, j < k + 1 → N j ≠ F.name) := fun j hj => by
          by_cases e : j = k
          · rw [e]; exact hne
          · exact HD.out j (by omega)
        clear hne HD
        go_wp2_with fail
        go_quiet (fail)
        go_wp2_with fail
        go_roundw
        case rel => exact ⟨k + 1, _, by omega, by go_num, rfl, HD2.out⟩
        case measure => simp [intOf]; omega
    · go_wp2_with fail
      go_ret
      exact ⟨_, rfl, .inr ⟨tb, F, ts, 0, d, fun _ => none, rfl, hB, HC.out, HKi.out, by omega, .inr (.inl ⟨rfl, fun _ j hj => HD.out j (by omega), rfl⟩)⟩, drewN_below _ _ _⟩

/-- no subterm, and no name: itself -/
theorem subst_plain (f B : Nat) (la lb : Option Addr) (m c m' c' : Nat) (N : Nat → ByteArray) (A : Nat → Option Addr) (tb : Nat) (F : Flds) (ts : Option Addr) (d : Nat) (w : World)
    (hB : tb < B) (hC : TermCells w tb F ts 0 d) (hK : TKids w (· < B) ts 0 (fun _ => none)) (hk : F.kind ≠ 0) :
    Calls Try.prog 20 #[.pointer (some ⟨tb, 0, none⟩), .slice la m c, .slice lb m' c'] w fun e w' => SubEnd w B m N A (f + 1) (some ⟨tb, 0, none⟩) e w' := by
  have HC := Lib.hid hC
  obtain ⟨-, -, -, c3, c4, -, -, c7⟩ := hC.cells
  have hk1 : (F.kind == 0) = false := beq_eq_false_iff_ne.2 hk
  have HK := Lib.hid hk
  clear hC hk
  go_enter Try.func20, Try.ntmps20
  go_wp2_with fail
  go_ret
  exact ⟨_, rfl, .inr ⟨tb, F, ts, 0, d, fun _ => none, rfl, hB, HC.out, hK, by omega, .inr (.inl ⟨rfl, fun h => absurd h HK.out, rfl⟩)⟩, Below.refl _ _⟩

theorem TKids.zero {w : World} {ok : Nat → Prop} {la : Option Addr} {Q : Nat → Option Addr} (h : TKids w ok la 0 Q) (Q' : Nat → Option Addr) : TKids w ok la 0 Q' := by
  rcases h with h | ⟨kb, cur, h1, h2, h3, h4, h5⟩
  · exact .inl h
  · exact .inr ⟨kb, cur, h1, h2, h3, h4, fun i hi => absurd hi (Nat.not_lt_zero _)⟩
end Go.Proofs.Qxb6603778a
