import Derived.Test.Qxb6603778aSame
namespace Go.Proofs.Qxb6603778a
open Go.RowKit

theorem Flds.same {F G : Flds} (h0 : F.kind = G.kind) (h1 : F.name = G.name) (h2 : F.num = G.num) (h3 : F.text = G.text) (h4 : F.file = G.file) (h5 : F.line = G.line) (h6 : F.col = G.col) : F = G := by
  cases F; cases G
  simp only at h0 h1 h2 h3 h4 h5 h6
  subst h0 h1 h2 h3 h4 h5 h6
  rfl

theorem NodeCells.uniq {w : World} {b o : Nat} {F G : Flds} {la la' : Option Addr} {n n' c c' : Nat} (h : NodeCells w b o F la n c) (g : NodeCells w b o G la' n' c') : F = G ∧ la = la' ∧ n = n' := by
  obtain ⟨h0, h1, h2, h3, h4, h5, h6, h7⟩ := h
  obtain ⟨g0, g1, g2, g3, g4, g5, g6, g7⟩ := g
  rw [h0] at g0; rw [h1] at g1; rw [h2] at g2; rw [h3] at g3; rw [h4] at g4; rw [h5] at g5; rw [h6] at g6; rw [h7] at g7
  simp only [Option.some.injEq, Value.int.injEq, Value.string.injEq, Value.slice.injEq, true_and] at g0 g1 g2 g3 g4 g5 g6 g7
  exact ⟨Flds.same g0 g1 g2 g3 g4 g5 g6, g7.1, g7.2.1⟩

theorem NKids.uniq {w : World} {B B' : Nat} {la : Option Addr} {n : Nat} {P P' : Nat → Option Addr} (h : NKids w B la n P) (g : NKids w B' la n P') : ∀ i, i < n → P i = P' i := by
  intro i hi
  obtain ⟨kb, ko, e1, _, h1⟩ := h.at_ (by omega)
  obtain ⟨kb', ko', e2, _, g1⟩ := g.at_ (by omega)
  rw [e1] at e2
  simp only [Option.some.injEq, Addr.mk.injEq, and_true] at e2
  obtain ⟨rfl, rfl⟩ := e2
  have := (h1 i hi).symm.trans (g1 i hi)
  simpa using this

theorem TermCells.uniq {w : World} {b : Nat} {F G : Flds} {la la' : Option Addr} {n n' c c' : Nat} (h : TermCells w b F la n c) (g : TermCells w b G la' n' c') : F = G ∧ la = la' ∧ n = n' := by
  obtain ⟨h0, h1, h2, h3, h4, h5, h6, h7⟩ := h.cells
  obtain ⟨g0, g1, g2, g3, g4, g5, g6, g7⟩ := g.cells
  rw [h0] at g0; rw [h1] at g1; rw [h2] at g2; rw [h3] at g3; rw [h4] at g4; rw [h5] at g5; rw [h6] at g6; rw [h7] at g7
  simp only [Option.some.injEq, Value.int.injEq, Value.string.injEq, Value.slice.injEq, true_and] at g0 g1 g2 g3 g4 g5 g6 g7
  exact ⟨Flds.same g3 g4 g5 g6 g0 g1 g2, g7.1, g7.2.1⟩

theorem TKids.uniq {w : World} {ok ok' : Nat → Prop} {la : Option Addr} {n : Nat} {Q Q' : Nat → Option Addr} (h : TKids w ok la n Q) (g : TKids w ok' la n Q') : ∀ i, i < n → Q i = Q' i := by
  intro i hi
  obtain ⟨kb, e1, _, h1⟩ := h.at_ (by omega)
  obtain ⟨kb', e2, _, g1⟩ := g.at_ (by omega)
  rw [e1] at e2
  simp only [Option.some.injEq, Addr.mk.injEq, and_true] at e2
  subst e2
  have := (h1 i hi).symm.trans (g1 i hi)
  simpa using this

/-- a term that is a bare name -/
def BareTerm (w : World) (a : Option Addr) (nm : ByteArray) : Prop := ∃ (tb : Nat) (F : Flds) (ts : Option Addr) (d : Nat), a = some ⟨tb, 0, none⟩ ∧ TermCells w tb F ts 0 d ∧ TKids w (fun _ => True) ts 0 (fun _ => none) ∧ F.kind = 0 ∧ F.name = nm

theorem BareTerm.below {w w' : World} {a : Option Addr} {nm : ByteArray} (h : BareTerm w a nm) (hb : Below w.heap.size w w') : BareTerm w' a nm := by
  obtain ⟨tb, F, ts, d, h1, h2, h3, h4, h5⟩ := h
  exact ⟨tb, F, ts, d, h1, h2.below hb, h3.below hb, h4, h5⟩

theorem BareTerm.term {w : World} {a : Option Addr} {nm : ByteArray} (h : BareTerm w a nm) (f : Nat) : TermAt w w.heap.size (f + 1) a := by
  obtain ⟨tb, F, ts, d, h1, h2, h3, -, -⟩ := h
  exact .inr ⟨tb, F, ts, 0, d, fun _ => none, h1, Lib.lt_of_heap h2, h2, h3.lt, by omega, fun i hi => absurd hi (Nat.not_lt_zero _)⟩

/-- what build makes of a bare name is a bare name -/
theorem Built.bare {w : World} {B B' s f : Nat} {p q : Option Addr} {nm : ByteArray} (h : Built w B s f p q) (hb : Bare w B' p nm) : BareTerm w q nm := by
  obtain ⟨b, o, F, la, c, rfl, _, hC, hk, hN⟩ := hb
  cases f with
  | zero => simp [Built] at h
  | succ f =>
    rcases h with ⟨h, _⟩ | ⟨b', o', G, la', n, c', P, tb, ts, d, Q, h1, h2, h3, h4, h5, h6, h7, h8, h9, h9', h10⟩
    · simp at h
    · simp only [Option.some.injEq, Addr.mk.injEq, and_true] at h1
      obtain ⟨rfl, rfl⟩ := h1
      obtain ⟨rfl, _, rfl⟩ := hC.uniq h5
      exact ⟨tb, F, ts, d, h2, h6, (h8.weak (fun _ _ => trivial)).zero _, hk, hN⟩

/-- what substitution gives is a tree of terms -/
theorem Sub.term {w : World} {B s m : Nat} {N : Nat → ByteArray} {A : Nat → Option Addr} (hA : ∀ i, i < m → ∀ f, TermAt w w.heap.size (f + 1) (A i)) : ∀ {f : Nat} {q r : Option Addr}, Sub w B s m N A f q r → TermAt w w.heap.size f r
  | 0, _, _, h => h.2
  | f + 1, q, r, h => by
    rcases h with h | ⟨tb, F, ts, n, d, Q, h1, h2, h3, h4, h5, h6⟩
    · exact .inl h.2
    · rcases h6 with ⟨_, _, i, hi, _, _, rfl⟩ | ⟨rfl, _, rfl⟩ | ⟨g1, rb, rt, R, g2, g3, g4, g5, g6⟩
      · exact hA i hi f
      · exact .inr ⟨tb, F, ts, 0, d, Q, h1, Lib.lt_of_heap h3, h3, h4.lt, by omega, fun i hi => absurd hi (Nat.not_lt_zero _)⟩
      · exact .inr ⟨rb, F, rt, n, n, R, g2, Lib.lt_of_heap g4, g4, g5.lt, h5, fun i hi => Sub.term hA (g6 i hi)⟩

theorem round_trip {w : World} {B s B1 s1 B2 s2 B3 m : Nat} {NP NF : Nat → ByteArray} {AF AP : Nat → Option Addr} (hAF : ∀ i, i < m → BareTerm w (AF i) (NF i)) (hAP : ∀ i, i < m → BareTerm w (AP i) (NP i)) (hd : ∀ i j, i < j → j < m → NF i ≠ NF j) :
    ∀ {f : Nat} {p q r t : Option Addr}, Built w B s f p q → Sub w B1 s1 m NP AF f q r → Sub w B2 s2 m NF AP f r t → NoUse w B3 m NF f p → SM w f p t
  | 0, p, q, r, t, hB, hS, hT, hU => ⟨hB.1, hT.2⟩
  | f + 1, p, q, r, t, hB, hS, hT, hU => by
    rcases hB with ⟨rfl, rfl⟩ | ⟨b, o, F, la, n, c, P, tb, ts, d, Q, rfl, rfl, b3, b4, b5, b6, b7, b8, b9, b9', b10⟩
    · rcases hS with ⟨_, rfl⟩ | ⟨_, _, _, _, _, _, e, _⟩
      · rcases hT with ⟨_, rfl⟩ | ⟨_, _, _, _, _, _, e, _⟩
        · exact .inl ⟨rfl, rfl⟩
        · simp at e
      · simp at e
    rcases hS with ⟨e, _⟩ | ⟨tb1, F1, ts1, n1, d1, Q1, e1, s2', s3, s4, s5, s6⟩
    · simp at e
    simp only [Option.some.injEq, Addr.mk.injEq, and_true] at e1
    subst e1
    obtain ⟨rfl, rfl, rfl⟩ := b6.uniq s3
    rcases hU with e | ⟨bu, ou, Fu, lu, nu, cu, Pu, eu, u2, u3, u4, u5, u6⟩
    · simp at e
    simp only [Option.some.injEq, Addr.mk.injEq, and_true] at eu
    obtain ⟨rfl, rfl⟩ := eu
    obtain ⟨rfl, rfl, rfl⟩ := b5.uniq u3
    rcases s6 with ⟨rfl, hk, i, hi, hn1, _, rfl⟩ | ⟨rfl, hno, rfl⟩ | ⟨hpos, rb, rt, R, rfl, r3, r4, r5, r6⟩
    · -- a parameter: to the fresh name, and back
      obtain ⟨fb, G, ft, fd, ef, f2, f3, f4, f5⟩ := hAF i hi
      rw [ef] at hT
      rcases hT with ⟨e, _⟩ | ⟨tb2, F2, ts2, n2, d2, Q2, e2, t2, t3, t4, t5, t6⟩
      · simp at e
      simp only [Option.some.injEq, Addr.mk.injEq, and_true] at e2
      subst e2
      obtain ⟨rfl, rfl, rfl⟩ := f2.uniq t3
      rcases t6 with ⟨_, _, j, hj, hn2, hfirst, rfl⟩ | ⟨_, hno, _⟩ | ⟨hp, _⟩
      · have hij : j = i := by
          rcases Nat.lt_trichotomy j i with h | h | h
          · exact absurd (hn2.trans f5) (hd j i h hi)
          · exact h
          · exact absurd f5.symm (hfirst i h)
        subst hij
        obtain ⟨pb, Hf, pt, pd, ep, p2, p3, p4, p5⟩ := hAP j hi
        exact .inr ⟨b, o, F, la, 0, c, P, pb, Hf, pt, pd, fun _ => none, B, rfl, ep, b5, p2, by rw [p4, hk], fun h => by omega, fun h => by omega, fun _ _ => by rw [p5, hn1], b7, p3, by omega, fun i hi => absurd hi (Nat.not_lt_zero _)⟩
      · exact absurd f5.symm (hno f4 i hi)
      · omega
    · -- no parameter: itself, twice
      rcases hT with ⟨e, _⟩ | ⟨tb2, F2, ts2, n2, d2, Q2, e2, t2, t3, t4, t5, t6⟩
      · simp at e
      simp only [Option.some.injEq, Addr.mk.injEq, and_true] at e2
      subst e2
      obtain ⟨rfl, rfl, rfl⟩ := b6.uniq t3
      rcases t6 with ⟨_, hk, j, hj, hn2, _, _⟩ | ⟨_, _, rfl⟩ | ⟨hp, _⟩
      · exact absurd hn2 (u5 hk rfl j hj)
      · exact .inr ⟨b, o, F, la, 0, c, P, tb, F, ts, d, Q, B, rfl, rfl, b5, b6, rfl, fun _ => rfl, fun _ => rfl, fun _ _ => rfl, b7, b8.weak (fun _ _ => trivial), by omega, fun i hi => absurd hi (Nat.not_lt_zero _)⟩
      · omega
    · -- a node with subterms: copied, twice
      rcases hT with ⟨e, _⟩ | ⟨tb2, F2, ts2, n2, d2, Q2, e2, t2, t3, t4, t5, t6⟩
      · simp at e
      simp only [Option.some.injEq, Addr.mk.injEq, and_true] at e2
      subst e2
      obtain ⟨rfl, rfl, rfl⟩ := r4.uniq t3
      rcases t6 with ⟨e, _⟩ | ⟨e, _⟩ | ⟨_, rb2, rt2, T, rfl, q3, q4, q5, q6⟩
      · omega
      · omega
      · refine .inr ⟨b, o, F, la, n, c, P, rb2, F, rt2, n, T, B, rfl, rfl, b5, q4, rfl, fun _ => rfl, fun _ => rfl, fun _ _ => rfl, b7, q5.weak (fun _ _ => trivial), b9', fun i hi => ?_⟩
        have e1 := b8.uniq s4 i hi
        have e2 := r5.uniq t4 i hi
        have e3 := b7.uniq u4 i hi
        have x1 := b10 i hi
        have x2 := r6 i hi
        have x3 := q6 i hi
        have x4 := u6 i hi
        rw [e1] at x1
        rw [e2] at x2
        rw [← e3] at x4
        exact round_trip hAF hAP hd x1 x2 x3 x4
end Go.Proofs.Qxb6603778a
