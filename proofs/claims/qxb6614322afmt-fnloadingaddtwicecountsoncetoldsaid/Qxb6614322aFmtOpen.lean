/- The six arguments, opened. -/
import Derived.Test.Qxb6614322aFmtLaw
import Derived.SliceStrings
import Derived.ChangeSlices
import Derived.Deep.Slices
import Derived.ProofKit
namespace Go.Proofs.Qxb6614322aFmt
open Go.ChangeShapes Go.WideShapes Go.ChangeAt Go.RowKit Go.Deep

theorem cells_plain {W : World} {x : Addr} {len : Nat} {f : Nat → Value} (h : ∀ i, i < len → W.cell? (x.add i) = some (f i)) : CellsIn W (some x) len f := fun i hi => by
  obtain ⟨b, off, spot⟩ := x
  have hspot : spot = none := by simpa [Addr.add] using World.cell?_spot (h 0 (by omega))
  subst hspot
  have hc := h i hi
  rw [Go.WideShapes.add_plain] at hc
  refine ⟨b, off, rfl, ?_, hc⟩
  simp only [World.cell?] at hc
  apply Decidable.byContradiction
  intro hn
  rw [Array.getElem?_eq_none (by simpa using hn)] at hc
  cases hc

section
variable {H : Type} {enc : TypeId × Value → H} {W : World}

theorem strs_of {t : TypeId} (ht : Tryf.prog.underlying t = some (.slice 9)) {fuel : Nat} {v : Value} {x : DataW H × List MemPlace} (h : DataW.trod enc Tryf.prog W 0 (fun _ => true) true fuel t [v] = some x) :
    ∃ (a : Option Addr) (len cap : Nat) (s : Nat → ByteArray), v = .slice a len cap ∧ CellsIn W a len (fun i => .string (s i)) := by
  rcases open_strings ht Tryf.underlying9 (by kernel_rfl) h with ⟨hcs, _⟩ | ⟨y, l, c, ss, hcs, _, hl, hm, hz, _, hcell, _⟩
  · simp at hcs
    exact ⟨none, 0, 0, fun _ => ⟨#[]⟩, hcs, fun i hi => absurd hi (Nat.not_lt_zero _)⟩
  · simp at hcs
    refine ⟨some y, l, c, fun i => ss.getD i ByteArray.empty, hcs, cells_plain fun i hi => hcell i (by simp at hz; omega)⟩
theorem ints_of {t e : TypeId} {k : IntKind} (ht : Tryf.prog.underlying t = some (.slice e)) (he : Tryf.prog.underlying e = some (.int k)) (hc : Tryf.prog.cellsOf e = 1) {fuel : Nat} {v : Value} {x : DataW H × List MemPlace} (h : DataW.trod enc Tryf.prog W 0 (fun _ => true) true fuel t [v] = some x) :
    ∃ (a : Option Addr) (len cap : Nat) (s : Nat → Int), v = .slice a len cap ∧ CellsIn W a len (fun i => .int k (s i)) := by
  rcases open_ints ht he hc h with ⟨hcs, _⟩ | ⟨y, l, c, ss, hcs, _, hl, hm, hz, _, hcell, _⟩
  · simp at hcs
    exact ⟨none, 0, 0, fun _ => 0, hcs, fun i hi => absurd hi (Nat.not_lt_zero _)⟩
  · simp at hcs
    refine ⟨some y, l, c, fun i => ss.getD i 0, hcs, cells_plain fun i hi => hcell i (by simp at hz; omega)⟩

theorem codes_of {fuel : Nat} {v : Value} {x : DataW H × List MemPlace} (h : DataW.trod enc Tryf.prog W 0 (fun _ => true) true fuel 24 [v] = some x) :
    ∃ (a : Option Addr) (len cap : Nat) (ca : Nat → Option Addr) (cl cc : Nat → Nat) (cs : Nat → Nat → ByteArray), v = .slice a len cap ∧ CellsIn W a len (fun i => .slice (ca i) (cl i) (cc i)) ∧ ∀ i, i < len → CellsIn W (ca i) (cl i) (fun j => .string (cs i j)) := by
  rcases open_slice1 Tryf.underlying24 (by kernel_rfl) h with ⟨hcs, _⟩ | ⟨y, l, c, m, n, V, D, Pl, hcs, _, hl, hm, hmm, _, hV⟩
  · simp at hcs
    exact ⟨none, 0, 0, fun _ => none, fun _ => 0, fun _ => 0, fun _ _ => ⟨#[]⟩, hcs, fun i hi => absurd hi (Nat.not_lt_zero _), fun i hi => absurd hi (Nat.not_lt_zero _)⟩
  · simp at hcs
    have hml : m = c := by simpa using hmm
    obtain ⟨Z, hZ⟩ := choose_lt (α := Option Addr × Nat × Nat × (Nat → ByteArray)) (n := l) (p := fun i z => V i = .slice z.1 z.2.1 z.2.2.1 ∧ CellsIn W z.1 z.2.1 (fun j => .string (z.2.2.2 j))) (fun i hi => by
      obtain ⟨a, b, c', s, h1, h2⟩ := strs_of Tryf.underlying22 (hV i (by omega)).2
      exact ⟨⟨a, b, c', s⟩, h1, h2⟩)
    exact ⟨some y, l, c, fun i => (Z i).1, fun i => (Z i).2.1, fun i => (Z i).2.2.1, fun i => (Z i).2.2.2, hcs, cells_plain fun i hi => by rw [(hV i (by omega)).1, (hZ i hi).1], fun i hi => (hZ i hi).2⟩
theorem kinds_of {fuel : Nat} {v : Value} {x : DataW H × List MemPlace} (h : DataW.trod enc Tryf.prog W 0 (fun _ => true) true fuel 25 [v] = some x) :
    ∃ (a : Option Addr) (len cap : Nat) (ka : Nat → Option Addr) (kl kc : Nat → Nat) (ks : Nat → Nat → Int), v = .slice a len cap ∧ CellsIn W a len (fun i => .slice (ka i) (kl i) (kc i)) ∧ ∀ i, i < len → CellsIn W (ka i) (kl i) (fun j => .int .i64 (ks i j)) := by
  rcases open_slice1 Tryf.underlying25 (by kernel_rfl) h with ⟨hcs, _⟩ | ⟨y, l, c, m, n, V, D, Pl, hcs, _, hl, hm, hmm, _, hV⟩
  · simp at hcs
    exact ⟨none, 0, 0, fun _ => none, fun _ => 0, fun _ => 0, fun _ _ => 0, hcs, fun i hi => absurd hi (Nat.not_lt_zero _), fun i hi => absurd hi (Nat.not_lt_zero _)⟩
  · simp at hcs
    have hml : m = c := by simpa using hmm
    obtain ⟨Z, hZ⟩ := choose_lt (α := Option Addr × Nat × Nat × (Nat → Int)) (n := l) (p := fun i z => V i = .slice z.1 z.2.1 z.2.2.1 ∧ CellsIn W z.1 z.2.1 (fun j => .int .i64 (z.2.2.2 j))) (fun i hi => by
      obtain ⟨a, b, c', s, h1, h2⟩ := ints_of Tryf.underlying51 Tryf.underlying3 (by kernel_rfl) (hV i (by omega)).2
      exact ⟨⟨a, b, c', s⟩, h1, h2⟩)
    exact ⟨some y, l, c, fun i => (Z i).1, fun i => (Z i).2.1, fun i => (Z i).2.2.1, fun i => (Z i).2.2.2, hcs, cells_plain fun i hi => by rw [(hV i (by omega)).1, (hZ i hi).1], fun i hi => (hZ i hi).2⟩

/-- All six together. -/
theorem open_six {v0 v1 v2 v3 v4 v5 : Value} {d0 d1 d2 d3 d4 d5 : DataW H} {p0 p1 p2 p3 p4 p5 : List MemPlace}
    (o0 : ∃ a l c, v0 = .slice a l c) (o1 : ∃ a l c, v1 = .slice a l c) (o2 : ∃ a l c, v2 = .slice a l c) (o3 : ∃ a l c, v3 = .slice a l c) (o4 : ∃ a l c, v4 = .slice a l c) (o5 : ∃ a l c, v5 = .slice a l c)
    (h0 : DataW.Trod enc Tryf.prog W 0 (fun _ => true) true 22 v0 d0 p0) (h1 : DataW.Trod enc Tryf.prog W 0 (fun _ => true) true 22 v1 d1 p1) (h2 : DataW.Trod enc Tryf.prog W 0 (fun _ => true) true 23 v2 d2 p2)
    (h3 : DataW.Trod enc Tryf.prog W 0 (fun _ => true) true 23 v3 d3 p3) (h4 : DataW.Trod enc Tryf.prog W 0 (fun _ => true) true 24 v4 d4 p4) (h5 : DataW.Trod enc Tryf.prog W 0 (fun _ => true) true 25 v5 d5 p5) :
    ∃ I : Inp, I.At W ∧ v0 = .slice I.a0 I.l0 I.c0 ∧ v1 = .slice I.a1 I.l1 I.c1 ∧ v2 = .slice I.a2 I.l2 I.c2 ∧ v3 = .slice I.a3 I.l3 I.c3 ∧ v4 = .slice I.a4 I.l4 I.c4 ∧ v5 = .slice I.a5 I.l5 I.c5 := by
  obtain ⟨_, _, _, rfl⟩ := o0
  obtain ⟨_, _, _, rfl⟩ := o1
  obtain ⟨_, _, _, rfl⟩ := o2
  obtain ⟨_, _, _, rfl⟩ := o3
  obtain ⟨_, _, _, rfl⟩ := o4
  obtain ⟨_, _, _, rfl⟩ := o5
  obtain ⟨f0, h0⟩ := h0
  obtain ⟨f1, h1⟩ := h1
  obtain ⟨f2, h2⟩ := h2
  obtain ⟨f3, h3⟩ := h3
  obtain ⟨f4, h4⟩ := h4
  obtain ⟨f5, h5⟩ := h5
  obtain ⟨a0, l0, c0, s0, e0, g0⟩ := strs_of Tryf.underlying22 h0
  obtain ⟨a1, l1, c1, s1, e1, g1⟩ := strs_of Tryf.underlying22 h1
  obtain ⟨a2, l2, c2, x2, e2, g2⟩ := ints_of Tryf.underlying23 Tryf.underlying5 (by kernel_rfl) h2
  obtain ⟨a3, l3, c3, x3, e3, g3⟩ := ints_of Tryf.underlying23 Tryf.underlying5 (by kernel_rfl) h3
  obtain ⟨a4, l4, c4, ca, cl, cc, cs, e4, g4, k4⟩ := codes_of h4
  obtain ⟨a5, l5, c5, ka, kl, kc, ks, e5, g5, k5⟩ := kinds_of h5
  exact ⟨⟨a0, l0, c0, s0, a1, l1, c1, s1, a2, l2, c2, x2, a3, l3, c3, x3, a4, l4, c4, ca, cl, cc, cs, a5, l5, c5, ka, kl, kc, ks⟩, ⟨g0, g1, g2, g3, g4, k4, g5, k5⟩, e0, e1, e2, e3, e4, e5⟩
end
end Go.Proofs.Qxb6614322aFmt
