/- The law's readers of its arguments: zzStringAt, zzRatingCount, zzRatingCode, zzRatingKind. -/
import Derived.Test.Qxb6614322aFmtLoad
namespace Go.Proofs.Qxb6614322aFmt
open Go.RowKit Go.Extern.Stop Go.Stop Go.Extern Go.Maps

/-- A slice's elements, each one cell. -/
def CellsIn (W : World) (a : Option Addr) (len : Nat) (f : Nat → Value) : Prop := ∀ i, i < len → ∃ b off, a = some ⟨b, off, none⟩ ∧ b < W.heap.size ∧ W.cell? ⟨b, off + i, none⟩ = some (f i)
theorem CellsIn.later {W W' : World} {a : Option Addr} {len : Nat} {f : Nat → Value} (h : CellsIn W a len f) {B : Nat} (hB : W.heap.size ≤ B) (hb : Below B W W') : CellsIn W' a len f := fun i hi => by
  obtain ⟨b, off, rfl, h1, h2⟩ := h i hi
  exact ⟨b, off, rfl, Nat.lt_of_lt_of_le h1 hb.size, (cell_same (hb.block b (by omega))).trans h2⟩

/-- The six arguments, as they read. -/
structure Inp where
  a0 : Option Addr
  l0 : Nat
  c0 : Nat
  s0 : Nat → ByteArray
  a1 : Option Addr
  l1 : Nat
  c1 : Nat
  s1 : Nat → ByteArray
  a2 : Option Addr
  l2 : Nat
  c2 : Nat
  x2 : Nat → Int
  a3 : Option Addr
  l3 : Nat
  c3 : Nat
  x3 : Nat → Int
  a4 : Option Addr
  l4 : Nat
  c4 : Nat
  ca : Nat → Option Addr
  cl : Nat → Nat
  cc : Nat → Nat
  cs : Nat → Nat → ByteArray
  a5 : Option Addr
  l5 : Nat
  c5 : Nat
  ka : Nat → Option Addr
  kl : Nat → Nat
  kc : Nat → Nat
  ks : Nat → Nat → Int

structure Inp.At (I : Inp) (W : World) : Prop where
  h0 : CellsIn W I.a0 I.l0 (fun i => .string (I.s0 i))
  h1 : CellsIn W I.a1 I.l1 (fun i => .string (I.s1 i))
  h2 : CellsIn W I.a2 I.l2 (fun i => .int .u8 (I.x2 i))
  h3 : CellsIn W I.a3 I.l3 (fun i => .int .u8 (I.x3 i))
  h4 : CellsIn W I.a4 I.l4 (fun i => .slice (I.ca i) (I.cl i) (I.cc i))
  h4e : ∀ i, i < I.l4 → CellsIn W (I.ca i) (I.cl i) (fun j => .string (I.cs i j))
  h5 : CellsIn W I.a5 I.l5 (fun i => .slice (I.ka i) (I.kl i) (I.kc i))
  h5e : ∀ i, i < I.l5 → CellsIn W (I.ka i) (I.kl i) (fun j => .int .i64 (I.ks i j))

theorem Inp.At.later {I : Inp} {W W' : World} (h : I.At W) (hb : Below W.heap.size W W') : I.At W' :=
  { h with h0 := h.h0.later (Nat.le_refl _) hb, h1 := h.h1.later (Nat.le_refl _) hb, h2 := h.h2.later (Nat.le_refl _) hb, h3 := h.h3.later (Nat.le_refl _) hb, h4 := h.h4.later (Nat.le_refl _) hb, h4e := fun i hi => (h.h4e i hi).later (Nat.le_refl _) hb, h5 := h.h5.later (Nat.le_refl _) hb, h5e := fun i hi => (h.h5e i hi).later (Nat.le_refl _) hb }

/-- What zzBytes tells where it says yes. -/
structure Inp.Small (I : Inp) : Prop where
  m0 : I.l0 ≤ 1048576
  m1 : I.l1 ≤ 1048576
  m2 : I.l2 ≤ 1048576
  m3 : I.l3 ≤ 1048576
  m4 : I.l4 ≤ 1048576
  m5 : I.l5 ≤ 1048576
  z0 : ∀ i, i < I.l0 → (I.s0 i).size ≤ 1048576
  z1 : ∀ i, i < I.l1 → (I.s1 i).size ≤ 1048576
  m4e : ∀ i, i < I.l4 → I.cl i ≤ 1048576
  z4 : ∀ i, i < I.l4 → ∀ j, j < I.cl i → (I.cs i j).size ≤ 1048576
  m5e : ∀ i, i < I.l5 → I.kl i ≤ 1048576

theorem string_at (a : Option Addr) (l c : Nat) (s : Nat → ByteArray) (i : Nat) (w : World) (h : CellsIn w a l (fun i => .string (s i))) :
    Calls Tryf.prog 8 #[.int .i64 i, .slice a l c] w fun e w' => e = .returned (.string (if i < l then s i else ⟨#[]⟩)) ∧ w' = w := by
  by_cases hlt : i < l
  · obtain ⟨b, off, rfl, h1, h2⟩ := h i hlt
    rw [if_pos hlt]
    clear h
    have h3 : (i : Int) < (l : Int) := by omega
    go_enter Tryf.func8, Tryf.ntmps8
    go_wp2_with fail
    go_ret
    exact ⟨rfl, rfl⟩
  · rw [if_neg hlt]
    clear h
    have h3 : ¬ (i : Int) < (l : Int) := by omega
    go_enter Tryf.func8, Tryf.ntmps8
    go_wp2_with fail
    go_ret
    exact ⟨rfl, rfl⟩

def codeAt (I : Inp) (i j : Nat) : ByteArray := if i < I.l4 ∧ j < I.cl i then I.cs i j else ⟨#[]⟩
def kindAt (I : Inp) (i j : Nat) : Int := if i < I.l5 ∧ j < I.kl i then I.ks i j else 0
def cntAt (I : Inp) (i : Nat) : Nat := max (if i < I.l4 then I.cl i else 0) (if i < I.l5 then I.kl i else 0)

theorem code_at (I : Inp) (w : World) (hI : I.At w) (i j : Nat) :
    Calls Tryf.prog 15 #[.int .i64 i, .int .i64 j, .slice I.a4 I.l4 I.c4] w fun e w' => e = .returned (.string (codeAt I i j)) ∧ w' = w := by
  by_cases h1 : i < I.l4
  · obtain ⟨b, off, ha, h2, h3⟩ := hI.h4 i h1
    by_cases h4 : j < I.cl i
    · obtain ⟨b', off', ha', h2', h3'⟩ := hI.h4e i h1 j h4
      have e : codeAt I i j = I.cs i j := if_pos ⟨h1, h4⟩
      rw [e, ha]
      simp only [ha'] at h3
      clear hI e ha ha'
      have k1 : (i : Int) < (I.l4 : Int) := by omega
      have k2 : (j : Int) < (I.cl i : Int) := by omega
      go_enter Tryf.func15, Tryf.ntmps15
      go_wp2_with fail
      go_ret
      exact ⟨rfl, rfl⟩
    · have e : codeAt I i j = ⟨#[]⟩ := if_neg (fun h => h4 h.2)
      rw [e, ha]
      clear hI e ha
      have k1 : (i : Int) < (I.l4 : Int) := by omega
      have k2 : ¬ (j : Int) < (I.cl i : Int) := by omega
      go_enter Tryf.func15, Tryf.ntmps15
      go_wp2_with fail
      go_ret
      exact ⟨rfl, rfl⟩
  · have e : codeAt I i j = ⟨#[]⟩ := if_neg (fun h => h1 h.1)
    rw [e]
    clear hI e
    have k1 : ¬ (i : Int) < (I.l4 : Int) := by omega
    go_enter Tryf.func15, Tryf.ntmps15
    go_wp2_with fail
    go_ret
    exact ⟨rfl, rfl⟩

theorem kind_at (I : Inp) (w : World) (hI : I.At w) (i j : Nat) :
    Calls Tryf.prog 18 #[.int .i64 i, .int .i64 j, .slice I.a5 I.l5 I.c5] w fun e w' => e = .returned (.int .i64 (kindAt I i j)) ∧ w' = w := by
  by_cases h1 : i < I.l5
  · obtain ⟨b, off, ha, h2, h3⟩ := hI.h5 i h1
    by_cases h4 : j < I.kl i
    · obtain ⟨b', off', ha', h2', h3'⟩ := hI.h5e i h1 j h4
      have e : kindAt I i j = I.ks i j := if_pos ⟨h1, h4⟩
      rw [e, ha]
      simp only [ha'] at h3
      clear hI e ha ha'
      have k1 : (i : Int) < (I.l5 : Int) := by omega
      have k2 : (j : Int) < (I.kl i : Int) := by omega
      go_enter Tryf.func18, Tryf.ntmps18
      go_wp2_with fail
      go_ret
      exact ⟨rfl, rfl⟩
    · have e : kindAt I i j = 0 := if_neg (fun h => h4 h.2)
      rw [e, ha]
      clear hI e ha
      have k1 : (i : Int) < (I.l5 : Int) := by omega
      have k2 : ¬ (j : Int) < (I.kl i : Int) := by omega
      go_enter Tryf.func18, Tryf.ntmps18
      go_wp2_with fail
      go_ret
      exact ⟨rfl, rfl⟩
  · have e : kindAt I i j = 0 := if_neg (fun h => h1 h.1)
    rw [e]
    clear hI e
    have k1 : ¬ (i : Int) < (I.l5 : Int) := by omega
    go_enter Tryf.func18, Tryf.ntmps18
    go_wp2_with fail
    go_ret
    exact ⟨rfl, rfl⟩

theorem cnt_at (I : Inp) (w : World) (hI : I.At w) (i : Nat) :
    Calls Tryf.prog 14 #[.int .i64 i, .slice I.a4 I.l4 I.c4, .slice I.a5 I.l5 I.c5] w fun e w' => e = .returned (.int .i64 (cntAt I i)) ∧ w' = w := by
  by_cases h1 : i < I.l4
  · obtain ⟨b, off, ha, h2, h3⟩ := hI.h4 i h1
    have k1 : (i : Int) < (I.l4 : Int) := by omega
    by_cases h5 : i < I.l5
    · obtain ⟨b', off', ha', h2', h3'⟩ := hI.h5 i h5
      have k2 : (i : Int) < (I.l5 : Int) := by omega
      by_cases h6 : I.cl i < I.kl i
      · have e : cntAt I i = I.kl i := by unfold cntAt; rw [if_pos h1, if_pos h5]; omega
        have k3 : (I.cl i : Int) < (I.kl i : Int) := by omega
        rw [e, ha, ha']
        clear hI e ha ha'
        go_enter Tryf.func14, Tryf.ntmps14
        go_wp2_with fail
        go_ret
        exact ⟨rfl, rfl⟩
      · have e : cntAt I i = I.cl i := by unfold cntAt; rw [if_pos h1, if_pos h5]; omega
        have k3 : ¬ (I.cl i : Int) < (I.kl i : Int) := by omega
        rw [e, ha, ha']
        clear hI e ha ha'
        go_enter Tryf.func14, Tryf.ntmps14
        go_wp2_with fail
        go_ret
        exact ⟨rfl, rfl⟩
    · have e : cntAt I i = I.cl i := by unfold cntAt; rw [if_pos h1, if_neg h5]; omega
      have k2 : ¬ (i : Int) < (I.l5 : Int) := by omega
      rw [e, ha]
      clear hI e ha
      go_enter Tryf.func14, Tryf.ntmps14
      go_wp2_with fail
      go_ret
      exact ⟨rfl, rfl⟩
  · have k1 : ¬ (i : Int) < (I.l4 : Int) := by omega
    by_cases h5 : i < I.l5
    · obtain ⟨b', off', ha', h2', h3'⟩ := hI.h5 i h5
      have k2 : (i : Int) < (I.l5 : Int) := by omega
      by_cases h6 : 0 < I.kl i
      · have e : cntAt I i = I.kl i := by unfold cntAt; rw [if_neg h1, if_pos h5]; omega
        have k3 : (0 : Int) < (I.kl i : Int) := by omega
        rw [e, ha']
        clear hI e ha'
        go_enter Tryf.func14, Tryf.ntmps14
        go_wp2_with fail
        go_ret
        exact ⟨rfl, rfl⟩
      · have e : cntAt I i = 0 := by unfold cntAt; rw [if_neg h1, if_pos h5]; omega
        have k3 : ¬ (0 : Int) < (I.kl i : Int) := by omega
        rw [e, ha']
        clear hI e ha'
        go_enter Tryf.func14, Tryf.ntmps14
        go_wp2_with fail
        go_ret
        exact ⟨rfl, rfl⟩
    · have e : cntAt I i = 0 := by unfold cntAt; rw [if_neg h1, if_neg h5]; omega
      have k2 : ¬ (i : Int) < (I.l5 : Int) := by omega
      rw [e]
      clear hI e
      go_enter Tryf.func14, Tryf.ntmps14
      go_wp2_with fail
      go_ret
      exact ⟨rfl, rfl⟩
end Go.Proofs.Qxb6614322aFmt
