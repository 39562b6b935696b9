/- zzItemAt: the item that an index names. -/
import Derived.Test.Qxb6614322aFmtSmall
import Derived.Laws.MakeOwn
namespace Go.Proofs.Qxb6614322aFmt
open Go.RowKit Go.Extern.Stop Go.Stop Go.Extern Go.Maps

theorem info67 : (Tryf.prog.info? 67).map (fun i => (i.zero, i.size, i.bytes)) = some (some (.agg #[.string ⟨#[]⟩, .pointer none, .int .i64 0, .pointer none, .int .i64 0]), 5, 48) := by kernel_rfl
def zero67 : Array Value := #[.string ⟨#[]⟩, .pointer none, .int .i64 0, .pointer none, .int .i64 0]
theorem make67 (m : Nat) (hm : m ≤ 1048576) (w : World) : (Instr.makeSlice 33 (.int .i64 m) (.int .i64 m)).run Tryf.prog w = .ok (.slice (some ⟨w.heap.size, 0, none⟩) m m) (w.alloc (.cells (madeCells zero67 (m * 5)) 67)) := by
  obtain ⟨i, hi, hz⟩ := Option.map_eq_some_iff.1 info67
  simp only [Prod.mk.injEq] at hz
  obtain ⟨hz, hs, hb⟩ := hz
  have hr := run_make (P := Tryf.prog) w 33 67 i _ Tryf.underlying33 hi hz .i64 .i64 m m (by omega) (Int.le_refl _) (by rw [hb]; omega) (by omega)
  simp only [Int.toNat_natCast, hs] at hr
  exact hr

/-- The row under work: the first k ratings stand. -/
def RowTo (W : World) (R m k : Nat) (code : Nat → ByteArray) (kind : Nat → Int) : Prop :=
  ∃ cs, W.heap[R]? = some (.cells cs 67 (0, 0)) ∧ cs.size = m * 5 ∧ ∀ j, j < k → cs[j * 5]? = some (.string (code j)) ∧ cs[j * 5 + 1]? = some (.pointer none) ∧ cs[j * 5 + 2]? = some (.int .i64 (kind j)) ∧ cs[j * 5 + 3]? = some (.pointer none) ∧ cs[j * 5 + 4]? = some (.int .i64 0)

theorem RowTo.cell {W : World} {R m k : Nat} {code : Nat → ByteArray} {kind : Nat → Int} (h : RowTo W R m k code kind) {q : Nat} (hq : q < m * 5) : ∃ v, W.cell? ⟨R, q, none⟩ = some v := by
  obtain ⟨cs, h1, h2, h3⟩ := h
  exact ⟨cs[q]'(by omega), cells_at h1 (Array.getElem?_eq_getElem (by omega))⟩
theorem RowTo.free {W : World} {R m k : Nat} {code : Nat → ByteArray} {kind : Nat → Int} (h : RowTo W R m k code kind) (q : Nat) : W.frozen? ⟨R, q, none⟩ = false := by
  obtain ⟨cs, h1, h2, h3⟩ := h
  exact free8 h1 q
theorem set_same {cs : Array Value} {q : Nat} {v : Value} (h : q < cs.size) : (cs.setIfInBounds q v)[q]? = some v := by simp [h]
theorem set_other {cs : Array Value} {q p : Nat} {v : Value} (h : p ≠ q) : (cs.setIfInBounds q v)[p]? = cs[p]? := by rw [Array.getElem?_setIfInBounds, if_neg (fun e => h e.symm)]
theorem RowTo.step {W : World} {R m k : Nat} {code : Nat → ByteArray} {kind : Nat → Int} (h : RowTo W R m k code kind) (hk : k < m) :
    RowTo (((((W.setCell ⟨R, k * 5, none⟩ (.string (code k))).setCell ⟨R, k * 5 + 1, none⟩ (.pointer none)).setCell ⟨R, k * 5 + 2, none⟩ (.int .i64 (kind k))).setCell ⟨R, k * 5 + 3, none⟩ (.pointer none)).setCell ⟨R, k * 5 + 4, none⟩ (.int .i64 0)) R m (k + 1) code kind := by
  obtain ⟨cs, h1, h2, h3⟩ := h
  refine ⟨_, set_blk (set_blk (set_blk (set_blk (set_blk h1 _ _) _ _) _ _) _ _) _ _, by simp [h2], fun j hj => ?_⟩
  rcases Nat.lt_succ_iff_lt_or_eq.1 hj with hj' | rfl
  · obtain ⟨g0, g1, g2, g3, g4⟩ := h3 j hj'
    refine ⟨?_, ?_, ?_, ?_, ?_⟩ <;> (rw [set_other (by omega), set_other (by omega), set_other (by omega), set_other (by omega), set_other (by omega)]; assumption)
  · refine ⟨?_, ?_, ?_, ?_, ?_⟩
    · rw [set_other (by omega), set_other (by omega), set_other (by omega), set_other (by omega), set_same (by omega)]
    · rw [set_other (by omega), set_other (by omega), set_other (by omega), set_same (by simp; omega)]
    · rw [set_other (by omega), set_other (by omega), set_same (by simp; omega)]
    · rw [set_other (by omega), set_same (by simp; omega)]
    · rw [set_same (by simp; omega)]
theorem RowTo.ratings {W : World} {R m : Nat} {code : Nat → ByteArray} {kind : Nat → Int} (h : RowTo W R m m code kind) : Ratings W (some ⟨R, 0, none⟩) m code kind := fun j hj => by
  obtain ⟨cs, h1, h2, h3⟩ := h
  obtain ⟨g0, g1, g2, g3, g4⟩ := h3 j hj
  exact ⟨R, rfl, lt_of_blk h1, cells_at h1 g0, cells_at h1 g1, cells_at h1 g2, cells_at h1 g3, cells_at h1 g4⟩
theorem RowTo.made (w : World) (m : Nat) (z : Array Value) (code : Nat → ByteArray) (kind : Nat → Int) : RowTo (w.alloc (.cells (madeCells z (m * 5)) 67)) w.heap.size m 0 code kind :=
  ⟨_, blk_new _ _, size_madeCells _ _, fun _ hj => absurd hj (Nat.not_lt_zero _)⟩
theorem RowTo.later {W W' : World} {R m k : Nat} {code : Nat → ByteArray} {kind : Nat → Int} (h : RowTo W R m k code kind) (hb : W'.heap[R]? = W.heap[R]?) : RowTo W' R m k code kind := by
  obtain ⟨cs, h1, h2, h3⟩ := h
  exact ⟨cs, hb.trans h1, h2, h3⟩

def idAt (I : Inp) (i : Nat) : ByteArray := if i < I.l0 then I.s0 i else ⟨#[]⟩
def ownAt (I : Inp) (i : Nat) : ByteArray := if i < I.l1 then I.s1 i else ⟨#[]⟩
theorem id_at (I : Inp) (w : World) (hI : I.At w) (i : Nat) : Calls Tryf.prog 8 #[.int .i64 i, .slice I.a0 I.l0 I.c0] w fun e w' => e = .returned (.string (idAt I i)) ∧ w' = w := string_at I.a0 I.l0 I.c0 I.s0 i w hI.h0
theorem own_at (I : Inp) (w : World) (hI : I.At w) (i : Nat) : Calls Tryf.prog 8 #[.int .i64 i, .slice I.a1 I.l1 I.c1] w fun e w' => e = .returned (.string (ownAt I i)) ∧ w' = w := string_at I.a1 I.l1 I.c1 I.s1 i w hI.h1
def ItemSays (I : Inp) (i : Nat) (w : World) (e : Ending) (w' : World) : Prop :=
  ∃ rs c lab keep, e = .returned (.tuple #[.agg #[.string (idAt I i), .slice rs (cntAt I i) c, .int .u8 lab, .string (ownAt I i)], .int .u8 keep]) ∧ Ratings w' rs (cntAt I i) (codeAt I i) (kindAt I i) ∧ (∀ k, (∃ o, rs = some ⟨k, o, none⟩) → w.heap.size ≤ k) ∧ Below w.heap.size w w'

/-- The end: the result's cell is written. -/
theorem item_close {I : Inp} {i : Nat} {w W : World} {lab keep : Int} {rs : Option Addr} {c : Nat} {a0 a1 a2 a3 : Value} (o : Obj) (HB : Below w.heap.size w W) (HN : W.heap[w.heap.size]? = some (.cells #[a0, a1, a2, a3] 38 (0, 0)))
    (HR : Ratings W rs (cntAt I i) (codeAt I i) (kindAt I i)) (hrs : ∀ k, (∃ q, rs = some ⟨k, q, none⟩) → w.heap.size < k) :
    ∃ W', W' = ((((W.setCell ⟨w.heap.size, 0, none⟩ (.string (idAt I i))).setCell ⟨w.heap.size, 1, none⟩ (.slice rs (cntAt I i) c)).setCell ⟨w.heap.size, 2, none⟩ (.int .u8 lab)).setCell ⟨w.heap.size, 3, none⟩ (.string (ownAt I i))).alloc o ∧
      W'.cell? ⟨w.heap.size, 0, none⟩ = some (.string (idAt I i)) ∧ W'.cell? ⟨w.heap.size, 1, none⟩ = some (.slice rs (cntAt I i) c) ∧ W'.cell? ⟨w.heap.size, 2, none⟩ = some (.int .u8 lab) ∧ W'.cell? ⟨w.heap.size, 3, none⟩ = some (.string (ownAt I i)) ∧
      ItemSays I i w (.returned (.tuple #[.agg #[.string (idAt I i), .slice rs (cntAt I i) c, .int .u8 lab, .string (ownAt I i)], .int .u8 keep])) W' := by
  refine ⟨_, rfl, ?_⟩
  have hb : (((((W.setCell ⟨w.heap.size, 0, none⟩ (.string (idAt I i))).setCell ⟨w.heap.size, 1, none⟩ (.slice rs (cntAt I i) c)).setCell ⟨w.heap.size, 2, none⟩ (.int .u8 lab)).setCell ⟨w.heap.size, 3, none⟩ (.string (ownAt I i))).alloc o).heap[w.heap.size]? = some (.cells #[.string (idAt I i), .slice rs (cntAt I i) c, .int .u8 lab, .string (ownAt I i)] 38 (0, 0)) :=
    (blk_old (by have := lt_of_blk HN; simpa [World.setCell] using this)).trans (set_blk (set_blk (set_blk (set_blk HN _ _) _ _) _ _) _ _)
  have hbl : Below w.heap.size w (((((W.setCell ⟨w.heap.size, 0, none⟩ (.string (idAt I i))).setCell ⟨w.heap.size, 1, none⟩ (.slice rs (cntAt I i) c)).setCell ⟨w.heap.size, 2, none⟩ (.int .u8 lab)).setCell ⟨w.heap.size, 3, none⟩ (.string (ownAt I i))).alloc o) :=
    ((((HB.setCell (Nat.le_refl _) _).setCell (Nat.le_refl _) _).setCell (Nat.le_refl _) _).setCell (Nat.le_refl _) _).alloc (by have := HB.size; simpa [World.setCell] using this) _
  have hk : ∀ k, k < W.heap.size → (∃ q, rs = some ⟨k, q, none⟩) → (((((W.setCell ⟨w.heap.size, 0, none⟩ (.string (idAt I i))).setCell ⟨w.heap.size, 1, none⟩ (.slice rs (cntAt I i) c)).setCell ⟨w.heap.size, 2, none⟩ (.int .u8 lab)).setCell ⟨w.heap.size, 3, none⟩ (.string (ownAt I i))).alloc o).heap[k]? = W.heap[k]? := fun k hk hr => by
    have hne : k ≠ w.heap.size := by have := hrs k hr; omega
    rw [blk_old (by simpa [World.setCell] using hk), Below.heap_setCell _ _ _ k hne, Below.heap_setCell _ _ _ k hne, Below.heap_setCell _ _ _ k hne, Below.heap_setCell _ _ _ k hne]
  refine ⟨cells_at hb rfl, cells_at hb rfl, cells_at hb rfl, cells_at hb rfl, rs, c, lab, keep, rfl, HR.later (by simp [World.setCell]) hk, fun k hr => by have := hrs k hr; omega, hbl⟩

set_option maxRecDepth 100000 in
set_option maxHeartbeats 4000000 in
theorem item_at (I : Inp) (w : World) (hI : I.At w) (hS : I.Small) (i : Nat) :
    Calls Tryf.prog 10 #[.int .i64 i, .slice I.a0 I.l0 I.c0, .slice I.a1 I.l1 I.c1, .slice I.a2 I.l2 I.c2, .slice I.a3 I.l3 I.c3, .slice I.a4 I.l4 I.c4, .slice I.a5 I.l5 I.c5] w fun e w' => ItemSays I i w e w' := by
  have HI := hid hI
  have HS := hid hS
  have hmc : cntAt I i ≤ 1048576 := by
    unfold cntAt
    by_cases h4 : i < I.l4
    · have := hS.m4e i h4
      by_cases h5 : i < I.l5
      · have := hS.m5e i h5
        rw [if_pos h4, if_pos h5]; omega
      · rw [if_pos h4, if_neg h5]; omega
    · by_cases h5 : i < I.l5
      · have := hS.m5e i h5
        rw [if_neg h4, if_pos h5]; omega
      · rw [if_neg h4, if_neg h5]; omega
  clear hI hS
  go_enter Tryf.func10, Tryf.ntmps10
  go_upto_if 25 with fail
  go_cut [16] from 22 (fun v wc => (∃ z, v = .int .u8 z) ∧ wc = w.alloc (.cells #[.string ⟨#[]⟩, .slice none 0 0, .int .u8 0, .string ⟨#[]⟩] 38))
  case first =>
    by_cases h : i < I.l2
    · obtain ⟨b, off, ha, h1, h2⟩ := HI.out.h2 i h
      have h3 : ∀ o, (w.alloc o).cell? ⟨b, off + i, none⟩ = some (.int .u8 (I.x2 i)) := fun o => (cell_old (a := ⟨b, off + i, none⟩) h1).trans h2
      have hlt : (i : Int) < (I.l2 : Int) := by omega
      clear h2
      rw [ha]
      go_wp2_with fail
      rw [← ha]
      go_meet
      case rel => exact ⟨⟨_, rfl⟩, rfl⟩
    · go_wp2_with fail
      go_meet
      case rel => exact ⟨⟨_, rfl⟩, rfl⟩
  case rest =>
  obtain ⟨⟨lab, rfl⟩, rfl⟩ := hcut
  go_upto_if 33 with fail
  go_cut [17] from 22 (fun v wc => (∃ z, v = .int .u8 z) ∧ wc = w.alloc (.cells #[.string ⟨#[]⟩, .slice none 0 0, .int .u8 0, .string ⟨#[]⟩] 38))
  case first =>
    by_cases h : i < I.l3
    · obtain ⟨b, off, ha, h1, h2⟩ := HI.out.h3 i h
      have h3 : ∀ o, (w.alloc o).cell? ⟨b, off + i, none⟩ = some (.int .u8 (I.x3 i)) := fun o => (cell_old (a := ⟨b, off + i, none⟩) h1).trans h2
      have hlt : (i : Int) < (I.l3 : Int) := by omega
      clear h2
      rw [ha]
      go_wp2_with fail
      rw [← ha]
      go_meet
      case rel => exact ⟨⟨_, rfl⟩, rfl⟩
    · go_wp2_with fail
      go_meet
      case rel => exact ⟨⟨_, rfl⟩, rfl⟩
  case rest =>
  obtain ⟨⟨keep, rfl⟩, rfl⟩ := hcut
  have HB1 : Hid (Below w.heap.size w (w.alloc (.cells #[.string ⟨#[]⟩, .slice none 0 0, .int .u8 0, .string ⟨#[]⟩] 38))) := (Below.refl _ _).alloc (Nat.le_refl _) _
  have HN1 : Hid ((w.alloc (.cells #[.string ⟨#[]⟩, .slice none 0 0, .int .u8 0, .string ⟨#[]⟩] 38)).heap[w.heap.size]? = some (.cells #[.string ⟨#[]⟩, .slice none 0 0, .int .u8 0, .string ⟨#[]⟩] 38 (0, 0))) := blk_new _ _
  have HI1 := hid (HI.out.later HB1.out)
  generalize (w.alloc (.cells #[.string ⟨#[]⟩, .slice none 0 0, .int .u8 0, .string ⟨#[]⟩] 38)) = W1 at *
  go_wp2_with fail
  refine (cnt_at I W1 HI1.out i).mono ?_
  rintro e w' ⟨rfl, rfl⟩
  have hmk := make67 (cntAt I i) hmc
  by_cases hm0 : cntAt I i = 0
  · have hq : ¬ (0 : Int) < (cntAt I i : Int) := by omega
    go_wp2_with fail
    refine (id_at I _ HI1.out i).mono ?_
    rintro e w2 ⟨rfl, rfl⟩
    go_wp2_with fail
    refine (own_at I _ HI1.out i).mono ?_
    rintro e w3 ⟨rfl, rfl⟩
    have hN : w.heap.size < w3.heap.size := lt_of_blk HN1.out
    have z0 : w3.cell? ⟨w.heap.size, 0, none⟩ = some (.string ⟨#[]⟩) := cells_at HN1.out rfl
    have z1 : w3.cell? ⟨w.heap.size, 1, none⟩ = some (.slice none 0 0) := cells_at HN1.out rfl
    have z2 : w3.cell? ⟨w.heap.size, 2, none⟩ = some (.int .u8 0) := cells_at HN1.out rfl
    have z3 : w3.cell? ⟨w.heap.size, 3, none⟩ = some (.string ⟨#[]⟩) := cells_at HN1.out rfl
    have fz : ∀ i, w3.frozen? ⟨w.heap.size, i, none⟩ = false := fun i => free8 HN1.out i
    go_wp2_with fail
    obtain ⟨W', hW', c0, c1, c2, c3, hsay⟩ := item_close (I := I) (i := i) (lab := lab) (keep := keep) (rs := none) (c := 0) (.cells #[.string (idAt I i), .slice none 0 0, .int .u8 lab, .string (ownAt I i)] 38) HB1.out HN1.out (fun j hj => by omega) (fun k hk => by obtain ⟨q, hq⟩ := hk; cases hq)
    rw [hm0] at hW' c1 hsay
    rw [← hW']
    clear hW' z0 z1 z2 z3 fz
    refine bodyPost_ret (v := .tuple #[.agg #[.string (idAt I i), .slice none 0 0, .int .u8 lab, .string (ownAt I i)], .int .u8 keep]) (by simp [results, Tryf.results10, go_sem, c0, c1, c2, c3]) rfl ?_
    exact hsay
  · have hq : (0 : Int) < (cntAt I i : Int) := by omega
    go_wp2_with fail
    clear hmk
    rw [show decide (0 < cntAt I i) = true from decide_eq_true (by omega)]
    have hN : w.heap.size < w'.heap.size := lt_of_blk HN1.out
    go_loopw [20] (fun v wr => ∃ k : Nat, k ≤ cntAt I i ∧ v = .int .i64 k ∧ RowTo wr w'.heap.size (cntAt I i) k (codeAt I i) (kindAt I i) ∧ Below w'.heap.size w' wr) (fun v _ => cntAt I i - (intOf v).toNat)
    case atStart => exact ⟨0, Nat.zero_le _, rfl, RowTo.made _ _ _ _ _, (Below.refl _ _).alloc (Nat.le_refl _) _⟩
    case round =>
      obtain ⟨k, hk, rfl, hrow, hbel⟩ := hrel
      have HIr := hid (HI1.out.later hbel)
      have HRow := hid hrow
      have HBel := hid hbel
      clear hrow hbel
      by_cases hlt : k < cntAt I i
      · go_wp2_with fail
        refine (code_at I wr HIr.out i k).mono ?_
        rintro e w2 ⟨rfl, rfl⟩
        go_wp2_with fail
        refine (kind_at I _ HIr.out i k).mono ?_
        rintro e w3 ⟨rfl, rfl⟩
        obtain ⟨v0, z0⟩ := HRow.out.cell (q := k * 5) (by omega)
        obtain ⟨v1, z1⟩ := HRow.out.cell (q := k * 5 + 1) (by omega)
        obtain ⟨v2, z2⟩ := HRow.out.cell (q := k * 5 + 2) (by omega)
        obtain ⟨v3, z3⟩ := HRow.out.cell (q := k * 5 + 3) (by omega)
        obtain ⟨v4, z4⟩ := HRow.out.cell (q := k * 5 + 4) (by omega)
        have fz := HRow.out.free
        have HS := hid (HRow.out.step hlt)
        have HB5 := hid (((((HBel.out.setCell (p := ⟨w'.heap.size, k * 5, none⟩) (Nat.le_refl _) (.string (codeAt I i k))).setCell (p := ⟨w'.heap.size, k * 5 + 1, none⟩) (Nat.le_refl _) (.pointer none)).setCell (p := ⟨w'.heap.size, k * 5 + 2, none⟩) (Nat.le_refl _) (.int .i64 (kindAt I i k))).setCell (p := ⟨w'.heap.size, k * 5 + 3, none⟩) (Nat.le_refl _) (.pointer none)).setCell (p := ⟨w'.heap.size, k * 5 + 4, none⟩) (Nat.le_refl _) (.int .i64 0))
        go_wp2_with fail
        go_roundw
        case rel => exact ⟨k + 1, by omega, by go_num, HS.out, HB5.out⟩
        case measure => simp [intOf]; omega
      · obtain rfl : k = cntAt I i := by omega
        have HN2 := hid ((HBel.out.block _ hN).trans HN1.out)
        have HB2 := hid (HB1.out.trans (HBel.out.mono (by omega)))
        have HR2 := hid HRow.out.ratings
        go_wp2_with fail
        refine (id_at I _ HIr.out i).mono ?_
        rintro e w2 ⟨rfl, rfl⟩
        go_wp2_with fail
        refine (own_at I _ HIr.out i).mono ?_
        rintro e w3 ⟨rfl, rfl⟩
        have hN3 : w.heap.size < w3.heap.size := lt_of_blk HN2.out
        have z0 : w3.cell? ⟨w.heap.size, 0, none⟩ = some (.string ⟨#[]⟩) := cells_at HN2.out rfl
        have z1 : w3.cell? ⟨w.heap.size, 1, none⟩ = some (.slice none 0 0) := cells_at HN2.out rfl
        have z2 : w3.cell? ⟨w.heap.size, 2, none⟩ = some (.int .u8 0) := cells_at HN2.out rfl
        have z3 : w3.cell? ⟨w.heap.size, 3, none⟩ = some (.string ⟨#[]⟩) := cells_at HN2.out rfl
        have fz : ∀ i, w3.frozen? ⟨w.heap.size, i, none⟩ = false := fun i => free8 HN2.out i
        go_wp2_with fail
        obtain ⟨W', hW', c0, c1, c2, c3, hsay⟩ := item_close (I := I) (i := i) (lab := lab) (keep := keep) (rs := some ⟨w'.heap.size, 0, none⟩) (c := cntAt I i) (.cells #[.string (idAt I i), .slice (some ⟨w'.heap.size, 0, none⟩) (cntAt I i) (cntAt I i), .int .u8 lab, .string (ownAt I i)] 38) HB2.out HN2.out HR2.out (fun k hk => by obtain ⟨q, hq⟩ := hk; cases hq; exact hN)
        rw [← hW']
        clear hW' z0 z1 z2 z3 fz
        refine bodyPost_ret (v := .tuple #[.agg #[.string (idAt I i), .slice (some ⟨w'.heap.size, 0, none⟩) (cntAt I i) (cntAt I i), .int .u8 lab, .string (ownAt I i)], .int .u8 keep]) (by simp [results, Tryf.results10, go_sem, c0, c1, c2, c3]) rfl ?_
        exact hsay
end Go.Proofs.Qxb6614322aFmt
