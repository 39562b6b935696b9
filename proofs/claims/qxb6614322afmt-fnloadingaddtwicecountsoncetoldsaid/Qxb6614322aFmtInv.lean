/- What stands between two rounds of the law's first loop. -/
import Derived.Test.Qxb6614322aFmtItem
namespace Go.Proofs.Qxb6614322aFmt
open Go.RowKit Go.Extern.Stop Go.Stop Go.Extern Go.Maps

/-- The map of seen ids. -/
def SMap (w : World) (b n : Nat) (f : List UInt8 → Bool) : Prop := ∃ D, w.ownsMap Tryf.prog 9 (plainElem Tryf.prog 4) b n D ∧ BoolAt D f
theorem SMap.lt {w : World} {b n : Nat} {f : List UInt8 → Bool} (h : SMap w b n f) : b < w.heap.size := h.elim fun _ h => h.1.lt
theorem SMap.later {w w' : World} {b n : Nat} {f : List UInt8 → Bool} (h : SMap w b n f) (hb : w'.heap[b]? = w.heap[b]?) : SMap w' b n f := h.elim fun D h => ⟨D, map_later h.1 hb, h.2⟩
theorem SMap.look {w : World} {b n : Nat} {f : List UInt8 → Bool} (h : SMap w b n f) {s : ByteArray} (hs : s.size ≤ maxLen) : (Instr.lookup 30 (.map (some b)) (.string s) false).run Tryf.prog w = .ok (.bool (f s.data.toList)) w := h.elim fun _ h => look_bool h.1 h.2 hs
theorem SMap.update {w : World} {b n : Nat} {f : List UInt8 → Bool} (h : SMap w b n f) (hn : n < maxLen) {s : ByteArray} (hs : s.size ≤ maxLen) :
    ∃ w', (Instr.mapUpdate 30 (.map (some b)) (.string s) (.bool true)).run Tryf.prog w = .ok () w' ∧ SMap w' b (n + 1) (fun l => l == s.data.toList || f l) ∧ Fr (fun k => k = b) w w' := by
  obtain ⟨D, h1, h2⟩ := h
  obtain ⟨w', D', hr, h3, h4, h5⟩ := upd_bool h1 h2 hn hs
  exact ⟨w', hr, ⟨D', h3, h4⟩, h5⟩

/-- The loading, the seen ids and the counts behind k rounds; B: where the law's own memory begins. -/
structure Inv (I : Inp) (w : World) (k n : Nat) (wr : World) (f : List UInt8 → Bool) (g : List UInt8 → Int) (vi vk mr : Value) (r nr u nU : Nat) : Prop where
  blk : wr.heap[w.heap.size + 1]? = some (.cells #[vi, vk, mr, .int .i64 n, .int .i64 r, .int .i64 nr, .int .i64 u, .map (some w.heap.size)] 60 (0, 0))
  own : BatchOwn wr (w.heap.size + 3) n vi vk mr f
  sum : r + nr + u = n
  le : n ≤ k
  um : UMap wr w.heap.size nU g
  ul : nU ≤ k * 1048576
  sm : SMap wr (w.heap.size + 2) n f
  all : ∀ j, j < k → validB (idAt I j).data.toList = true → f (idAt I j).data.toList = true
  bel : Below w.heap.size w wr
  size : w.heap.size + 3 ≤ wr.heap.size
def InvAt (I : Inp) (w : World) (k n : Nat) (wr : World) : Prop := ∃ f g vi vk mr r nr u nU, Inv I w k n wr f g vi vk mr r nr u nU

theorem inv_start (I : Inp) (w : World) : InvAt I w 0 0 (((w.alloc (.map #[] 0)).alloc (.cells #[.slice none 0 0, .slice none 0 0, .map none, .int .i64 0, .int .i64 0, .int .i64 0, .int .i64 0, .map (some w.heap.size)] 60)).alloc (.map #[] 0)) := by
  refine ⟨fun _ => false, fun _ => 0, .slice none 0 0, .slice none 0 0, .map none, 0, 0, 0, 0, ?_, ?_, rfl, Nat.le_refl _, ?_, Nat.le_refl _, ?_, fun j hj => absurd hj (Nat.not_lt_zero _), ?_, by simp⟩
  · refine (blk_old (by simp)).trans ?_
    have := blk_new (w.alloc (.map #[] 0)) (.cells #[.slice none 0 0, .slice none 0 0, .map none, .int .i64 0, .int .i64 0, .int .i64 0, .int .i64 0, .map (some w.heap.size)] 60)
    simpa using this
  · refine ⟨⟨[], ?_⟩, ⟨[], ?_⟩, .inl ⟨rfl, fun _ => rfl⟩⟩
    · exact World.ownsRow_nil _ _ _ _
    · exact World.ownsRow_nil _ _ _ _
  · exact (UMap.made w).later ((blk_old (by simp; omega)).trans (blk_old (by simp)))
  · have := World.ownsMap_made ((w.alloc (.map #[] 0)).alloc (.cells #[.slice none 0 0, .slice none 0 0, .map none, .int .i64 0, .int .i64 0, .int .i64 0, .int .i64 0, .map (some w.heap.size)] 60)) Tryf.prog 9 (plainElem (H := Unit) Tryf.prog 4)
    exact ⟨_, by simpa using this, empty_bool⟩
  · exact (((Below.refl _ w).alloc (Nat.le_refl _) _).alloc (by simp) _).alloc (by simp; omega) _

theorem Inv.later {I : Inp} {w : World} {k n : Nat} {wr W : World} {f : List UInt8 → Bool} {g : List UInt8 → Int} {vi vk mr : Value} {r nr u nU : Nat} (h : Inv I w k n wr f g vi vk mr r nr u nU) (hb : Below wr.heap.size wr W) : Inv I w k n W f g vi vk mr r nr u nU := by
  have hs := h.size
  exact ⟨(hb.block _ (by omega)).trans h.blk, h.own.later (fun k _ hk => hb.block k hk), h.sum, h.le, h.um.later (hb.block _ (by omega)), h.ul, h.sm.later (hb.block _ (by omega)), h.all, h.bel.trans (hb.mono (by omega)), Nat.le_trans hs hb.size⟩

/-- An item that is refused. -/
theorem call_old (F : Interp) {I : Inp} {w : World} {k n : Nat} {wr W : World} {f : List UInt8 → Bool} {g : List UInt8 → Int} {vi vk mr : Value} {r nr u nU : Nat} (h : Inv I w k n wr f g vi vk mr r nr u nU) (hb : Below wr.heap.size wr W) (hF : F.answers w.tape)
    (id own : ByteArray) (rs : Option Addr) (m c : Nat) (lab keep : Int) (hs : id.size ≤ maxLen) (hd : validB id.data.toList = true → f id.data.toList = true) :
    Calls Tryf.prog 11 #[.pointer (some ⟨w.heap.size + 1, 0, none⟩), .agg #[.string id, .slice rs m c, .int .u8 lab, .string own], .int .u8 keep] W fun e w' => (∃ p, e = .returned (.iface 73 p)) ∧ Below wr.heap.size wr w' := by
  have h' := h.later hb
  refine (zzadd_refused F (w.heap.size + 1) (w.heap.size + 3) n f mr id own rs m c lab keep W (by rw [h'.bel.tape]; exact hF) hs (by have := h'.size; omega) (cells8 h'.blk).2.2.1 h'.own.2.2 hd).mono ?_
  rintro e w' ⟨h1, h2⟩
  exact ⟨h1, hb.trans (h2.mono hb.size)⟩

/-- An item that is taken. -/
theorem call_new {I : Inp} {w : World} {k n : Nat} {wr W1 W : World} {f : List UInt8 → Bool} {g : List UInt8 → Int} {vi vk mr : Value} {r nr u nU : Nat} (h : Inv I w k n wr f g vi vk mr r nr u nU)
    (own : ByteArray) (rs : Option Addr) (m c : Nat) (lab keep : Int) (code : Nat → ByteArray) (kind : Nat → Int) (hk : k ≤ 65536) (hs : (idAt I k).size ≤ maxLen) (hv : validB (idAt I k).data.toList = true) (hd : f (idAt I k).data.toList = false)
    (hS1 : SMap W1 (w.heap.size + 2) (n + 1) (fun l => l == (idAt I k).data.toList || f l)) (hF1 : Fr (fun j => j = w.heap.size + 2) wr W1) (hb : Below W1.heap.size W1 W) (hm : m ≤ 1048576) (hR : Ratings W rs m code kind) (hrs : ∀ k, (∃ i, rs = some ⟨k, i, none⟩) → W1.heap.size ≤ k)
    (hcs : ∀ j, j < m → (code j).size ≤ maxLen) :
    Calls Tryf.prog 11 #[.pointer (some ⟨w.heap.size + 1, 0, none⟩), .agg #[.string (idAt I k), .slice rs m c, .int .u8 lab, .string own], .int .u8 keep] W fun e w' => e = .returned .nilIface ∧ InvAt I w (k + 1) (n + 1) w' := by
  have hsz := h.size
  have hle := h.le
  have hul := h.ul
  have hS := h.sm
  -- what stands ahead of the call
  have old : ∀ j, j < wr.heap.size → j ≠ w.heap.size + 2 → W.heap[j]? = wr.heap[j]? := fun j hj hn => (hb.block j (Nat.lt_of_lt_of_le hj hF1.size)).trans (hF1.block j hj hn)
  have hsW : wr.heap.size ≤ W.heap.size := Nat.le_trans hF1.size hb.size
  have nob : ∀ j, w.heap.size + 3 ≤ j → j < wr.heap.size → W.heap[j]? = wr.heap[j]? := fun j h1 h2 => old j h2 (by omega)
  have hB := h.own.later nob
  have hlt : ∀ j, Touch (w.heap.size + 1) vi vk mr j → j < wr.heap.size := fun j hj => touch_lt h.own (by omega) hj
  refine (zzadd_new (w.heap.size + 1) w.heap.size (w.heap.size + 3) n nU r nr u f g vi vk mr (idAt I k) own rs m c lab keep code kind W hs hv (by omega) (by omega) (by omega) (by omega) ((old _ (by omega) (by omega)).trans h.blk) hB (by omega) h.sum hd
    (h.um.later (old _ (by omega) (by omega))) (by omega) hm hR (fun j hj => ?_) hcs).mono ?_
  · have := hrs j hj
    have h2 := hF1.size
    exact ⟨fun ht => by have := hlt j ht; omega, by omega⟩
  · rintro e w' ⟨rfl, vi', vk', mr', r', nr', u', g', h1, h2, h3, h4, h5⟩
    have nt : ∀ j, j ≠ w.heap.size + 1 → j < w.heap.size + 3 → j ≠ w.heap.size → w'.heap[j]? = W.heap[j]? := fun j e1 e2 e3 => h5.block j (by omega) (fun ht => ht.elim (touch_map h.own e1 e2) e3)
    refine ⟨rfl, _, g', vi', vk', mr', r', nr', u', nU + m, h1, h3, h2, by omega, h4, by omega, (hS1.later ((nt _ (by omega) (by omega) (by omega)).trans (hb.block _ hS1.lt))), fun j hj hvj => ?_, ?_, by have := h5.size; omega⟩
    · rcases Nat.lt_succ_iff_lt_or_eq.1 hj with hj' | rfl
      · simp [h.all j hj' hvj]
      · simp
    · refine h.bel.trans ⟨?_, ?_, ?_, ?_, fun j hj => ?_⟩
      · rw [h5.os, hb.os, hF1.os]
      · rw [h5.tape, hb.tape, hF1.tape]
      · rw [h5.output, hb.output, hF1.output]
      · exact Nat.le_trans hsW h5.size
      · rw [nt j (by omega) (by omega) (by omega), old j (by omega) (by omega)]
end Go.Proofs.Qxb6614322aFmt
