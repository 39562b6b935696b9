/- What a loading owns in memory: its block of eight cells, the rows of its two slices, its map of ids. -/
import Derived.Test.Qxb6614322aFmtBatch
namespace Go.Proofs.Qxb6614322aFmt
open Go.RowKit Go.Extern.Stop Go.Stop Go.Extern Go.Maps

theorem info38 : (Tryf.prog.info? 38).map (fun i => (i.zero, i.size, i.bytes)) = some (some (.agg #[.string ⟨#[]⟩, .slice none 0 0, .int .u8 0, .string ⟨#[]⟩]), 4, 64) := by kernel_rfl
theorem info39 : (Tryf.prog.info? 39).map (fun i => (i.zero, i.size, i.bytes)) = some (some (.int .u8 0), 1, 1) := by kernel_rfl

/-- w' is w with new blocks, and with writes to blocks of X alone. -/
structure Fr (X : Nat → Prop) (w w' : World) : Prop where
  os : w'.os = w.os
  tape : w'.tape = w.tape
  output : w'.output = w.output
  size : w.heap.size ≤ w'.heap.size
  block : ∀ k, k < w.heap.size → ¬ X k → w'.heap[k]? = w.heap[k]?

theorem Fr.refl (X : Nat → Prop) (w : World) : Fr X w w := ⟨rfl, rfl, rfl, Nat.le_refl _, fun _ _ _ => rfl⟩
theorem Fr.trans {X Y : Nat → Prop} {a b c : World} (h : Fr X a b) (k : Fr Y b c) (hx : ∀ i, i < a.heap.size → Y i → X i) : Fr X a c :=
  ⟨k.os.trans h.os, k.tape.trans h.tape, k.output.trans h.output, Nat.le_trans h.size k.size, fun i hi hn => (k.block i (Nat.lt_of_lt_of_le hi h.size) (fun y => hn (hx i hi y))).trans (h.block i hi hn)⟩
theorem Fr.of_below {w w' : World} (h : Below w.heap.size w w') (X : Nat → Prop) : Fr X w w' := ⟨h.os, h.tape, h.output, h.size, fun k hk _ => h.block k hk⟩
theorem Fr.of_grown {w w' : World} {row : Option Nat} (h : w.grownBy w' row) : Fr (fun k => some k = row) w w' := ⟨h.os, h.tape, h.output, h.size, fun k hk hn => h.block k hk hn⟩
theorem Fr.of_set (w : World) (a : Addr) (v : Value) : Fr (fun k => k = a.block) w (w.setCell a v) := ⟨rfl, rfl, rfl, by simp [World.setCell], fun k _ hn => Below.heap_setCell w a v k hn⟩
theorem Fr.mono {X Y : Nat → Prop} {w w' : World} (h : Fr X w w') (hx : ∀ k, X k → Y k) : Fr Y w w' := ⟨h.os, h.tape, h.output, h.size, fun k hk hn => h.block k hk (fun x => hn (hx k x))⟩
/-- Where nothing of the old is written. -/
theorem Fr.below {X : Nat → Prop} {w w' : World} (h : Fr X w w') (B : Nat) (hB : B ≤ w.heap.size) (hx : ∀ k, k < B → ¬ X k) : Below B w w' := ⟨h.os, h.tape, h.output, h.size, fun k hk => h.block k (by omega) (hx k hk)⟩

/-- The ids that a loading has taken, in its map. -/
def IdsAre (w : World) (base n : Nat) (mr : Value) (f : List UInt8 → Bool) : Prop :=
  (mr = .map none ∧ ∀ l, f l = false) ∨ ∃ bm D, mr = .map (some bm) ∧ base ≤ bm ∧ w.ownsMap Tryf.prog 9 (plainElem Tryf.prog 4) bm n D ∧ BoolAt D f
/-- What the batch owns. -/
def BatchOwn (w : World) (base n : Nat) (vi vk mr : Value) (f : List UInt8 → Bool) : Prop :=
  (∃ xs, w.ownsRow base 38 4 vi n xs) ∧ (∃ ys, w.ownsRow base 39 1 vk n ys) ∧ IdsAre w base n mr f
/-- The blocks that an accepted item may turn. -/
def Touch (L : Nat) (vi vk mr : Value) (k : Nat) : Prop := k = L ∨ some k = vi.ownBlock ∨ some k = vk.ownBlock ∨ mr = .map (some k)

theorem cells8 {w : World} {L : Nat} {v0 v1 v2 v3 v4 v5 v6 v7 : Value} (h : w.heap[L]? = some (.cells #[v0, v1, v2, v3, v4, v5, v6, v7] 60 (0, 0))) :
    w.cell? ⟨L, 0, none⟩ = some v0 ∧ w.cell? ⟨L, 1, none⟩ = some v1 ∧ w.cell? ⟨L, 2, none⟩ = some v2 ∧ w.cell? ⟨L, 3, none⟩ = some v3 ∧ w.cell? ⟨L, 4, none⟩ = some v4 ∧ w.cell? ⟨L, 5, none⟩ = some v5 ∧ w.cell? ⟨L, 6, none⟩ = some v6 ∧ w.cell? ⟨L, 7, none⟩ = some v7 := by
  refine ⟨?_, ?_, ?_, ?_, ?_, ?_, ?_, ?_⟩ <;> simp [World.cell?, h]
theorem free8 {w : World} {L : Nat} {c : Array Value} {t : TypeId} (h : w.heap[L]? = some (.cells c t (0, 0))) (i : Nat) : w.frozen? ⟨L, i, none⟩ = false := by simp [World.frozen?, h]
theorem set_blk {w : World} {L : Nat} {c : Array Value} {t : TypeId} (h : w.heap[L]? = some (.cells c t (0, 0))) (i : Nat) (v : Value) : (w.setCell ⟨L, i, none⟩ v).heap[L]? = some (.cells (c.setIfInBounds i v) t (0, 0)) := by
  simp [World.setCell, Array.getElem?_modify, h]
theorem lt_of_blk {w : World} {L : Nat} {o : Obj} (h : w.heap[L]? = some o) : L < w.heap.size := (Array.getElem?_eq_some_iff.1 h).1

theorem row_blk {w : World} {base : Nat} {e : TypeId} {sz : Nat} {v : Value} {n : Nat} {xs : List Value} (h : w.ownsRow base e sz v n xs) {k : Nat} (hk : some k = v.ownBlock) : base ≤ k ∧ k < w.heap.size ∧ ∃ c, w.heap[k]? = some (.cells c e (0, 0)) := by
  obtain ⟨_, ⟨rfl, _⟩ | ⟨g, cap, cur, rfl, hb, hh, _⟩⟩ := h
  · simp [Value.ownBlock] at hk
  · simp [Value.ownBlock] at hk
    subst hk
    exact ⟨hb, lt_of_blk hh, cur, hh⟩
/-- An owned row in a later world that has its block. -/
theorem row_later {w w' : World} {base : Nat} {e : TypeId} {sz : Nat} {v : Value} {n : Nat} {xs : List Value} (h : w.ownsRow base e sz v n xs) (hb : ∀ k, some k = v.ownBlock → w'.heap[k]? = w.heap[k]?) : w'.ownsRow base e sz v n xs := by
  obtain ⟨h1, ⟨rfl, h2⟩ | ⟨g, cap, cur, rfl, h2, hh, h3⟩⟩ := h
  · exact ⟨h1, .inl ⟨rfl, h2⟩⟩
  · exact ⟨h1, .inr ⟨g, cap, cur, rfl, h2, (hb g rfl).trans hh, h3⟩⟩

/-- A store of true into a map[string]bool. -/
theorem put_bool {D : DataW Unit} {f : List UInt8 → Bool} (hD : IsMap D) (hf : BoolAt D f) (s : List UInt8) : BoolAt (D.put (.string s) (.lit (.bool true))) (fun l => l == s || f l) := fun l => by
  by_cases h : l = s
  · subst h
    rw [atKey_put_same hD (by simp [WideAt.IsKeyLit])]
    simp
  · rw [atKey_put_other (by simpa using h), hf l]
    simp [h]
theorem upd_bool {w : World} {b n : Nat} {D : DataW Unit} {f : List UInt8 → Bool} (h : w.ownsMap Tryf.prog 9 (plainElem Tryf.prog 4) b n D) (hf : BoolAt D f) (hn : n < maxLen) {s : ByteArray} (hs : s.size ≤ maxLen) :
    ∃ w' D', (Instr.mapUpdate 30 (.map (some b)) (.string s) (.bool true)).run Tryf.prog w = .ok () w' ∧ w'.ownsMap Tryf.prog 9 (plainElem Tryf.prog 4) b (n + 1) D' ∧ BoolAt D' (fun l => l == s.data.toList || f l) ∧ Fr (fun k => k = b) w w' := by
  obtain ⟨w', hrun, ho, hg⟩ := h.update law9 Tryf.underlying30 hn (key9 hs) (plainElem_bool Tryf.underlying4 true)
  exact ⟨w', _, hrun, ho, put_bool h.isMap hf _, (Fr.of_grown hg).mono (fun k hk => by simpa using hk)⟩
theorem empty_bool : BoolAt (.map []) (fun _ => false) := fun l => by simp [DataW.atKey]
end Go.Proofs.Qxb6614322aFmt
