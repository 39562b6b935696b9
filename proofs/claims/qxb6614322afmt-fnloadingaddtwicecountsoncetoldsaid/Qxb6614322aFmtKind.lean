/- Batch.Add in one contract; gate.Item.Kind. -/
import Derived.Test.Qxb6614322aFmtNone
namespace Go.Proofs.Qxb6614322aFmt
open Go.RowKit Go.Extern.Stop Go.Stop Go.Extern Go.Maps

theorem batch_new (L base n : Nat) (f : List UInt8 → Bool) (vi vk mr c3 c4 c5 c6 c7 : Value) (id own : ByteArray) (rs : Option Addr) (m c : Nat) (lab keep : Int) (w : World)
    (hs : id.size ≤ maxLen) (hv : validB id.data.toList = true) (hLb : L < base) (hbs : base ≤ w.heap.size)
    (hL : w.heap[L]? = some (.cells #[vi, vk, mr, c3, c4, c5, c6, c7] 60 (0, 0))) (hB : BatchOwn w base n vi vk mr f) (hn : n ≤ 65536) (hd : f id.data.toList = false) :
    Calls Tryf.prog 20 #[.pointer (some ⟨L, 0, none⟩), .agg #[.string id, .slice rs m c, .int .u8 lab, .string own], .int .u8 keep] w fun e w' => e = .returned .nilIface ∧
      ∃ vi' vk' mr', w'.heap[L]? = some (.cells #[vi', vk', mr', c3, c4, c5, c6, c7] 60 (0, 0)) ∧ BatchOwn w' base (n + 1) vi' vk' mr' (fun l => l == id.data.toList || f l) ∧ Fr (Touch L vi vk mr) w w' := by
  obtain ⟨⟨xs, hx⟩, ⟨ys, hy⟩, ⟨rfl, hf⟩ | ⟨bm, D, rfl, hbm, hm, hf⟩⟩ := hB
  · exact new_none L base n f vi vk c3 c4 c5 c6 c7 xs ys id own rs m c lab keep w hs hv hLb hbs hL hx hy hf hn
  · exact new_some L base bm n D f vi vk c3 c4 c5 c6 c7 xs ys id own rs m c lab keep w hs hv hLb hbs hbm hL hx hy hm hf hn hd

theorem batch_refused (F : Interp) (L base n : Nat) (f : List UInt8 → Bool) (mr : Value) (id own : ByteArray) (rs : Option Addr) (m c : Nat) (lab keep : Int) (w : World) (hF : F.answers w.tape) (hs : id.size ≤ maxLen)
    (hL : L < w.heap.size) (hc : w.cell? ⟨L, 2, none⟩ = some mr) (hI : IdsAre w base n mr f) (hd : validB id.data.toList = true → f id.data.toList = true) :
    Calls Tryf.prog 20 #[.pointer (some ⟨L, 0, none⟩), .agg #[.string id, .slice rs m c, .int .u8 lab, .string own], .int .u8 keep] w fun e w' => (∃ p, e = .returned (.iface 73 p)) ∧ Below w.heap.size w w' := by
  cases hv : validB id.data.toList with
  | false => exact batch_bad F L id own rs m c lab keep w hF hs hv
  | true =>
    obtain ⟨rfl, hf⟩ | ⟨bm, D, rfl, hbm, hm, hf⟩ := hI
    · rw [hf] at hd; cases hd hv
    · exact batch_dup F L bm n D f id own rs m c lab keep w hF hs hv hL hc hm hf (hd hv)

/-- A row of ratings. -/
def Ratings (w : World) (rs : Option Addr) (m : Nat) (code : Nat → ByteArray) (kind : Nat → Int) : Prop :=
  ∀ j, j < m → ∃ b, rs = some ⟨b, 0, none⟩ ∧ b < w.heap.size ∧ w.cell? ⟨b, j * 5, none⟩ = some (.string (code j)) ∧ w.cell? ⟨b, j * 5 + 1, none⟩ = some (.pointer none) ∧ w.cell? ⟨b, j * 5 + 2, none⟩ = some (.int .i64 (kind j)) ∧ w.cell? ⟨b, j * 5 + 3, none⟩ = some (.pointer none) ∧ w.cell? ⟨b, j * 5 + 4, none⟩ = some (.int .i64 0)
theorem cell_same {w w' : World} {b i : Nat} (h : w'.heap[b]? = w.heap[b]?) : w'.cell? ⟨b, i, none⟩ = w.cell? ⟨b, i, none⟩ := by simp only [World.cell?, h]
theorem Ratings.later {w w' : World} {rs : Option Addr} {m : Nat} {code : Nat → ByteArray} {kind : Nat → Int} (h : Ratings w rs m code kind) (hs : w.heap.size ≤ w'.heap.size) (hb : ∀ k, k < w.heap.size → (∃ i, rs = some ⟨k, i, none⟩) → w'.heap[k]? = w.heap[k]?) : Ratings w' rs m code kind := fun j hj => by
  obtain ⟨b, rfl, h0, h1, h2, h3, h4, h5⟩ := h j hj
  have e := hb b h0 ⟨0, rfl⟩
  exact ⟨b, rfl, by omega, (cell_same e).trans h1, (cell_same e).trans h2, (cell_same e).trans h3, (cell_same e).trans h4, (cell_same e).trans h5⟩

set_option maxHeartbeats 1000000 in
theorem kind_any (rs : Option Addr) (m c : Nat) (lab : Int) (own : ByteArray) (code : Nat → ByteArray) (kind : Nat → Int) (w : World) (hm : m ≤ 1048576) (hR : Ratings w rs m code kind) :
    Calls Tryf.prog 21 #[.agg #[.slice rs m c, .int .u8 lab, .string own]] w fun e w' => (∃ v, e = .returned (.int .i64 v)) ∧ Below w.heap.size w w' := by
  have HR := hid hR
  clear hR
  go_enter Tryf.func21, Tryf.ntmps21
  go_wp2
  go_loopw [3, 9] (fun v i wr => (∃ z, v = .int .i64 z) ∧ ∃ k : Nat, k ≤ m ∧ i = .int .i64 k ∧ Below w.heap.size w wr) (fun _ i _ => m - (intOf i).toNat)
  case atStart => exact ⟨⟨_, rfl⟩, 0, Nat.zero_le _, rfl, (Below.refl _ _).alloc (Nat.le_refl _) _⟩
  case round =>
    obtain ⟨⟨z, rfl⟩, k, hk, rfl, hb⟩ := hrel
    by_cases hlt : k < m
    · obtain ⟨b, rfl, h0, h1, h2, h3, h4, h5⟩ := (HR.out.later hb.size (fun k hk _ => hb.block k hk)) k hlt
      have HB := hid hb
      clear hb
      go_wp2
      all_goals first
        | (go_ret
           exact ⟨⟨_, rfl⟩, HB.out.alloc (HB.out.size) _⟩)
        | (go_roundw
           case rel => exact ⟨⟨_, rfl⟩, k + 1, by omega, by go_num, HB.out.alloc (HB.out.size) _⟩
           case measure => simp [intOf]; omega)
    · have HB := hid hb
      clear hb
      go_wp2
      go_ret
      exact ⟨⟨_, rfl⟩, HB.out⟩
end Go.Proofs.Qxb6614322aFmt
