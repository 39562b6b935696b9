/- (*server.loading).add at a new item. -/
import Derived.Test.Qxb6614322aFmtKind
import Derived.Deep.CutRange
import Derived.Deep.RegionWith
namespace Go.Proofs.Qxb6614322aFmt
open Go.RowKit Go.Extern.Stop Go.Stop Go.Extern Go.Maps

/-- What a map of strings to ints says of each key. -/
def ValAt (D : DataW Unit) (g : List UInt8 → Int) : Prop := ∀ l : List UInt8, D.atKey (.string l) (.lit (.int .i64 0)) = .lit (.int .i64 (g l))
def UMap (w : World) (b n : Nat) (g : List UInt8 → Int) : Prop := ∃ D, w.ownsMap Tryf.prog 9 (plainElem (H := Unit) Tryf.prog 3) b n D ∧ ValAt D g
theorem UMap.lt {w : World} {b n : Nat} {g : List UInt8 → Int} (h : UMap w b n g) : b < w.heap.size := h.elim fun _ h => h.1.lt
theorem UMap.later {w w' : World} {b n : Nat} {g : List UInt8 → Int} (h : UMap w b n g) (hb : w'.heap[b]? = w.heap[b]?) : UMap w' b n g := by
  obtain ⟨D, ⟨es, ck, h1, h2⟩, h3⟩ := h
  exact ⟨D, ⟨es, ck, hb.trans h1, h2⟩, h3⟩
theorem UMap.isMap {w : World} {b n : Nat} {g : List UInt8 → Int} (h : UMap w b n g) : ∃ es ck, w.heap[b]? = some (.map es ck) := by
  obtain ⟨D, ⟨es, ck, h1, h2⟩, h3⟩ := h
  exact ⟨es, ck, h1⟩
theorem UMap.look {w : World} {b n : Nat} {g : List UInt8 → Int} (h : UMap w b n g) {s : ByteArray} (hs : s.size ≤ maxLen) :
    (Instr.lookup 47 (.map (some b)) (.string s) false).run Tryf.prog w = .ok (.int .i64 (g s.data.toList)) w ∧ (Lit.int .i64 (g s.data.toList)).wf = true := by
  obtain ⟨D, h, hg⟩ := h
  obtain ⟨c, hr, hc, hw⟩ := h.lookup_int law9 Tryf.underlying47 Tryf.underlying3 (zero3 w) (key9 hs)
  rw [hg] at hc
  have e : g s.data.toList = c := by simpa using hc
  rw [e]; exact ⟨hr, hw⟩
theorem UMap.update {w : World} {b n : Nat} {g : List UInt8 → Int} (h : UMap w b n g) (hn : n < maxLen) {s : ByteArray} (hs : s.size ≤ maxLen) {v : Int} (hv : (Lit.int .i64 v).wf = true) :
    ∃ w', (Instr.mapUpdate 47 (.map (some b)) (.string s) (.int .i64 v)).run Tryf.prog w = .ok () w' ∧ UMap w' b (n + 1) (fun l => if l = s.data.toList then v else g l) ∧ Fr (fun k => k = b) w w' := by
  obtain ⟨D, h, hg⟩ := h
  obtain ⟨w', hrun, ho, hgr⟩ := h.update law9 Tryf.underlying47 hn (key9 hs) (plainElem_int Tryf.underlying3 hv)
  refine ⟨w', hrun, ⟨_, ho, fun l => ?_⟩, (Fr.of_grown hgr).mono (fun k hk => by simpa using hk)⟩
  by_cases e : l = s.data.toList
  · subst e
    rw [atKey_put_same h.isMap (by simp [WideAt.IsKeyLit])]
    simp
  · rw [atKey_put_other (by simpa using e), hg l]
    simp [e]
theorem UMap.made (w : World) : UMap (w.alloc (.map #[] 0)) w.heap.size 0 (fun _ => 0) := ⟨_, World.ownsMap_made w Tryf.prog 9 (plainElem Tryf.prog 3), fun l => by simp [DataW.atKey]⟩
theorem UMap.mono {w : World} {b n n' : Nat} {g : List UInt8 → Int} (h : UMap w b n g) (hn : n ≤ n') : UMap w b n' g := h.elim fun D h => ⟨D, h.1.mono hn, h.2⟩

theorem touch_lt {w : World} {L base n : Nat} {vi vk mr : Value} {f : List UInt8 → Bool} (h : BatchOwn w base n vi vk mr f) (hL : L < w.heap.size) {k : Nat} (hk : Touch L vi vk mr k) : k < w.heap.size := by
  obtain ⟨⟨xs, hx⟩, ⟨ys, hy⟩, hm⟩ := h
  rcases hk with rfl | hk | hk | hk
  · exact hL
  · exact (row_blk hx hk).2.1
  · exact (row_blk hy hk).2.1
  · obtain ⟨rfl, -⟩ | ⟨bm, D, rfl, -, hm, -⟩ := hm
    · cases hk
    · cases hk; exact hm.lt
/-- A map block below the base is not touched. -/
theorem touch_map {w : World} {L base n : Nat} {vi vk mr : Value} {f : List UInt8 → Bool} (h : BatchOwn w base n vi vk mr f) {k : Nat} (hkL : k ≠ L) (hb : k < base) : ¬ Touch L vi vk mr k := by
  obtain ⟨⟨xs, hx⟩, ⟨ys, hy⟩, hm⟩ := h
  rintro (rfl | hk | hk | hk)
  · exact hkL rfl
  · have := (row_blk hx hk).1; omega
  · have := (row_blk hy hk).1; omega
  · obtain ⟨rfl, -⟩ | ⟨bm, D, rfl, hbm, hm, -⟩ := hm
    · cases hk
    · cases hk; omega
theorem BatchOwn.later {w w' : World} {base n : Nat} {vi vk mr : Value} {f : List UInt8 → Bool} (h : BatchOwn w base n vi vk mr f) (hb : ∀ k, base ≤ k → k < w.heap.size → w'.heap[k]? = w.heap[k]?) : BatchOwn w' base n vi vk mr f := by
  obtain ⟨⟨xs, hx⟩, ⟨ys, hy⟩, hm⟩ := h
  refine ⟨⟨xs, row_later hx fun k hk => ?_⟩, ⟨ys, row_later hy fun k hk => ?_⟩, ?_⟩
  · obtain ⟨h1, h2, -⟩ := row_blk hx hk; exact hb k h1 h2
  · obtain ⟨h1, h2, -⟩ := row_blk hy hk; exact hb k h1 h2
  · obtain ⟨rfl, hf⟩ | ⟨bm, D, rfl, hbm, hm, hf⟩ := hm
    · exact .inl ⟨rfl, hf⟩
    · exact .inr ⟨bm, D, rfl, hbm, map_later hm (hb bm hbm hm.lt), hf⟩

/-- The same world, but for what was drawn. -/
def SameMem (w W : World) : Prop := W.heap = w.heap ∧ W.os = w.os ∧ W.tape = w.tape ∧ W.output = w.output
theorem SameMem.below {w W : World} (h : SameMem w W) : Below w.heap.size w W := ⟨h.2.1, h.2.2.1, h.2.2.2, by rw [h.1]; exact Nat.le_refl _, fun k _ => by rw [h.1]⟩
theorem cells_at {w : World} {b i : Nat} {cs : Array Value} {t : TypeId} {v : Value} (h : w.heap[b]? = some (.cells cs t (0, 0))) (hv : cs[i]? = some v) : w.cell? ⟨b, i, none⟩ = some v := by
  simp only [World.cell?, h]; exact hv
theorem cell_set {w : World} {b i j L : Nat} (v : Value) (h : b ≠ L) : (w.setCell ⟨L, i, none⟩ v).cell? ⟨b, j, none⟩ = w.cell? ⟨b, j, none⟩ := cell_same (Below.heap_setCell w ⟨L, i, none⟩ v b h)

set_option maxHeartbeats 2000000 in
theorem add_new (L U base n nU r nr u : Nat) (f : List UInt8 → Bool) (g : List UInt8 → Int) (vi vk mr : Value) (id own : ByteArray) (rs : Option Addr) (m c : Nat) (lab keep : Int) (code : Nat → ByteArray) (kind : Nat → Int) (w : World)
    (hs : id.size ≤ maxLen) (hv : validB id.data.toList = true) (hUL : U ≠ L) (hLb : L < base) (hUb : U < base) (hbs : base ≤ w.heap.size)
    (hL : w.heap[L]? = some (.cells #[vi, vk, mr, .int .i64 n, .int .i64 r, .int .i64 nr, .int .i64 u, .map (some U)] 60 (0, 0))) (hB : BatchOwn w base n vi vk mr f) (hn : n ≤ 65536) (hr : r + nr + u = n) (hd : f id.data.toList = false)
    (hU : UMap w U nU g) (hnU : nU + m ≤ 1099511627776) (hm : m ≤ 1048576) (hR : Ratings w rs m code kind) (hrs : ∀ k, (∃ i, rs = some ⟨k, i, none⟩) → ¬ Touch L vi vk mr k ∧ k ≠ U) (hcs : ∀ j, j < m → (code j).size ≤ maxLen) :
    Calls Tryf.prog 19 #[.pointer (some ⟨L, 0, none⟩), .agg #[.string id, .slice rs m c, .int .u8 lab, .string own], .int .u8 keep] w fun e w' => e = .returned .nilIface ∧
      ∃ vi' vk' mr' r' nr' u' g', w'.heap[L]? = some (.cells #[vi', vk', mr', .int .i64 ((n + 1 : Nat) : Int), .int .i64 ((r' : Nat) : Int), .int .i64 ((nr' : Nat) : Int), .int .i64 ((u' : Nat) : Int), .map (some U)] 60 (0, 0)) ∧ r' + nr' + u' = n + 1 ∧
        BatchOwn w' base (n + 1) vi' vk' mr' (fun l => l == id.data.toList || f l) ∧ UMap w' U (nU + m) g' ∧ Fr (fun k => Touch L vi vk mr k ∨ k = U) w w' := by
  have HV := hid hv
  have HB := hid hB
  have HL := hid hL
  have HU := hid hU
  have HR := hid hR
  have HS := hid hrs
  have HC := hid hcs
  clear hv hB hL hU hR hrs hcs
  -- the batch's Add, in every world that is the boxed item's but for draws
  have C0 : Hid (∀ W, SameMem (w.alloc (.cells #[.string id, .slice rs m c, .int .u8 lab, .string own] 38)) W → Calls Tryf.prog 20 #[.pointer (some ⟨L, 0, none⟩), .agg #[.string id, .slice rs m c, .int .u8 lab, .string own], .int .u8 keep] W fun e w' => e = .returned .nilIface ∧
      ∃ vi' vk' mr', w'.heap[L]? = some (.cells #[vi', vk', mr', .int .i64 n, .int .i64 r, .int .i64 nr, .int .i64 u, .map (some U)] 60 (0, 0)) ∧ BatchOwn w' base (n + 1) vi' vk' mr' (fun l => l == id.data.toList || f l) ∧
        Fr (Touch L vi vk mr) (w.alloc (.cells #[.string id, .slice rs m c, .int .u8 lab, .string own] 38)) w') := fun W hW => by
    have hlt : ∀ k, k < w.heap.size → W.heap[k]? = w.heap[k]? := fun k hk => by rw [hW.1]; exact blk_old hk
    have hsz : W.heap.size = w.heap.size + 1 := by rw [hW.1]; simp
    refine (batch_new L base n f vi vk mr _ _ _ _ _ id own rs m c lab keep W hs HV.out hLb (by omega) ((hlt L (by omega)).trans HL.out) (HB.out.later fun k _ hk => hlt k hk) hn hd).mono ?_
    rintro e w' ⟨rfl, vi', vk', mr', h1, h2, h3⟩
    exact ⟨rfl, vi', vk', mr', h1, h2, (Fr.of_below hW.below _).trans h3 (fun _ _ h => h)⟩
  have C := hid (C0.out (w.alloc (.cells #[.string id, .slice rs m c, .int .u8 lab, .string own] 38)).drew ⟨rfl, rfl, rfl, rfl⟩)
  clear C0
  go_enter Tryf.func19, Tryf.ntmps19
  go_upto_region 1 with fail
  go_cut [7] from 11 (fun v7 wc => v7 = .nilIface ∧ ∃ vi' vk' mr', wc.heap[L]? = some (.cells #[vi', vk', mr', .int .i64 n, .int .i64 r, .int .i64 nr, .int .i64 u, .map (some U)] 60 (0, 0)) ∧ BatchOwn wc base (n + 1) vi' vk' mr' (fun l => l == id.data.toList || f l) ∧
        Fr (Touch L vi vk mr) (w.alloc (.cells #[.string id, .slice rs m c, .int .u8 lab, .string own] 38)) wc)
  case first =>
    go_region_with (go_at_call 20; refine C.out.mono ?_; rintro e w' ⟨rfl, hpost⟩; have HP := hid hpost; clear hpost)
    all_goals (go_wp2_with fail; go_meet; exact ⟨rfl, HP.out⟩)
  case rest =>
  obtain ⟨rfl, vi', vk', mr', h1, h2, h3⟩ := hcut
  clear C
  have hLs : L < w.heap.size := by omega
  have hsz : w.heap.size < wc.heap.size := by have := h3.size; simp at this; omega
  have hB4 : wc.heap[w.heap.size]? = some (.cells #[.string id, .slice rs m c, .int .u8 lab, .string own] 38 (0, 0)) := (h3.block _ (by simp) (fun h => by have := touch_lt HB.out hLs h; omega)).trans (blk_new _ _)
  have old : ∀ k, k < w.heap.size → ¬ Touch L vi vk mr k → wc.heap[k]? = w.heap[k]? := fun k hk hn => (h3.block k (by simp; omega) hn).trans (blk_old hk)
  have HR1 : Hid (Ratings wc rs m code kind) := HR.out.later (by omega) (fun k hk hr => old k hk (HS.out k hr).1)
  have HU1 : Hid (UMap wc U nU g) := HU.out.later (old U (by omega) (touch_map HB.out hUL hUb))
  have F1 : Hid (Fr (Touch L vi vk mr) w wc) := ((Fr.refl _ w).alloc _).trans h3 (fun _ _ h => h)
  have HS1 : Hid (∀ k, (∃ i, rs = some ⟨k, i, none⟩) → k ≠ L ∧ k ≠ U) := fun k hk => ⟨fun e => (HS.out k hk).1 (Or.inl e), (HS.out k hk).2⟩
  clear HR HU HS old HL HB h3 HV
  have HB1 := hid h2
  have HB4 := hid hB4
  have HL1 := hid h1
  obtain ⟨-, -, -, k3, k4, k5, k6, k7⟩ := cells8 h1
  have f3 := free8 h1 3
  have j1 : ∀ v, (wc.setCell ⟨L, 3, none⟩ v).cell? ⟨w.heap.size, 1, none⟩ = some (.slice rs m c) := fun v => (cell_set v (by omega)).trans (cells_at hB4 rfl)
  have j2 : ∀ v, (wc.setCell ⟨L, 3, none⟩ v).cell? ⟨w.heap.size, 2, none⟩ = some (.int .u8 lab) := fun v => (cell_set v (by omega)).trans (cells_at hB4 rfl)
  have j3 : ∀ v, (wc.setCell ⟨L, 3, none⟩ v).cell? ⟨w.heap.size, 3, none⟩ = some (.string own) := fun v => (cell_set v (by omega)).trans (cells_at hB4 rfl)
  clear h1 h2 hB4
  go_wp2_with fail
  have HL2 : Hid ((wc.setCell ⟨L, 3, none⟩ (.int .i64 ((n : Int) + 1))).heap[L]? = some (.cells #[vi', vk', mr', .int .i64 ((n + 1 : Nat) : Int), .int .i64 r, .int .i64 nr, .int .i64 u, .map (some U)] 60 (0, 0))) := set_blk HL1.out 3 _
  have old2 : ∀ k, k ≠ L → (wc.setCell ⟨L, 3, none⟩ (.int .i64 ((n : Int) + 1))).heap[k]? = wc.heap[k]? := fun k hk => Below.heap_setCell wc ⟨L, 3, none⟩ _ k hk
  have hsz2 : (wc.setCell ⟨L, 3, none⟩ (.int .i64 ((n : Int) + 1))).heap.size = wc.heap.size := by simp [World.setCell]
  have F2 : Hid (Fr (Touch L vi vk mr) w (wc.setCell ⟨L, 3, none⟩ (.int .i64 ((n : Int) + 1)))) := F1.out.trans (Fr.of_set wc ⟨L, 3, none⟩ _) (fun _ _ h => Or.inl h)
  have HB2 : Hid (BatchOwn (wc.setCell ⟨L, 3, none⟩ (.int .i64 ((n : Int) + 1))) base (n + 1) vi' vk' mr' (fun l => l == id.data.toList || f l)) := HB1.out.later (fun k hk _ => old2 k (by omega))
  have HI2 : Hid ((wc.setCell ⟨L, 3, none⟩ (.int .i64 ((n : Int) + 1))).heap[w.heap.size]? = _) := (old2 _ (by omega)).trans HB4.out
  have HR2 : Hid (Ratings (wc.setCell ⟨L, 3, none⟩ (.int .i64 ((n : Int) + 1))) rs m code kind) := HR1.out.later (by omega) (fun k hk hr => old2 k (HS1.out k hr).1)
  have HU2 : Hid (UMap (wc.setCell ⟨L, 3, none⟩ (.int .i64 ((n : Int) + 1))) U nU g) := HU1.out.later (old2 U hUL)
  have hlt2 : w.heap.size < (wc.setCell ⟨L, 3, none⟩ (.int .i64 ((n : Int) + 1))).heap.size := by omega
  clear HL1 HB1 HB4 HR1 HU1 F1 j1 j2 j3 k3 k4 k5 k6 k7 f3 old2 hsz2 hsz
  generalize wc.setCell ⟨L, 3, none⟩ (.int .i64 ((n : Int) + 1)) = W2 at *
  refine (kind_any rs m c lab own code kind W2 hm HR2.out).mono ?_
  rintro e W3 ⟨⟨kv, rfl⟩, b3⟩
  have HL3 : Hid (W3.heap[L]? = _) := (b3.block L (by omega)).trans HL2.out
  have HI3 : Hid (W3.heap[w.heap.size]? = _) := (b3.block _ hlt2).trans HI2.out
  have F3 : Hid (Fr (Touch L vi vk mr) w W3) := F2.out.trans (Fr.of_below b3 (fun _ => False)) (fun _ _ h => h.elim)
  have HB3 : Hid (BatchOwn W3 base (n + 1) vi' vk' mr' (fun l => l == id.data.toList || f l)) := HB2.out.later (fun k _ hk => b3.block k hk)
  have HR3 : Hid (Ratings W3 rs m code kind) := HR2.out.later b3.size (fun k hk _ => b3.block k hk)
  have HU3 : Hid (UMap W3 U nU g) := HU2.out.later (b3.block U (by omega))
  have hlt3 : w.heap.size < W3.heap.size := Nat.lt_of_lt_of_le hlt2 b3.size
  clear HL2 HI2 F2 HB2 HR2 HU2 b3 hlt2
  obtain ⟨-, -, -, k3, k4, k5, k6, k7⟩ := cells8 HL3.out
  have f4 := free8 HL3.out 4
  have f5 := free8 HL3.out 5
  have f6 := free8 HL3.out 6
  have j1 : ∀ i v, (W3.setCell ⟨L, i, none⟩ v).cell? ⟨w.heap.size, 1, none⟩ = some (.slice rs m c) := fun i v => (cell_set v (by omega)).trans (cells_at HI3.out rfl)
  have P : Hid (∀ i v, Fr (Touch L vi vk mr) w (W3.setCell ⟨L, i, none⟩ v) ∧ BatchOwn (W3.setCell ⟨L, i, none⟩ v) base (n + 1) vi' vk' mr' (fun l => l == id.data.toList || f l) ∧ Ratings (W3.setCell ⟨L, i, none⟩ v) rs m code kind ∧ UMap (W3.setCell ⟨L, i, none⟩ v) U nU g ∧ w.heap.size < (W3.setCell ⟨L, i, none⟩ v).heap.size) := fun i v => by
    have old4 : ∀ k, k ≠ L → (W3.setCell ⟨L, i, none⟩ v).heap[k]? = W3.heap[k]? := fun k hk => Below.heap_setCell W3 ⟨L, i, none⟩ _ k hk
    have hsz4 : (W3.setCell ⟨L, i, none⟩ v).heap.size = W3.heap.size := by simp [World.setCell]
    exact ⟨F3.out.trans (Fr.of_set W3 ⟨L, i, none⟩ _) (fun _ _ h => Or.inl h), HB3.out.later (fun k hk _ => old4 k (by omega)), HR3.out.later (by omega) (fun k hk hr => old4 k (HS1.out k hr).1), HU3.out.later (old4 U hUL), by omega⟩
  go_wp2_with fail
  have G := hid (show ∃ r' nr' u' : Nat, (W3.setCell ⟨L, 4, none⟩ (.int .i64 ((r : Int) + 1))).heap[L]? = some (.cells #[vi', vk', mr', .int .i64 ((n + 1 : Nat) : Int), .int .i64 r', .int .i64 nr', .int .i64 u', .map (some U)] 60 (0, 0)) ∧ r' + nr' + u' = n + 1 from ⟨r + 1, nr, u, set_blk HL3.out 4 _, by omega⟩)
  have P1 := hid (P.out 4 (.int .i64 ((r : Int) + 1)))
  generalize (W3.setCell ⟨L, 4, none⟩ (.int .i64 ((r : Int) + 1))) = W4 at *
  rotate_left
  have G := hid (show ∃ r' nr' u' : Nat, (W3.setCell ⟨L, 5, none⟩ (.int .i64 ((nr : Int) + 1))).heap[L]? = some (.cells #[vi', vk', mr', .int .i64 ((n + 1 : Nat) : Int), .int .i64 r', .int .i64 nr', .int .i64 u', .map (some U)] 60 (0, 0)) ∧ r' + nr' + u' = n + 1 from ⟨r, nr + 1, u, set_blk HL3.out 5 _, by omega⟩)
  have P1 := hid (P.out 5 (.int .i64 ((nr : Int) + 1)))
  generalize (W3.setCell ⟨L, 5, none⟩ (.int .i64 ((nr : Int) + 1))) = W4 at *
  rotate_left
  have G := hid (show ∃ r' nr' u' : Nat, (W3.setCell ⟨L, 6, none⟩ (.int .i64 ((u : Int) + 1))).heap[L]? = some (.cells #[vi', vk', mr', .int .i64 ((n + 1 : Nat) : Int), .int .i64 r', .int .i64 nr', .int .i64 u', .map (some U)] 60 (0, 0)) ∧ r' + nr' + u' = n + 1 from ⟨r, nr, u + 1, set_blk HL3.out 6 _, by omega⟩)
  have P1 := hid (P.out 6 (.int .i64 ((u : Int) + 1)))
  generalize (W3.setCell ⟨L, 6, none⟩ (.int .i64 ((u : Int) + 1))) = W4 at *
  all_goals
    clear HL3 HI3 F3 HB3 HR3 HU3 k3 k4 k5 k6 k7 f4 f5 f6 j1 P
    obtain ⟨r', nr', u', HL4, hr'⟩ := G.out
    obtain ⟨F4, HB4, HR4, HU4, hlt4⟩ := P1.out
    have GL := hid HL4
    have GF := hid F4
    have GB := hid HB4
    have GR := hid HR4
    have GU := hid HU4
    clear G P1 HL4 F4 HB4 HR4 HU4
    go_loopw [62] (fun i wr => ∃ k : Nat, k ≤ m ∧ i = .int .i64 k ∧ (∃ g', UMap wr U (nU + k) g') ∧ Fr (fun k => k = U) W4 wr) (fun i _ => m - (intOf i).toNat)
    case atStart => exact ⟨0, Nat.zero_le _, rfl, ⟨g, GU.out⟩, Fr.refl _ _⟩
    case round =>
      obtain ⟨k, hk, rfl, ⟨g', hU'⟩, hF⟩ := hrel
      have hLr : wr.heap[L]? = _ := (hF.block L (by omega) (fun e => hUL e.symm)).trans GL.out
      have HLr := hid hLr
      have HUr := hid hU'
      have HFr := hid hF
      clear hLr hU' hF
      by_cases hlt : k < m
      · obtain ⟨b, hbe, h0, h1, h2, h3, h4, h5⟩ := (GR.out.later HFr.out.size (fun k hk hr => HFr.out.block k hk (HS1.out k hr).2)) k hlt
        subst hbe
        have hcsz := HC.out k hlt
        cases hk2 : (kind k == 2) with
        | false =>
          go_wp2_with fail
          go_roundw
          case rel => exact ⟨k + 1, by omega, by go_num, ⟨g', (HUr.out.later (blk_old HUr.out.lt)).mono (by omega)⟩, HFr.out.alloc _⟩
          case measure => simp [intOf]; omega
        | true =>
          go_wp2_with fail
          have HL5 : Hid ((wr.alloc (.cells #[.string (code k), .pointer none, .int .i64 (kind k), .pointer none, .int .i64 0] 67)).heap[L]? = _) := (blk_old (lt_of_blk HLr.out)).trans HLr.out
          have HU5 : Hid (UMap (wr.alloc (.cells #[.string (code k), .pointer none, .int .i64 (kind k), .pointer none, .int .i64 0] 67)).drew U (nU + k) g') := HUr.out.later (blk_old HUr.out.lt)
          have HF5 : Hid (Fr (fun k => k = U) W4 (wr.alloc (.cells #[.string (code k), .pointer none, .int .i64 (kind k), .pointer none, .int .i64 0] 67)).drew) := (HFr.out.alloc _).drew
          have p0 : (wr.alloc (.cells #[.string (code k), .pointer none, .int .i64 (kind k), .pointer none, .int .i64 0] 67)).cell? ⟨wr.heap.size, 0, none⟩ = some (.string (code k)) := cells_at (blk_new _ _) rfl
          clear h0 h1 h2 h3 h4 h5 HLr HUr HFr
          generalize (wr.alloc (.cells #[.string (code k), .pointer none, .int .i64 (kind k), .pointer none, .int .i64 0] 67)) = W5 at *
          obtain ⟨hlk, hwf⟩ := HU5.out.look hcsz
          obtain ⟨W6, hup, hU6, hF6⟩ := HU5.out.update (by unfold maxLen; omega) hcsz (wrap64_wf (g' (code k).data.toList + 1))
          have HU6 := hid hU6
          have HF6 := hid hF6
          clear hU6 hF6
          obtain ⟨-, -, -, -, -, -, -, k7⟩ := cells8 HL5.out
          clear hcsz hwf
          go_region
          clear hlk hup p0 k7
          go_wp2_with fail
          go_roundw
          case rel => exact ⟨k + 1, by omega, by go_num, ⟨_, HU6.out⟩, HF5.out.trans HF6.out (fun _ _ h => h)⟩
          case measure => simp [intOf]; omega
      · go_wp2_with fail
        go_ret
        exact ⟨rfl, vi', vk', mr', r', nr', u', g', HLr.out, hr', GB.out.later (fun k hk hs => HFr.out.block k hs (by omega)), HUr.out.mono (by omega), (GF.out.mono (fun _ h => Or.inl h)).trans HFr.out (fun _ _ h => Or.inr h)⟩

set_option maxHeartbeats 1000000 in
/-- add at an item that is refused. -/
theorem add_refused (F : Interp) (L base n : Nat) (f : List UInt8 → Bool) (mr : Value) (id own : ByteArray) (rs : Option Addr) (m c : Nat) (lab keep : Int) (w : World) (hF : F.answers w.tape) (hs : id.size ≤ maxLen)
    (hL : L < w.heap.size) (hc : w.cell? ⟨L, 2, none⟩ = some mr) (hI : IdsAre w base n mr f) (hd : validB id.data.toList = true → f id.data.toList = true) :
    Calls Tryf.prog 19 #[.pointer (some ⟨L, 0, none⟩), .agg #[.string id, .slice rs m c, .int .u8 lab, .string own], .int .u8 keep] w fun e w' => (∃ p, e = .returned (.iface 73 p)) ∧ Below w.heap.size w w' := by
  have hI' : IdsAre (w.alloc (.cells #[.string id, .slice rs m c, .int .u8 lab, .string own] 38)).drew base n mr f := by
    obtain ⟨rfl, hf⟩ | ⟨bm, D, rfl, hbm, hm, hf⟩ := hI
    · exact .inl ⟨rfl, hf⟩
    · exact .inr ⟨bm, D, rfl, hbm, map_later hm (blk_old hm.lt), hf⟩
  have C : Hid (Calls Tryf.prog 20 #[.pointer (some ⟨L, 0, none⟩), .agg #[.string id, .slice rs m c, .int .u8 lab, .string own], .int .u8 keep] (w.alloc (.cells #[.string id, .slice rs m c, .int .u8 lab, .string own] 38)).drew fun e w' => (∃ p, e = .returned (.iface 73 p)) ∧ Below w.heap.size w w') := by
    refine (batch_refused F L base n f mr id own rs m c lab keep (w.alloc (.cells #[.string id, .slice rs m c, .int .u8 lab, .string own] 38)).drew hF hs (by show L < (w.alloc _).heap.size; simp; omega) ((cell_old (a := ⟨L, 2, none⟩) hL).trans hc) hI' hd).mono ?_
    rintro e w' ⟨h1, h2⟩
    exact ⟨h1, ((Below.refl w.heap.size w).alloc (Nat.le_refl _) _).drew.trans (h2.mono (by show _ ≤ (w.alloc _).heap.size; simp))⟩
  clear hI' hI hd hc
  go_enter Tryf.func19, Tryf.ntmps19
  go_upto_region 1 with fail
  go_cut [7] from 11 (fun v7 wc => (∃ p, v7 = .iface 73 p) ∧ Below w.heap.size w wc)
  case first =>
    go_region_with (go_at_call 20; refine C.out.mono ?_; rintro e w' ⟨⟨p, rfl⟩, hpost⟩; have HP := hid hpost; clear hpost)
    all_goals (go_wp2_with fail; go_meet; exact ⟨⟨p, rfl⟩, HP.out⟩)
  case rest =>
  obtain ⟨⟨p, rfl⟩, hb⟩ := hcut
  have HB := hid hb
  clear C hb
  go_wp2_with fail
  go_ret
  exact ⟨⟨p, rfl⟩, HB.out⟩
end Go.Proofs.Qxb6614322aFmt
