/- (*store.Batch).Add at a new valid id. -/
import Derived.Test.Qxb6614322aFmtOwn
import Derived.Deep.RegionLaw
namespace Go.Proofs.Qxb6614322aFmt
open Go.RowKit Go.Extern.Stop Go.Stop Go.Extern Go.Maps

theorem Fr.drew {X : Nat → Prop} {a w : World} (h : Fr X a w) : Fr X a w.drew := ⟨h.os, h.tape, h.output, h.size, h.block⟩
theorem Fr.alloc {X : Nat → Prop} {a w : World} (h : Fr X a w) (o : Obj) : Fr X a (w.alloc o) := ⟨h.os, h.tape, h.output, by have := h.size; simp; omega, fun k hk hn => (blk_old (by have := h.size; omega)).trans (h.block k hk hn)⟩
/-- An append whose run is known, as one step of a region that draws. -/
theorem step_append_run {P : Program} {ops : Array Oper} {o : Oper} {a : Act} {w : World} {K : Act → World → Prop} {Q : Exit → Act → World → Prop} {E : Prop}
    (hg : o.guard = none) (s x : Operand) (t : TypeId) (hop : o.op = Op.call { callee := Callee.builtin Builtin.append, args := #[s, x], argTypes := #[t, t] })
    (v y v' : Value) (w' : World) (hs : a.eval s = v) (hx : a.eval x = y) (hrun : (Builtin.append_ #[t, t] o.type #[v, y]).run P w = .ok v' w') (hK : K (a.put o.dst v') w') :
    if Region.wanted o (yielded ops a.tmps) = true then Oper.wp P o a w K Q else E := by
  have hw : Region.wanted o (yielded ops a.tmps) = true := by simp [Region.wanted, hg]
  rw [if_pos hw]
  unfold Oper.wp
  simp [execOp, hop, resolve, invoke, builtin, hs, hx, hrun, Result.andThen]
  exact hK
/-- The same in a plain region. -/
theorem wpList_append_run {P : Program} {w : World} {ops : Array Oper} {rest : List Oper} {o : Oper} {a : Act} {Q : Exit → Act → World → Prop} (hgd : o.guard = none) (s x : Operand) (t : TypeId)
    (ho : o.op = .call { callee := .builtin .append, args := #[s, x], argTypes := #[t, t] }) (v y v' : Value) (w' : World) (hs : a.eval s = v) (hx : a.eval x = y) (hr : (Builtin.append_ #[t, t] o.type #[v, y]).run P w = .ok v' w')
    (h : wpList P ops Q rest (a.put o.dst v') w') : wpList P ops Q (o :: rest) a w := by
  refine wpList_plain hgd fun K hK => ?_
  unfold Oper.wp execOp
  simp only [ho, resolve, invoke, builtin, Sem.run_bind, Sem.run_pure, Result.andThen_ok, List.map_toArray, List.map_cons, List.map_nil, hs, hx, hr]
  exact hK _ _ h
/-- A row of one element or more: its value written out. -/
theorem row_form {w : World} {base : Nat} {e : TypeId} {sz : Nat} {v : Value} {n : Nat} {xs : List Value} (h : w.ownsRow base e sz v (n + 1) xs) : ∃ g cap, v = .slice (some ⟨g, 0, none⟩) (n + 1) cap := by
  obtain ⟨_, ⟨_, h⟩ | ⟨g, cap, _, rfl, _⟩⟩ := h
  · omega
  · exact ⟨g, cap, rfl⟩
/-- The append of one item to a row that the call owns. -/
theorem app_item {w : World} {base n : Nat} {v : Value} {xs : List Value} (ty : TypeId) (h : w.ownsRow base 38 4 v n xs) (hb : base ≤ w.heap.size) (hn : n ≤ 65536) (b : Nat) (a0 a1 a2 a3 : Value)
    (h0 : w.cell? ⟨b, 0, none⟩ = some a0) (h1 : w.cell? ⟨b, 1, none⟩ = some a1) (h2 : w.cell? ⟨b, 2, none⟩ = some a2) (h3 : w.cell? ⟨b, 3, none⟩ = some a3)
    (o0 : a0.oneCell' = true) (o1 : a1.oneCell' = true) (o2 : a2.oneCell' = true) (o3 : a3.oneCell' = true) :
    ∃ v' w', (Builtin.append_ #[55, 55] ty #[v, .slice (some ⟨b, 0, none⟩) 1 1]).run Tryf.prog w = .ok v' w' ∧ w'.ownsRow base 38 4 v' (n + 1) (xs ++ [a0, a1, a2, a3]) ∧ w.grownBy w' v.ownBlock := by
  obtain ⟨i, hi, hz0, hz1, hz2⟩ := info_parts info38
  obtain ⟨v', w', hr, r1, r2, -, -⟩ := run_append_own_at (P := Tryf.prog) w base 55 ty 38 i _ 4 64 Tryf.underlying55 hi hz0 hz1 hz2 rfl (by decide) v n xs h ⟨b, 0, none⟩ 1 1 [a0, a1, a2, a3] rfl
    (fun j u hj => by
      match j, hj with
      | 0, hj => simp at hj; subst hj; exact h0
      | 1, hj => simp at hj; subst hj; exact h1
      | 2, hj => simp at hj; subst hj; exact h2
      | 3, hj => simp at hj; subst hj; exact h3)
    (fun u hu => by
      simp at hu
      rcases hu with rfl | rfl | rfl | rfl
      · exact o0
      · exact o1
      · exact o2
      · exact o3)
    (by unfold maxLen; omega) (by omega) hb
  exact ⟨v', w', hr, r1, r2⟩
theorem app_keep {w : World} {base n : Nat} {v : Value} {xs : List Value} (ty : TypeId) (h : w.ownsRow base 39 1 v n xs) (hb : base ≤ w.heap.size) (hn : n ≤ 65536) (b : Nat) (x : Int)
    (h0 : w.cell? ⟨b, 0, none⟩ = some (.int .u8 x)) :
    ∃ v' w', (Builtin.append_ #[56, 56] ty #[v, .slice (some ⟨b, 0, none⟩) 1 1]).run Tryf.prog w = .ok v' w' ∧ w'.ownsRow base 39 1 v' (n + 1) (xs ++ [.int .u8 x]) ∧ w.grownBy w' v.ownBlock := by
  obtain ⟨i, hi, hz0, hz1, hz2⟩ := info_parts info39
  obtain ⟨v', w', hr, r1, r2, -, -⟩ := run_append_own_at (P := Tryf.prog) w base 56 ty 39 i _ 1 1 Tryf.underlying56 hi hz0 hz1 hz2 rfl (by decide) v n xs h ⟨b, 0, none⟩ 1 1 [.int .u8 x] rfl
    (fun j u hj => by
      match j, hj with
      | 0, hj => simp at hj; subst hj; exact h0)
    (fun u hu => by
      simp at hu
      subst hu
      rfl)
    (by unfold maxLen; omega) (by omega) hb
  exact ⟨v', w', hr, r1, r2⟩
theorem blk_new (w : World) (o : Obj) : (w.alloc o).heap[w.heap.size]? = some o := by show (w.heap.push o)[w.heap.size]? = _; simp
theorem new4 (W : World) (a0 a1 a2 a3 : Value) (t : TypeId) : (W.alloc (.cells #[a0, a1, a2, a3] t)).drew.cell? ⟨W.heap.size, 0, none⟩ = some a0 ∧ (W.alloc (.cells #[a0, a1, a2, a3] t)).drew.cell? ⟨W.heap.size, 1, none⟩ = some a1 ∧ (W.alloc (.cells #[a0, a1, a2, a3] t)).drew.cell? ⟨W.heap.size, 2, none⟩ = some a2 ∧ (W.alloc (.cells #[a0, a1, a2, a3] t)).drew.cell? ⟨W.heap.size, 3, none⟩ = some a3 := by
  have h : (W.alloc (.cells #[a0, a1, a2, a3] t)).drew.heap[W.heap.size]? = some (.cells #[a0, a1, a2, a3] t) := blk_new _ _
  refine ⟨?_, ?_, ?_, ?_⟩ <;> simp only [World.cell?, h] <;> rfl
theorem new1 (W : World) (a0 : Value) (t : TypeId) : (W.alloc (.cells #[a0] t)).cell? ⟨W.heap.size, 0, none⟩ = some a0 := by
  have h : (W.alloc (.cells #[a0] t)).heap[W.heap.size]? = some (.cells #[a0] t) := blk_new _ _
  simp only [World.cell?, h]; rfl
theorem eql_map (w : World) (r : Option Nat) : (binOp .eql 30 (.map r) (.map none)).run Tryf.prog w = .ok (.bool r.isNone) w := run_eql_map_nil w 30 9 4 r Tryf.underlying30

/-- The end: what the batch owns behind both appends. -/
theorem close_new {w W6 W7 : World} {L base bm n g5 cap5 g8 cap8 : Nat} {vi vk mr c3 c4 c5 c6 c7 : Value} {xs ys zs : List Value} {o : Obj} {D : DataW Unit} {f : List UInt8 → Bool} (hLb : L < base) (hbm : base ≤ bm)
    (hL7 : W7.heap[L]? = some (.cells #[.slice (some ⟨g5, 0, none⟩) (n + 1) cap5, vk, .map (some bm), c3, c4, c5, c6, c7] 60 (0, 0)))
    (hx : W6.ownsRow base 38 4 (.slice (some ⟨g5, 0, none⟩) (n + 1) cap5) (n + 1) xs) (hy : W6.ownsRow base 39 1 vk n ys) (hy7 : W7.ownsRow base 39 1 (.slice (some ⟨g8, 0, none⟩) (n + 1) cap8) (n + 1) zs)
    (g7 : (W6.alloc o).grownBy W7 vk.ownBlock) (hm : W6.ownsMap Tryf.prog 9 (plainElem Tryf.prog 4) bm (n + 1) D) (hf : BoolAt D f) (F6 : Fr (Touch L vi vk mr) w W6) :
    ∃ vi' vk' mr', (W7.setCell ⟨L, 1, none⟩ (.slice (some ⟨g8, 0, none⟩) (n + 1) cap8)).heap[L]? = some (.cells #[vi', vk', mr', c3, c4, c5, c6, c7] 60 (0, 0)) ∧
      BatchOwn (W7.setCell ⟨L, 1, none⟩ (.slice (some ⟨g8, 0, none⟩) (n + 1) cap8)) base (n + 1) vi' vk' mr' f ∧ Fr (Touch L vi vk mr) w (W7.setCell ⟨L, 1, none⟩ (.slice (some ⟨g8, 0, none⟩) (n + 1) cap8)) := by
  have FD : Fr (fun k => k = L ∨ some k = vk.ownBlock) W6 (W7.setCell ⟨L, 1, none⟩ (.slice (some ⟨g8, 0, none⟩) (n + 1) cap8)) :=
    ((((Fr.refl (fun k => some k = vk.ownBlock) W6).alloc o).trans (Fr.of_grown g7) (fun _ _ h => h)).mono (fun _ h => Or.inr h)).trans (Fr.of_set W7 ⟨L, 1, none⟩ _) (fun _ _ h => Or.inl h)
  refine ⟨_, _, _, set_blk hL7 1 _, ⟨⟨_, row_later hx (fun k hk => FD.block k (row_blk hx hk).2.1 ?_)⟩, ⟨_, row_later hy7 (fun k hk => Below.heap_setCell W7 ⟨L, 1, none⟩ _ k ?_)⟩, .inr ⟨bm, D, rfl, hbm, map_later hm (FD.block bm hm.lt ?_), hf⟩⟩, F6.trans FD (fun k _ h => h.elim Or.inl (fun h => Or.inr (Or.inr (Or.inl h))))⟩
  · obtain ⟨e1, _, c1, e3⟩ := row_blk hx hk
    rintro (h | h)
    · omega
    · obtain ⟨_, _, c2, e4⟩ := row_blk hy h
      rw [e3] at e4
      cases e4
  · have := (row_blk hy7 hk).1
    show k ≠ L
    omega
  · rintro (h | h)
    · omega
    · obtain ⟨_, _, c2, e4⟩ := row_blk hy h
      obtain ⟨es, ck, hb, _⟩ := hm
      rw [hb] at e4
      cases e4

set_option maxHeartbeats 1000000 in
theorem new_some (L base bm n : Nat) (D : DataW Unit) (f : List UInt8 → Bool) (vi vk c3 c4 c5 c6 c7 : Value) (xs ys : List Value) (id own : ByteArray) (rs : Option Addr) (m c : Nat) (lab keep : Int) (w : World)
    (hs : id.size ≤ maxLen) (hv : validB id.data.toList = true) (hLb : L < base) (hbs : base ≤ w.heap.size) (hbm : base ≤ bm)
    (hL : w.heap[L]? = some (.cells #[vi, vk, .map (some bm), c3, c4, c5, c6, c7] 60 (0, 0)))
    (hx : w.ownsRow base 38 4 vi n xs) (hy : w.ownsRow base 39 1 vk n ys) (hm : w.ownsMap Tryf.prog 9 (plainElem Tryf.prog 4) bm n D) (hf : BoolAt D f) (hn : n ≤ 65536) (hd : f id.data.toList = false) :
    Calls Tryf.prog 20 #[.pointer (some ⟨L, 0, none⟩), .agg #[.string id, .slice rs m c, .int .u8 lab, .string own], .int .u8 keep] w fun e w' => e = .returned .nilIface ∧
      ∃ vi' vk' mr', w'.heap[L]? = some (.cells #[vi', vk', mr', c3, c4, c5, c6, c7] 60 (0, 0)) ∧ BatchOwn w' base (n + 1) vi' vk' mr' (fun l => l == id.data.toList || f l) ∧ Fr (Touch L vi vk (.map (some bm))) w w' := by
  have HV := hid hv
  have HD := hid hd
  have HM := hid hm
  have HF := hid hf
  have HX := hid hx
  have HY := hid hy
  have HL := hid hL
  clear hv hd hm hf hx hy hL
  go_enter Tryf.func20, Tryf.ntmps20
  go_wp2_with fail
  refine (check_ok _ id _ hs HV.out).mono ?_
  rintro e w1 ⟨rfl, b1⟩
  have hlt : w.heap.size < w1.heap.size := by have := b1.size; simp at this; omega
  have old : ∀ k, k < w.heap.size → w1.heap[k]? = w.heap[k]? := fun k hk => (b1.block k (by simp; omega)).trans (blk_old hk)
  have hL1 : w1.heap[L]? = some (.cells #[vi, vk, .map (some bm), c3, c4, c5, c6, c7] 60 (0, 0)) := (old L (by omega)).trans HL.out
  have hI1 : w1.heap[w.heap.size]? = some (.cells #[.string id, .slice rs m c, .int .u8 lab, .string own] 38 (0, 0)) := (b1.block _ (by simp)).trans (blk_new _ _)
  have F1 : Fr (Touch L vi vk (.map (some bm))) w w1 := ⟨b1.os, b1.tape, b1.output, by omega, fun k hk _ => old k hk⟩
  have hm1 : w1.ownsMap Tryf.prog 9 (plainElem Tryf.prog 4) bm n D := map_later HM.out (old bm HM.out.lt)
  have hx1 : w1.ownsRow base 38 4 vi n xs := row_later HX.out (fun k hk => old k (row_blk HX.out hk).2.1)
  have hy1 : w1.ownsRow base 39 1 vk n ys := row_later HY.out (fun k hk => old k (row_blk HY.out hk).2.1)
  have hbl : bm < w.heap.size := HM.out.lt
  clear HM HX HY HL b1 old
  obtain ⟨k0, k1, k2, -⟩ := cells8 hL1
  have i0 : w1.cell? ⟨w.heap.size, 0, none⟩ = some (.string id) := by simp [World.cell?, hI1]
  have hlk : ∀ k, (Instr.lookup 30 (.map (some bm)) (.string id) false).run Tryf.prog (w1.drewN k) = .ok (.bool false) (w1.drewN k) := fun k => by
    have := look_bool (map_later (w' := w1.drewN k) hm1 rfl) HF.out hs
    rwa [HD.out] at this
  have HL1 := hid hL1
  have HI1 := hid hI1
  have HM1 := hid hm1
  have HX1 := hid hx1
  have HY1 := hid hy1
  have HF1 := hid F1
  clear hL1 hI1 hm1 hx1 hy1 F1
  go_wp2_with fail
  go_quiet (fail)
  have hq := eql_map
  have k2' : (w1.drewN nq).cell? ⟨L, 2, none⟩ = some (.map (some bm)) := k2
  have i0' : (w1.drewN nq).cell? ⟨w.heap.size, 0, none⟩ = some (.string id) := i0
  have HF2 : Hid (Fr (Touch L vi vk (.map (some bm))) w (w1.drewN nq)) := HF1.out.trans (Fr.of_below (below_drewN (Below.refl _ _) nq) (fun _ => False)) (fun _ _ h => h.elim)
  have HL2 : Hid ((w1.drewN nq).heap[L]? = _) := HL1.out
  have HI2 : Hid ((w1.drewN nq).heap[w.heap.size]? = _) := HI1.out
  have HM2 : Hid ((w1.drewN nq).ownsMap Tryf.prog 9 (plainElem Tryf.prog 4) bm n D) := map_later HM1.out rfl
  have HX2 : Hid ((w1.drewN nq).ownsRow base 38 4 vi n xs) := row_later HX1.out (fun _ _ => rfl)
  have HY2 : Hid ((w1.drewN nq).ownsRow base 39 1 vk n ys) := row_later HY1.out (fun _ _ => rfl)
  have hlt2 : w.heap.size < (w1.drewN nq).heap.size := hlt
  clear HF1 HL1 HI1 HM1 HX1 HY1 k0 k1 k2 i0 hlk hlt
  generalize w1.drewN nq = W2 at *
  go_wp2_with fail
  obtain ⟨W4, D', hU, hm4, hf4, F4⟩ := upd_bool (w := W2.drew) HM2.out HF.out (by unfold maxLen; omega) hs
  have HM4 := hid hm4
  have HF4 := hid hf4
  have HFR := hid F4
  clear hm4 hf4 F4
  have hn2 : bm ≠ w.heap.size := by omega
  have hsz4 : W2.heap.size ≤ W4.heap.size := HFR.out.size
  have hL4 : W4.heap[L]? = some (.cells #[vi, vk, .map (some bm), c3, c4, c5, c6, c7] 60 (0, 0)) := (HFR.out.block L (by show L < W2.heap.size; omega) (by omega)).trans HL2.out
  have hI4 : W4.heap[w.heap.size]? = some (.cells #[.string id, .slice rs m c, .int .u8 lab, .string own] 38 (0, 0)) := (HFR.out.block _ (by show _ < W2.heap.size; omega) (fun h => hn2 h.symm)).trans HI2.out
  have nomap : ∀ {k e : Nat} {cc : Array Value}, W2.heap[k]? = some (.cells cc e (0, 0)) → k ≠ bm := fun h e => by
    obtain ⟨es, ck, hb, _⟩ := HM2.out
    rw [e, hb] at h; cases h
  have hx4 : W4.ownsRow base 38 4 vi n xs := row_later HX2.out (fun k hk => by
    obtain ⟨_, h2, cc, h3⟩ := row_blk HX2.out hk
    exact HFR.out.block k h2 (nomap h3))
  have hy4 : W4.ownsRow base 39 1 vk n ys := row_later HY2.out (fun k hk => by
    obtain ⟨_, h2, cc, h3⟩ := row_blk HY2.out hk
    exact HFR.out.block k h2 (nomap h3))
  have HFR4 : Hid (Fr (Touch L vi vk (.map (some bm))) w W4) := HF2.out.drew.trans HFR.out (fun k _ h => Or.inr (Or.inr (Or.inr (by rw [h]))))
  go_region
  clear nomap hU HFR HM2 HX2 HY2 HL2 HI2 HF2 k2' i0'
  obtain ⟨k0, k1, k2, -⟩ := cells8 hL4
  have f0 := free8 hL4 0
  have j0 : W4.cell? ⟨w.heap.size, 0, none⟩ = some (.string id) := by simp [World.cell?, hI4]
  have j1 : W4.cell? ⟨w.heap.size, 1, none⟩ = some (.slice rs m c) := by simp [World.cell?, hI4]
  have j2 : W4.cell? ⟨w.heap.size, 2, none⟩ = some (.int .u8 lab) := by simp [World.cell?, hI4]
  have j3 : W4.cell? ⟨w.heap.size, 3, none⟩ = some (.string own) := by simp [World.cell?, hI4]
  obtain ⟨v5, W5, hA, hx5, g5'⟩ := app_item (w := (W4.alloc (.cells #[.string id, .slice rs m c, .int .u8 lab, .string own] 38)).drew) 55 (row_later hx4 (fun k hk => blk_old (row_blk hx4 hk).2.1)) (by show base ≤ (W4.alloc _).heap.size; simp; omega) hn W4.heap.size (.string id) (.slice rs m c) (.int .u8 lab) (.string own)
    (new4 _ _ _ _ _ _).1 (new4 _ _ _ _ _ _).2.1 (new4 _ _ _ _ _ _).2.2.1 (new4 _ _ _ _ _ _).2.2.2 rfl rfl rfl rfl
  obtain ⟨g5, cap5, rfl⟩ := row_form hx5
  have kk0 : ∀ o, (W4.alloc o).cell? ⟨L, 0, none⟩ = some vi := fun o => (cell_old (a := ⟨L, 0, none⟩) (lt_of_blk hL4)).trans k0
  have l0 : ∀ o, (W4.alloc o).cell? ⟨w.heap.size, 0, none⟩ = some (.string id) := fun o => (cell_old (a := ⟨w.heap.size, 0, none⟩) (lt_of_blk hI4)).trans j0
  have l1 : ∀ o, (W4.alloc o).cell? ⟨w.heap.size, 1, none⟩ = some (.slice rs m c) := fun o => (cell_old (a := ⟨w.heap.size, 1, none⟩) (lt_of_blk hI4)).trans j1
  have l2 : ∀ o, (W4.alloc o).cell? ⟨w.heap.size, 2, none⟩ = some (.int .u8 lab) := fun o => (cell_old (a := ⟨w.heap.size, 2, none⟩) (lt_of_blk hI4)).trans j2
  have l3 : ∀ o, (W4.alloc o).cell? ⟨w.heap.size, 3, none⟩ = some (.string own) := fun o => (cell_old (a := ⟨w.heap.size, 3, none⟩) (lt_of_blk hI4)).trans j3
  have nL : some L ≠ vi.ownBlock := fun h => by have := (row_blk hx4 h).1; omega
  have hL5 : W5.heap[L]? = some (.cells #[vi, vk, .map (some bm), c3, c4, c5, c6, c7] 60 (0, 0)) := (g5'.block L (by show L < (W4.alloc _).heap.size; have := lt_of_blk hL4; simp; omega) nL).trans ((blk_old (lt_of_blk hL4)).trans hL4)
  obtain ⟨m0, m1, -⟩ := cells8 hL5
  have q0 := free8 hL5 0
  -- behind the first store
  have wa : (W4.alloc (.cells #[.string id, .slice rs m c, .int .u8 lab, .string own] 38)).drew.heap.size = W4.heap.size + 1 := by show (W4.alloc _).heap.size = _; simp
  have hg5 : base ≤ g5 := (row_blk hx5 (k := g5) rfl).1
  have hL6 : (W5.setCell ⟨L, 0, none⟩ (.slice (some ⟨g5, 0, none⟩) (n + 1) cap5)).heap[L]? = some (.cells #[.slice (some ⟨g5, 0, none⟩) (n + 1) cap5, vk, .map (some bm), c3, c4, c5, c6, c7] 60 (0, 0)) := set_blk hL5 0 _
  have FA : Fr (fun k => some k = vi.ownBlock) W4 W5 := (((Fr.refl _ W4).alloc _).drew).trans (Fr.of_grown g5') (fun _ _ h => h)
  have FB : Fr (fun k => k = L ∨ some k = vi.ownBlock) W4 (W5.setCell ⟨L, 0, none⟩ (.slice (some ⟨g5, 0, none⟩) (n + 1) cap5)) := (FA.mono (fun _ h => Or.inr h)).trans (Fr.of_set W5 ⟨L, 0, none⟩ _) (fun _ _ h => Or.inl h)
  have hx6 : (W5.setCell ⟨L, 0, none⟩ (.slice (some ⟨g5, 0, none⟩) (n + 1) cap5)).ownsRow base 38 4 (.slice (some ⟨g5, 0, none⟩) (n + 1) cap5) (n + 1) _ := row_later hx5 (fun k hk => Below.heap_setCell W5 ⟨L, 0, none⟩ _ k (by have := (row_blk hx5 hk).1; show k ≠ L; omega))
  have ne1 : ∀ {k : Nat}, some k = vk.ownBlock → ¬ (k = L ∨ some k = vi.ownBlock) := fun {k} hk h => by
    obtain ⟨e1, e2, c1, e3⟩ := row_blk hy4 hk
    rcases h with h | h
    · omega
    · obtain ⟨_, _, c2, e4⟩ := row_blk hx4 h
      rw [e3] at e4
      cases e4
  have hy6 : (W5.setCell ⟨L, 0, none⟩ (.slice (some ⟨g5, 0, none⟩) (n + 1) cap5)).ownsRow base 39 1 vk n ys := row_later hy4 (fun k hk => FB.block k (row_blk hy4 hk).2.1 (ne1 hk))
  have ne2 : ¬ (bm = L ∨ some bm = vi.ownBlock) := fun h => by
    rcases h with h | h
    · omega
    · obtain ⟨_, _, c2, e4⟩ := row_blk hx4 h
      obtain ⟨es, ck, hb, _⟩ := HM4.out
      rw [hb] at e4
      cases e4
  have hm6 : (W5.setCell ⟨L, 0, none⟩ (.slice (some ⟨g5, 0, none⟩) (n + 1) cap5)).ownsMap Tryf.prog 9 (plainElem Tryf.prog 4) bm (n + 1) D' := map_later HM4.out (FB.block bm HM4.out.lt ne2)
  have F6 : Fr (Touch L vi vk (.map (some bm))) w (W5.setCell ⟨L, 0, none⟩ (.slice (some ⟨g5, 0, none⟩) (n + 1) cap5)) := HFR4.out.trans FB (fun k _ h => h.elim Or.inl (fun h => Or.inr (Or.inl h)))
  have hsz6 : W4.heap.size ≤ (W5.setCell ⟨L, 0, none⟩ (.slice (some ⟨g5, 0, none⟩) (n + 1) cap5)).heap.size := FB.size
  obtain ⟨p0, p1, -⟩ := cells8 hL6
  have HA := hid hA
  have HL6 := hid hL6
  have HX6 := hid hx6
  have HY6 := hid hy6
  have HM6 := hid hm6
  have HF6 := hid F6
  have HQ := hid hsz6
  have PP := hid p1
  clear hL4 hy4 hx4 hI4 hx5 g5' hA hL5 nL hL6 FA FB hx6 ne1 hy6 ne2 hm6 F6 hsz6 p0 p1 wa HM4 HFR4
  go_wp2_with fail
  go_region_law (refine step_append_run rfl (.tmp 48) (.tmp 50) 55 rfl vi (.slice (some ⟨W4.heap.size, 0, none⟩) 1 1) (.slice (some ⟨g5, 0, none⟩) (n + 1) cap5) W5 (by simp [Act.eval]) (by simp [Act.eval]) HA.out ?_)
  all_goals
    clear HA kk0 l0 l1 l2 l3 j0 j1 j2 j3 k0 k1 k2 f0 m0 m1 q0
    generalize (W5.setCell ⟨L, 0, none⟩ (.slice (some ⟨g5, 0, none⟩) (n + 1) cap5)) = W6 at *
    obtain ⟨v7, W7, hA7, hy7, g7⟩ := app_keep (w := W6.alloc (.cells #[.int .u8 keep] 39)) 56 (row_later HY6.out (fun k hk => blk_old (row_blk HY6.out hk).2.1)) (by have := HQ.out; simp; omega) hn W6.heap.size keep (new1 _ _ _)
    obtain ⟨g8, cap8, rfl⟩ := row_form hy7
    have hL6 := HL6.out
    have nL : some L ≠ vk.ownBlock := fun h => by have := (row_blk HY6.out h).1; omega
    have hL7 : W7.heap[L]? = some (.cells #[.slice (some ⟨g5, 0, none⟩) (n + 1) cap5, vk, .map (some bm), c3, c4, c5, c6, c7] 60 (0, 0)) := (g7.block L (by have := lt_of_blk hL6; simp; omega) nL).trans ((blk_old (lt_of_blk hL6)).trans hL6)
    obtain ⟨-, n1, -⟩ := cells8 hL7
    have q1 := free8 hL7 1
    have HL7 := hid hL7
    have HA7 := hid hA7
    have HY7 := hid hy7
    have G7 := hid g7
    have kk1 : ∀ o, (W6.alloc o).cell? ⟨L, 1, none⟩ = some vk := fun o => (cell_old (a := ⟨L, 1, none⟩) (lt_of_blk hL6)).trans PP.out
    have p1 := PP.out
    clear hL6 hL7 hA7 hy7 g7 nL
    go_wp2_with (at_builtin; refine wpList_append_run rfl (.tmp 58) (.tmp 60) 56 rfl vk (.slice (some ⟨W6.heap.size, 0, none⟩) 1 1) (.slice (some ⟨g8, 0, none⟩) (n + 1) cap8) W7 rfl rfl HA7.out ?_)
    go_ret
    exact ⟨rfl, close_new hLb hbm HL7.out HX6.out HY6.out HY7.out G7.out HM6.out HF4.out HF6.out⟩
end Go.Proofs.Qxb6614322aFmt
