/- THE LAW: FnLoadingAddTwiceCountsOnce, walked. -/
import Derived.Test.Qxb6614322aFmtInv
namespace Go.Proofs.Qxb6614322aFmt
open Go.RowKit Go.Extern.Stop Go.Stop Go.Extern Go.Maps

theorem small_id {I : Inp} (hS : I.Small) (k : Nat) : (idAt I k).size ≤ maxLen := by
  unfold idAt maxLen
  by_cases h : k < I.l0
  · have := hS.z0 k h
    rw [if_pos h]; omega
  · rw [if_neg h]; exact Nat.zero_le _
theorem small_cnt {I : Inp} (hS : I.Small) (i : Nat) : cntAt I i ≤ 1048576 := by
  unfold cntAt
  by_cases h4 : i < I.l4
  · have := hS.m4e i h4
    by_cases h5 : i < I.l5
    · have := hS.m5e i h5
      rw [if_pos h4, if_pos h5]; omega
    · rw [if_pos h4, if_neg h5]; omega
  · by_cases h5 : i < I.l5
    · have := hS.m5e i h5
      rw [if_neg h4, if_pos h5]; omega
    · rw [if_neg h4, if_neg h5]; omega
theorem small_code {I : Inp} (hS : I.Small) (i j : Nat) : (codeAt I i j).size ≤ maxLen := by
  unfold codeAt maxLen
  by_cases h : i < I.l4 ∧ j < I.cl i
  · have := hS.z4 i h.1 j h.2
    rw [if_pos h]; omega
  · rw [if_neg h]; exact Nat.zero_le _

/-- A round that takes nothing. -/
theorem inv_skip {I : Inp} {w : World} {k n : Nat} {wr W : World} {f : List UInt8 → Bool} {g : List UInt8 → Int} {vi vk mr : Value} {r nr u nU : Nat} (h : Inv I w k n wr f g vi vk mr r nr u nU) (hb : Below wr.heap.size wr W) (hd : validB (idAt I k).data.toList = true → f (idAt I k).data.toList = true) : Hid (InvAt I w (k + 1) n W) := by
  have h' := h.later hb
  exact ⟨f, g, vi, vk, mr, r, nr, u, nU, h'.blk, h'.own, h'.sum, Nat.le_succ_of_le h'.le, h'.um, Nat.le_trans h'.ul (Nat.mul_le_mul_right _ (Nat.le_succ k)), h'.sm, upto_succ h'.all hd, h'.bel, h'.size⟩

/-- The snapshot behind k items and q codes of the next. -/
def SnapIn (I : Inp) (W5 : World) (g : List UInt8 → Int) (k q : Nat) (wr : World) : Prop :=
  ∃ np gs, UMap wr W5.heap.size np gs ∧ np ≤ k * 1048576 + q ∧ (∀ i, i < k → ∀ j, j < cntAt I i → gs (codeAt I i j).data.toList = g (codeAt I i j).data.toList) ∧ (∀ j, j < q → gs (codeAt I k j).data.toList = g (codeAt I k j).data.toList) ∧ Below W5.heap.size W5 wr
theorem gs_keep {gs g : List UInt8 → Int} {c l : List UInt8} (h : gs l = g l) : (if l = c then g c else gs l) = g l := by
  by_cases e : l = c
  · rw [if_pos e, e]
  · rw [if_neg e, h]
theorem snap_put {I : Inp} {W5 : World} {g : List UInt8 → Int} {k q : Nat} {wr : World} (h : SnapIn I W5 g k q wr) (hk : k ≤ 65536) (hq : q ≤ 1048576) (hs : (codeAt I k q).size ≤ maxLen) (hwf : (Lit.int .i64 (g (codeAt I k q).data.toList)).wf = true) :
    ∃ W', (Instr.mapUpdate 47 (.map (some W5.heap.size)) (.string (codeAt I k q)) (.int .i64 (g (codeAt I k q).data.toList))).run Tryf.prog wr = .ok () W' ∧ SnapIn I W5 g k (q + 1) W' := by
  obtain ⟨np, gs, h1, h2, h3, h4, h5⟩ := h
  obtain ⟨W', hup, hU, hF⟩ := h1.update (by unfold maxLen; omega) hs hwf
  refine ⟨W', hup, np + 1, _, hU, by omega, fun i hi j hj => gs_keep (h3 i hi j hj), ?_, h5.trans (hF.below W5.heap.size h5.size (fun j hj e => by omega))⟩
  exact upto_succ (fun j hj => gs_keep (h4 j hj)) (if_pos rfl)
theorem snap_next {I : Inp} {W5 : World} {g : List UInt8 → Int} {k : Nat} {wr : World} (h : SnapIn I W5 g k (cntAt I k) wr) (hm : cntAt I k ≤ 1048576) : SnapIn I W5 g (k + 1) 0 wr := by
  obtain ⟨np, gs, h1, h2, h3, h4, h5⟩ := h
  have hb : k * 1048576 + cntAt I k ≤ (k + 1) * 1048576 + 0 := by rw [Nat.add_mul]; omega
  exact ⟨np, gs, h1, Nat.le_trans h2 hb, upto_succ h3 h4, fun _ hj => absurd hj (Nat.not_lt_zero _), h5⟩
theorem snap_start (I : Inp) (W5 : World) (g : List UInt8 → Int) : SnapIn I W5 g 0 0 (W5.alloc (.map #[] 0)) :=
  ⟨0, _, UMap.made W5, Nat.le_refl _, fun _ hi => absurd hi (Nat.not_lt_zero _), fun _ hj => absurd hj (Nat.not_lt_zero _), (Below.refl _ _).alloc (Nat.le_refl _) _⟩

theorem own3_later {w w' : World} {b n : Nat} {D : DataW Unit} (h : w.ownsMap Tryf.prog 9 (plainElem Tryf.prog 3) b n D) (hb : w'.heap[b]? = w.heap[b]?) : w'.ownsMap Tryf.prog 9 (plainElem Tryf.prog 3) b n D := by
  obtain ⟨es, ck, h1, h2⟩ := h
  exact ⟨es, ck, hb.trans h1, h2⟩

set_option maxRecDepth 100000 in
set_option maxHeartbeats 8000000 in
theorem law_walk (F : Interp) (I : Inp) (w : World) (hF : F.answers w.tape) (hI : I.At w) :
    Calls Tryf.prog 3 #[.slice I.a0 I.l0 I.c0, .slice I.a1 I.l1 I.c1, .slice I.a2 I.l2 I.c2, .slice I.a3 I.l3 I.c3, .slice I.a4 I.l4 I.c4, .slice I.a5 I.l5 I.c5] w fun e w' => e = .returned (.bool true) ∧ Below w.heap.size w w' := by
  have HF := hid hF
  have HI := hid hI
  clear hF hI
  have hmm := @run_makeMap Tryf.prog
  go_enter Tryf.func3, Tryf.ntmps3
  go_wp2_with fail
  refine (bytes_small I w HI.out).mono ?_
  rintro e w1 ⟨⟨b, rfl, hb⟩, hw⟩
  obtain rfl := hw.symm
  cases b with
  | false =>
    clear hb
    go_wp2_with fail
    go_ret
    exact ⟨rfl, Below.refl _ _⟩
  | true =>
  have HS := hid (hb rfl)
  clear hb
  by_cases hlen : I.l0 ≤ 65536 ∧ I.l1 ≤ 65536 ∧ I.l2 ≤ 65536 ∧ I.l3 ≤ 65536 ∧ I.l4 ≤ 65536 ∧ I.l5 ≤ 65536
  case neg =>
    go_wp2_with fail
    all_goals first
      | (go_ret; exact ⟨rfl, Below.refl _ _⟩)
      | (exfalso; omega)
  obtain ⟨g0, g1, g2, g3, g4, g5⟩ := hlen
  have d0 : ¬ (65536 : Int) < (I.l0 : Int) := by omega
  have d1 : ¬ (65536 : Int) < (I.l1 : Int) := by omega
  have d2 : ¬ (65536 : Int) < (I.l2 : Int) := by omega
  have d3 : ¬ (65536 : Int) < (I.l3 : Int) := by omega
  have d4 : ¬ (65536 : Int) < (I.l4 : Int) := by omega
  have d5 : ¬ (65536 : Int) < (I.l5 : Int) := by omega
  go_wp2_with fail
  refine (input_bytes I w HI.out HS.out).mono ?_
  rintro e w1 ⟨⟨rb, rfl⟩, hw⟩
  obtain rfl := hw.symm
  by_cases hrb : (1048576 : Int) < rb
  case pos =>
    go_wp2_with fail
    go_ret
    exact ⟨rfl, Below.refl _ _⟩
  go_wp2_with fail
  refine (item_count I.a0 I.a1 I.a2 I.a3 I.a4 I.a5 I.l0 I.l1 I.l2 I.l3 I.l4 I.l5 I.c0 I.c1 I.c2 I.c3 I.c4 I.c5 w g0 g1 g2 g3 g4 g5).mono ?_
  rintro e w1 ⟨⟨N, hN, rfl⟩, hw⟩
  obtain rfl := hw.symm
  go_wp2_with fail
  refine (zznew w).mono ?_
  rintro e w1 ⟨rfl, rfl⟩
  go_upto_region 11 with fail
  clear hmm
  have H0 := hid (inv_start I w)
  generalize ((w.alloc (.map #[] 0)).alloc (.cells #[.slice none 0 0, .slice none 0 0, .map none, .int .i64 0, .int .i64 0, .int .i64 0, .int .i64 0, .map (some w.heap.size)] 60)).alloc (.map #[] 0) = W0 at *
  go_cut [17] from 46 (fun v wc => v = .int .i64 0 ∧ wc = W0)
  case first =>
    go_wp2_with fail
    go_meet
    case rel => exact ⟨rfl, rfl⟩
  case rest =>
  obtain ⟨rfl, rfl⟩ := hcut
  clear d0 d1 d2 d3 d4 d5 g0 g1 g2 g3 g4 g5 hrb
  go_wp2_with fail
  go_loopw [16, 17] (fun v i wr => ∃ k n : Nat, k ≤ N ∧ i = .int .i64 k ∧ v = .int .i64 n ∧ Hid (InvAt I w k n wr)) (fun _ i _ => N - (intOf i).toNat)
  case atStart => exact ⟨0, 0, Nat.zero_le _, rfl, rfl, H0⟩
  case round =>
    clear H0
    obtain ⟨k, n, hk, rfl, rfl, hinv⟩ := hrel
    obtain ⟨f, g, vi, vk, mr, r, nr, u, nU, hinv⟩ := hinv.out
    have HV := hid hinv
    have HIr := hid (HI.out.later hinv.bel)
    have hnk : n ≤ 65536 := by have := hinv.le; omega
    clear hinv
    by_cases hlt : k < N
    · go_wp2_with fail
      refine (id_at I wr HIr.out k).mono ?_
      rintro e w1 ⟨rfl, hw⟩
      obtain rfl := hw.symm
      have HSZ := hid (small_id HS.out k)
      go_wp2_with fail
      refine (zzvalid_any (idAt I k) wr HSZ.out).mono ?_
      rintro e w1 ⟨rfl, hw⟩
      obtain rfl := hw.symm
      by_cases hfresh : validB (idAt I k).data.toList = true ∧ f (idAt I k).data.toList = false
      · obtain ⟨hv, hd⟩ := hfresh
        rw [hv]
        have hlk := HV.out.sm.look HSZ.out
        rw [hd] at hlk
        obtain ⟨W1, hup, hS1, hF1⟩ := HV.out.sm.update (by unfold maxLen; omega) HSZ.out
        have HS1 := hid hS1
        have HF1 := hid hF1
        have HV' := hid hv
        have HD' := hid hd
        clear hS1 hF1 hv hd
        go_wp2_with fail
        clear hlk hup
        have HB1 := hid (HV.out.bel.trans (HF1.out.below w.heap.size HV.out.bel.size (fun j hj e => by omega)))
        refine (item_at I W1 (HI.out.later HB1.out) HS.out k).mono ?_
        rintro e W2 ⟨rs, c, lab, keep, rfl, hR, hrs, hb2⟩
        have HR := hid hR
        have HRS := hid hrs
        have HB2 := hid hb2
        clear hR hrs hb2
        go_wp2_with fail
        refine (call_new HV.out (ownAt I k) rs (cntAt I k) c lab keep (codeAt I k) (kindAt I k) (by omega) HSZ.out HV'.out HD'.out HS1.out HF1.out (HB2.out.alloc HB2.out.size _) (small_cnt HS.out k) (HR.out.later (by simp) (fun j hj _ => blk_old hj)) HRS.out (fun j _ => small_code HS.out k j)).mono ?_
        rintro e W3 ⟨rfl, hi⟩
        have HI3 := hid hi
        clear hi
        go_wp2_with fail
        go_roundw
        case rel => exact ⟨k + 1, n + 1, by omega, by go_num, by go_num, HI3⟩
        case measure => simp [intOf]; omega
      · have hdup : validB (idAt I k).data.toList = true → f (idAt I k).data.toList = true := fun h => by
          cases hf : f (idAt I k).data.toList with
          | true => rfl
          | false => exact absurd ⟨h, hf⟩ hfresh
        have HD := hid hdup
        have hlk := HV.out.sm.look HSZ.out
        clear hdup hfresh
        cases hv : validB (idAt I k).data.toList with
        | true =>
          have hft := HD.out hv
          rw [hft] at hlk
          clear hft hv
          go_wp2_with fail
          clear hlk
          refine (item_at I wr HIr.out HS.out k).mono ?_
          rintro e W2 ⟨rs, c, lab, keep, rfl, hR, hrs, hb2⟩
          have HB2 := hid hb2
          clear hR hrs hb2
          go_wp2_with fail
          refine (call_old F HV.out (HB2.out.alloc HB2.out.size _) HF.out (idAt I k) (ownAt I k) rs (cntAt I k) c lab keep HSZ.out HD.out).mono ?_
          rintro e W3 ⟨⟨p, rfl⟩, hb3⟩
          have HB3 := hid hb3
          clear hb3
          go_wp2_with fail
          go_roundw
          case rel => exact ⟨k + 1, n, by omega, by go_num, rfl, inv_skip HV.out HB3.out HD.out⟩
          case measure => simp [intOf]; omega
        | false =>
          clear hv hlk
          go_wp2_with fail
          refine (item_at I wr HIr.out HS.out k).mono ?_
          rintro e W2 ⟨rs, c, lab, keep, rfl, hR, hrs, hb2⟩
          have HB2 := hid hb2
          clear hR hrs hb2
          go_wp2_with fail
          refine (call_old F HV.out (HB2.out.alloc HB2.out.size _) HF.out (idAt I k) (ownAt I k) rs (cntAt I k) c lab keep HSZ.out HD.out).mono ?_
          rintro e W3 ⟨⟨p, rfl⟩, hb3⟩
          have HB3 := hid hb3
          clear hb3
          go_wp2_with fail
          go_roundw
          case rel => exact ⟨k + 1, n, by omega, by go_num, rfl, inv_skip HV.out HB3.out HD.out⟩
          case measure => simp [intOf]; omega
    · have hkN : k = N := by omega
      subst hkN
      have hblk := HV.out.blk
      have hsum : (r : Int) + nr + u = n := by have := HV.out.sum; omega
      have HU := hid HV.out.um
      clear hlt hk
      go_wp2_with fail
      refine (zzcounts _ _ _ _ _ _ _ _ _ wr hblk).mono ?_
      rintro e W5 ⟨rfl, nq, hW5⟩
      have HV5 := hid (HV.out.later (W := W5) (by rw [hW5]; exact below_drewN (Below.refl _ _) nq))
      have hr1 : r ≤ 65536 := by have := HV.out.sum; omega
      have hr2 : nr ≤ 65536 := by have := HV.out.sum; omega
      have hr3 : u ≤ 65536 := by have := HV.out.sum; omega
      clear hblk hW5 HU HIr HV
      have hbne : ((r : Int) + nr + u != (n : Int)) = false := by rw [hsum]; simp
      go_wp2_with fail
      have hblk := HV5.out.blk
      refine (zzvalues _ _ _ _ _ _ _ _ _ W5 hblk).mono ?_
      rintro e w1 ⟨rfl, hw⟩
      obtain rfl := hw.symm
      obtain ⟨D, hD, hDg⟩ := HV5.out.um
      have hln := fun ty => hD.len Tryf.underlying47 ty
      have hmm := @run_makeMap Tryf.prog
      go_upto_region 29 with fail
      clear hmm hln hblk hsum hbne
      have HD5 := hid hD
      clear hD hDg
      go_cut [30] from 139 (fun v wc => v = .int .i64 0 ∧ wc = W5.alloc (.map #[] 0))
      case first =>
        go_wp2_with fail
        go_meet
        case rel => exact ⟨rfl, rfl⟩
      case rest =>
      obtain ⟨rfl, rfl⟩ := hcut
      go_wp2_with fail
      go_loopw [30] (fun i wr => ∃ q : Nat, q ≤ k ∧ i = .int .i64 q ∧ Hid (SnapIn I W5 g q 0 wr)) (fun i _ => k - (intOf i).toNat)
      case atStart => exact ⟨0, Nat.zero_le _, rfl, snap_start I W5 g⟩
      case round =>
        obtain ⟨q, hq, rfl, HSN⟩ := hrel
        have HB6 : Hid (Below W5.heap.size W5 wr) := HSN.out.elim fun _ h => h.elim fun _ h => h.2.2.2.2
        have HI6 := hid (HI.out.later (HV5.out.later HB6.out).bel)
        by_cases hlt : q < k
        · go_wp2_with fail
          refine (cnt_at I wr HI6.out q).mono ?_
          rintro e w1 ⟨rfl, hw⟩
          obtain rfl := hw.symm
          obtain ⟨wo, hwo⟩ : ∃ wo : World, wo = wr := ⟨_, rfl⟩
          rw [← hwo] at HSN HB6 HI6 ⊢
          clear hwo
          have hcm := small_cnt HS.out q
          go_wp2_with fail
          go_loopw [32] (fun i wr => ∃ p : Nat, p ≤ cntAt I q ∧ i = .int .i64 p ∧ Hid (SnapIn I W5 g q p wr)) (fun i _ => cntAt I q - (intOf i).toNat)
          case atStart => exact ⟨0, Nat.zero_le _, rfl, HSN⟩
          case round =>
            clear HSN HB6 HI6
            obtain ⟨p, hp, rfl, HSN⟩ := hrel
            have HB6 : Hid (Below W5.heap.size W5 wr) := HSN.out.elim fun _ h => h.elim fun _ h => h.2.2.2.2
            have HI6 := hid (HI.out.later (HV5.out.later HB6.out).bel)
            by_cases hlp : p < cntAt I q
            · go_wp2_with fail
              refine (code_at I wr HI6.out q p).mono ?_
              rintro e w1 ⟨rfl, hw⟩
              obtain rfl := hw.symm
              have hsz := small_code HS.out q p
              obtain ⟨hlk, hwf⟩ := (HV5.out.later HB6.out).um.look hsz
              obtain ⟨W', hup, hsn⟩ := snap_put HSN.out (by omega) (by omega) hsz hwf
              have HSN' := hid hsn
              clear hsn hsz hwf
              go_wp2_with fail
              go_roundw
              case rel => exact ⟨p + 1, by omega, by go_num, HSN'⟩
              case measure => simp [intOf]; omega
            · have hpe : p = cntAt I q := by omega
              have HSN' : Hid (SnapIn I W5 g (q + 1) 0 wr) := by
                have h := HSN.out
                rw [hpe] at h
                exact snap_next h hcm
              clear HSN
              go_wp2_with fail
              go_roundw
              case rel => exact ⟨q + 1, by omega, by go_num, HSN'⟩
              case measure => simp [intOf]; omega
        · have hqk : q = k := by omega
          subst hqk
          obtain ⟨np, gs, hUP, -, hgs, -, -⟩ := HSN.out
          have HUP := hid hUP
          have HGS := hid hgs
          obtain ⟨W6, hW6⟩ : ∃ W6 : World, W6 = wr := ⟨_, rfl⟩
          rw [← hW6] at HUP HB6 ⊢
          have HV6 := hid (HV5.out.later HB6.out)
          clear hUP hgs HSN HI6 hlt hq hW6
          go_wp2_with fail
          go_loopw [34] (fun i wr => ∃ p : Nat, p ≤ q ∧ i = .int .i64 p ∧ Hid (Below W6.heap.size W6 wr)) (fun i _ => q - (intOf i).toNat)
          case atStart => exact ⟨0, Nat.zero_le _, rfl, Below.refl _ _⟩
          case round =>
            obtain ⟨p, hp, rfl, HB7⟩ := hrel
            have HV7 := hid (HV6.out.later HB7.out)
            have HI7 := hid (HI.out.later HV7.out.bel)
            by_cases hlt : p < q
            · go_wp2_with fail
              refine (item_at I wr HI7.out HS.out p).mono ?_
              rintro e W2 ⟨rs, c, lab, keep, rfl, hR, hrs, hb2⟩
              have HB2 := hid hb2
              clear hR hrs hb2
              go_wp2_with fail
              refine (call_old F HV6.out (HB7.out.trans ((HB2.out.alloc HB2.out.size _).mono HB7.out.size)) HF.out (idAt I p) (ownAt I p) rs (cntAt I p) c lab keep (small_id HS.out p) (HV6.out.all p hlt)).mono ?_
              rintro e W3 ⟨⟨pp, rfl⟩, hb3⟩
              have HB3 := hid hb3
              clear hb3
              go_wp2_with fail
              go_roundw
              case rel => exact ⟨p + 1, by omega, by go_num, HB3⟩
              case measure => simp [intOf]; omega
            · have HUP7 := hid (HUP.out.later (HB7.out.block _ HUP.out.lt))
              have hblk := HV7.out.blk
              go_wp2_with fail
              refine (zzcounts _ _ _ _ _ _ _ _ _ wr hblk).mono ?_
              rintro e W8 ⟨rfl, nq, hW8⟩
              have hb8 : Below wr.heap.size wr W8 := by rw [hW8]; exact below_drewN (Below.refl _ _) nq
              have HV8 := hid (HV7.out.later hb8)
              have HUP8 := hid (HUP7.out.later (hb8.block _ HUP7.out.lt))
              have hD8 := own3_later HD5.out ((HB6.out.trans ((HB7.out.trans (hb8.mono HB7.out.size)).mono HB6.out.size)).block _ HD5.out.lt)
              have hln := fun ty => hD8.len Tryf.underlying47 ty
              have HI8 := hid (HI.out.later HV8.out.bel)
              clear hblk hW8 hb8 HUP7 HV7 HI7 hD8
              go_wp2_with fail
              refine (zzvalues _ _ _ _ _ _ _ _ _ W8 HV8.out.blk).mono ?_
              rintro e w1 ⟨rfl, hw⟩
              obtain rfl := hw.symm
              go_wp2_with fail
              clear hln
              go_loop [42] (fun i => ∃ p : Nat, p ≤ q ∧ i = .int .i64 p) (fun i => q - (intOf i).toNat)
              case atStart => exact ⟨0, Nat.zero_le _, rfl⟩
              case round =>
                obtain ⟨i, hi, rfl⟩ := hrel
                by_cases hli : i < q
                · go_wp2_with fail
                  refine (cnt_at I W8 HI8.out i).mono ?_
                  rintro e w1 ⟨rfl, hw⟩
                  obtain rfl := hw.symm
                  have hcm := small_cnt HS.out i
                  go_wp2_with fail
                  go_loop [44] (fun j => ∃ p : Nat, p ≤ cntAt I i ∧ j = .int .i64 p) (fun j => cntAt I i - (intOf j).toNat)
                  case atStart => exact ⟨0, Nat.zero_le _, rfl⟩
                  case round =>
                    obtain ⟨j, hj, rfl⟩ := hrel
                    by_cases hlj : j < cntAt I i
                    · go_wp2_with fail
                      refine (code_at I W8 HI8.out i j).mono ?_
                      rintro e w1 ⟨rfl, hw⟩
                      obtain rfl := hw.symm
                      have hlk1 := (HV8.out.um.look (small_code HS.out i j)).1
                      have hlk2 := (HUP8.out.look (small_code HS.out i j)).1
                      rw [HGS.out i hli j hlj] at hlk2
                      go_wp2_with fail
                      go_round
                      case rel => exact ⟨j + 1, by omega, by go_num⟩
                      case measure => simp [intOf]; omega
                    · go_wp2_with fail
                      go_round
                      case rel => exact ⟨i + 1, by omega, by go_num⟩
                      case measure => simp [intOf]; omega
                · go_wp2_with fail
                  go_ret
                  exact ⟨rfl, HV8.out.bel⟩
end Go.Proofs.Qxb6614322aFmt
