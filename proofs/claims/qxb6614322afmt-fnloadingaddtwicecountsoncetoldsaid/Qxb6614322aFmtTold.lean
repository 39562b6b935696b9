/- FnLoadingAddTwiceCountsOnce: the told card. -/
import Derived.Test.Qxb6614322aFmtOpen
import Derived.Test.Qxb6614322aFmtCards
import Derived.ProofKit
import Derived.Stop.JoinedAt
import Derived.Stop.Texts
import Derived.Stop.JoinedTold
import Derived.SizedLaws
import Derived.Carry
import Derived.SevenToldRow
namespace Go.Proofs.Qxb6614322aFmt
open Go.ChangeShapes Go.WideShapes Go.ChangeAt Go.RowKit
open Go.Extern.Stop Go.Stop Go.Extern

theorem own : ownKnob Tryf.prog.godebug = none := by kernel_rfl
theorem laidOut : laidOutB Tryf.prog = true := by kernel_rfl

theorem all_cons {H : Type} {enc : TypeId × Value → H} {P : Program} {w : World} {base : Nat} {spare : Nat → Bool} {held : Bool} {t : TypeId} {ts : List TypeId} {v : Value} {vs : List Value} {d : DataW H} {ds : List (DataW H)} {p p' : List MemPlace}
    (h : DataW.Trod enc P w base spare held t v d p) (hs : DataW.TrodAll enc P w base spare held ts vs ds p') : DataW.TrodAll enc P w base spare held (t :: ts) (v :: vs) (d :: ds) (p ++ p') := ⟨p, p', h, hs, rfl⟩

set_option maxRecDepth 100000 in
theorem add_lifted (os : Os) (started : os.Started) (H : Type) (enc : TypeId × Value → H) :
    ReturnsInTold none {} Tryf.checked os 3 .any Input.okWide ((OpenSpec.ofChange Rows.fnLoadingAddTwiceCountsOnceSpec).preRow enc Tryf.prog Tryf.f3 [] false []) (fun F => ((OpenSpec.ofChange Rows.fnLoadingAddTwiceCountsOnceSpec).at F).post enc Tryf.prog Tryf.f3 false true false false) (aloneAtReturn Tryf.prog) nothingAlways := by
  refine returnsInTold_of_row (C := Tryf.checked) (s := OpenSpec.ofChange Rows.fnLoadingAddTwiceCountsOnceSpec) (by kernel_rfl) own started (by kernel_rfl) Tryf.func3
    (OpenSpec.witness_stopped (enc := enc) (C := Tryf.checked) false ⟨#[], #[.slice none 0 0, .slice none 0 0, .slice none 0 0, .slice none 0 0, .slice none 0 0, .slice none 0 0], []⟩ 8 (by kernel_rfl) (by kernel_rfl) (by kernel_rfl) (by kernel_rfl)) ?_
  intro F W base args ds gs before _ hF hval0 hW _ _ hsz _ _
  have hval : ∀ (j : Nat) t v, Tryf.f3.params[j]? = some t → args[j]? = some v → Value.okWide Tryf.prog W .any base t v := hval0
  have hW' := hW
  obtain ⟨p, q, hA0, hV, rfl, hfz, hnd⟩ := hW
  have hA : DataW.TrodAll enc Tryf.prog W 0 (fun _ => true) true Tryf.f3.params.toList args.toList ds p := hA0
  rw [Tryf.params3] at hA hval
  obtain ⟨v0, r0, d0, e0, p0, q0, ha0, rfl, rfl, h0, t0⟩ := trodAll_cons hA
  obtain ⟨v1, r1, d1, e1, p1, q1, rfl, rfl, rfl, h1, t1⟩ := trodAll_cons t0
  obtain ⟨v2, r2, d2, e2, p2, q2, rfl, rfl, rfl, h2, t2⟩ := trodAll_cons t1
  obtain ⟨v3, r3, d3, e3, p3, q3, rfl, rfl, rfl, h3, t3⟩ := trodAll_cons t2
  obtain ⟨v4, r4, d4, e4, p4, q4, rfl, rfl, rfl, h4, t4⟩ := trodAll_cons t3
  obtain ⟨v5, r5, d5, e5, p5, q5, rfl, rfl, rfl, h5, t5⟩ := trodAll_cons t4
  obtain ⟨rfl, rfl, rfl⟩ := trodAll_nil t5
  obtain rfl : args = #[v0, v1, v2, v3, v4, v5] := by cases args; simp_all
  obtain ⟨rfl, rfl⟩ := trodVars_none hV
  clear hA0 hval0 hA t0 t1 t2 t3 t4 t5 ha0
  obtain ⟨I, hI, rfl, rfl, rfl, rfl, rfl, rfl⟩ := open_six (okWide_slice Tryf.underlying22 (hval 0 22 v0 rfl rfl)) (okWide_slice Tryf.underlying22 (hval 1 22 v1 rfl rfl)) (okWide_slice Tryf.underlying23 (hval 2 23 v2 rfl rfl)) (okWide_slice Tryf.underlying23 (hval 3 23 v3 rfl rfl)) (okWide_slice Tryf.underlying24 (hval 4 24 v4 rfl rfl)) (okWide_slice Tryf.underlying25 (hval 5 25 v5 rfl rfl)) h0 h1 h2 h3 h4 h5
  have lt0 : ∀ x ∈ p0, x.block < W.heap.size := by obtain ⟨m, hm⟩ := h0; exact DataW.trod_lt m _ _ _ hm
  have lt1 : ∀ x ∈ p1, x.block < W.heap.size := by obtain ⟨m, hm⟩ := h1; exact DataW.trod_lt m _ _ _ hm
  have lt2 : ∀ x ∈ p2, x.block < W.heap.size := by obtain ⟨m, hm⟩ := h2; exact DataW.trod_lt m _ _ _ hm
  have lt3 : ∀ x ∈ p3, x.block < W.heap.size := by obtain ⟨m, hm⟩ := h3; exact DataW.trod_lt m _ _ _ hm
  have lt4 : ∀ x ∈ p4, x.block < W.heap.size := by obtain ⟨m, hm⟩ := h4; exact DataW.trod_lt m _ _ _ hm
  have lt5 : ∀ x ∈ p5, x.block < W.heap.size := by obtain ⟨m, hm⟩ := h5; exact DataW.trod_lt m _ _ _ hm
  refine (law_walk F.told I W hF hI).mono fun e W' ⟨he, bel⟩ => ?_
  subst he
  have hargs := all_cons (Below.trod laidOut (by kernel_rfl) (of_decide_eq_true (by kernel_rfl)) h0 bel lt0) (all_cons (Below.trod laidOut (by kernel_rfl) (of_decide_eq_true (by kernel_rfl)) h1 bel lt1) (all_cons (Below.trod laidOut (by kernel_rfl) (of_decide_eq_true (by kernel_rfl)) h2 bel lt2)
    (all_cons (Below.trod laidOut (by kernel_rfl) (of_decide_eq_true (by kernel_rfl)) h3 bel lt3) (all_cons (Below.trod laidOut (by kernel_rfl) (of_decide_eq_true (by kernel_rfl)) h4 bel lt4) (trodAll_mk1 (Below.trod laidOut (by kernel_rfl) (of_decide_eq_true (by kernel_rfl)) h5 bel lt5))))))
  exact ⟨_, rfl, _, _, _, [], _, [], hW', trodAll_mk1 (shut_bool Tryf.underlying4 _), hargs, rfl, bel.frame _, fun h => by cases h⟩

theorem stops_are : Tryf.pinned.checked.prog.stops = Rows.fnLoadingAddTwiceCountsOnceRow.stops := by kernel_rfl
theorem stopKnobs_are : Tryf.pinned.checked.prog.stopKnobs = [] := by kernel_rfl
theorem quiet_any (os : Os) : Stop.quiet Tryf.pinned.checked.prog os := by
  intro k hk
  rw [stopKnobs_are] at hk
  cases hk

theorem add_card : Rows.FnLoadingAddTwiceCountsOnceToldSaid :=
  Claim7.holds_of_told_any 3 Tryf.f3 "fmt.Sprintf" [] [] _ _ _ (by kernel_rfl) rfl rfl rfl laidOut (by kernel_rfl) rfl ⟨rfl, rfl, rfl, rfl, rfl, rfl, rfl⟩ rfl rfl (by kernel_rfl) (by kernel_rfl) Tryf.func3 (by kernel_rfl)
    (of_decide_eq_true (by kernel_rfl)) (of_decide_eq_true (by kernel_rfl)) stops_are.symm rfl stopKnobs_are.symm (by kernel_rfl)
    (by kernel_rfl) (by kernel_rfl) (by kernel_rfl) (by kernel_rfl) (by kernel_rfl) (by kernel_rfl) (by kernel_rfl) (by kernel_rfl) (by kernel_rfl) rfl (by kernel_rfl) rfl rfl
    rfl rfl
    rfl (by kernel_rfl) (by kernel_rfl) (by kernel_rfl) (by decide) (by kernel_rfl)
    (OpenClaim.moreEntering_of (by kernel_rfl) (by kernel_rfl) (by kernel_rfl) (by kernel_rfl) (by kernel_rfl) (by kernel_rfl) (by kernel_rfl) (by kernel_rfl) (by kernel_rfl) (by kernel_rfl))
    ⟨_, WideRow.started_initial, quiet_any _⟩
    (fun os started _ H enc _ => add_lifted os started H enc)
end Go.Proofs.Qxb6614322aFmt
