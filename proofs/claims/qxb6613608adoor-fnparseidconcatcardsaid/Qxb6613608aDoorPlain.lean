/-
  The plain arithmetic of the seat's two laws: no program in this text. What zzb1Scan, zzb1Model and parseID come to, as functions on lists of bytes.
-/
import Derived.Lib.ParseIntBTie
import GoSem.Op.String
namespace Go.Proofs.Qxb6613608aDoor.Pl
open Go

/-- Is the byte a decimal digit? -/
def isDig (c : UInt8) : Bool := decide (48 ≤ c.toNat) && decide (c.toNat ≤ 57)
/-- What the digits of l spell behind 'acc'. -/
def val (acc : Nat) (l : List UInt8) : Nat := l.foldl (fun a c => a * 10 + (c.toNat - 48)) acc
theorem val_nil (acc : Nat) : val acc [] = acc := rfl
theorem val_cons (acc : Nat) (c : UInt8) (r : List UInt8) : val acc (c :: r) = val (acc * 10 + (c.toNat - 48)) r := by unfold val; exact List.foldl_cons ..
/-- How many bytes the longest run of digits at the head has. -/
def pre : List UInt8 → Nat
  | [] => 0
  | c :: r => if isDig c then pre r + 1 else 0
/-- The leading zeros. -/
def zer : List UInt8 → Nat
  | [] => 0
  | c :: r => if c.toNat = 48 then zer r + 1 else 0
def strip (l : List UInt8) : List UInt8 := l.drop (zer l)
/-- "18446744073709551615" -/
def lim : List UInt8 := [49, 56, 52, 52, 54, 55, 52, 52, 48, 55, 51, 55, 48, 57, 53, 53, 49, 54, 49, 53]
def greater (z l : List UInt8) : Bool := if z.length = l.length then !Op.bytesLess z l && !(z == l) else decide (l.length < z.length)
def top : Nat := 18446744073709551615
/-- kind and magnitude, as zzb1Scan gives them. -/
def kindOf : Lib.NumEnd Nat → Nat
  | .ok _ => 1
  | .range => 2
  | _ => 0
def magOf : Lib.NumEnd Nat → Nat
  | .ok u => u
  | _ => 0
def idOf (l : List UInt8) : Lib.NumEnd Int → Int
  | .ok v => v
  | .range => Lib.intSat 64 l
  | _ => 0
def scanK (l : List UInt8) : Nat := kindOf (Lib.parseUintB 64 l)
def scanM (l : List UInt8) : Nat := magOf (Lib.parseUintB 64 l)
/-- What parseID gives. -/
def pid (l : List UInt8) : Int := idOf l (Lib.parseIntB 64 l)

theorem pre_le (l : List UInt8) : pre l ≤ l.length := by
  induction l with
  | nil => simp [pre]
  | cons c r ih => simp only [pre]; split <;> simp <;> omega
theorem zer_le (l : List UInt8) : zer l ≤ l.length := by
  induction l with
  | nil => simp [zer]
  | cons c r ih => simp only [zer]; split <;> simp <;> omega
theorem pre_all (l : List UInt8) : ∀ c ∈ l.take (pre l), isDig c = true := by
  induction l with
  | nil => simp [pre]
  | cons c r ih =>
    simp only [pre]
    split
    · rename_i h; intro x hx; simp at hx; rcases hx with rfl | hx; exact h; exact ih x hx
    · simp
/-- The value is monotone in what stands ahead. -/
theorem val_ge : ∀ (l : List UInt8) (acc : Nat), acc ≤ val acc l
  | [], acc => Nat.le_refl acc
  | c :: r, acc => by rw [val_cons]; exact Nat.le_trans (by omega) (val_ge r (acc * 10 + (c.toNat - 48)))
theorem val_eq (l : List UInt8) : ∀ acc, val acc l = acc * 10 ^ l.length + val 0 l := by
  induction l with
  | nil => intro acc; simp [val_nil]
  | cons c r ih =>
    intro acc
    simp only [val_cons, List.length_cons]
    rw [ih (acc * 10 + (c.toNat - 48)), ih (0 * 10 + (c.toNat - 48)), Nat.pow_succ, Nat.add_mul, Nat.mul_assoc, Nat.mul_comm 10]
    simp [Nat.add_assoc]
theorem val_append (a b : List UInt8) : ∀ acc, val acc (a ++ b) = val (val acc a) b := by
  induction a with
  | nil => intro acc; rfl
  | cons c r ih => intro acc; simp only [List.cons_append, val_cons]; exact ih _
theorem val_lt (l : List UInt8) (h : ∀ c ∈ l, isDig c = true) : val 0 l < 10 ^ l.length := by
  induction l with
  | nil => simp [val_nil]
  | cons c r ih =>
    have hr := ih (fun x hx => h x (List.mem_cons_of_mem _ hx))
    have hc := h c List.mem_cons_self
    simp only [isDig, Bool.and_eq_true, decide_eq_true_eq] at hc
    simp only [val_cons, List.length_cons, Nat.pow_succ]
    rw [val_eq]
    have : (0 * 10 + (c.toNat - 48)) * 10 ^ r.length ≤ 9 * 10 ^ r.length := Nat.mul_le_mul_right _ (by omega)
    omega
/-- parseUint10, by the run of digits at the head. -/
theorem pu_eq (l : List UInt8) : ∀ acc, acc ≤ top → (top < val acc (l.take (pre l)) → Lib.parseUint10 acc l = .range) ∧
    (val acc (l.take (pre l)) ≤ top → pre l = l.length → Lib.parseUint10 acc l = .ok (val acc (l.take (pre l)))) ∧
    (val acc (l.take (pre l)) ≤ top → pre l ≠ l.length → Lib.parseUint10 acc l = Lib.parseUint10 0 [0]) := by
  induction l with
  | nil => intro acc ha; simp only [top] at ha ⊢; refine ⟨?_, ?_, ?_⟩ <;> simp [pre, val_nil, Lib.parseUint10] ; omega
  | cons c r ih =>
    intro acc ha
    have e0 : Lib.parseUint10 0 [0] = Lib.parseMag [] := rfl
    by_cases hd : 48 ≤ c.toNat ∧ c.toNat ≤ 57
    · have hi : isDig c = true := by simp [isDig, hd]
      have et : (c :: r).take (pre (c :: r)) = c :: r.take (pre r) := by simp [pre, hi]
      have el : (pre (c :: r) = (c :: r).length) ↔ pre r = r.length := by simp [pre, hi]
      rw [et]
      simp only [val_cons, Lib.parseUint10, if_pos hd]
      have hg := val_ge (r.take (pre r)) (acc * 10 + (c.toNat - 48))
      have e1 : Lib.parseUint10 0 [] = .ok 0 := rfl
      by_cases h1 : 1844674407370955162 ≤ acc
      · have : top < acc * 10 + (c.toNat - 48) := by simp only [top]; omega
        refine ⟨fun _ => by rw [if_pos h1], fun h => by omega, fun h => by omega⟩
      · by_cases h2 : 18446744073709551616 ≤ acc * 10 + (c.toNat - 48)
        · have : top < acc * 10 + (c.toNat - 48) := by simp only [top]; omega
          refine ⟨fun _ => by rw [if_neg h1, if_pos h2], fun h => by omega, fun h => by omega⟩
        · rw [if_neg h1, if_neg h2]
          obtain ⟨i1, i2, i3⟩ := ih (acc * 10 + (c.toNat - 48)) (by simp only [top]; omega)
          refine ⟨i1, fun h hp => i2 h (el.1 hp), fun h hp => ?_⟩
          have := i3 h (fun x => hp (el.2 x))
          rw [this]; rfl
    · have hi : isDig c = false := by simp only [isDig, Bool.and_eq_false_iff, decide_eq_false_iff_not]; omega
      have e2 : pre (c :: r) = 0 := by simp [pre, hi]
      rw [e2]
      simp only [List.take_zero, val_nil]
      refine ⟨fun h => by omega, fun _ h => by simp at h, fun _ _ => ?_⟩
      simp only [Lib.parseUint10, if_neg hd]
      rfl

theorem zer_val (l : List UInt8) : val 0 (strip l) = val 0 l := by
  unfold strip
  induction l with
  | nil => simp [zer, val_nil]
  | cons c r ih =>
    simp only [zer]
    split
    · rename_i h; simp only [List.drop_succ_cons, ih, val_cons, h]
    · rfl
theorem strip_head (l : List UInt8) : strip l = [] ∨ ∃ c r, strip l = c :: r ∧ c.toNat ≠ 48 := by
  unfold strip
  induction l with
  | nil => left; rfl
  | cons c r ih =>
    simp only [zer]
    split
    · simpa using ih
    · right; exact ⟨c, r, rfl, ‹_›⟩
theorem strip_dig (l : List UInt8) (h : ∀ c ∈ l, isDig c = true) : ∀ c ∈ strip l, isDig c = true :=
  fun c hc => h c (List.mem_of_mem_drop hc)

/-- Two runs of digits of one length: the order of the texts is the order of the numbers. -/
theorem less_iff : ∀ (a b : List UInt8), a.length = b.length → (∀ c ∈ a, isDig c = true) → (∀ c ∈ b, isDig c = true) → (Op.bytesLess a b = true ↔ val 0 a < val 0 b)
  | [], [], _, _, _ => by simp [Op.bytesLess]
  | [], _ :: _, h, _, _ => by simp at h
  | _ :: _, [], h, _, _ => by simp at h
  | x :: a, y :: b, h, ha, hb => by
    have ih := less_iff a b (by simpa using h) (fun c hc => ha c (List.mem_cons_of_mem _ hc)) (fun c hc => hb c (List.mem_cons_of_mem _ hc))
    have la := val_lt a (fun c hc => ha c (List.mem_cons_of_mem _ hc))
    have lb := val_lt b (fun c hc => hb c (List.mem_cons_of_mem _ hc))
    have hx := ha x List.mem_cons_self
    have hy := hb y List.mem_cons_self
    simp only [isDig, Bool.and_eq_true, decide_eq_true_eq] at hx hy
    have hl : a.length = b.length := by simpa using h
    simp only [Op.bytesLess, val_cons, Bool.or_eq_true, decide_eq_true_eq, Bool.and_eq_true, beq_iff_eq, ih]
    rw [val_eq a (0 * 10 + (x.toNat - 48)), val_eq b (0 * 10 + (y.toNat - 48)), ← hl]
    rw [← hl] at lb
    generalize val 0 a = va at *
    generalize val 0 b = vb at *
    generalize 10 ^ a.length = t at *
    have e1 : (x < y) ↔ x.toNat < y.toNat := UInt8.lt_iff_toNat_lt
    have e2 : (x = y) ↔ x.toNat = y.toNat := ⟨fun h => by rw [h], fun h => UInt8.toNat_inj.1 h⟩
    rw [e1, e2]
    have hxv : 0 * 10 + (x.toNat - 48) = x.toNat - 48 := by omega
    have hyv : 0 * 10 + (y.toNat - 48) = y.toNat - 48 := by omega
    rw [hxv, hyv]
    rcases Nat.lt_trichotomy x.toNat y.toNat with hlt | heq | hgt
    · have : (x.toNat - 48 + 1) * t ≤ (y.toNat - 48) * t := Nat.mul_le_mul_right _ (by omega)
      rw [Nat.add_mul] at this
      constructor
      · intro _; omega
      · intro _; left; exact hlt
    · rw [heq]
      constructor
      · rintro (h | ⟨_, h⟩); omega; omega
      · intro h; right; exact ⟨rfl, by omega⟩
    · have : (y.toNat - 48 + 1) * t ≤ (x.toNat - 48) * t := Nat.mul_le_mul_right _ (by omega)
      rw [Nat.add_mul] at this
      constructor
      · rintro (h | ⟨h, _⟩) <;> omega
      · intro h; omega
theorem eq_of_val : ∀ (a b : List UInt8), a.length = b.length → (∀ c ∈ a, isDig c = true) → (∀ c ∈ b, isDig c = true) → val 0 a = val 0 b → a = b
  | [], [], _, _, _, _ => rfl
  | [], _ :: _, h, _, _, _ => by simp at h
  | _ :: _, [], h, _, _, _ => by simp at h
  | x :: a, y :: b, h, ha, hb, hv => by
    have la := val_lt a (fun c hc => ha c (List.mem_cons_of_mem _ hc))
    have lb := val_lt b (fun c hc => hb c (List.mem_cons_of_mem _ hc))
    have hx := ha x List.mem_cons_self
    have hy := hb y List.mem_cons_self
    simp only [isDig, Bool.and_eq_true, decide_eq_true_eq] at hx hy
    have hl : a.length = b.length := by simpa using h
    simp only [val_cons] at hv
    rw [val_eq a (0 * 10 + (x.toNat - 48)), val_eq b (0 * 10 + (y.toNat - 48)), ← hl] at hv
    rw [← hl] at lb
    have ih := eq_of_val a b hl (fun c hc => ha c (List.mem_cons_of_mem _ hc)) (fun c hc => hb c (List.mem_cons_of_mem _ hc))
    have hxv : 0 * 10 + (x.toNat - 48) = x.toNat - 48 := by omega
    have hyv : 0 * 10 + (y.toNat - 48) = y.toNat - 48 := by omega
    rw [hxv, hyv] at hv
    generalize val 0 a = va at *
    generalize val 0 b = vb at *
    generalize 10 ^ a.length = t at *
    rcases Nat.lt_trichotomy x.toNat y.toNat with hlt | heq | hgt
    · have : (x.toNat - 48 + 1) * t ≤ (y.toNat - 48) * t := Nat.mul_le_mul_right _ (by omega)
      rw [Nat.add_mul] at this
      omega
    · rw [heq] at hv
      rw [UInt8.toNat_inj.1 heq, ih (by omega)]
    · have : (y.toNat - 48 + 1) * t ≤ (x.toNat - 48) * t := Nat.mul_le_mul_right _ (by omega)
      rw [Nat.add_mul] at this
      omega

theorem lim_dig : ∀ c ∈ lim, isDig c = true := by decide
theorem lim_val : val 0 lim = top := by decide

theorem greater_iff (z : List UInt8) (hd : ∀ c ∈ z, isDig c = true) (hh : z = [] ∨ ∃ c r, z = c :: r ∧ c.toNat ≠ 48) : greater z lim = true ↔ top < val 0 z := by
  have hl : lim.length = 20 := rfl
  have hlt := val_lt z hd
  unfold greater
  by_cases h : z.length = lim.length
  · rw [if_pos h]
    have h1 := less_iff z lim h hd lim_dig
    have h2 := eq_of_val z lim h hd lim_dig
    rw [lim_val] at h1 h2
    cases hb : Op.bytesLess z lim with
    | true => simp; have := h1.1 hb; omega
    | false =>
      have h3 : ¬ val 0 z < top := fun x => by have := h1.2 x; rw [hb] at this; cases this
      by_cases he : z = lim
      · subst he; simp; have := lim_val; omega
      · have : val 0 z ≠ top := fun x => he (h2 x)
        simp [he]; omega
  · rw [if_neg h]
    simp only [decide_eq_true_eq]
    rw [hl] at h ⊢
    constructor
    · intro hg
      rcases hh with rfl | ⟨c, r, rfl, hc⟩
      · simp at hg
      · have hcd := hd c List.mem_cons_self
        simp only [isDig, Bool.and_eq_true, decide_eq_true_eq] at hcd
        simp only [val_cons]
        rw [val_eq]
        have h20 : 10 ^ 20 ≤ 10 ^ r.length := Nat.pow_le_pow_right (by omega) (by simp at hg; omega)
        have : 1 * 10 ^ r.length ≤ (0 * 10 + (c.toNat - 48)) * 10 ^ r.length := Nat.mul_le_mul_right _ (by omega)
        have e20 : (10 : Nat) ^ 20 = 100000000000000000000 := by decide
        simp only [top]; omega
    · intro hg
      apply Decidable.byContradiction
      intro hn
      have : 10 ^ z.length ≤ 10 ^ 19 := Nat.pow_le_pow_right (by omega) (by omega)
      have e19 : (10 : Nat) ^ 19 = 10000000000000000000 := by decide
      simp only [top] at hg; omega

/-- THE SCAN, as Go reckons it. -/
theorem scan_two (l : List UInt8) (h : greater (strip (l.take (pre l))) lim = true) : scanK l = 2 ∧ scanM l = 0 := by
  have hd := strip_dig _ (pre_all l)
  have hv := (greater_iff _ hd (strip_head _)).1 h
  rw [zer_val] at hv
  have hne : l ≠ [] := by rintro rfl; simp [pre, val_nil, top] at hv
  have := (pu_eq l 0 (by simp [top])).1 hv
  have e : Lib.parseUintB 64 l = .range := by rw [Lib.parseUintB_64]; unfold Lib.parseMag; rw [if_neg hne, this]
  simp [scanK, scanM, e, kindOf, magOf]
theorem scan_zero (l : List UInt8) (h : greater (strip (l.take (pre l))) lim = false) (hn : pre l = 0 ∨ pre l ≠ l.length) : scanK l = 0 ∧ scanM l = 0 := by
  have hd := strip_dig _ (pre_all l)
  have hv : ¬ top < val 0 (strip (l.take (pre l))) := fun x => by have := (greater_iff _ hd (strip_head _)).2 x; rw [h] at this; cases this
  rw [zer_val] at hv
  by_cases hne : l = []
  · subst hne; exact ⟨rfl, rfl⟩
  · have hp : pre l ≠ l.length := by
      rcases hn with h0 | h0
      · rw [h0]; intro h1; exact hne (List.length_eq_zero_iff.1 h1.symm)
      · exact h0
    have := (pu_eq l 0 (by simp [top])).2.2 (by omega) hp
    have e : Lib.parseUintB 64 l = Lib.parseUint10 0 [0] := by rw [Lib.parseUintB_64]; unfold Lib.parseMag; rw [if_neg hne, this]
    simp only [scanK, scanM, e]
    exact ⟨rfl, rfl⟩
theorem scan_one (l : List UInt8) (h : greater (strip (l.take (pre l))) lim = false) (h0 : pre l ≠ 0) (hn : pre l = l.length) : scanK l = 1 ∧ scanM l = val 0 (strip (l.take (pre l))) ∧ scanM l ≤ top := by
  have hd := strip_dig _ (pre_all l)
  have hv : ¬ top < val 0 (strip (l.take (pre l))) := fun x => by have := (greater_iff _ hd (strip_head _)).2 x; rw [h] at this; cases this
  rw [zer_val] at hv ⊢
  have hne : l ≠ [] := by rintro rfl; exact h0 rfl
  have := (pu_eq l 0 (by simp [top])).2.1 (by omega) hn
  have e : Lib.parseUintB 64 l = .ok (val 0 (l.take (pre l))) := by rw [Lib.parseUintB_64]; unfold Lib.parseMag; rw [if_neg hne, this]
  simp only [scanK, scanM, e, kindOf, magOf, true_and]
  omega
/-- The ends of the scan. -/
theorem scan_cases (l : List UInt8) : (scanK l = 2 ∧ scanM l = 0) ∨ (scanK l = 0 ∧ scanM l = 0) ∨ (scanK l = 1 ∧ pre l = l.length ∧ scanM l = val 0 l ∧ scanM l ≤ top ∧ l ≠ []) := by
  cases h : greater (strip (l.take (pre l))) lim with
  | true => exact Or.inl (scan_two l h)
  | false =>
    by_cases h0 : pre l = 0 ∨ pre l ≠ l.length
    · exact Or.inr (Or.inl (scan_zero l h h0))
    · have h1 : pre l ≠ 0 := fun x => h0 (Or.inl x)
      have h2 : pre l = l.length := Decidable.byContradiction fun x => h0 (Or.inr x)
      obtain ⟨a, b, c⟩ := scan_one l h h1 h2
      refine Or.inr (Or.inr ⟨a, h2, ?_, c, ?_⟩)
      · rw [b, zer_val, List.take_of_length_le (by omega)]
      · rintro rfl; exact h1 rfl

theorem half : (2 : Nat) ^ (64 - 1) = 9223372036854775808 := by decide
/-- Behind no sign, or '+'. -/
def plain (k m : Nat) : Int := if k = 0 then 0 else if k = 2 then 9223372036854775807 else if 9223372036854775807 < m then 9223372036854775807 else m
/-- Behind '-'. -/
def minus (k m : Nat) : Int := if k = 0 then 0 else if k = 2 then -9223372036854775808 else if 9223372036854775808 ≤ m then -9223372036854775808 else -(m : Int)
theorem sat_max (c : UInt8) (r : List UInt8) (h : c.toNat ≠ 45) : Lib.intSat 64 (c :: r) = 9223372036854775807 := by rw [Lib.intSat_other 64 c r h, half]; rfl
theorem sat_min (r : List UInt8) : Lib.intSat 64 (45 :: r) = -9223372036854775808 := by rw [Lib.intSat_minus, half]; rfl
theorem plain_of (c : UInt8) (r : List UInt8) (e : Lib.NumEnd Nat) (h : c.toNat ≠ 45) : idOf (c :: r) (Lib.signlessC (2 ^ (64 - 1)) e) = plain (kindOf e) (magOf e) := by
  rw [half]
  cases e with
  | ok u =>
    simp only [Lib.signlessC, kindOf, magOf, plain]
    by_cases hu : 9223372036854775808 ≤ u
    · rw [if_pos hu]; simp only [idOf, sat_max c r h]; simp; omega
    · rw [if_neg hu]; simp only [idOf]; simp; omega
  | range => simp [Lib.signlessC, kindOf, plain, idOf, sat_max c r h]
  | _ => rfl
theorem minus_of (r : List UInt8) (e : Lib.NumEnd Nat) : idOf (45 :: r) (Lib.signedC (2 ^ (64 - 1)) e) = minus (kindOf e) (magOf e) := by
  rw [half]
  cases e with
  | ok u =>
    simp only [Lib.signedC, kindOf, magOf, minus]
    by_cases hu : 9223372036854775808 < u
    · rw [if_pos hu]; simp only [idOf, sat_min]; simp; omega
    · rw [if_neg hu]; simp only [idOf]; simp; omega
  | range => simp [Lib.signedC, kindOf, minus, idOf, sat_min]
  | _ => rfl
theorem pid_nil : pid [] = 0 := rfl
theorem pid_plus (r : List UInt8) : pid (43 :: r) = plain (scanK r) (scanM r) := by
  unfold pid scanK scanM; rw [Lib.parseIntB_plus, plain_of 43 r _ (by decide)]
theorem pid_minus (r : List UInt8) : pid (45 :: r) = minus (scanK r) (scanM r) := by
  unfold pid scanK scanM; rw [Lib.parseIntB_minus, minus_of]
theorem pid_other (c : UInt8) (r : List UInt8) (h43 : c.toNat ≠ 43) (h45 : c.toNat ≠ 45) : pid (c :: r) = plain (scanK (c :: r)) (scanM (c :: r)) := by
  unfold pid scanK scanM; rw [Lib.parseIntB_plain 64 c r h43 h45, plain_of c r _ h45]
theorem scan_sign (c : UInt8) (r : List UInt8) (h : c.toNat = 43 ∨ c.toNat = 45) : scanK (c :: r) = 0 ∧ scanM (c :: r) = 0 := by
  have hp : pre (c :: r) = 0 := by have : isDig c = false := by simp only [isDig, Bool.and_eq_false_iff, decide_eq_false_iff_not]; omega
                                   simp [pre, this]
  rcases scan_cases (c :: r) with h2 | h2 | ⟨_, h2, _⟩
  · have hg : greater (strip ((c :: r).take (pre (c :: r)))) lim = false := by rw [hp, List.take_zero]; decide
    exact scan_zero _ hg (Or.inl hp)
  · exact h2
  · rw [hp] at h2; simp at h2
theorem scan_nil : scanK [] = 0 ∧ scanM [] = 0 := ⟨rfl, rfl⟩
theorem minus_plain (k m : Nat) (h : k = 0 ∨ (k = 1 ∧ m < 9223372036854775808)) : minus k m = -(plain k m) := by
  rcases h with rfl | ⟨rfl, h⟩
  · rfl
  · simp only [minus, plain]; simp; rw [if_neg (by omega), if_neg (by omega)]
theorem minus_min (k m : Nat) (h : k = 2 ∨ (k = 1 ∧ 9223372036854775808 ≤ m)) : minus k m = -9223372036854775808 := by
  rcases h with rfl | ⟨rfl, h⟩
  · rfl
  · simp only [minus]; simp; omega
theorem plain_bd (k m : Nat) : 0 ≤ plain k m ∧ plain k m ≤ 9223372036854775807 := by
  unfold plain; split; omega; split; omega; split <;> omega
theorem minus_bd (k m : Nat) : -9223372036854775808 ≤ minus k m ∧ minus k m ≤ 0 := by
  unfold minus; split; omega; split; omega; split <;> omega
theorem pid_bd (l : List UInt8) : -9223372036854775808 ≤ pid l ∧ pid l ≤ 9223372036854775807 := by
  cases l with
  | nil => rw [pid_nil]; omega
  | cons c r =>
    by_cases h43 : c.toNat = 43
    · obtain rfl : c = 43 := UInt8.toNat_inj.1 h43
      rw [pid_plus]; have := plain_bd (scanK r) (scanM r); omega
    · by_cases h45 : c.toNat = 45
      · obtain rfl : c = 45 := UInt8.toNat_inj.1 h45
        rw [pid_minus]; have := minus_bd (scanK r) (scanM r); omega
      · rw [pid_other c r h43 h45]; have := plain_bd (scanK (c :: r)) (scanM (c :: r)); omega

theorem pre_iff (l : List UInt8) : pre l = l.length ↔ ∀ c ∈ l, isDig c = true := by
  constructor
  · intro h; have := pre_all l; rwa [List.take_of_length_le (by omega)] at this
  · intro h
    induction l with
    | nil => rfl
    | cons c r ih => simp only [pre, h c List.mem_cons_self, if_true, List.length_cons]; rw [ih (fun x hx => h x (List.mem_cons_of_mem _ hx))]
/-- A run of digits that fits an int64: parseID gives its value. -/
theorem pid_digits (l : List UInt8) (hk : scanK l = 1) (hm : scanM l ≤ 9223372036854775807) : pid l = (scanM l : Int) := by
  rcases scan_cases l with ⟨h, _⟩ | ⟨h, _⟩ | ⟨_, hp, hv, _, hne⟩
  · omega
  · omega
  · cases l with
    | nil => exact absurd rfl hne
    | cons c r =>
      have hd := (pre_iff _).1 hp c List.mem_cons_self
      simp only [isDig, Bool.and_eq_true, decide_eq_true_eq] at hd
      rw [pid_other c r (by omega) (by omega), hk]
      simp only [plain]; simp; omega
/-- THE JOINED TEXT. -/
theorem concat_val (a b : List UInt8) (ha : scanK a = 1) (hb : scanK b = 1) (hab : scanK (a ++ b) = 1) : scanM (a ++ b) = scanM a * 10 ^ b.length + scanM b := by
  rcases scan_cases a with ⟨h, _⟩ | ⟨h, _⟩ | ⟨_, _, va, _, _⟩
  · omega
  · omega
  rcases scan_cases b with ⟨h, _⟩ | ⟨h, _⟩ | ⟨_, _, vb, _, _⟩
  · omega
  · omega
  rcases scan_cases (a ++ b) with ⟨h, _⟩ | ⟨h, _⟩ | ⟨_, _, vab, _, _⟩
  · omega
  · omega
  rw [va, vb, vab, val_append, val_eq]
theorem concat_le (a b : List UInt8) (ha : scanK a = 1) (hb : scanK b = 1) (hab : scanK (a ++ b) = 1) (hm : scanM (a ++ b) ≤ 9223372036854775807) : scanM a ≤ 9223372036854775807 ∧ scanM b ≤ 9223372036854775807 := by
  have h := concat_val a b ha hb hab
  have h1 : 1 ≤ 10 ^ b.length := Nat.one_le_pow _ _ (by omega)
  have h2 : scanM a * 1 ≤ scanM a * 10 ^ b.length := Nat.mul_le_mul_left _ h1
  omega
end Go.Proofs.Qxb6613608aDoor.Pl
