/-
  THE PLAIN LAW of 'one more drain': no Go in sight.
-/
import Derived.Test.Qxb6630564aPlain
set_option linter.unusedVariables false
namespace Go.Proofs.Qxb6630564a

/-- Does span i cover id j? -/
def cov1 (S : Nat → Int) (j i : Nat) : Bool := decide (S (i * 2) ≤ (j : Int)) && decide ((j : Int) ≤ S (i * 2 + 1))
def coverTo (S : Nat → Int) (j : Nat) : Nat → Nat
  | 0 => 0
  | i + 1 => coverTo S j i + bif cov1 S j i then 1 else 0
theorem coverTo_le (S : Nat → Int) (j k : Nat) : coverTo S j k ≤ k := by
  induction k with
  | zero => exact Nat.le_refl _
  | succ k ih => simp only [coverTo]; cases cov1 S j k <;> simp <;> omega

/-- The table f of n entries with id j handed over once more: g, of n' entries. -/
structure OneMore (f : Nat → Int) (n j : Nat) (g : Nat → Int) (n' : Nat) : Prop where
  same : ∀ i, i ≠ j → g i = f i
  inside : ∀ i, i ≠ j → (i < n' ↔ i < n)
  jn : j < n'
  pos : 1 ≤ g j

theorem miss_other {f g : Nat → Int} {n j n' : Nat} (h : OneMore f n j g n') {i : Nat} (hi : i ≠ j) : miss g n' i = miss f n i := by
  unfold miss missed
  rw [h.same i hi, decide_eq_decide.2 (h.inside i hi)]
theorem miss_at {f g : Nat → Int} {n j n' : Nat} (h : OneMore f n j g n') : miss g n' j = 0 := miss_no h.jn (by have := h.pos; omega)

theorem lostSpan_more {f g : Nat → Int} {n j n' : Nat} (h : OneMore f n j g n') (lo k : Nat) :
    lostSpan f n lo k = lostSpan g n' lo k + bif decide (lo ≤ j) && decide (j < lo + k) then miss f n j else 0 := by
  induction k with
  | zero =>
    have e : (decide (lo ≤ j) && decide (j < lo + 0)) = false := by
      by_cases hj : lo ≤ j
      · rw [decide_eq_false (show ¬ j < lo + 0 by omega), Bool.and_false]
      · rw [decide_eq_false hj, Bool.false_and]
    rw [e]; rfl
  | succ k ih =>
    simp only [lostSpan]
    rw [ih]
    by_cases hj : lo + k = j
    · subst hj
      rw [miss_at h, decide_eq_true (show lo ≤ lo + k by omega), decide_eq_false (show ¬ lo + k < lo + k by omega), decide_eq_true (show lo + k < lo + (k + 1) by omega)]
      simp
    · rw [miss_other h hj]
      have e : decide (j < lo + (k + 1)) = decide (j < lo + k) := decide_eq_decide.2 (by omega)
      rw [e]
      omega

theorem lostTo_more {f g : Nat → Int} {n j n' : Nat} (h : OneMore f n j g n') (S : Nat → Int) (k : Nat) (hf : ∀ i, i < k → Fit1 S i) :
    lostTo f n S k = lostTo g n' S k + miss f n j * coverTo S j k := by
  induction k with
  | zero => rfl
  | succ k ih =>
    simp only [lostTo, coverTo]
    rw [ih (fun i hi => hf i (by omega)), lostSpan_more h]
    have hF := hf k (by omega)
    unfold Fit1 at hF
    have e : (decide (spanLo S k ≤ j) && decide (j < spanLo S k + spanLen S k)) = cov1 S j k := by
      unfold cov1 spanLo spanLen
      congr 1
      · exact decide_eq_decide.2 (by omega)
      · exact decide_eq_decide.2 (by omega)
    rw [e]
    cases cov1 S j k
    · simp; omega
    · simp [Nat.mul_add]; omega

theorem repTo_congr {f g : Nat → Int} (k : Nat) (h : ∀ i, i < k → g i = f i) : repTo g k = repTo f k := by
  induction k with
  | zero => rfl
  | succ k ih =>
    simp only [repTo]
    rw [ih (fun i hi => h i (by omega))]
    unfold rep1
    rw [h k (by omega)]

/-- Where only entry j has turned. -/
theorem repTo_turn {f g : Nat → Int} {j : Nat} (k : Nat) (hj : j < k) (h : ∀ i, i ≠ j → g i = f i) : repTo g k + rep1 f j = repTo f k + rep1 g j := by
  induction k with
  | zero => omega
  | succ k ih =>
    simp only [repTo]
    by_cases e : k = j
    · subst e
      rw [repTo_congr k (fun i hi => h i (by omega))]
      omega
    · have := ih (by omega)
      have e2 : rep1 g k = rep1 f k := by unfold rep1; rw [h k e]
      rw [e2]
      omega

/-- j below the length: entry j goes up by one. -/
def upAt (f : Nat → Int) (j : Nat) : Nat → Int := fun i => if i = j then f j + 1 else f i
/-- j at the length: a first hand-over is laid behind the table. -/
def upNew (f : Nat → Int) (n : Nat) : Nat → Int := fun i => if i = n then 1 else f i

theorem upAt_more {f : Nat → Int} {n j : Nat} (hj : j < n) (h0 : 0 ≤ f j) : OneMore f n j (upAt f j) n where
  same i hi := by simp [upAt, hi]
  inside i hi := Iff.rfl
  jn := hj
  pos := by simp [upAt]; omega
theorem upNew_more (f : Nat → Int) (n : Nat) : OneMore f n n (upNew f n) (n + 1) where
  same i hi := by simp [upNew, hi]
  inside i hi := by omega
  jn := by omega
  pos := by simp [upNew]

theorem rep1_of {f : Nat → Int} {i : Nat} {x : Int} (h : f i = x) : rep1 f i = bif decide (1 < x) then 1 else 0 := by unfold rep1; rw [h]

theorem repTo_upAt {f : Nat → Int} {n j : Nat} (hj : j < n) (h0 : 0 ≤ f j) : repTo (upAt f j) n = repTo f n + if f j = 1 then 1 else 0 := by
  have h := repTo_turn (f := f) (g := upAt f j) n hj (fun i hi => by simp [upAt, hi])
  have e1 : rep1 (upAt f j) j = bif decide (1 < f j + 1) then 1 else 0 := rep1_of (by simp [upAt])
  have e2 : rep1 f j = bif decide (1 < f j) then 1 else 0 := rep1_of rfl
  rw [e1, e2] at h
  by_cases a : f j = 0
  · rw [a] at h ⊢; simpa using h
  · by_cases b : f j = 1
    · rw [b] at h ⊢; simpa using h
    · rw [decide_eq_true (show 1 < f j + 1 by omega), decide_eq_true (show 1 < f j by omega)] at h
      rw [if_neg b]
      simp at h
      omega
theorem repTo_upNew (f : Nat → Int) (n : Nat) : repTo (upNew f n) (n + 1) = repTo f n := by
  simp only [repTo]
  have e0 : repTo (upNew f n) n = repTo f n := repTo_congr n (fun i hi => if_neg (show ¬ i = n by omega))
  rw [e0]
  have e1 : rep1 (upNew f n) n = bif decide ((1 : Int) < 1) then 1 else 0 := rep1_of (by simp [upNew])
  rw [e1]; rfl

end Go.Proofs.Qxb6630564a
