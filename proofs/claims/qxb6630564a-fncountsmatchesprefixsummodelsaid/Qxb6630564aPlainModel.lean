/-
  THE PLAIN LAW of the prefix-sum model: no Go in sight.
-/
import Derived.Test.Qxb6630564aPlain
set_option linter.unusedVariables false
namespace Go.Proofs.Qxb6630564a

def nz1 (f : Nat → Int) (i : Nat) : Nat := bif f i == 0 then 0 else 1
def pre (f : Nat → Int) : Nat → Nat
  | 0 => 0
  | i + 1 => pre f i + nz1 f i
def isv (f : Nat → Int) (x : Int) (i : Nat) : Nat := bif f i == x then 1 else 0
def cnt (f : Nat → Int) (x : Int) : Nat → Nat
  | 0 => 0
  | i + 1 => cnt f x i + isv f x i

theorem nz1_le (f : Nat → Int) (i : Nat) : nz1 f i ≤ 1 := by unfold nz1; cases f i == 0 <;> simp
theorem isv_le (f : Nat → Int) (x : Int) (i : Nat) : isv f x i ≤ 1 := by unfold isv; cases f i == x <;> simp
theorem pre_le (f : Nat → Int) (k : Nat) : pre f k ≤ k := by
  induction k with
  | zero => exact Nat.le_refl _
  | succ k ih => have := nz1_le f k; simp only [pre]; omega
theorem cnt_le (f : Nat → Int) (x : Int) (k : Nat) : cnt f x k ≤ k := by
  induction k with
  | zero => exact Nat.le_refl _
  | succ k ih => have := isv_le f x k; simp only [cnt]; omega
theorem pre_mono (f : Nat → Int) {a b : Nat} (h : a ≤ b) : pre f a ≤ pre f b := by
  induction b with
  | zero => have : a = 0 := by omega
            subst this; exact Nat.le_refl _
  | succ b ih =>
    by_cases e : a = b + 1
    · subst e; exact Nat.le_refl _
    · have := ih (by omega); simp only [pre]; omega

/-- A span's lost ids and its drained ids make up its length. -/
theorem lostSpan_pre (f : Nat → Int) (n lo k : Nat) : lostSpan f n lo k + (pre f (min (lo + k) n) - pre f (min lo n)) = k := by
  induction k with
  | zero => simp [lostSpan]
  | succ k ih =>
    simp only [lostSpan]
    have hm : pre f (min lo n) ≤ pre f (min (lo + k) n) := pre_mono f (by omega)
    by_cases h : lo + k < n
    · have e1 : min (lo + (k + 1)) n = lo + k + 1 := by omega
      have e2 : min (lo + k) n = lo + k := by omega
      rw [e2] at ih hm
      rw [e1]
      simp only [pre]
      by_cases h0 : f (lo + k) = 0
      · have a1 : miss f n (lo + k) = 1 := miss_zero h0
        have a2 : nz1 f (lo + k) = 0 := by simp [nz1, h0]
        omega
      · have a1 : miss f n (lo + k) = 0 := miss_no h h0
        have a2 : nz1 f (lo + k) = 1 := by
          have : (f (lo + k) == 0) = false := by simpa using h0
          simp [nz1, this]
        omega
    · have e1 : min (lo + (k + 1)) n = n := by omega
      have e2 : min (lo + k) n = n := by omega
      rw [e2] at ih hm
      rw [e1]
      have a1 : miss f n (lo + k) = 1 := miss_far (by omega)
      omega

theorem reps_cnt (f : Nat → Int) (n : Nat) (h : ∀ i, i < n → 0 ≤ f i) : repTo f n + cnt f 0 n + cnt f 1 n = n := by
  induction n with
  | zero => rfl
  | succ n ih =>
    have := ih (fun i hi => h i (by omega))
    have h0 := h n (by omega)
    simp only [repTo, cnt]
    by_cases a : f n = 0
    · have e1 : rep1 f n = 0 := by simp [rep1, a]
      have e2 : isv f 0 n = 1 := by simp [isv, a]
      have e3 : isv f 1 n = 0 := by simp [isv, a]
      omega
    · by_cases b : f n = 1
      · have e1 : rep1 f n = 0 := by simp [rep1, b]
        have e2 : isv f 0 n = 0 := by simp [isv, b]
        have e3 : isv f 1 n = 1 := by simp [isv, b]
        omega
      · have e1 : rep1 f n = 1 := by
          have : decide (1 < f n) = true := decide_eq_true (by omega)
          simp only [rep1, this]; rfl
        have e2 : isv f 0 n = 0 := by
          have : (f n == 0) = false := by simpa using a
          simp only [isv, this]; rfl
        have e3 : isv f 1 n = 0 := by
          have : (f n == 1) = false := by simpa using b
          simp only [isv, this]; rfl
        omega

end Go.Proofs.Qxb6630564a
