/-
  THE PLAIN FUNCTIONS of this seat: no Go in sight. 'f' is the data, by the index; 'n' its length.
-/
set_option linter.unusedVariables false
namespace Go.Proofs.Qxb6630522a

def sep (c : Int) : Bool := c == 32 || c == 9 || c == 10 || c == 13 || c == 44 || c == 58
def closer (c : Int) : Bool := c == 125 || c == 93

/-- Where AtEnd stops: 'k' steps at most from p on. -/
def stopF (f : Nat → Int) (p : Nat) : Nat → Nat
  | 0 => p
  | k + 1 => bif sep (f p) then stopF f (p + 1) k else p
def stop (f : Nat → Int) (n p : Nat) : Nat := stopF f p (n - p)
def ended (f : Nat → Int) (n p : Nat) : Bool := decide (stop f n p < n) && closer (f (stop f n p))

theorem stop_sep {f : Nat → Int} {n p : Nat} (h : p < n) (hs : sep (f p) = true) : stop f n p = stop f n (p + 1) := by
  unfold stop
  obtain ⟨k, hk⟩ : ∃ k, n - p = k + 1 := ⟨n - p - 1, by omega⟩
  have hk' : n - (p + 1) = k := by omega
  rw [hk, hk', stopF, hs]; rfl
theorem stop_not {f : Nat → Int} {n p : Nat} (h : p < n) (hs : sep (f p) = false) : stop f n p = p := by
  unfold stop
  obtain ⟨k, hk⟩ : ∃ k, n - p = k + 1 := ⟨n - p - 1, by omega⟩
  rw [hk, stopF, hs]; rfl
theorem stop_end {f : Nat → Int} {n p : Nat} (h : n ≤ p) : stop f n p = p := by
  unfold stop
  have hk : n - p = 0 := by omega
  rw [hk, stopF]

theorem stopF_spec (f : Nat → Int) (k p : Nat) : p ≤ stopF f p k ∧ stopF f p k ≤ p + k ∧ (∀ i, p ≤ i → i < stopF f p k → sep (f i) = true) ∧ (stopF f p k < p + k → sep (f (stopF f p k)) = false) := by
  induction k generalizing p with
  | zero => exact ⟨Nat.le_refl _, Nat.le_refl _, fun i h1 h2 => absurd h2 (by simp [stopF]; omega), fun h => absurd h (by simp [stopF])⟩
  | succ k ih =>
    cases hs : sep (f p) with
    | true =>
      have e : stopF f p (k + 1) = stopF f (p + 1) k := by rw [stopF, hs]; rfl
      obtain ⟨h1, h2, h3, h4⟩ := ih (p + 1)
      rw [e]
      refine ⟨by omega, by omega, fun i hi hl => ?_, fun h => h4 (by omega)⟩
      by_cases hp : i = p
      · subst hp; exact hs
      · exact h3 i (by omega) hl
    | false =>
      have e : stopF f p (k + 1) = p := by rw [stopF, hs]; rfl
      rw [e]
      exact ⟨Nat.le_refl _, by omega, fun i h1 h2 => absurd h2 (by omega), fun _ => hs⟩

theorem stop_ge (f : Nat → Int) (n p : Nat) : p ≤ stop f n p := (stopF_spec f (n - p) p).1
theorem stop_le (f : Nat → Int) (n p : Nat) (h : p ≤ n) : stop f n p ≤ n := by
  have := (stopF_spec f (n - p) p).2.1
  unfold stop; omega
theorem stop_seps (f : Nat → Int) (n p i : Nat) (h1 : p ≤ i) (h2 : i < stop f n p) : sep (f i) = true := (stopF_spec f (n - p) p).2.2.1 i h1 h2
theorem stop_stops (f : Nat → Int) (n p : Nat) (h : stop f n p < n) : sep (f (stop f n p)) = false := by
  by_cases hp : p < n
  · exact (stopF_spec f (n - p) p).2.2.2 (by unfold stop at h; omega)
  · have := stop_ge f n p; omega

/-- A second time: it stays. -/
theorem stop_again (f : Nat → Int) (n p : Nat) (h : p ≤ n) : stop f n (stop f n p) = stop f n p := by
  by_cases hl : stop f n p < n
  · exact stop_not hl (stop_stops f n p hl)
  · exact stop_end (by omega)
theorem ended_again (f : Nat → Int) (n p : Nat) (h : p ≤ n) : ended f n (stop f n p) = ended f n p := by
  unfold ended; rw [stop_again f n p h]

/-- ONE SEPARATOR MORE, put in at p: it stops one further. 'g' agrees with f shifted by one from p on. -/
theorem stopF_shift (f g : Nat → Int) (k p : Nat) (h : ∀ i, p ≤ i → i < p + k → g (i + 1) = f i) : stopF g (p + 1) k = stopF f p k + 1 := by
  induction k generalizing p with
  | zero => rfl
  | succ k ih =>
    have e := h p (Nat.le_refl _) (by omega)
    rw [stopF, stopF, e]
    cases sep (f p) with
    | true => exact ih (p + 1) (fun i h1 h2 => h i (by omega) (by omega))
    | false => rfl
theorem stop_more (f g : Nat → Int) (n p : Nat) (hp : p ≤ n) (hb : sep (g p) = true) (h : ∀ i, p ≤ i → i < n → g (i + 1) = f i) : stop g (n + 1) p = stop f n p + 1 := by
  rw [stop_sep (by omega) hb]
  unfold stop
  have e : n + 1 - (p + 1) = n - p := by omega
  rw [e]
  exact stopF_shift f g (n - p) p (fun i h1 h2 => h i h1 (by omega))
theorem ended_more (f g : Nat → Int) (n p : Nat) (hp : p ≤ n) (hb : sep (g p) = true) (h : ∀ i, p ≤ i → i < n → g (i + 1) = f i) : ended g (n + 1) p = ended f n p := by
  unfold ended
  rw [stop_more f g n p hp hb h]
  by_cases hl : stop f n p < n
  · rw [h _ (stop_ge f n p) hl, decide_eq_true hl, decide_eq_true (show stop f n p + 1 < n + 1 by omega)]
  · rw [decide_eq_false hl, decide_eq_false (show ¬ stop f n p + 1 < n + 1 by omega)]; rfl

end Go.Proofs.Qxb6630522a
