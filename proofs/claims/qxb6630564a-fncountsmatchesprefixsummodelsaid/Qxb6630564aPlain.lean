/-
  THE PLAIN FUNCTIONS of this seat: no Go in sight. 'f': the drains table by the id; 'n': its length; 'S': the spans' numbers, first and last by turns.
-/
import Derived.Maps.Ext
set_option linter.unusedVariables false
namespace Go.Proofs.Qxb6630564a
open Go.Maps

def missed (f : Nat → Int) (n id : Nat) : Bool := !(decide (id < n) && f id != 0)
def miss (f : Nat → Int) (n id : Nat) : Nat := bif missed f n id then 1 else 0
def lostSpan (f : Nat → Int) (n lo : Nat) : Nat → Nat
  | 0 => 0
  | k + 1 => lostSpan f n lo k + miss f n (lo + k)
def spanLo (S : Nat → Int) (i : Nat) : Nat := (S (i * 2)).toNat
def spanLen (S : Nat → Int) (i : Nat) : Nat := (S (i * 2 + 1) - S (i * 2)).toNat + 1
def lostTo (f : Nat → Int) (n : Nat) (S : Nat → Int) : Nat → Nat
  | 0 => 0
  | i + 1 => lostTo f n S i + lostSpan f n (spanLo S i) (spanLen S i)
def rep1 (f : Nat → Int) (i : Nat) : Nat := bif decide (1 < f i) then 1 else 0
def repTo (f : Nat → Int) : Nat → Nat
  | 0 => 0
  | i + 1 => repTo f i + rep1 f i

theorem miss_no {f : Nat → Int} {n id : Nat} (h : id < n) (h0 : f id ≠ 0) : miss f n id = 0 := by
  have e : (f id != 0) = true := by simpa using h0
  unfold miss missed
  rw [e, decide_eq_true h]; rfl
theorem miss_zero {f : Nat → Int} {n id : Nat} (h0 : f id = 0) : miss f n id = 1 := by
  have e : (f id != 0) = false := by simpa using h0
  unfold miss missed
  rw [e, Bool.and_false]; rfl
theorem miss_far {f : Nat → Int} {n id : Nat} (h : n ≤ id) : miss f n id = 1 := by
  unfold miss missed
  rw [decide_eq_false (show ¬ id < n by omega)]; rfl
theorem miss_le (f : Nat → Int) (n id : Nat) : miss f n id ≤ 1 := by unfold miss; cases missed f n id <;> simp
theorem rep1_le (f : Nat → Int) (i : Nat) : rep1 f i ≤ 1 := by unfold rep1; cases decide (1 < f i) <;> simp
theorem lostSpan_le (f : Nat → Int) (n lo k : Nat) : lostSpan f n lo k ≤ k := by
  induction k with
  | zero => exact Nat.le_refl _
  | succ k ih => have := miss_le f n (lo + k); simp only [lostSpan]; omega
theorem repTo_le (f : Nat → Int) (k : Nat) : repTo f k ≤ k := by
  induction k with
  | zero => exact Nat.le_refl _
  | succ k ih => have := rep1_le f k; simp only [repTo]; omega

/-- The spans are fit: 1 ≤ first ≤ last, last below the greatest uint64, fewer than 65536 ids past the first. -/
def Fit1 (S : Nat → Int) (i : Nat) : Prop := 1 ≤ S (i * 2) ∧ S (i * 2) ≤ S (i * 2 + 1) ∧ S (i * 2 + 1) ≤ 18446744073709551614 ∧ S (i * 2 + 1) - S (i * 2) < 65536

theorem lostTo_le (f : Nat → Int) (n : Nat) (S : Nat → Int) (k : Nat) (h : ∀ i, i < k → Fit1 S i) : lostTo f n S k ≤ 65536 * k := by
  induction k with
  | zero => exact Nat.le_refl _
  | succ k ih =>
    have h1 := ih (fun i hi => h i (by omega))
    have h2 := lostSpan_le f n (spanLo S k) (spanLen S k)
    have h3 := h k (by omega)
    unfold Fit1 at h3
    simp only [lostTo]
    unfold spanLen at h2 ⊢
    omega

/-! ### Sums over a map's entries, of which some are still to come -/
def blk : DataW Unit → Nat
  | .lit (.int _ z) => z.toNat
  | _ => 0
def sumOff (g : Nat → Nat) (left : Lit → Bool) : List (Lit × DataW Unit) → Nat
  | [] => 0
  | p :: es => (bif left p.1 then 0 else g (blk p.2)) + sumOff g left es
def sumAll (g : Nat → Nat) : List (Lit × DataW Unit) → Nat
  | [] => 0
  | p :: es => g (blk p.2) + sumAll g es

theorem sumOff_none (g : Nat → Nat) (left : Lit → Bool) (es : List (Lit × DataW Unit)) (h : ∀ p ∈ es, left p.1 = true) : sumOff g left es = 0 := by
  induction es with
  | nil => rfl
  | cons p es ih => rw [sumOff, h p (List.mem_cons_self ..), ih (fun q hq => h q (List.mem_cons_of_mem _ hq))]; rfl
theorem sumOff_all (g : Nat → Nat) (left : Lit → Bool) (es : List (Lit × DataW Unit)) (h : ∀ kl, left kl = false) : sumOff g left es = sumAll g es := by
  induction es with
  | nil => rfl
  | cons p es ih => rw [sumOff, sumAll, h, ih]; rfl
theorem sumOff_le (g : Nat → Nat) (left : Lit → Bool) (es : List (Lit × DataW Unit)) : sumOff g left es ≤ sumAll g es := by
  induction es with
  | nil => exact Nat.le_refl _
  | cons p es ih => rw [sumOff, sumAll]; cases left p.1 <;> simp <;> omega
theorem sumOff_same (g : Nat → Nat) (left : Lit → Bool) (kl : Lit) (es : List (Lit × DataW Unit)) (h : ∀ p ∈ es, p.1.sameKey kl = false) : sumOff g (fun z => left z && !z.sameKey kl) es = sumOff g left es := by
  induction es with
  | nil => rfl
  | cons p es ih => rw [sumOff, sumOff, h p (List.mem_cons_self ..), ih (fun q hq => h q (List.mem_cons_of_mem _ hq))]; simp

theorem sumOff_start (g : Nat → Nat) (es : List (Lit × DataW Unit)) (hk : ∀ p ∈ es, WideAt.IsKeyLit p.1) : sumOff g (has (.map es)) es = 0 :=
  sumOff_none g _ es (fun p hp => List.any_eq_true.2 ⟨p, hp, WideAt.sameKey_self (hk p hp)⟩)

/-- The entry at a key is one of the entries. -/
theorem entry_at {es : List (Lit × DataW Unit)} {kl : Lit} {d : DataW Unit} (h : ∀ zd, (DataW.map es).atKey kl zd = d) : ∃ p ∈ es, p.1.sameKey kl = true ∧ p.2 = d := by
  have h0 := h
  unfold DataW.atKey at h
  cases hf : es.find? (fun p => p.1.sameKey kl) with
  | none =>
    have h1 := h .nil
    have h2 := h (.lit (.bool true))
    simp [hf] at h1 h2
    rw [← h1] at h2
    cases h2
  | some p =>
    have h1 := h .nil
    simp [hf] at h1
    exact ⟨p, List.mem_of_find?_eq_some hf, by simpa using List.find?_some hf, h1⟩

theorem sumOff_step (g : Nat → Nat) (left : Lit → Bool) (kl : Lit) (d : DataW Unit) (es : List (Lit × DataW Unit)) (hp : es.Pairwise (fun p q => p.1 ≠ q.1)) (hl : left kl = true)
    (hin : ∃ p ∈ es, p.1.sameKey kl = true ∧ p.2 = d) : sumOff g (fun z => left z && !z.sameKey kl) es = sumOff g left es + g (blk d) := by
  induction es with
  | nil => obtain ⟨p, h, _⟩ := hin; cases h
  | cons q es ih =>
    rw [List.pairwise_cons] at hp
    obtain ⟨p, hmem, hs, rfl⟩ := hin
    by_cases hq : q.1.sameKey kl = true
    · have e1 := WideAt.sameKey_eq hq
      have hpq : p = q := by
        rcases List.mem_cons.1 hmem with h | h
        · exact h
        · exact absurd (e1.trans (WideAt.sameKey_eq hs).symm) (hp.1 p h)
      subst hpq
      have hrest : ∀ r ∈ es, r.1.sameKey kl = false := fun r hr => by
        cases h : r.1.sameKey kl with
        | false => rfl
        | true => exact absurd (e1.trans (WideAt.sameKey_eq h).symm) (hp.1 r hr)
      rw [sumOff, sumOff, sumOff_same g left kl es hrest, hq, e1, hl]
      simp
      omega
    · have hq' : q.1.sameKey kl = false := by simpa using hq
      have hmem' : p ∈ es := by
        rcases List.mem_cons.1 hmem with h | h
        · subst h; rw [hs] at hq'; cases hq'
        · exact h
      rw [sumOff, sumOff, ih hp.2 ⟨p, hmem', hs, rfl⟩, hq']
      simp
      omega

end Go.Proofs.Qxb6630564a
