/-
  WHICH SESSIONS ARE LIVE: the map's entries against the names, no Go in sight.
-/
import Derived.Test.Qxb6630564aSmall
import Derived.Test.Qxb6630564aPlain
set_option linter.unusedVariables false
namespace Go.Proofs.Qxb6630564a
open Go.Maps

theorem shadF_snoc (N : Nat → ByteArray) (i : Nat) (k : Nat) : ∀ j, shadF N i j (k + 1) = (shadF N i j k || eqN N (j + k) i) := by
  induction k with
  | zero => intro j; simp [shadF]
  | succ k ih =>
    intro j
    rw [shadF, ih (j + 1), shadF]
    have e : j + 1 + k = j + (k + 1) := by omega
    rw [e, Bool.or_assoc]
theorem shad_succ {N : Nat → ByteArray} {i t : Nat} (h : t < i) : shad N (i + 1) t = (shad N i t || eqN N i t) := by
  unfold shad
  have e1 : i + 1 - (t + 1) = (i - (t + 1)) + 1 := by omega
  have e2 : t + 1 + (i - (t + 1)) = i := by omega
  rw [e1, shadF_snoc, e2]
theorem shad_last (N : Nat → ByteArray) (i : Nat) : shad N (i + 1) i = false := by
  unfold shad
  rw [Nat.sub_self]; rfl

def live (N : Nat → ByteArray) (i : Nat) : List Nat := (List.range i).filter (fun t => !shad N i t)
theorem live_succ (N : Nat → ByteArray) (i : Nat) : live N (i + 1) = (live N i).filter (fun t => !eqN N i t) ++ [i] := by
  unfold live
  rw [List.range_succ, List.filter_append, List.filter_filter]
  congr 1
  · refine List.filter_congr (fun t ht => ?_)
    have ht' : t < i := List.mem_range.1 ht
    rw [shad_succ ht']
    cases shad N i t <;> cases eqN N i t <;> rfl
  · simp [shad_last]

def key (N : Nat → ByteArray) (t : Nat) : Lit := .string (N t).data.toList
theorem key_same (N : Nat → ByteArray) (t i : Nat) : (key N t).sameKey (key N i) = eqN N i t := by
  unfold key eqN
  rw [ByteArray.toList_eq, ByteArray.toList_eq]
  show ((N t).data.toList == (N i).data.toList) = _
  rw [Bool.eq_iff_iff]
  simp only [beq_iff_eq]
  exact ⟨fun h => h.symm, fun h => h.symm⟩

def entry (N : Nat → ByteArray) (SB : Nat → Nat) (t : Nat) : Lit × DataW Unit := (key N t, .lit (.int .i64 (SB t)))
def entries (N : Nat → ByteArray) (SB : Nat → Nat) (i : Nat) : List (Lit × DataW Unit) := (live N i).map (entry N SB)

theorem insert_perm' (x : Lit × DataW Unit) : ∀ l : List (Lit × DataW Unit), (DataW.insert x l).Perm (x :: l)
  | [] => List.Perm.refl _
  | y :: r => by
    unfold DataW.insert
    split
    · exact List.Perm.refl _
    · exact ((insert_perm' x r).cons y).trans (List.Perm.swap x y r)

/-- One session more: what it replaces is gone. -/
theorem perm_succ {N : Nat → ByteArray} {SB : Nat → Nat} {i : Nat} {es : List (Lit × DataW Unit)} (h : es.Perm (entries N SB i)) (sb : Nat) :
    (DataW.insert (key N i, .lit (.int .i64 sb)) (es.filter fun p => !p.1.sameKey (key N i))).Perm (entries N (fun t => if t = i then sb else SB t) (i + 1)) := by
  refine (insert_perm' _ _).trans ?_
  have h1 : (es.filter fun p => !p.1.sameKey (key N i)).Perm ((entries N SB i).filter fun p => !p.1.sameKey (key N i)) := h.filter _
  have h2 : ((entries N SB i).filter fun p => !p.1.sameKey (key N i)) = ((live N i).filter (fun t => !eqN N i t)).map (entry N SB) := by
    unfold entries
    rw [List.filter_map]
    congr 1
    refine List.filter_congr (fun t ht => ?_)
    show (!(key N t).sameKey (key N i)) = _
    rw [key_same]
  have h3 : entries N (fun t => if t = i then sb else SB t) (i + 1) = ((live N i).filter (fun t => !eqN N i t)).map (entry N SB) ++ [(key N i, .lit (.int .i64 sb))] := by
    unfold entries
    rw [live_succ, List.map_append]
    congr 1
    · refine List.map_congr_left (fun t ht => ?_)
      have ht' : t < i := List.mem_range.1 (List.mem_filter.1 (List.mem_filter.1 ht).1).1
      have e : ¬ t = i := by omega
      simp only [entry, e, if_false]
    · simp [entry]
  rw [h3, ← h2]
  exact (h1.cons _).trans (List.perm_append_singleton _ _).symm

theorem sumAll_perm (g : Nat → Nat) {l l' : List (Lit × DataW Unit)} (h : l.Perm l') : sumAll g l = sumAll g l' := by
  induction h with
  | nil => rfl
  | cons x _ ih => simp only [sumAll]; rw [ih]
  | swap x y l => simp only [sumAll]; omega
  | trans _ _ ih1 ih2 => exact ih1.trans ih2

def sumL (L : Nat → Nat) : List Nat → Nat
  | [] => 0
  | t :: r => L t + sumL L r
theorem sumL_append (L : Nat → Nat) : ∀ a b, sumL L (a ++ b) = sumL L a + sumL L b
  | [], b => by simp [sumL]
  | x :: a, b => by
    show L x + sumL L (a ++ b) = L x + sumL L a + sumL L b
    rw [sumL_append L a b]; omega
theorem sumAll_entries (g L : Nat → Nat) (N : Nat → ByteArray) (SB : Nat → Nat) (i : Nat) (h : ∀ t, t < i → g (SB t) = L t) : sumAll g (entries N SB i) = sumL L (live N i) := by
  have : ∀ l : List Nat, (∀ t ∈ l, t < i) → sumAll g (l.map (entry N SB)) = sumL L l := by
    intro l
    induction l with
    | nil => intro _; rfl
    | cons t l ih =>
      intro hl
      have ht := h t (hl t (List.mem_cons_self ..))
      have hb : blk (entry N SB t).2 = SB t := by simp [entry, blk]
      simp only [List.map_cons, sumAll, sumL]
      rw [hb, ht, ih (fun x hx => hl x (List.mem_cons_of_mem _ hx))]
  exact this (live N i) (fun t ht => List.mem_range.1 (List.mem_filter.1 ht).1)

/-- The law's own sum: over the names that no later one shadows. -/
def wsum (L : Nat → Nat) (N : Nat → ByteArray) (K : Nat) : Nat → Nat
  | 0 => 0
  | i + 1 => wsum L N K i + bif shad N K i then 0 else L i
theorem wsum_live (L : Nat → Nat) (N : Nat → ByteArray) (K : Nat) : wsum L N K K = sumL L (live N K) := by
  have : ∀ i, wsum L N K i = sumL L ((List.range i).filter (fun t => !shad N K t)) := by
    intro i
    induction i with
    | zero => rfl
    | succ i ih =>
      rw [wsum, ih, List.range_succ, List.filter_append, sumL_append]
      cases h : shad N K i <;> simp [h, sumL]
  exact this K
theorem wsum_le (L : Nat → Nat) (N : Nat → ByteArray) (K B : Nat) (i : Nat) (h : ∀ t, t < i → L t ≤ B) : wsum L N K i ≤ i * B := by
  induction i with
  | zero => simp [wsum]
  | succ i ih =>
    have h1 := ih (fun t ht => h t (by omega))
    have h2 := h i (by omega)
    rw [wsum, Nat.add_mul, Nat.one_mul]
    cases shad N K i <;> simp <;> omega
theorem sumL_live_le (L : Nat → Nat) (N : Nat → ByteArray) (K B : Nat) (h : ∀ t, t < K → L t ≤ B) : sumL L (live N K) ≤ K * B := by
  rw [← wsum_live]; exact wsum_le L N K B K h

end Go.Proofs.Qxb6630564a
