import Derived.Test.Qxb6630522aStops
set_option linter.unusedVariables false
namespace Go.Proofs.Qxb6630522a
open Go.RowKit

/-- The data with x put in at p. -/
def ins (f : Nat → Int) (p : Nat) (x : Int) : Nat → Int := fun i => if i < p then f i else if i = p then x else f (i - 1)
theorem ins_lt (f : Nat → Int) (p : Nat) (x : Int) {i : Nat} (h : i < p) : ins f p x i = f i := by simp [ins, h]
theorem ins_at (f : Nat → Int) (p : Nat) (x : Int) : ins f p x p = x := by simp [ins]
theorem ins_gt (f : Nat → Int) (p : Nat) (x : Int) {i : Nat} (h : p ≤ i) : ins f p x (i + 1) = f i := by
  have h1 : ¬ i + 1 < p := by omega
  have h2 : ¬ i + 1 = p := by omega
  simp [ins, h1, h2]

/-- q cells of the new row (block N, m cells) are filled. -/
structure Fill (w1 : World) (m : Nat) (g : Nat → Int) (q : Nat) (wr : World) : Prop where
  below : Below w1.heap.size w1 wr
  row : wr.rowIs w1.heap.size 5 m (fun j => if j < q then .int .u8 (g j) else .int .u8 0)

theorem fill_start (w1 : World) (m : Nat) (g : Nat → Int) : Fill w1 m g 0 (w1.alloc (.cells (madeCells #[.int .u8 0] m) 5)) :=
  ⟨(Below.refl _ _).alloc (Nat.le_refl _) _, (World.rowIs_made w1 (.int .u8 0) m 5).congr (fun j _ => by simp)⟩

theorem fill_step {w1 : World} {m : Nat} {g : Nat → Int} {q : Nat} {wr : World} (h : Fill w1 m g q wr) {x : Int} (hx : x = g q) : Fill w1 m g (q + 1) (wr.setCell ⟨w1.heap.size, q, none⟩ (.int .u8 x)) := by
  subst hx
  refine ⟨h.below.setCell (Nat.le_refl _) _, (h.row.set q _).congr (fun j hj => ?_)⟩
  by_cases e : j = q
  · subst e; simp
  · rw [if_neg e]
    by_cases hl : j < q
    · rw [if_pos hl, if_pos (by omega)]
    · rw [if_neg hl, if_neg (by omega)]

theorem fill_cell {w1 : World} {m : Nat} {g : Nat → Int} {q : Nat} {wr : World} (h : Fill w1 m g q wr) (hq : q < m) : wr.cell? ⟨w1.heap.size, q, none⟩ = some (.int .u8 0) := by simpa using h.row.cell hq
theorem fill_done {w1 : World} {m : Nat} {g : Nat → Int} {wr : World} (h : Fill w1 m g m wr) (i : Nat) (hi : i < m) : wr.cell? ⟨w1.heap.size, i, none⟩ = some (.int .u8 (g i)) := by
  rw [h.row.cell hi, if_pos hi]

set_option maxHeartbeats 1000000 in
theorem skips_core (a : Option Addr) (b o n c : Nat) (f : Nat → Int) (p : Nat) (x : Int) (w : World) (hn : n ≤ 1048576) (hp : p ≤ n) (hx : sep x = true) (ha : 0 < n → a = some ⟨b, o, none⟩) (hz : a = none → n = 0) (hc : ∀ i, i < n → w.cell? ⟨b, o + i, none⟩ = some (.int .u8 (f i))) :
    Calls Try.prog 4 #[.slice a n c, .int .i64 p, .int .u8 x] w fun e w' => e = .returned (.bool true) ∧ Below w.heap.size w w' := by
  go_enter Try.func4, Try.ntmps4
  go_wp2_with (first | (go_at_call 12; go_in) | (go_at_call 10; refine (isSep_any _ _).mono ?_; rintro e w' ⟨rfl, hw⟩; obtain rfl := hw.symm; clear hw))
  refine (clone_any a b o n c f _ hn ha hz hc).mono ?_
  rintro e w1 ⟨a', b', rfl, hB1, ha', hd'⟩
  clear hc ha hz
  have hmk := run_make_row' (P := Try.prog) 22 5 (.int .u8 0) 1 Try.underlying22 Try.info5 rfl .i64 .i64 (n + 1) (by omega) (by omega)
  have ec : ((n + 1 : Nat) : Int) = (n : Int) + 1 := by omega
  rw [ec] at hmk
  clear ec
  go_wp2_with fail
  clear hmk
  have hN := hB1.size
  have hlt1 : 0 < n → b' < w1.heap.size := fun h => World.block_lt_of_cell? _ _ (hd' 0 h)
  go_loopg [8] p (fun k i wr => ∃ q : Nat, q ≤ p ∧ k = p - q ∧ i = .int .i64 q ∧ Fill w1 (n + 1) (ins f p x) q wr)
  case atStart => exact ⟨0, Nat.zero_le _, rfl, rfl, fill_start w1 (n + 1) _⟩
  case round =>
    obtain ⟨q, hq, rfl, rfl, hF⟩ := hrel
    by_cases hlt : q < p
    · obtain rfl := ha' (by omega)
      have hcx : wr.cell? ⟨b', q, none⟩ = some (.int .u8 (f q)) := by
        rw [hF.below.cell (p := ⟨b', q, none⟩) (hlt1 (by omega))]; exact hd' q (by omega)
      have hcy := fill_cell hF (by omega)
      have hcf := hF.row.frozen q
      have hlz : (q : Int) < (n : Int) := by omega
      have hlz2 : (q : Int) < (n : Int) + 1 := by omega
      go_wp2
      go_roundg (p - (q + 1))
      case measure => go_light; omega
      case rel => go_light; exact ⟨q + 1, by omega, rfl, by go_num, fill_step hF (ins_lt f p x hlt).symm⟩
    · obtain rfl : q = p := by omega
      have hcy := fill_cell hF (by omega)
      have hcf := hF.row.frozen q
      have hlz2 : (q : Int) < (n : Int) + 1 := by omega
      go_wp2_with fail
      have hF2 := fill_step hF (ins_at f q x).symm
      clear hF hcy hcf
      go_loopg [9] (n - q) (fun k i wr => ∃ j : Nat, q ≤ j ∧ j ≤ n ∧ k = n - j ∧ i = .int .i64 j ∧ Fill w1 (n + 1) (ins f q x) (j + 1) wr)
      case atStart => exact ⟨q, Nat.le_refl _, hp, rfl, rfl, hF2⟩
      case round =>
        obtain ⟨j, hj1, hj2, rfl, rfl, hF⟩ := hrel
        clear hF2
        by_cases hjn : j < n
        · obtain rfl := ha' (by omega)
          have hcx : wr.cell? ⟨b', j, none⟩ = some (.int .u8 (f j)) := by
            rw [hF.below.cell (p := ⟨b', j, none⟩) (hlt1 (by omega))]; exact hd' j (by omega)
          have hcy := fill_cell hF (by omega)
          have hcf := hF.row.frozen (j + 1)
          have hlz : (j : Int) < (n : Int) := by omega
          have hlz2 : (j : Int) + 1 < (n : Int) + 1 := by omega
          go_wp2
          go_roundg (n - (j + 1))
          case measure => go_light; omega
          case rel => go_light; exact ⟨j + 1, by omega, by omega, rfl, by go_num, fill_step hF (ins_gt f q x hj1).symm⟩
        · obtain rfl : j = n := by omega
          clear hj1 hj2
          go_wp2_with (go_at_call 7; go_in)
          have hB4 : Below w.heap.size w wr := hB1.trans (hF.below.mono hN)
          have hN4 := hB4.size
          have hrow := hF.row.lt
          have hd4 : ∀ i, i < j → wr.cell? ⟨b', i, none⟩ = some (.int .u8 (f i)) := fun i hi => by
            rw [hF.below.cell (p := ⟨b', i, none⟩) (hlt1 (by omega))]; exact hd' i hi
          have hi4 := fill_done hF
          have hlt4 : 0 < j → b' < wr.heap.size := fun h => World.block_lt_of_cell? _ _ (hd4 0 h)
          clear hd' hF hB1 hlt1
          obtain ⟨N, hNe⟩ : ∃ N, N = w1.heap.size := ⟨_, rfl⟩
          rw [← hNe] at hrow hi4 ⊢
          have hNw : w.heap.size ≤ N := by omega
          clear hNe hN
          have hd5 : ∀ o i, i < j → (wr.alloc o).cell? ⟨b', i, none⟩ = some (.int .u8 (f i)) := fun o i hi => by
            rw [World.cell?_alloc_old _ _ _ (by show b' ≠ wr.heap.size; have := hlt4 (by omega); omega)]; exact hd4 i hi
          have hi5 : ∀ o i, i < j + 1 → (wr.alloc o).cell? ⟨N, i, none⟩ = some (.int .u8 (ins f q x i)) := fun o i hi => by
            rw [World.cell?_alloc_old _ _ _ (by show N ≠ wr.heap.size; omega)]; exact hi4 i hi
          have hB5 : Below w.heap.size w (wr.alloc (.cells #[.slice a' j j, .int .i64 q] 32)) := hB4.alloc hN4 _
          refine (atEnd_any wr.heap.size a' b' j q f _ (by omega) hp ha' (fun h => by have := hlt4 h; omega) (rd_new wr a' j q) (hd5 _)).mono ?_
          rintro e w6 ⟨rfl, hO6, hR6⟩
          have hB6 := hB5.trans (hO6.below hN4)
          have hs6 : w6.heap.size = wr.heap.size + 1 := by rw [hO6.size]; simp
          have hd6 : ∀ i, i < j → w6.cell? ⟨b', i, none⟩ = some (.int .u8 (f i)) := fun i hi => by
            rw [hO6.cell (p := ⟨b', i, none⟩) (by show b' ≠ wr.heap.size; have := hlt4 (by omega); omega)]; exact hd5 _ i hi
          have hi6 : ∀ i, i < j + 1 → w6.cell? ⟨N, i, none⟩ = some (.int .u8 (ins f q x i)) := fun i hi => by
            rw [hO6.cell (p := ⟨N, i, none⟩) (by show N ≠ wr.heap.size; omega)]; exact hi5 _ i hi
          have c6 : w6.cell? ⟨wr.heap.size, 1, none⟩ = some (.int .i64 (stop f j q)) := hR6.cell (i := 1) (by omega)
          clear hd5 hi5 hB5 hO6 hR6 hd4 hi4
          go_wp2_with (first | (go_at_call 9; go_in) | (go_at_call 7; go_in))
          have hnew := rd_new w6 (some ⟨N, 0, none⟩) (j + 1) q
          have hd7 : ∀ o i, i < j → (w6.alloc o).cell? ⟨b', i, none⟩ = some (.int .u8 (f i)) := fun o i hi => by
            rw [World.cell?_alloc_old _ _ _ (by show b' ≠ w6.heap.size; have := hlt4 (by omega); omega)]; exact hd6 i hi
          have hi7 : ∀ o i, i < j + 1 → (w6.alloc o).cell? ⟨N, i, none⟩ = some (.int .u8 (ins f q x i)) := fun o i hi => by
            rw [World.cell?_alloc_old _ _ _ (by show N ≠ w6.heap.size; omega)]; exact hi6 i hi
          have hB7 : Below w.heap.size w (w6.alloc (.cells #[.slice (some ⟨N, 0, none⟩) (j + 1) (j + 1), .int .i64 q] 32)) := hB6.alloc hB6.size _
          rw [hs6] at hnew
          refine (atEnd_any (wr.heap.size + 1) (some ⟨N, 0, none⟩) N (j + 1) q (ins f q x) _ (by omega) (by omega) (fun _ => rfl) (fun _ => by omega) hnew (hi7 _)).mono ?_
          rintro e w8 ⟨he, hO8, hR8⟩
          have hsx : sep (ins f q x q) = true := by rw [ins_at]; exact hx
          have hgt : ∀ i, q ≤ i → i < j → ins f q x (i + 1) = f i := fun i h1 _ => ins_gt f q x h1
          rw [ended_more f (ins f q x) j q hp hsx hgt] at he
          rw [stop_more f (ins f q x) j q hp hsx hgt] at hR8
          subst he
          have hB8 := hB7.trans (hO8.below (by omega))
          have hd8 : ∀ i, i < j → w8.cell? ⟨b', i, none⟩ = some (.int .u8 (f i)) := fun i hi => by
            rw [hO8.cell (p := ⟨b', i, none⟩) (by show b' ≠ wr.heap.size + 1; have := hlt4 (by omega); omega)]; exact hd7 _ i hi
          have c8 : w8.cell? ⟨wr.heap.size + 1, 1, none⟩ = some (.int .i64 ((stop f j q : Nat) + 1)) := hR8.cell (i := 1) (by omega)
          have s1 := stop_ge f j q
          have s2 := stop_le f j q hp
          have d1 : decide (stop f j q < q) = false := decide_eq_false (by omega)
          have d2 : decide (j < stop f j q) = false := decide_eq_false (by omega)
          clear hd7 hi7 hB7 hO8 hR8 hnew hd6 hi6 c6 hB6 hgt hsx
          by_cases hl : stop f j q < j
          · have he : ended f j q = closer (f (stop f j q)) := by unfold ended; rw [decide_eq_true hl]; rfl
            have hcx := hd8 _ hl
            have hlz : ((stop f j q : Nat) : Int) < (j : Int) := by omega
            obtain rfl := ha' (by omega)
            go_wp2_with (first | (go_at_call 9; go_in) | (go_at_call 11; refine (isCloser_any _ _).mono ?_; rintro e w' ⟨rfl, rfl⟩))
            go_ret
            exact ⟨by simp, hB8⟩
          · have he : ended f j q = false := by unfold ended; rw [decide_eq_false hl]; rfl
            go_wp2
            go_ret
            exact ⟨by simp, hB8⟩
end Go.Proofs.Qxb6630522a
