import Derived.Test.Qxb6630522aWalks
set_option linter.unusedVariables false
namespace Go.Proofs.Qxb6630522a
open Go.RowKit

theorem rd_new (w : World) (a : Option Addr) (n p : Nat) : (w.alloc (.cells #[.slice a n n, .int .i64 p] 32)).rowIs w.heap.size 32 2 (rd a n p) :=
  World.rowIs_alloc w #[.slice a n n, .int .i64 p] 32 (rd a n p) (fun i hi => by
    match i, hi with
    | 0, _ => rfl
    | 1, _ => rfl)

theorem stops_core (a : Option Addr) (b o n c : Nat) (f : Nat → Int) (p : Nat) (w : World) (hn : n ≤ 1048576) (hp : p ≤ n) (ha : 0 < n → a = some ⟨b, o, none⟩) (hz : a = none → n = 0) (hc : ∀ i, i < n → w.cell? ⟨b, o + i, none⟩ = some (.int .u8 (f i))) :
    Calls Try.prog 3 #[.slice a n c, .int .i64 p] w fun e w' => e = .returned (.bool true) ∧ Below w.heap.size w w' := by
  go_enter Try.func3, Try.ntmps3
  go_wp2_with (go_at_call 5; go_in)
  refine (clone_any a b o n c f _ hn ha hz hc).mono ?_
  rintro e w1 ⟨a', b', rfl, hB1, ha', hd'⟩
  clear hc ha hz
  go_wp2_with (go_at_call 7; go_in)
  have hN := hB1.size
  have hlt1 : 0 < n → b' < w1.heap.size := fun h => World.block_lt_of_cell? _ _ (hd' 0 h)
  have hd2 : ∀ o i, i < n → (w1.alloc o).cell? ⟨b', i, none⟩ = some (.int .u8 (f i)) := fun o i hi => by
    rw [World.cell?_alloc_old _ _ _ (by show b' ≠ w1.heap.size; have := hlt1 (by omega); omega)]; exact hd' i hi
  have hB2 : Below w.heap.size w (w1.alloc (.cells #[.slice a' n n, .int .i64 p] 32)) := hB1.alloc hN _
  refine (atEnd_any w1.heap.size a' b' n p f _ (by omega) hp ha' (fun h => by have := hlt1 h; omega) (rd_new w1 a' n p) (hd2 _)).mono ?_
  rintro e w3 ⟨rfl, hO3, hR3⟩
  have hB3 := hB2.trans (hO3.below hN)
  have hd3 : ∀ i, i < n → w3.cell? ⟨b', i, none⟩ = some (.int .u8 (f i)) := fun i hi => by
    rw [hO3.cell (p := ⟨b', i, none⟩) (by show b' ≠ w1.heap.size; have := hlt1 (by omega); omega)]; exact hd2 _ i hi
  have c1 : w3.cell? ⟨w1.heap.size, 1, none⟩ = some (.int .i64 (stop f n p)) := hR3.cell (i := 1) (by omega)
  have s1 := stop_ge f n p
  have s2 := stop_le f n p hp
  have d1 : decide (stop f n p < p) = false := decide_eq_false (by omega)
  have d2 : decide (n < stop f n p) = false := decide_eq_false (by omega)
  clear hd' hd2 hB2 hO3
  go_wp2_with (go_at_call 9; go_in)
  have again : Aside (∀ (Q : Ending → World → Prop), (∀ w4, Below w.heap.size w w4 → w4.cell? ⟨w1.heap.size, 1, none⟩ = some (.int .i64 (stop f n p)) → Q (.returned (.bool (ended f n p))) w4) → Calls Try.prog 8 #[.pointer (some ⟨w1.heap.size, 0, none⟩)] w3 Q) := fun Q hQ => by
    refine (atEnd_any w1.heap.size a' b' n (stop f n p) f w3 (by omega) s2 ha' (fun h => by have := hlt1 h; omega) hR3 hd3).mono ?_
    rintro e w4 ⟨he, hO4, hR4⟩
    rw [ended_again f n p hp] at he
    rw [stop_again f n p hp] at hR4
    subst he
    exact hQ w4 (hB3.trans (hO4.below hN)) (hR4.cell (i := 1) (by omega))
  clear hB3 hR3 c1 hlt1 hN hB1 d1 d2
  go_loopg [8] (stop f n p - p) (fun k i wx => wx = w3 ∧ ∃ q : Nat, p ≤ q ∧ q ≤ stop f n p ∧ k = stop f n p - q ∧ i = .int .i64 q)
  case atStart => exact ⟨rfl, p, Nat.le_refl _, s1, rfl, rfl⟩
  case round =>
    obtain ⟨rfl, q, hq1, hq2, rfl, rfl⟩ := hrel
    by_cases hlt : q < stop f n p
    · obtain rfl := ha' (by omega)
      have hs := stop_seps f n p q hq1 hlt
      have hcx := hd3 q (by omega)
      have hlz : (q : Int) < (n : Int) := by omega
      go_wp2_with (go_at_call 10; refine (isSep_any _ _).mono ?_; rintro e w' ⟨rfl, rfl⟩)
      go_roundg (stop f n p - (q + 1))
      case measure => go_light; omega
      case rel => go_light; exact ⟨rfl, q + 1, by omega, by omega, rfl, by go_num⟩
    · clear hq1 hq2
      by_cases hl : stop f n p < n
      · have hs := stop_stops f n p hl
        have he : ended f n p = closer (f (stop f n p)) := by unfold ended; rw [decide_eq_true hl]; rfl
        have hcx := hd3 _ hl
        have hlz : ((stop f n p : Nat) : Int) < (n : Int) := by omega
        obtain rfl := ha' (by omega)
        go_wp2_with (first | (go_at_call 10; refine (isSep_any _ _).mono ?_; rintro e w' ⟨rfl, rfl⟩) | (go_at_call 11; refine (isCloser_any _ _).mono ?_; rintro e w' ⟨rfl, rfl⟩))
        refine again.out _ ?_
        intro w4 hB4 c4
        go_wp2
        go_ret
        exact ⟨rfl, hB4⟩
      · have he : ended f n p = false := by unfold ended; rw [decide_eq_false hl]; rfl
        go_wp2_with fail
        refine again.out _ ?_
        intro w4 hB4 c4
        go_wp2
        go_ret
        exact ⟨rfl, hB4⟩
end Go.Proofs.Qxb6630522a
