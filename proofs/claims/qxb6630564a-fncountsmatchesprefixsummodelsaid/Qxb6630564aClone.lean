import Derived.Test.Qxb6630564aRows
import Derived.WalkKit
import Derived.WalkSpells
import Derived.Below
import Derived.Deep.OwnRows
import Derived.Deep.LoopGhost
import Derived.Deep.Light
set_option linter.unusedVariables false
namespace Go.Proofs.Qxb6630564a
open Go.RowKit

theorem Try.info5 : (Try.prog.info? 5).map (fun i => (i.zero, i.size, i.bytes)) = some (some (.int .u8 0), 1, 1) := by kernel_rfl
theorem Try.info30 : (Try.prog.info? 30).map (fun i => (i.zero, i.size, i.bytes)) = some (some (.agg #[.int .u64 0, .int .u64 0]), 2, 16) := by kernel_rfl

/-- What a copy of a row of numbers is: n elements of q cells each at the head of a block, told by f; nothing old has turned. -/
def Cloned (k : IntKind) (n q : Nat) (f : Nat → Int) (w : World) (e : Ending) (w' : World) : Prop :=
  ∃ (a' : Option Addr) (b' : Nat), e = .returned (.slice a' n n) ∧ Below w.heap.size w w' ∧ (0 < n → a' = some ⟨b', 0, none⟩ ∧ w.heap.size ≤ b') ∧ (∀ i, i < n * q → w'.cell? ⟨b', i, none⟩ = some (.int k (f i))) ∧ ∀ i, i < n * q → w'.frozen? ⟨b', i, none⟩ = false

theorem row_step {wr : World} {b : Nat} {t : TypeId} {n : Nat} {k : IntKind} {f : Nat → Int} {q : Nat} (hR : wr.rowIs b t n (fun j => if j < q then .int k (f j) else .int k 0)) :
    (wr.setCell ⟨b, q, none⟩ (.int k (f q))).rowIs b t n (fun j => if j < q + 1 then .int k (f j) else .int k 0) := (hR.set q _).congr (fun j hj => by
  by_cases e : j = q
  · subst e; simp
  · rw [if_neg e]
    by_cases hl : j < q
    · rw [if_pos hl, if_pos (by omega)]
    · rw [if_neg hl, if_neg (by omega)])

theorem cloneBytes_any (a : Option Addr) (b o n c : Nat) (f : Nat → Int) (w : World) (hn : n ≤ 1048576) (ha : 0 < n → a = some ⟨b, o, none⟩) (hz : a = none → n = 0) (hc : ∀ i, i < n → w.cell? ⟨b, o + i, none⟩ = some (.int .u8 (f i))) :
    Calls Try.prog 9 #[.slice a n c] w (Cloned .u8 n 1 f w) := by
  have q28 : ∀ (w : World) (a : Option Addr) (n c n' c' : Nat), (binOp .eql 28 (.slice a n c) (.slice none n' c')).run Try.prog w = .ok (.bool a.isNone) w := fun w a n c n' c' => Lib.run_eql_slice_nil w _ _ a n c n' c' Try.underlying28
  cases a with
  | none =>
    obtain rfl := hz rfl
    go_enter Try.func9, Try.ntmps9
    go_wp2
    go_ret
    exact ⟨none, 0, rfl, Below.refl _ _, fun h => absurd h (by omega), fun i hi => absurd hi (by omega), fun i hi => absurd hi (by omega)⟩
  | some x =>
    have hmk := run_make_row' (P := Try.prog) 28 5 (.int .u8 0) 1 Try.underlying28 Try.info5 rfl .i64 .i64 n (by omega) (by omega)
    go_enter Try.func9, Try.ntmps9
    go_wp2
    clear hmk q28
    go_loopg [4] n (fun k i wr => ∃ q : Nat, q ≤ n ∧ k = n - q ∧ i = .int .i64 q ∧ Below w.heap.size w wr ∧ wr.rowIs w.heap.size 5 n (fun j => if j < q then .int .u8 (f j) else .int .u8 0))
    case atStart => exact ⟨0, Nat.zero_le _, rfl, rfl, (Below.refl _ _).alloc (Nat.le_refl _) _, (World.rowIs_made w (.int .u8 0) n 5).congr (fun j _ => by simp)⟩
    case round =>
      obtain ⟨q, hq, rfl, rfl, hB, hR⟩ := hrel
      by_cases hlt : q < n
      · obtain ⟨rfl⟩ := ha (by omega)
        have hcx : wr.cell? ⟨b, o + q, none⟩ = some (.int .u8 (f q)) := by
          rw [hB.cell (p := ⟨b, o + q, none⟩) (World.block_lt_of_cell? _ _ (hc q hlt))]; exact hc q hlt
        have hcy : wr.cell? ⟨w.heap.size, q, none⟩ = some (.int .u8 0) := by simpa using hR.cell hlt
        have hcf : wr.frozen? ⟨w.heap.size, q, none⟩ = false := hR.frozen q
        have hlz : (q : Int) < (n : Int) := by omega
        go_wp2
        go_roundg (n - (q + 1))
        case measure => go_light; omega
        case rel =>
          go_light
          exact ⟨q + 1, by omega, rfl, by go_num, hB.setCell (Nat.le_refl _) _, row_step hR⟩
      · go_wp2
        go_ret
        exact ⟨_, w.heap.size, rfl, hB, fun _ => ⟨rfl, Nat.le_refl _⟩, fun i hi => by rw [hR.cell (by omega)]; simp; omega, fun i _ => hR.frozen i⟩

theorem rowIs_made2 (w : World) (z : Value) (n : Nat) (t : TypeId) : (w.alloc (.cells (madeCells #[z, z] n) t)).rowIs w.heap.size t n (fun _ => z) :=
  ⟨_, Deep.blk_alloc_new _ _, size_madeCells _ _, fun i hi => by
    have h : i % 2 < 2 := Nat.mod_lt _ (by omega)
    have h2 : i % 2 = 0 ∨ i % 2 = 1 := by omega
    rcases h2 with h2 | h2 <;> simp [madeCells, hi, h2]⟩

theorem cloneSpans_any (a : Option Addr) (b o n c : Nat) (f : Nat → Int) (w : World) (hn : n ≤ 1048576) (ha : 0 < n → a = some ⟨b, o, none⟩) (hz : a = none → n = 0) (hc : ∀ i, i < n * 2 → w.cell? ⟨b, o + i, none⟩ = some (.int .u64 (f i))) :
    Calls Try.prog 8 #[.slice a n c] w (Cloned .u64 n 2 f w) := by
  have q27 : ∀ (w : World) (a : Option Addr) (n c n' c' : Nat), (binOp .eql 27 (.slice a n c) (.slice none n' c')).run Try.prog w = .ok (.bool a.isNone) w := fun w a n c n' c' => Lib.run_eql_slice_nil w _ _ a n c n' c' Try.underlying27
  cases a with
  | none =>
    obtain rfl := hz rfl
    go_enter Try.func8, Try.ntmps8
    go_wp2
    go_ret
    exact ⟨none, 0, rfl, Below.refl _ _, fun h => absurd h (by omega), fun i hi => absurd hi (by omega), fun i hi => absurd hi (by omega)⟩
  | some x =>
    obtain ⟨i0, hi, hzz⟩ := Option.map_eq_some_iff.1 Try.info30
    simp only [Prod.mk.injEq] at hzz
    obtain ⟨hz0, hs0, hb0⟩ := hzz
    have hmk : ∀ w, (Instr.makeSlice 27 (.int .i64 (n : Int)) (.int .i64 (n : Int))).run Try.prog w = .ok (.slice (some ⟨w.heap.size, 0, none⟩) n n) (w.alloc (.cells (madeCells #[.int .u64 0, .int .u64 0] (n * 2)) 30)) := fun w => by
      have hr := run_make (P := Try.prog) w 27 30 i0 _ Try.underlying27 hi hz0 .i64 .i64 n n (by omega) (Int.le_refl _) (by rw [hb0]; omega) (by omega)
      simp only [Int.toNat_natCast, hs0] at hr
      exact hr
    clear hi hz0 hs0 hb0
    go_enter Try.func8, Try.ntmps8
    go_wp2
    clear hmk q27
    go_loopg [4] n (fun k i wr => ∃ q : Nat, q ≤ n ∧ k = n - q ∧ i = .int .i64 q ∧ Below w.heap.size w wr ∧ wr.rowIs w.heap.size 30 (n * 2) (fun j => if j < q * 2 then .int .u64 (f j) else .int .u64 0))
    case atStart => exact ⟨0, Nat.zero_le _, rfl, rfl, (Below.refl _ _).alloc (Nat.le_refl _) _, (rowIs_made2 w (.int .u64 0) (n * 2) 30).congr (fun j _ => by simp)⟩
    case round =>
      obtain ⟨q, hq, rfl, rfl, hB, hR⟩ := hrel
      by_cases hlt : q < n
      · obtain ⟨rfl⟩ := ha (by omega)
        have hlz : (q : Int) < (n : Int) := by omega
        have hcx : wr.cell? ⟨b, o + q * 2, none⟩ = some (.int .u64 (f (q * 2))) := by
          rw [hB.cell (p := ⟨b, o + q * 2, none⟩) (World.block_lt_of_cell? _ _ (hc (q * 2) (by omega)))]; exact hc _ (by omega)
        have hcx' : wr.cell? ⟨b, o + q * 2 + 1, none⟩ = some (.int .u64 (f (q * 2 + 1))) := by
          rw [hB.cell (p := ⟨b, o + q * 2 + 1, none⟩) (World.block_lt_of_cell? _ _ (hc (q * 2 + 1) (by omega)))]; exact hc (q * 2 + 1) (by omega)
        have hcy : wr.cell? ⟨w.heap.size, q * 2, none⟩ = some (.int .u64 0) := by simpa using hR.cell (i := q * 2) (by omega)
        have hcf : wr.frozen? ⟨w.heap.size, q * 2, none⟩ = false := hR.frozen _
        have hcy' : wr.cell? ⟨w.heap.size, q * 2 + 1, none⟩ = some (.int .u64 0) := by
          rw [hR.cell (i := q * 2 + 1) (by omega), if_neg (by omega)]
        have hcf' : wr.frozen? ⟨w.heap.size, q * 2 + 1, none⟩ = false := hR.frozen _
        go_wp2
        go_roundg (n - (q + 1))
        case measure => go_light; omega
        case rel =>
          go_light
          have e2 : (q + 1) * 2 = q * 2 + 1 + 1 := by omega
          refine ⟨q + 1, by omega, rfl, by go_num, (hB.setCell (Nat.le_refl _) _).setCell (Nat.le_refl _) _, ?_⟩
          rw [e2]
          exact row_step (row_step hR)
      · go_wp2
        go_ret
        exact ⟨_, w.heap.size, rfl, hB, fun _ => ⟨rfl, Nat.le_refl _⟩, fun i hi => by rw [hR.cell (by omega)]; simp; omega, fun i _ => hR.frozen i⟩

end Go.Proofs.Qxb6630564a
