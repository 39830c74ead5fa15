/-
  ZZnewRoutes WALKED.
-/
import Derived.Test.Qxb6625825aHas
import Derived.Deep.Light
import Derived.Deep.OwnRows
import Derived.Deep.LoopGhost
import Derived.Deep.CutRange
set_option linter.unusedVariables false
namespace Go.Proofs.Qxb6625825a
open Go.RowKit

theorem Try.info37 : (Try.prog.info? 37).map (fun i => (i.zero, i.size, i.bytes)) = some (some (.agg #[.int .u64 0, .int .u64 0]), 2, 16) := by kernel_rfl

noncomputable def z43 : Array Value :=
  match Try.prog.info? 43 with
  | some i => (match i.zero with | some (.agg z) => z | _ => #[])
  | none => #[]
theorem Try.info43 : (Try.prog.info? 43).map (fun i => (i.zero, i.size)) = some (some (.agg z43), 330) := by kernel_rfl
theorem z43_size : z43.size = 330 := by kernel_rfl
theorem zero43 (w : World) : (zeroValue 43).run Try.prog w = .ok (.agg z43) w := by
  obtain ⟨i, hi, hz⟩ := Option.map_eq_some_iff.1 Try.info43
  simp only [Prod.mk.injEq] at hz
  simp [zeroValue, typeInfo, hi, hz.1]
theorem zero43_ex : ∃ z : Array Value, z.size = 330 ∧ z ≠ #[] ∧ ∀ w : World, (zeroValue 43).run Try.prog w = .ok (.agg z) w :=
  ⟨z43, z43_size, fun h => by have := z43_size; rw [h] at this; simp at this, zero43⟩

theorem row_step {wr : World} {b : Nat} {t : TypeId} {n : Nat} {k : IntKind} {f : Nat → Int} {q : Nat} (hR : wr.rowIs b t n (fun j => if j < q then .int k (f j) else .int k 0)) :
    (wr.setCell ⟨b, q, none⟩ (.int k (f q))).rowIs b t n (fun j => if j < q + 1 then .int k (f j) else .int k 0) := (hR.set q _).congr (fun j hj => by
  by_cases e : j = q
  · subst e; simp
  · rw [if_neg e]
    by_cases hl : j < q
    · rw [if_pos hl, if_pos (by omega)]
    · rw [if_neg hl, if_neg (by omega)])

theorem rowIs_made2 (w : World) (z : Value) (n : Nat) (t : TypeId) : (w.alloc (.cells (madeCells #[z, z] n) t)).rowIs w.heap.size t n (fun _ => z) :=
  ⟨_, Deep.blk_alloc_new _ _, size_madeCells _ _, fun i hi => by
    have h : i % 2 < 2 := Nat.mod_lt _ (by omega)
    have h2 : i % 2 = 0 ∨ i % 2 = 1 := by omega
    rcases h2 with h2 | h2 <;> simp [madeCells, hi, h2]⟩

/-- Two columns laid as pairs. -/
def pair (A B : Nat → Int) (j : Nat) : Int := if j % 2 = 0 then A (j / 2) else B (j / 2)
theorem pair0 (A B : Nat → Int) (q : Nat) : pair A B (q * 2) = A q := by unfold pair; rw [if_pos (by omega), show q * 2 / 2 = q by omega]
theorem pair1 (A B : Nat → Int) (q : Nat) : pair A B (q * 2 + 1) = B q := by unfold pair; rw [if_neg (by omega), show (q * 2 + 1) / 2 = q by omega]

theorem pair_step {wr : World} {b : Nat} {t : TypeId} {n : Nat} {A B : Nat → Int} {q : Nat} (hR : wr.rowIs b t n (fun j => if j < q * 2 then .int .u64 (pair A B j) else .int .u64 0)) :
    ((wr.setCell ⟨b, q * 2, none⟩ (.int .u64 (A q))).setCell ⟨b, q * 2 + 1, none⟩ (.int .u64 (B q))).rowIs b t n (fun j => if j < q * 2 + 1 + 1 then .int .u64 (pair A B j) else .int .u64 0) := by
  have s := row_step (row_step hR)
  rw [pair0, pair1] at s
  exact s

/-- A slice's elements in memory. -/
def Col (w : World) (b o n : Nat) (A : Nat → Int) : Prop := ∀ i, i < n → w.cell? ⟨b, o + i, none⟩ = some (.int .u64 (A i))

/-- What ZZnewRoutes hands back. -/
def Routes (n : Nat) (A B C D : Nat → Int) (rc : Int) (w : World) (e : Ending) (w' : World) : Prop :=
  ∃ b rb mb : Nat, e = .returned (.pointer (some ⟨b, 0, none⟩)) ∧ Below w.heap.size w w' ∧ w'.cell? ⟨b, 326, none⟩ = some (.slice (some ⟨rb, 0, none⟩) n n) ∧ w'.cell? ⟨b, 325, none⟩ = some (.slice (some ⟨mb, 0, none⟩) n n) ∧ w'.cell? ⟨b, 327, none⟩ = some (.int .u64 rc)
    ∧ (∀ i, i < n * 2 → w'.cell? ⟨rb, i, none⟩ = some (.int .u64 (pair A B i))) ∧ (∀ i, i < n * 2 → w'.cell? ⟨mb, i, none⟩ = some (.int .u64 (pair C D i)))

set_option maxRecDepth 100000 in
set_option maxHeartbeats 3200000 in
theorem routes_core (ba oa bb ob bc oc bd od n ca cb cc cd : Nat) (A B C D : Nat → Int) (rc : Int) (w : World) (h0 : 0 < n) (hn : n ≤ 4096) (hA : Col w ba oa n A) (hB : Col w bb ob n B) (hC : Col w bc oc n C) (hD : Col w bd od n D) :
    Calls Try.prog 7 #[.slice (some ⟨ba, oa, none⟩) n ca, .slice (some ⟨bb, ob, none⟩) n cb, .slice (some ⟨bc, oc, none⟩) n cc, .slice (some ⟨bd, od, none⟩) n cd, .int .u64 rc] w (Routes n A B C D rc w) := by
  obtain ⟨i0, hi, hzz⟩ := Option.map_eq_some_iff.1 Try.info37
  simp only [Prod.mk.injEq] at hzz
  obtain ⟨hz0, hs0, hb0⟩ := hzz
  have hmk : ∀ w, (Instr.makeSlice 35 (.int .i64 (n : Int)) (.int .i64 (n : Int))).run Try.prog w = .ok (.slice (some ⟨w.heap.size, 0, none⟩) n n) (w.alloc (.cells (madeCells #[.int .u64 0, .int .u64 0] (n * 2)) 37)) := fun w => by
    have hr := run_make (P := Try.prog) w 35 37 i0 _ Try.underlying35 hi hz0 .i64 .i64 n n (by omega) (Int.le_refl _) (by rw [hb0]; omega) (by omega)
    simp only [Int.toNat_natCast, hs0] at hr
    exact hr
  clear hi hz0 hs0 hb0
  obtain ⟨z, zs, zne, hz⟩ := zero43_ex
  have la : ba < w.heap.size := World.block_lt_of_cell? _ _ (hA 0 h0)
  have lb : bb < w.heap.size := World.block_lt_of_cell? _ _ (hB 0 h0)
  have lc : bc < w.heap.size := World.block_lt_of_cell? _ _ (hC 0 h0)
  have ld : bd < w.heap.size := World.block_lt_of_cell? _ _ (hD 0 h0)
  go_enter Try.func7, Try.ntmps7
  go_wp2
  clear hmk
  go_loopg [14] n (fun k i wr => ∃ q : Nat, q ≤ n ∧ k = n - q ∧ i = .int .i64 q ∧ Below w.heap.size w wr ∧ wr.rowIs w.heap.size 37 (n * 2) (fun j => if j < q * 2 then .int .u64 (pair A B j) else .int .u64 0) ∧ wr.rowIs (w.heap.size + 1) 37 (n * 2) (fun j => if j < q * 2 then .int .u64 (pair C D j) else .int .u64 0))
  case atStart =>
    refine ⟨0, Nat.zero_le _, rfl, rfl, ((Below.refl _ _).alloc (Nat.le_refl _) _).alloc (by simp) _, ?_, ?_⟩
    · exact ((rowIs_made2 w (.int .u64 0) (n * 2) 37).alloc _).congr (fun j _ => by simp)
    · have := rowIs_made2 (w.alloc (.cells (madeCells #[.int .u64 0, .int .u64 0] (n * 2)) 37)) (.int .u64 0) (n * 2) 37
      rw [show (w.alloc (.cells (madeCells #[.int .u64 0, .int .u64 0] (n * 2)) 37)).heap.size = w.heap.size + 1 by simp] at this
      exact this.congr (fun j _ => by simp)
  case round =>
    obtain ⟨q, hq, rfl, rfl, hBx, hR, hM⟩ := hrel
    by_cases hlt : q < n
    · have hlz : (q : Int) < (n : Int) := by omega
      have xa : wr.cell? ⟨ba, oa + q, none⟩ = some (.int .u64 (A q)) := by rw [hBx.cell (p := ⟨ba, oa + q, none⟩) la]; exact hA q hlt
      have xb : wr.cell? ⟨bb, ob + q, none⟩ = some (.int .u64 (B q)) := by rw [hBx.cell (p := ⟨bb, ob + q, none⟩) lb]; exact hB q hlt
      have xc : wr.cell? ⟨bc, oc + q, none⟩ = some (.int .u64 (C q)) := by rw [hBx.cell (p := ⟨bc, oc + q, none⟩) lc]; exact hC q hlt
      have xd : wr.cell? ⟨bd, od + q, none⟩ = some (.int .u64 (D q)) := by rw [hBx.cell (p := ⟨bd, od + q, none⟩) ld]; exact hD q hlt
      have y0 : wr.cell? ⟨w.heap.size, q * 2, none⟩ = some (.int .u64 0) := by rw [hR.cell (i := q * 2) (by omega), if_neg (by omega)]
      have y1 : wr.cell? ⟨w.heap.size, q * 2 + 1, none⟩ = some (.int .u64 0) := by rw [hR.cell (i := q * 2 + 1) (by omega), if_neg (by omega)]
      have f0 : wr.frozen? ⟨w.heap.size, q * 2, none⟩ = false := hR.frozen _
      have f1 : wr.frozen? ⟨w.heap.size, q * 2 + 1, none⟩ = false := hR.frozen _
      have z0 : wr.cell? ⟨w.heap.size + 1, q * 2, none⟩ = some (.int .u64 0) := by rw [hM.cell (i := q * 2) (by omega), if_neg (by omega)]
      have z1 : wr.cell? ⟨w.heap.size + 1, q * 2 + 1, none⟩ = some (.int .u64 0) := by rw [hM.cell (i := q * 2 + 1) (by omega), if_neg (by omega)]
      have g0 : wr.frozen? ⟨w.heap.size + 1, q * 2, none⟩ = false := hM.frozen _
      have g1 : wr.frozen? ⟨w.heap.size + 1, q * 2 + 1, none⟩ = false := hM.frozen _
      have nc : bc ≠ w.heap.size := by omega
      have nd : bd ≠ w.heap.size := by omega
      have nc' : w.heap.size ≠ bc := by omega
      have nd' : w.heap.size ≠ bd := by omega
      clear hz
      go_wp2
      go_region
      go_wp2
      go_region
      go_wp2
      go_roundg (n - (q + 1))
      case measure => go_light; omega
      case rel =>
        go_light
        have e2 : (q + 1) * 2 = q * 2 + 1 + 1 := by omega
        refine ⟨q + 1, by omega, rfl, by go_num, ((((hBx.setCell (Nat.le_refl _) _).setCell (Nat.le_refl _) _).setCell (Nat.le_succ _) _).setCell (Nat.le_succ _) _).drew.drew, ?_, ?_⟩
        · rw [e2]
          exact (((pair_step hR).setOther (by simp) _).setOther (by simp) _)
        · rw [e2]
          exact pair_step ((hM.setOther (by simp) _).setOther (by simp) _)
    · obtain rfl : q = n := by omega
      go_wp2
      go_ret
      have hlw : w.heap.size < wr.heap.size := World.block_lt_of_cell? _ ⟨w.heap.size, 0, none⟩ (hR.cell (i := 0) (by omega))
      have hlw' : w.heap.size + 1 < wr.heap.size := World.block_lt_of_cell? _ ⟨w.heap.size + 1, 0, none⟩ (hM.cell (i := 0) (by omega))
      refine ⟨wr.heap.size, w.heap.size, w.heap.size + 1, rfl, hBx.alloc hBx.size _, by simp [zs], by simp [zs], by simp [zs], fun i hi => ?_, fun i hi => ?_⟩
      · rw [World.cell?_alloc_lt _ _ _ hlw, hR.cell hi, if_pos hi]
      · rw [World.cell?_alloc_lt _ _ _ hlw', hM.cell hi, if_pos hi]
end Go.Proofs.Qxb6625825a
