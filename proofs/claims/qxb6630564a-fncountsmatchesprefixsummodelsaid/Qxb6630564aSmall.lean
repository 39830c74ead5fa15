/-
  THE SMALL CALLEES of FnCountsMatchesPrefixSumModel: zzCloneStrings (6), zzCloneU64 (7), zzShadowed (14).
-/
import Derived.Test.Qxb6630564aClone
import Derived.Deep.QuietTactic
import Derived.BigQuiet
set_option linter.unusedVariables false
namespace Go.Proofs.Qxb6630564a
open Go.RowKit

theorem Try.info9 : (Try.prog.info? 9).map (fun i => (i.zero, i.size, i.bytes)) = some (some (.string { data := #[] }), 1, 16) := by kernel_rfl
theorem Try.info29 : (Try.prog.info? 29).map (fun i => (i.zero, i.size, i.bytes)) = some (some (.int .u64 0), 1, 8) := by kernel_rfl

/-- A copy of a row of one-cell values. -/
def ClonedV (n : Nat) (V : Nat → Value) (w : World) (e : Ending) (w' : World) : Prop :=
  ∃ (a' : Option Addr) (b' : Nat), e = .returned (.slice a' n n) ∧ Below w.heap.size w w' ∧ (0 < n → a' = some ⟨b', 0, none⟩) ∧ ∀ i, i < n → w'.cell? ⟨b', i, none⟩ = some (V i)

theorem rowV_step {wr : World} {b : Nat} {t : TypeId} {n : Nat} {z : Value} {V : Nat → Value} {q : Nat} (hR : wr.rowIs b t n (fun j => if j < q then V j else z)) :
    (wr.setCell ⟨b, q, none⟩ (V q)).rowIs b t n (fun j => if j < q + 1 then V j else z) := (hR.set q _).congr (fun j hj => by
  by_cases e : j = q
  · subst e; simp
  · rw [if_neg e]
    by_cases hl : j < q
    · rw [if_pos hl, if_pos (by omega)]
    · rw [if_neg hl, if_neg (by omega)])

theorem cloneStrings_any (a : Option Addr) (b o n c : Nat) (N : Nat → ByteArray) (w : World) (hn : n ≤ 1048576) (ha : 0 < n → a = some ⟨b, o, none⟩) (hz : a = none → n = 0) (hc : ∀ i, i < n → w.cell? ⟨b, o + i, none⟩ = some (.string (N i))) :
    Calls Try.prog 6 #[.slice a n c] w (ClonedV n (fun i => .string (N i)) w) := by
  have q22 : ∀ (w : World) (a : Option Addr) (n c n' c' : Nat), (binOp .eql 22 (.slice a n c) (.slice none n' c')).run Try.prog w = .ok (.bool a.isNone) w := fun w a n c n' c' => Lib.run_eql_slice_nil w _ _ a n c n' c' Try.underlying22
  cases a with
  | none =>
    obtain rfl := hz rfl
    go_enter Try.func6, Try.ntmps6
    go_wp2
    go_ret
    exact ⟨none, 0, rfl, Below.refl _ _, fun h => absurd h (by omega), fun i hi => absurd hi (by omega)⟩
  | some x =>
    have hmk := run_make_row' (P := Try.prog) 22 9 (.string { data := #[] }) 16 Try.underlying22 Try.info9 rfl .i64 .i64 n (by omega) (by omega)
    go_enter Try.func6, Try.ntmps6
    go_wp2
    clear hmk q22
    go_loopg [4] n (fun k i wr => ∃ q : Nat, q ≤ n ∧ k = n - q ∧ i = .int .i64 q ∧ Below w.heap.size w wr ∧ wr.rowIs w.heap.size 9 n (fun j => if j < q then .string (N j) else .string { data := #[] }))
    case atStart => exact ⟨0, Nat.zero_le _, rfl, rfl, (Below.refl _ _).alloc (Nat.le_refl _) _, (World.rowIs_made w (.string { data := #[] }) n 9).congr (fun j _ => by simp)⟩
    case round =>
      obtain ⟨q, hq, rfl, rfl, hB, hR⟩ := hrel
      by_cases hlt : q < n
      · obtain ⟨rfl⟩ := ha (by omega)
        have hcx : wr.cell? ⟨b, o + q, none⟩ = some (.string (N q)) := by
          rw [hB.cell (p := ⟨b, o + q, none⟩) (World.block_lt_of_cell? _ _ (hc q hlt))]; exact hc q hlt
        have hcy : wr.cell? ⟨w.heap.size, q, none⟩ = some (.string { data := #[] }) := by simpa using hR.cell hlt
        have hcf : wr.frozen? ⟨w.heap.size, q, none⟩ = false := hR.frozen q
        have hlz : (q : Int) < (n : Int) := by omega
        go_wp2
        go_roundg (n - (q + 1))
        case measure => go_light; omega
        case rel =>
          go_light
          exact ⟨q + 1, by omega, rfl, by go_num, hB.setCell (Nat.le_refl _) _, rowV_step (V := fun j => .string (N j)) hR⟩
      · go_wp2
        go_ret
        exact ⟨_, w.heap.size, rfl, hB, fun _ => rfl, fun i hi => by rw [hR.cell (by omega), if_pos (by omega)]⟩

theorem cloneU64_any (a : Option Addr) (b o n c : Nat) (T : Nat → Int) (w : World) (hn : n ≤ 1048576) (ha : 0 < n → a = some ⟨b, o, none⟩) (hz : a = none → n = 0) (hc : ∀ i, i < n → w.cell? ⟨b, o + i, none⟩ = some (.int .u64 (T i))) :
    Calls Try.prog 7 #[.slice a n c] w (ClonedV n (fun i => .int .u64 (T i)) w) := by
  have q23 : ∀ (w : World) (a : Option Addr) (n c n' c' : Nat), (binOp .eql 23 (.slice a n c) (.slice none n' c')).run Try.prog w = .ok (.bool a.isNone) w := fun w a n c n' c' => Lib.run_eql_slice_nil w _ _ a n c n' c' Try.underlying23
  cases a with
  | none =>
    obtain rfl := hz rfl
    go_enter Try.func7, Try.ntmps7
    go_wp2
    go_ret
    exact ⟨none, 0, rfl, Below.refl _ _, fun h => absurd h (by omega), fun i hi => absurd hi (by omega)⟩
  | some x =>
    have hmk := run_make_row' (P := Try.prog) 23 29 (.int .u64 0) 8 Try.underlying23 Try.info29 rfl .i64 .i64 n (by omega) (by omega)
    go_enter Try.func7, Try.ntmps7
    go_wp2
    clear hmk q23
    go_loopg [4] n (fun k i wr => ∃ q : Nat, q ≤ n ∧ k = n - q ∧ i = .int .i64 q ∧ Below w.heap.size w wr ∧ wr.rowIs w.heap.size 29 n (fun j => if j < q then .int .u64 (T j) else .int .u64 0))
    case atStart => exact ⟨0, Nat.zero_le _, rfl, rfl, (Below.refl _ _).alloc (Nat.le_refl _) _, (World.rowIs_made w (.int .u64 0) n 29).congr (fun j _ => by simp)⟩
    case round =>
      obtain ⟨q, hq, rfl, rfl, hB, hR⟩ := hrel
      by_cases hlt : q < n
      · obtain ⟨rfl⟩ := ha (by omega)
        have hcx : wr.cell? ⟨b, o + q, none⟩ = some (.int .u64 (T q)) := by
          rw [hB.cell (p := ⟨b, o + q, none⟩) (World.block_lt_of_cell? _ _ (hc q hlt))]; exact hc q hlt
        have hcy : wr.cell? ⟨w.heap.size, q, none⟩ = some (.int .u64 0) := by simpa using hR.cell hlt
        have hcf : wr.frozen? ⟨w.heap.size, q, none⟩ = false := hR.frozen q
        have hlz : (q : Int) < (n : Int) := by omega
        go_wp2
        go_roundg (n - (q + 1))
        case measure => go_light; omega
        case rel =>
          go_light
          exact ⟨q + 1, by omega, rfl, by go_num, hB.setCell (Nat.le_refl _) _, rowV_step (V := fun j => .int .u64 (T j)) hR⟩
      · go_wp2
        go_ret
        exact ⟨_, w.heap.size, rfl, hB, fun _ => rfl, fun i hi => by rw [hR.cell (by omega), if_pos (by omega)]⟩

/-- Do names j and i agree? (as the walk spells it) -/
def eqN (N : Nat → ByteArray) (j i : Nat) : Bool := (N j).toList == (N i).toList
/-- Does some name behind i, of k more, agree with it? -/
def shadF (N : Nat → ByteArray) (i : Nat) (j : Nat) : Nat → Bool
  | 0 => false
  | k + 1 => eqN N j i || shadF N i (j + 1) k
/-- Is name i shadowed by a later one, of n? -/
def shad (N : Nat → ByteArray) (n i : Nat) : Bool := shadF N i (i + 1) (n - (i + 1))
theorem shadF_step {N : Nat → ByteArray} {n i j : Nat} (h : j < n) : shadF N i j (n - j) = (eqN N j i || shadF N i (j + 1) (n - (j + 1))) := by
  obtain ⟨k, hk⟩ : ∃ k, n - j = k + 1 := ⟨n - j - 1, by omega⟩
  have hk' : n - (j + 1) = k := by omega
  rw [hk, hk', shadF]

def Shadowed (r : Bool) (w : World) (e : Ending) (w' : World) : Prop := e = .returned (.bool r) ∧ Below w.heap.size w w'

theorem shadowed_any (b n i : Nat) (N : Nat → ByteArray) (w : World) (hn : n ≤ 4096) (hi : i < n) (hc : ∀ j, j < n → w.cell? ⟨b, j, none⟩ = some (.string (N j))) :
    Calls Try.prog 14 #[.slice (some ⟨b, 0, none⟩) n n, .int .i64 i] w (Shadowed (shad N n i) w) := by
  go_enter Try.func14, Try.ntmps14
  go_wp2
  go_loopg [5] (n - (i + 1)) (fun k s5 wx => Below w.heap.size w wx ∧ ∃ j : Nat, i < j ∧ j ≤ n ∧ k = n - j ∧ s5 = .int .i64 j ∧ shad N n i = shadF N i j (n - j))
  case atStart => exact ⟨Below.refl _ _, i + 1, by omega, by omega, rfl, by go_num, rfl⟩
  case round =>
    obtain ⟨hB, j, hij, hj, rfl, rfl, hs⟩ := hrel
    have HS : Aside (shad N n i = shadF N i j (n - j)) := hs
    clear hs
    by_cases hlt : j < n
    · have c1 : wr.cell? ⟨b, j, none⟩ = some (.string (N j)) := by
        rw [hB.cell (p := ⟨b, j, none⟩) (World.block_lt_of_cell? _ _ (hc j hlt))]; exact hc j hlt
      have c2 : wr.cell? ⟨b, i, none⟩ = some (.string (N i)) := by
        rw [hB.cell (p := ⟨b, i, none⟩) (World.block_lt_of_cell? _ _ (hc i hi))]; exact hc i hi
      have hjz : (j : Int) < (n : Int) := by omega
      have hiz : (i : Int) < (n : Int) := by omega
      clear hc
      cases he : ((N j).toList == (N i).toList)
      · go_wp2
        go_quiet (fail)
        go_wp2
        go_roundg (n - (j + 1))
        case measure => go_light; omega
        case rel =>
          go_light
          exact ⟨⟨hB.os, hB.tape, hB.output, hB.size, hB.block⟩, j + 1, by omega, by omega, rfl, by go_num, by rw [HS.out, shadF_step hlt]; show (((N j).toList == (N i).toList) || _) = _; rw [he]; rfl⟩
      · go_wp2
        go_quiet (fail)
        go_wp2
        go_ret
        refine ⟨?_, ⟨hB.os, hB.tape, hB.output, hB.size, hB.block⟩⟩
        rw [HS.out, shadF_step hlt]
        show _ = Ending.returned (.bool (((N j).toList == (N i).toList) || _))
        rw [he]; rfl
    · have e : n - j = 0 := by omega
      have hs := HS.out
      rw [e, shadF] at hs
      have HS2 : Aside (shad N n i = false) := hs
      clear hs
      go_wp2
      go_ret
      exact ⟨by rw [HS2.out]; rfl, hB⟩
end Go.Proofs.Qxb6630564a
