/-
  THE WALKS of the shared functions of this seat: zzClone (6), AtEnd (8), zzIsSep (10), zzIsCloser (11).
-/
import Derived.Test.Qxb6630522aRows
import Derived.Test.Qxb6630522aPlain
import Derived.WalkKit
import Derived.WalkSpells
import Derived.Below
import Derived.Deep.OwnRows
import Derived.Deep.LoopGhost
import Derived.Deep.Light
set_option linter.unusedVariables false
namespace Go.Proofs.Qxb6630522a
open Go.RowKit

theorem Try.info5 : (Try.prog.info? 5).map (fun i => (i.zero, i.size, i.bytes)) = some (some (.int .u8 0), 1, 1) := by kernel_rfl

theorem isSep_any (c : Int) (w : World) : Calls Try.prog 10 #[.int .u8 c] w fun e w' => e = .returned (.bool (sep c)) ∧ w' = w := by
  unfold sep
  by_cases h1 : c = 32
  · subst h1; go_enter Try.func10, Try.ntmps10; go_wp2; go_ret; exact ⟨rfl, rfl⟩
  by_cases h2 : c = 9
  · subst h2; go_enter Try.func10, Try.ntmps10; go_wp2; go_ret; exact ⟨rfl, rfl⟩
  by_cases h3 : c = 10
  · subst h3; go_enter Try.func10, Try.ntmps10; go_wp2; go_ret; exact ⟨rfl, rfl⟩
  by_cases h4 : c = 13
  · subst h4; go_enter Try.func10, Try.ntmps10; go_wp2; go_ret; exact ⟨rfl, rfl⟩
  by_cases h5 : c = 44
  · subst h5; go_enter Try.func10, Try.ntmps10; go_wp2; go_ret; exact ⟨rfl, rfl⟩
  by_cases h6 : c = 58
  · subst h6; go_enter Try.func10, Try.ntmps10; go_wp2; go_ret; exact ⟨rfl, rfl⟩
  have g1 : (c == 32) = false := by simpa using h1
  have g2 : (c == 9) = false := by simpa using h2
  have g3 : (c == 10) = false := by simpa using h3
  have g4 : (c == 13) = false := by simpa using h4
  have g5 : (c == 44) = false := by simpa using h5
  have g6 : (c == 58) = false := by simpa using h6
  clear h1 h2 h3 h4 h5 h6
  rw [g1, g2, g3, g4, g5, g6]
  go_enter Try.func10, Try.ntmps10
  go_wp2
  go_ret
  exact ⟨rfl, rfl⟩

theorem isCloser_any (c : Int) (w : World) : Calls Try.prog 11 #[.int .u8 c] w fun e w' => e = .returned (.bool (closer c)) ∧ w' = w := by
  unfold closer
  by_cases h1 : c = 125
  · subst h1; go_enter Try.func11, Try.ntmps11; go_wp2; go_ret; exact ⟨rfl, rfl⟩
  by_cases h2 : c = 93
  · subst h2; go_enter Try.func11, Try.ntmps11; go_wp2; go_ret; exact ⟨rfl, rfl⟩
  have g1 : (c == 125) = false := by simpa using h1
  have g2 : (c == 93) = false := by simpa using h2
  clear h1 h2
  rw [g1, g2]
  go_enter Try.func11, Try.ntmps11
  go_wp2
  go_ret
  exact ⟨rfl, rfl⟩

/-- What a copy of the data is: a slice of n cells at the head of a block, told by f; nothing old has turned. -/
def Cloned (n : Nat) (f : Nat → Int) (w : World) (e : Ending) (w' : World) : Prop :=
  ∃ (a' : Option Addr) (b' : Nat), e = .returned (.slice a' n n) ∧ Below w.heap.size w w' ∧ (0 < n → a' = some ⟨b', 0, none⟩) ∧ ∀ i, i < n → w'.cell? ⟨b', i, none⟩ = some (.int .u8 (f i))
theorem clone_any (a : Option Addr) (b o n c : Nat) (f : Nat → Int) (w : World) (hn : n ≤ 1048576) (ha : 0 < n → a = some ⟨b, o, none⟩) (hz : a = none → n = 0) (hc : ∀ i, i < n → w.cell? ⟨b, o + i, none⟩ = some (.int .u8 (f i))) :
    Calls Try.prog 6 #[.slice a n c] w (Cloned n f w) := by
  have q22 : ∀ (w : World) (a : Option Addr) (n c n' c' : Nat), (binOp .eql 22 (.slice a n c) (.slice none n' c')).run Try.prog w = .ok (.bool a.isNone) w := fun w a n c n' c' => Lib.run_eql_slice_nil w _ _ a n c n' c' Try.underlying22
  cases a with
  | none =>
    obtain rfl := hz rfl
    go_enter Try.func6, Try.ntmps6
    go_wp2
    go_ret
    exact ⟨none, 0, rfl, Below.refl _ _, fun h => absurd h (by omega), fun i hi => absurd hi (by omega)⟩
  | some x =>
    have hmk := run_make_row' (P := Try.prog) 22 5 (.int .u8 0) 1 Try.underlying22 Try.info5 rfl .i64 .i64 n (by omega) (by omega)
    go_enter Try.func6, Try.ntmps6
    go_wp2
    clear hmk q22
    go_loopg [4] n (fun k i wr => ∃ q : Nat, q ≤ n ∧ k = n - q ∧ i = .int .i64 q ∧ Below w.heap.size w wr ∧ wr.rowIs w.heap.size 5 n (fun j => if j < q then .int .u8 (f j) else .int .u8 0))
    case atStart => exact ⟨0, Nat.zero_le _, rfl, rfl, (Below.refl _ _).alloc (Nat.le_refl _) _, (World.rowIs_made w (.int .u8 0) n 5).congr (fun j _ => by simp)⟩
    case round =>
      obtain ⟨q, hq, rfl, rfl, hB, hR⟩ := hrel
      by_cases hlt : q < n
      · obtain ⟨rfl⟩ := ha (by omega)
        have hcx : wr.cell? ⟨b, o + q, none⟩ = some (.int .u8 (f q)) := by
          rw [hB.cell (p := ⟨b, o + q, none⟩) (World.block_lt_of_cell? _ _ (hc q hlt))]; exact hc q hlt
        have hcy : wr.cell? ⟨w.heap.size, q, none⟩ = some (.int .u8 0) := by simpa using hR.cell hlt
        have hcf : wr.frozen? ⟨w.heap.size, q, none⟩ = false := hR.frozen q
        have hlz : (q : Int) < (n : Int) := by omega
        go_wp2
        go_roundg (n - (q + 1))
        case measure => go_light; omega
        case rel =>
          go_light
          refine ⟨q + 1, by omega, rfl, by go_num, hB.setCell (Nat.le_refl _) _, (hR.set q _).congr (fun j hj => ?_)⟩
          by_cases e : j = q
          · subst e; simp
          · rw [if_neg e]
            by_cases hl : j < q
            · rw [if_pos hl, if_pos (by omega)]
            · rw [if_neg hl, if_neg (by omega)]
      · go_wp2
        go_ret
        exact ⟨_, w.heap.size, rfl, hB, fun _ => rfl, fun i hi => by rw [hR.cell hi]; simp; omega⟩

/-- Only block rb has turned. -/
structure Only (rb : Nat) (w w' : World) : Prop where
  os : w'.os = w.os
  tape : w'.tape = w.tape
  output : w'.output = w.output
  size : w'.heap.size = w.heap.size
  block : ∀ k, k ≠ rb → w'.heap[k]? = w.heap[k]?

theorem Only.refl (rb : Nat) (w : World) : Only rb w w := ⟨rfl, rfl, rfl, rfl, fun _ _ => rfl⟩
theorem Only.setCell {rb : Nat} {w w' : World} (h : Only rb w w') (i : Nat) (v : Value) : Only rb w (w'.setCell ⟨rb, i, none⟩ v) :=
  ⟨h.os, h.tape, h.output, by rw [← h.size]; simp [World.setCell], fun k hk => (Below.heap_setCell _ _ _ _ hk).trans (h.block k hk)⟩
theorem Only.cell {rb : Nat} {w w' : World} (h : Only rb w w') {p : Addr} (hp : p.block ≠ rb) : w'.cell? p = w.cell? p := World.cell?_of_block (w := w) (h.block p.block hp)
theorem Only.below {rb B : Nat} {w w' : World} (h : Only rb w w') (hB : B ≤ rb) : Below B w w' :=
  ⟨h.os, h.tape, h.output, by rw [h.size]; exact Nat.le_refl _, fun k hk => h.block k (by omega)⟩
theorem Only.row {rb b : Nat} {w w' : World} (h : Only rb w w') (hb : b ≠ rb) {t : TypeId} {n : Nat} {f : Nat → Value} (hr : w.rowIs b t n f) : w'.rowIs b t n f := hr.of_block (h.block b hb)

/-- The Reader in memory: its data, its position. -/
def rd (a : Option Addr) (n : Nat) (p : Nat) : Nat → Value := fun i => if i = 0 then .slice a n n else .int .i64 p

theorem rd_step (a : Option Addr) (n p : Nat) : ∀ j, j < 2 → (if j = 1 then Value.int .i64 ((p : Int) + 1) else rd a n p j) = rd a n (p + 1) j := by
  intro j hj
  match j, hj with
  | 0, _ => simp [rd]
  | 1, _ => simp [rd]

theorem atEnd_any (rb : Nat) (a : Option Addr) (b n p : Nat) (f : Nat → Int) (w : World) (hn : n ≤ 1048577) (hp : p ≤ n) (ha : 0 < n → a = some ⟨b, 0, none⟩) (hb : 0 < n → b ≠ rb)
    (hr : w.rowIs rb 32 2 (rd a n p)) (hd : ∀ i, i < n → w.cell? ⟨b, i, none⟩ = some (.int .u8 (f i))) :
    Calls Try.prog 8 #[.pointer (some ⟨rb, 0, none⟩)] w fun e w' => e = .returned (.bool (ended f n p)) ∧ Only rb w w' ∧ w'.rowIs rb 32 2 (rd a n (stop f n p)) := by
  have c0 : w.cell? ⟨rb, 0, none⟩ = some (.slice a n n) := hr.cell (i := 0) (by omega)
  go_enter Try.func8, Try.ntmps8
  go_wp2
  clear c0
  go_loopg [] (n - p) (fun k wr => ∃ q : Nat, q ≤ n ∧ k = n - q ∧ Only rb w wr ∧ wr.rowIs rb 32 2 (rd a n q) ∧ stop f n q = stop f n p)
  case atStart => exact ⟨p, hp, rfl, Only.refl _ _, hr, rfl⟩
  case round =>
    obtain ⟨q, hq, rfl, hO, hR, hs⟩ := hrel
    have HS : Aside (stop f n q = stop f n p) := hs
    have c1 : wr.cell? ⟨rb, 1, none⟩ = some (.int .i64 q) := hR.cell (i := 1) (by omega)
    have f1 : wr.frozen? ⟨rb, 1, none⟩ = false := hR.frozen 1
    clear hs
    by_cases hlt : q < n
    · obtain ⟨rfl⟩ := ha (by omega)
      have hcx : wr.cell? ⟨b, q, none⟩ = some (.int .u8 (f q)) := by
        rw [hO.cell (p := ⟨b, q, none⟩) (hb (by omega))]; exact hd q hlt
      have hlz : (q : Int) < (n : Int) := by omega
      go_wp2
      all_goals first
        | (go_roundg (n - (q + 1))
           case measure => go_light; omega
           case rel =>
             go_light
             have hs : sep (f q) = true := by simp [sep, *]
             exact ⟨q + 1, by omega, rfl, hO.setCell 1 _, (hR.set 1 _).congr (rd_step _ n q), by rw [← stop_sep hlt hs]; exact HS.out⟩)
        | (go_ret
           have hs : sep (f q) = false := by simp [sep, *]
           have he := HS.out
           rw [stop_not hlt hs] at he
           refine ⟨?_, hO, by rw [← he]; exact hR⟩
           unfold ended
           rw [← he, decide_eq_true hlt]; clear he
           simp [closer, *])
    · have he := HS.out
      rw [stop_end (by omega)] at he
      have HE : Aside (q = stop f n p) := he
      clear he
      go_wp2
      go_ret
      have he := HE.out
      refine ⟨?_, hO, by rw [← he]; exact hR⟩
      unfold ended
      rw [← he, decide_eq_false hlt]
      rfl
end Go.Proofs.Qxb6630522a
