/-
  routes.receipt WALKED.
-/
import Derived.Test.Qxb6625825aHas
import Derived.Deep.Light
import Derived.Deep.CutRange
set_option linter.unusedVariables false
namespace Go.Proofs.Qxb6625825a
open Go.RowKit

/-- What receipt answers ahead of its last test: some true: got it; some false: missed it. -/
def early (root v k rn rt mn mt : Int) : Option Bool :=
  if v = root then some true else if hasP mn mt k = true then some false else if hasP rn rt k = true then some true else if k ≤ rn ∧ IntKind.u64.wrap (rn - k) < 64 then some false else if rn < k ∧ k < mn then some false else none
def gotIt : ByteArray := ⟨#[103, 111, 116, 32, 105, 116]⟩
def missedIt : ByteArray := ⟨#[109, 105, 115, 115, 101, 100, 32, 105, 116]⟩
def notKnown : ByteArray := ⟨#[110, 111, 116, 32, 107, 110, 111, 119, 110]⟩
def receiptP (e : Option Bool) (bit : Bool) : ByteArray :=
  match e with
  | some true => gotIt
  | some false => missedIt
  | none => if bit then gotIt else notKnown

theorem later_drew {B : Nat} {a w : World} (h : Below B a w) (q : Nat) : Below B a (w.drewN q) := ⟨h.os, h.tape, h.output, h.size, h.block⟩

theorem receipt_core (b : Nat) (rb ro mb mo n c c' : Nat) (v : Nat) (root k rn rt mn mt rc : Int) (w : World)
    (h7 : w.cell? ⟨b, 326, none⟩ = some (.slice (some ⟨rb, ro, none⟩) n c)) (h6 : w.cell? ⟨b, 325, none⟩ = some (.slice (some ⟨mb, mo, none⟩) n c')) (h8 : w.cell? ⟨b, 327, none⟩ = some (.int .u64 rc))
    (hv : v < n) (hn : n ≤ 4096) (r0 : w.cell? ⟨rb, ro + v * 2, none⟩ = some (.int .u64 rn)) (r1 : w.cell? ⟨rb, ro + v * 2 + 1, none⟩ = some (.int .u64 rt))
    (m0 : w.cell? ⟨mb, mo + v * 2, none⟩ = some (.int .u64 mn)) (m1 : w.cell? ⟨mb, mo + v * 2 + 1, none⟩ = some (.int .u64 mt)) :
    Calls Try.prog 12 #[.pointer (some ⟨b, 0, none⟩), .int .i64 root, .int .i64 v, .int .u64 k] w fun e w' => e = .returned (.string (receiptP (early root v k rn rt mn mt) (bits .and .u64 rc (IntKind.u64.wrap (2 ^ min v 64)) != 0))) ∧ Below w.heap.size w w' := by
  have hvz : (v : Int) < (n : Int) := by omega
  have lb : b < w.heap.size := World.block_lt_of_cell? _ _ h8
  have lr : rb < w.heap.size := World.block_lt_of_cell? _ _ r0
  have lm : mb < w.heap.size := World.block_lt_of_cell? _ _ m0
  have lb1 : b < w.heap.size + 1 := by omega
  have lr1 : rb < w.heap.size + 1 := by omega
  have lm1 : mb < w.heap.size + 1 := by omega
  go_enter Try.func12, Try.ntmps12
  go_upto_region 1 with fail
  go_cut [9, 10] from 11 to 24 (fun s9 s10 wx => ∃ p q : Nat, s9 = .pointer (some ⟨p, 0, none⟩) ∧ s10 = .pointer (some ⟨q, 0, none⟩) ∧ Below w.heap.size w wx ∧ wx.cell? ⟨p, 0, none⟩ = some (.int .u64 rn) ∧ wx.cell? ⟨p, 1, none⟩ = some (.int .u64 rt) ∧ wx.cell? ⟨q, 0, none⟩ = some (.int .u64 mn) ∧ wx.cell? ⟨q, 1, none⟩ = some (.int .u64 mt))
  case first =>
    go_region
    all_goals go_wp2
    all_goals go_meet
    · exact ⟨_, _, rfl, rfl, (((Below.refl _ _).alloc (Nat.le_refl _) _).alloc (by simp) _).drew, by simp, by simp, by simp, by simp⟩
    · exact ⟨_, _, rfl, rfl, (((Below.refl _ _).alloc (Nat.le_refl _) _).alloc (by simp) _).drew, by simp, by simp, by simp, by simp⟩
  case rest =>
    obtain ⟨p, q, rfl, rfl, hB, p0, p1, q0, q1⟩ := hcut
    have h8c : wc.cell? ⟨b, 327, none⟩ = some (.int .u64 rc) := by rw [hB.cell (p := ⟨b, 327, none⟩) lb]; exact h8
    clear h7 h6 h8 r0 r1 m0 m1 lb lr lm lb1 lr1 lm1
    by_cases e1 : (v : Int) = root
    · have he : early root v k rn rt mn mt = some true := by unfold early; rw [if_pos e1]
      subst e1
      go_wp2; go_ret; exact ⟨by (try rw [he]); rfl, hB⟩
    go_wp2_with fail
    refine (has_core q 0 mn mt k wc q0 q1).mono ?_
    rintro e w' ⟨rfl, rfl⟩
    cases e2 : hasP mn mt k with
    | true =>
      have he : early root v k rn rt mn mt = some false := by unfold early; rw [if_neg e1, if_pos e2]
      go_wp2; go_ret; exact ⟨by (try rw [he]); rfl, hB⟩
    | false =>
    go_wp2_with fail
    refine (has_core p 0 rn rt k wc p0 p1).mono ?_
    rintro e w' ⟨rfl, rfl⟩
    cases e3 : hasP rn rt k with
    | true =>
      have he : early root v k rn rt mn mt = some true := by unfold early; rw [if_neg e1, if_neg (by simp [e2]), if_pos e3]
      go_wp2; go_ret; exact ⟨by (try rw [he]); rfl, hB⟩
    | false =>
    by_cases e4 : k ≤ rn
    · by_cases e5 : IntKind.u64.wrap (rn - k) < 64
      · have he : early root v k rn rt mn mt = some false := by unfold early; rw [if_neg e1, if_neg (by simp [e2]), if_neg (by simp [e3]), if_pos ⟨e4, e5⟩]
        go_wp2; go_ret; exact ⟨by (try rw [he]); rfl, hB⟩
      · have he : early root v k rn rt mn mt = none := by unfold early; rw [if_neg e1, if_neg (by simp [e2]), if_neg (by simp [e3]), if_neg (fun h => e5 h.2), if_neg (by omega)]
        go_wp2
        go_quiet (fail)
        cases e6 : (bits .and .u64 rc (IntKind.u64.wrap (2 ^ min v 64)) != 0)
        · go_wp2; go_ret; exact ⟨by (try rw [he]); (try rw [e6]); rfl, later_drew hB _⟩
        · go_wp2; go_ret; exact ⟨by (try rw [he]); (try rw [e6]); rfl, later_drew hB _⟩
    · by_cases e5 : k < mn
      · have he : early root v k rn rt mn mt = some false := by unfold early; rw [if_neg e1, if_neg (by simp [e2]), if_neg (by simp [e3]), if_neg (fun h => e4 h.1), if_pos (by omega)]
        go_wp2; go_ret; exact ⟨by (try rw [he]); rfl, hB⟩
      · have he : early root v k rn rt mn mt = none := by unfold early; rw [if_neg e1, if_neg (by simp [e2]), if_neg (by simp [e3]), if_neg (fun h => e4 h.1), if_neg (by omega)]
        go_wp2
        go_quiet (fail)
        cases e6 : (bits .and .u64 rc (IntKind.u64.wrap (2 ^ min v 64)) != 0)
        · go_wp2; go_ret; exact ⟨by (try rw [he]); (try rw [e6]); rfl, later_drew hB _⟩
        · go_wp2; go_ret; exact ⟨by (try rw [he]); (try rw [e6]); rfl, later_drew hB _⟩

theorem zzreceipt_core (b : Nat) (rb ro mb mo n c c' : Nat) (v : Nat) (root k rn rt mn mt rc : Int) (w : World)
    (h7 : w.cell? ⟨b, 326, none⟩ = some (.slice (some ⟨rb, ro, none⟩) n c)) (h6 : w.cell? ⟨b, 325, none⟩ = some (.slice (some ⟨mb, mo, none⟩) n c')) (h8 : w.cell? ⟨b, 327, none⟩ = some (.int .u64 rc))
    (hv : v < n) (hn : n ≤ 4096) (r0 : w.cell? ⟨rb, ro + v * 2, none⟩ = some (.int .u64 rn)) (r1 : w.cell? ⟨rb, ro + v * 2 + 1, none⟩ = some (.int .u64 rt))
    (m0 : w.cell? ⟨mb, mo + v * 2, none⟩ = some (.int .u64 mn)) (m1 : w.cell? ⟨mb, mo + v * 2 + 1, none⟩ = some (.int .u64 mt)) :
    Calls Try.prog 6 #[.pointer (some ⟨b, 0, none⟩), .int .i64 root, .int .i64 v, .int .u64 k] w fun e w' => e = .returned (.string (receiptP (early root v k rn rt mn mt) (bits .and .u64 rc (IntKind.u64.wrap (2 ^ min v 64)) != 0))) ∧ Below w.heap.size w w' := by
  go_enter Try.func6, Try.ntmps6
  go_wp2_with fail
  refine (receipt_core b rb ro mb mo n c c' v root k rn rt mn mt rc w h7 h6 h8 hv hn r0 r1 m0 m1).mono ?_
  rintro e w' ⟨rfl, hB⟩
  go_wp2
  go_ret
  exact ⟨rfl, hB⟩

theorem isReceipt_core (e : Option Bool) (bit : Bool) (w : World) : Calls Try.prog 8 #[.string (receiptP e bit)] w fun x w' => x = .returned (.bool true) ∧ w = w' := by
  have h : receiptP e bit = gotIt ∨ receiptP e bit = missedIt ∨ receiptP e bit = notKnown := by
    unfold receiptP
    split <;> simp
    cases bit <;> simp
  rcases h with h | h | h
  all_goals
    rw [h]
    simp only [gotIt, missedIt, notKnown]
    go_enter Try.func8, Try.ntmps8
    go_wp2
    go_ret
    exact ⟨rfl, rfl⟩
end Go.Proofs.Qxb6625825a
