/-
  FnReceiptReceivingFillsOnlyTheUnknown WALKED.
-/
import Derived.Test.Qxb6625825aPlain
import Derived.Test.Qxb6625825aCopies
import Derived.OwnWalk
import Derived.Deep.CutRange
set_option linter.unusedVariables false
namespace Go.Proofs.Qxb6625825a
open Go.RowKit

/-- A slice that came in, its elements told by A. -/
def Src (w : World) (a : Option Addr) (n : Nat) (A : Nat → Int) : Prop := (a = none → n = 0) ∧ (0 < n → ∃ x, a = some x ∧ ∀ i, i < n → w.cell? (x.add i) = some (.int .u64 (A i)))
theorem Src.later {w wx : World} {a : Option Addr} {n : Nat} {A : Nat → Int} (h : Src w a n A) (hB : Below w.heap.size w wx) : Src wx a n A :=
  ⟨h.1, fun h0 => by
    obtain ⟨x, rfl, hx⟩ := h.2 h0
    exact ⟨x, rfl, fun i hi => by rw [hB.cell (World.block_lt_of_cell? _ _ (hx i hi))]; exact hx i hi⟩⟩
/-- The copy of it. -/
def Kept (wx : World) (s : Value) (n : Nat) (A : Nat → Int) : Prop := ∃ (a : Option Addr) (c b : Nat), s = .slice a n c ∧ (0 < n → a = some ⟨b, 0, none⟩) ∧ Col wx b 0 n A

theorem receiptP_mem (e : Option Bool) (bit : Bool) : receiptP e bit = gotIt ∨ receiptP e bit = missedIt ∨ receiptP e bit = notKnown := by
  unfold receiptP
  split <;> simp
  cases bit <;> simp

/-- What the two receipts are. -/
theorem two_receipts (rc bt root k rn rt mn mt : Int) (v : Nat) (hbt : bt = if v < 64 then IntKind.u64.wrap (2 ^ v) else 0) (R1 R2 : ByteArray)
    (h1 : receiptP (early root v k rn rt mn mt) (bits .and .u64 (bits .andNot .u64 rc bt) (IntKind.u64.wrap (2 ^ min v 64)) != 0) = R1)
    (h2 : receiptP (early root v k rn rt mn mt) (bits .and .u64 (bits .or .u64 rc bt) (IntKind.u64.wrap (2 ^ min v 64)) != 0) = R2) :
    ((v : Int) = root ∧ R1 = gotIt ∧ R2 = gotIt) ∨ (¬ (v : Int) = root ∧ bt = 0 ∧ R2 = R1 ∧ (R1 = gotIt ∨ R1 = missedIt ∨ R1 = notKnown)) ∨ (¬ (v : Int) = root ∧ ¬ bt = 0 ∧ R1 = notKnown ∧ R2 = gotIt) ∨ (¬ (v : Int) = root ∧ ¬ bt = 0 ∧ R2 = R1 ∧ (R1 = gotIt ∨ R1 = missedIt)) := by
  by_cases hr : (v : Int) = root
  · have he : early root v k rn rt mn mt = some true := by unfold early; rw [if_pos hr]
    rw [he] at h1 h2
    exact .inl ⟨hr, h1.symm, h2.symm⟩
  right
  by_cases hv : v < 64
  · obtain ⟨b1, b2, b3⟩ := bit_at v hv
    rw [if_pos hv] at hbt
    have hb : bt = 2 ^ v := by
      rw [hbt, IntKind.wrap_u64]
      exact Int.emod_eq_of_lt (by omega) b3
    have hb0 : ¬ bt = 0 := by omega
    rw [b1, ← hb] at h1 h2
    rw [cleared] at h1
    have hs : (bits .and .u64 (bits .or .u64 rc bt) bt != 0) = true := bne_iff_ne.2 (setted rc bt (by omega) (by omega))
    rw [hs] at h2
    right
    cases he : early root v k rn rt mn mt with
    | none =>
      rw [he] at h1 h2
      exact .inl ⟨hr, hb0, h1.symm, h2.symm⟩
    | some q =>
      rw [he] at h1 h2
      right
      cases q
      · exact ⟨hr, hb0, h2.symm.trans h1, .inr h1.symm⟩
      · exact ⟨hr, hb0, h2.symm.trans h1, .inl h1.symm⟩
  · rw [if_neg hv] at hbt
    left
    subst hbt
    rw [← nought] at h2
    refine ⟨hr, rfl, h2.symm.trans h1, ?_⟩
    rw [← h1]
    exact receiptP_mem _ _

theorem chain {w wc w1 : World} (hB : Below w.heap.size w wc) (hB1 : Below wc.heap.size wc w1) : Below w.heap.size w w1 := hB.trans (hB1.mono hB.size)

set_option maxRecDepth 100000 in
set_option maxHeartbeats 12800000 in
theorem main_core (a0 : Option Addr) (n0 c0 : Nat) (A0 : Nat → Int) (a1 : Option Addr) (n1 c1 : Nat) (A1 : Nat → Int) (a2 : Option Addr) (n2 c2 : Nat) (A2 : Nat → Int) (a3 : Option Addr) (n3 c3 : Nat) (A3 : Nat → Int) (rc root v k : Int) (w : World)
    (s0 : Src w a0 n0 A0) (s1 : Src w a1 n1 A1) (s2 : Src w a2 n2 A2) (s3 : Src w a3 n3 A3) (h0 : n0 ≤ 9223372036854775807) (h1 : n1 ≤ 9223372036854775807) (h2 : n2 ≤ 9223372036854775807) (h3 : n3 ≤ 9223372036854775807) :
    Calls Try.prog 3 #[.slice a0 n0 c0, .slice a1 n1 c1, .slice a2 n2 c2, .slice a3 n3 c3, .int .u64 rc, .int .i64 root, .int .i64 v, .int .u64 k] w fun e w' => e = .returned (.bool true) ∧ Below w.heap.size w w' := by
  have q22 : ∀ (w : World) (a : Option Addr) (n c n' c' : Nat), (binOp .neq 22 (.slice a n c) (.slice none n' c')).run Try.prog w = .ok (.bool (!a.isNone)) w := fun w a n c n' c' => run_neq_slice_nil_any w _ _ a n c n' c' Try.underlying22
  go_enter Try.func3, Try.ntmps3
  go_wp2_with fail
  refine (bytes_any a0 n0 c0 a1 n1 c1 a2 n2 c2 a3 n3 c3 rc root v k w h0 h1 h2 h3).mono ?_
  rintro e w' ⟨⟨r, rfl⟩, rfl⟩
  cases r
  · go_wp2; go_ret; exact ⟨rfl, Below.refl _ _⟩
  by_cases g0 : 4096 < n0
  · go_wp2; go_ret; exact ⟨rfl, Below.refl _ _⟩
  by_cases g1 : 4096 < n1
  · go_wp2; go_ret; exact ⟨rfl, Below.refl _ _⟩
  by_cases g2 : 4096 < n2
  · go_wp2; go_ret; exact ⟨rfl, Below.refl _ _⟩
  by_cases g3 : 4096 < n3
  · go_wp2; go_ret; exact ⟨rfl, Below.refl _ _⟩
  have e0 : n0 ≤ 4096 := by omega
  have e1 : n1 ≤ 4096 := by omega
  have e2 : n2 ≤ 4096 := by omega
  have e3 : n3 ≤ 4096 := by omega
  clear g0 g1 g2 g3 h0 h1 h2 h3
  have d0 : decide ((4096 : Int) < (n0 : Int)) = false := decide_eq_false (by omega)
  have d1 : decide ((4096 : Int) < (n1 : Int)) = false := decide_eq_false (by omega)
  have d2 : decide ((4096 : Int) < (n2 : Int)) = false := decide_eq_false (by omega)
  have d3 : decide ((4096 : Int) < (n3 : Int)) = false := decide_eq_false (by omega)
  have hB : Below w.heap.size w w := Below.refl _ _
  go_upto_if 54 with fail
  go_cut [0, 17] from 55 to 61 (fun x0 y0 wx => Below w.heap.size w wx ∧ Kept wx x0 n0 A0)
  case first =>
    have hmk := run_make_row' (P := Try.prog) 22 23 (.int .u64 0) 8 Try.underlying22 Try.info23 rfl .i64 .i64 n0 (by omega) (by omega)
    cases a0 with
    | none =>
      obtain rfl : n0 = 0 := s0.1 rfl
      go_wp2; go_meet
      exact ⟨hB, none, _, 0, rfl, fun h => absurd h (by omega), fun i hi => absurd hi (by omega)⟩
    | some x =>
      have S : Aside (0 < n0 → ∃ y, some x = some y ∧ ∀ i, i < n0 → w.cell? (y.add i) = some (.int .u64 (A0 i))) := (s0.later hB).2
      go_wp2_with (refine wpList_copy_col rfl (.tmp 58) (.tmp 59) rfl n0 (some x) c0 A0 rfl rfl rfl S.out ?_; intro w1 r1 hB1 hC1)
      go_meet
      exact ⟨chain hB hB1, _, _, _, rfl, fun _ => rfl, hC1⟩
  case rest =>
  clear hB 
  obtain ⟨hB, p0, k0, b0, rfl, z0, C0⟩ := hcut
  go_upto_if 63 with fail
  go_cut [1, 18] from 64 to 70 (fun x1 y1 wx => Below w.heap.size w wx ∧ Col wx b0 0 n0 A0 ∧ Kept wx x1 n1 A1)
  case first =>
    have hmk := run_make_row' (P := Try.prog) 22 23 (.int .u64 0) 8 Try.underlying22 Try.info23 rfl .i64 .i64 n1 (by omega) (by omega)
    cases a1 with
    | none =>
      obtain rfl : n1 = 0 := s1.1 rfl
      go_wp2; go_meet
      exact ⟨hB, C0, none, _, 0, rfl, fun h => absurd h (by omega), fun i hi => absurd hi (by omega)⟩
    | some x =>
      have S : Aside (0 < n1 → ∃ y, some x = some y ∧ ∀ i, i < n1 → wc.cell? (y.add i) = some (.int .u64 (A1 i))) := (s1.later hB).2
      go_wp2_with (refine wpList_copy_col rfl (.tmp 67) (.tmp 68) rfl n1 (some x) c1 A1 rfl rfl rfl S.out ?_; intro w1 r1 hB1 hC1)
      go_meet
      exact ⟨chain hB hB1, C0.later hB1, _, _, _, rfl, fun _ => rfl, hC1⟩
  case rest =>
  clear hB C0
  obtain ⟨hB, C0, p1, k1, b1, rfl, z1, C1⟩ := hcut
  go_upto_if 72 with fail
  go_cut [2, 19] from 73 to 79 (fun x2 y2 wx => Below w.heap.size w wx ∧ Col wx b0 0 n0 A0 ∧ Col wx b1 0 n1 A1 ∧ Kept wx x2 n2 A2)
  case first =>
    have hmk := run_make_row' (P := Try.prog) 22 23 (.int .u64 0) 8 Try.underlying22 Try.info23 rfl .i64 .i64 n2 (by omega) (by omega)
    cases a2 with
    | none =>
      obtain rfl : n2 = 0 := s2.1 rfl
      go_wp2; go_meet
      exact ⟨hB, C0, C1, none, _, 0, rfl, fun h => absurd h (by omega), fun i hi => absurd hi (by omega)⟩
    | some x =>
      have S : Aside (0 < n2 → ∃ y, some x = some y ∧ ∀ i, i < n2 → wc.cell? (y.add i) = some (.int .u64 (A2 i))) := (s2.later hB).2
      go_wp2_with (refine wpList_copy_col rfl (.tmp 76) (.tmp 77) rfl n2 (some x) c2 A2 rfl rfl rfl S.out ?_; intro w1 r1 hB1 hC1)
      go_meet
      exact ⟨chain hB hB1, C0.later hB1, C1.later hB1, _, _, _, rfl, fun _ => rfl, hC1⟩
  case rest =>
  clear hB C0 C1
  obtain ⟨hB, C0, C1, p2, k2, b2, rfl, z2, C2⟩ := hcut
  go_upto_if 81 with fail
  go_cut [3, 20] from 82 to 88 (fun x3 y3 wx => Below w.heap.size w wx ∧ Col wx b0 0 n0 A0 ∧ Col wx b1 0 n1 A1 ∧ Col wx b2 0 n2 A2 ∧ Kept wx x3 n3 A3)
  case first =>
    have hmk := run_make_row' (P := Try.prog) 22 23 (.int .u64 0) 8 Try.underlying22 Try.info23 rfl .i64 .i64 n3 (by omega) (by omega)
    cases a3 with
    | none =>
      obtain rfl : n3 = 0 := s3.1 rfl
      go_wp2; go_meet
      exact ⟨hB, C0, C1, C2, none, _, 0, rfl, fun h => absurd h (by omega), fun i hi => absurd hi (by omega)⟩
    | some x =>
      have S : Aside (0 < n3 → ∃ y, some x = some y ∧ ∀ i, i < n3 → wc.cell? (y.add i) = some (.int .u64 (A3 i))) := (s3.later hB).2
      go_wp2_with (refine wpList_copy_col rfl (.tmp 85) (.tmp 86) rfl n3 (some x) c3 A3 rfl rfl rfl S.out ?_; intro w1 r1 hB1 hC1)
      go_meet
      exact ⟨chain hB hB1, C0.later hB1, C1.later hB1, C2.later hB1, _, _, _, rfl, fun _ => rfl, hC1⟩
  case rest =>
  clear hB C0 C1 C2
  obtain ⟨hB, C0, C1, C2, p3, k3, b3, rfl, z3, C3⟩ := hcut
  clear s0 s1 s2 s3 d0 d1 d2 d3 q22
  by_cases m1 : n1 = n0
  case neg => go_wp2; go_ret; exact ⟨rfl, hB⟩
  by_cases m2 : n2 = n0
  case neg => go_wp2; go_ret; exact ⟨rfl, hB⟩
  by_cases m3 : n3 = n0
  case neg => go_wp2; go_ret; exact ⟨rfl, hB⟩
  subst m1 m2 m3
  by_cases v0 : v < 0
  · go_wp2; go_ret; exact ⟨rfl, hB⟩
  by_cases v1 : (n3 : Int) ≤ v
  · go_wp2; go_ret; exact ⟨rfl, hB⟩
  obtain ⟨v, rfl⟩ : ∃ u : Nat, v = (u : Int) := ⟨v.toNat, by omega⟩
  have hv : v < n3 := by omega
  obtain rfl := z0 (by omega)
  obtain rfl := z1 (by omega)
  obtain rfl := z2 (by omega)
  obtain rfl := z3 (by omega)
  clear z0 z1 z2 z3
  obtain ⟨bt, hbt⟩ : ∃ bt : Int, bt = if v < 64 then IntKind.u64.wrap (2 ^ v) else 0 := ⟨_, rfl⟩
  have dv0 : decide ((v : Int) < 0) = false := decide_eq_false (by omega)
  have dv1 : decide ((n3 : Int) ≤ (v : Int)) = false := decide_eq_false (by omega)
  have dn : ((n3 : Int) != (n3 : Int)) = false := by simp
  go_upto_if 115 with fail
  go_cut [22] from 115 to 118 (fun s22 wx => s22 = .int .u64 bt ∧ wx = wc)
  case first =>
    by_cases v2 : v < 64
    · rw [if_pos v2] at hbt
      subst hbt
      have dv2 : decide ((v : Int) < 64) = true := decide_eq_true (by omega)
      go_wp2; go_meet
      exact ⟨rfl, rfl⟩
    · rw [if_neg v2] at hbt
      subst hbt
      have dv2 : decide ((v : Int) < 64) = false := decide_eq_false (by omega)
      go_wp2; go_meet
      exact ⟨rfl, rfl⟩
  case rest =>
  obtain ⟨rfl, rfl⟩ := hcut
  clear dv0 dv1 dn
  obtain ⟨R1, hR1⟩ : ∃ R1, receiptP (early root v k (A0 v) (A1 v) (A2 v) (A3 v)) (bits .and .u64 (bits .andNot .u64 rc bt) (IntKind.u64.wrap (2 ^ min v 64)) != 0) = R1 := ⟨_, rfl⟩
  obtain ⟨R2, hR2⟩ : ∃ R2, receiptP (early root v k (A0 v) (A1 v) (A2 v) (A3 v)) (bits .and .u64 (bits .or .u64 rc bt) (IntKind.u64.wrap (2 ^ min v 64)) != 0) = R2 := ⟨_, rfl⟩
  have i1 : ∀ w, Calls Try.prog 8 #[.string R1] w fun x w' => x = .returned (.bool true) ∧ w = w' := fun w => by rw [← hR1]; exact isReceipt_core _ _ w
  have i2 : ∀ w, Calls Try.prog 8 #[.string R2] w fun x w' => x = .returned (.bool true) ∧ w = w' := fun w => by rw [← hR2]; exact isReceipt_core _ _ w
  have key := (show Aside _ from two_receipts rc bt root k (A0 v) (A1 v) (A2 v) (A3 v) v hbt R1 R2 hR1 hR2)
  clear hbt
  go_wp2_with fail
  refine (routes_core b0 0 b1 0 b2 0 b3 0 n3 k0 k1 k2 k3 A0 A1 A2 A3 (bits .andNot .u64 rc bt) _ (by omega) (by omega) C0 C1 C2 C3).mono ?_
  rintro e w1 ⟨b, rb, mb, rfl, hB1, h7, h6, h8, hr, hm⟩
  go_wp2_with fail
  refine (zzreceipt_core b rb 0 mb 0 n3 n3 n3 v root k (A0 v) (A1 v) (A2 v) (A3 v) (bits .andNot .u64 rc bt) w1 h7 h6 h8 hv (by omega) (by rw [Nat.zero_add, hr _ (by omega), pair0]) (by rw [Nat.zero_add, hr _ (by omega), pair1]) (by rw [Nat.zero_add, hm _ (by omega), pair0]) (by rw [Nat.zero_add, hm _ (by omega), pair1])).mono ?_
  rw [hR1]
  rintro e w2 ⟨rfl, hB2⟩
  have hBa := chain hB1 hB2
  clear hB1 hB2 h7 h6 h8 hr hm
  go_wp2_with fail
  refine (routes_core b0 0 b1 0 b2 0 b3 0 n3 k0 k1 k2 k3 A0 A1 A2 A3 (bits .or .u64 rc bt) w2 (by omega) (by omega) (C0.later hBa) (C1.later hBa) (C2.later hBa) (C3.later hBa)).mono ?_
  rintro e w3 ⟨b', rb', mb', rfl, hB3, h7, h6, h8, hr, hm⟩
  go_wp2_with fail
  refine (zzreceipt_core b' rb' 0 mb' 0 n3 n3 n3 v root k (A0 v) (A1 v) (A2 v) (A3 v) (bits .or .u64 rc bt) w3 h7 h6 h8 hv (by omega) (by rw [Nat.zero_add, hr _ (by omega), pair0]) (by rw [Nat.zero_add, hr _ (by omega), pair1]) (by rw [Nat.zero_add, hm _ (by omega), pair0]) (by rw [Nat.zero_add, hm _ (by omega), pair1])).mono ?_
  rw [hR2]
  rintro e w4 ⟨rfl, hB4⟩
  have hBz := chain (chain (chain hB hBa) hB3) hB4
  clear hBa hB3 hB4 hB h7 h6 h8 hr hm C0 C1 C2 C3 hR1 hR2
  go_wp2_with fail
  refine (i1 _).mono ?_
  rintro e w5 ⟨rfl, rfl⟩
  go_wp2_with fail
  refine (i2 _).mono ?_
  rintro e w5 ⟨rfl, rfl⟩
  clear i1 i2
  rcases key.out with ⟨kr, rfl, rfl⟩ | ⟨kr, rfl, rfl, rfl | rfl | rfl⟩ | ⟨kr, kb, rfl, rfl⟩ | ⟨kr, kb, rfl, rfl | rfl⟩
  all_goals
    clear key
    simp only [gotIt, missedIt, notKnown]
    go_wp2; go_ret; exact ⟨rfl, hBz⟩
end Go.Proofs.Qxb6625825a
