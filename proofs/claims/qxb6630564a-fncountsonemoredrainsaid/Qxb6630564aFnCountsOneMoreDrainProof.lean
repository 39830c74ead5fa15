/-
  THE PROOF OF 'Rows.FnCountsOneMoreDrainSaid'. The frame goes the guide's own way (howto/template/XProofs.lean), at this function's number and types.
-/
import Derived.Test.Qxb6630564aRows
import Derived.WalkKit
import Derived.ProofKit
import Derived.OpenShut
import Derived.ShutString
import Derived.ChangeOld
import Derived.Below
import Derived.Test.Qxb6630564aOpen
import Derived.Test.Qxb6630564aMoreNew
import Derived.Test.Qxb6630564aMoreAt
namespace Go.Proofs.Qxb6630564a.fnCountsOneMoreDrain
open Go.ChangeShapes Go.WideShapes Go.ChangeAt Go.RowKit
open Go.ChangeMaps (open_string shut_string)
set_option linter.unusedVariables false

theorem own : ownKnob Try.prog.godebug = none := by kernel_rfl
theorem laidOut : laidOutB Try.prog = true := by kernel_rfl

set_option maxRecDepth 100000 in
set_option maxHeartbeats 1600000 in
theorem walk (s : ByteArray) (sent : Int) (a2 : Option Addr) (m c2 : Nat) (S : Nat → Int) (a3 : Option Addr) (n c3 : Nat) (f : Nat → Int) (a4 a5 a6 : Int) (w : World)
    (w2 : RowAt .u64 2 18446744073709551615 w a2 m S) (w3 : RowAt .u8 1 255 w a3 n f) (w4 : (Lit.int .i64 a4).wf = true) (hs : s.size ≤ maxLen) (hm : m ≤ maxLen) (hn : n ≤ maxLen) :
    Calls Try.prog 4 #[.string s, .int .u64 sent, .slice a2 m c2, .slice a3 n c3, .int .i64 a4, .int .i64 a5, .int .i64 a6] w fun e w' => e = .returned (.bool true) ∧ Below w.heap.size w w' := by
  have hb4 := bounds_i64 w4
  obtain ⟨z2, ⟨k2, o2, e2, c2'⟩, b2⟩ := w2
  obtain ⟨z3, ⟨k3, o3, e3, c3'⟩, b3⟩ := w3
  simp only [Nat.mul_one] at c3' b3
  unfold maxLen at hs hm hn
  by_cases g1 : 1048576 < s.size
  · go_enter Try.func4, Try.ntmps4; go_wp2; go_ret; exact ⟨rfl, Below.refl _ _⟩
  by_cases g2 : 65536 < m
  · by_cases g2a : 1048576 < m
    · go_enter Try.func4, Try.ntmps4; go_wp2; go_ret; exact ⟨rfl, Below.refl _ _⟩
    by_cases g2b : 1048576 < s.size + m
    · go_enter Try.func4, Try.ntmps4; go_wp2; go_ret; exact ⟨rfl, Below.refl _ _⟩
    by_cases g2c : 1048576 < n
    · go_enter Try.func4, Try.ntmps4; go_wp2; go_ret; exact ⟨rfl, Below.refl _ _⟩
    by_cases g2d : 1048576 < s.size + m + n
    · go_enter Try.func4, Try.ntmps4; go_wp2; go_ret; exact ⟨rfl, Below.refl _ _⟩
    go_enter Try.func4, Try.ntmps4; go_wp2; go_ret; exact ⟨rfl, Below.refl _ _⟩
  by_cases g3 : 1048576 < s.size + 16 * m + n
  · by_cases g2b : 1048576 < s.size + m
    · go_enter Try.func4, Try.ntmps4; go_wp2; go_ret; exact ⟨rfl, Below.refl _ _⟩
    by_cases g2c : 1048576 < n
    · go_enter Try.func4, Try.ntmps4; go_wp2; go_ret; exact ⟨rfl, Below.refl _ _⟩
    by_cases g2d : 1048576 < s.size + m + n
    · go_enter Try.func4, Try.ntmps4; go_wp2; go_ret; exact ⟨rfl, Below.refl _ _⟩
    go_enter Try.func4, Try.ntmps4; go_wp2; go_ret; exact ⟨rfl, Below.refl _ _⟩
  by_cases g4 : a4 < 0
  · go_enter Try.func4, Try.ntmps4; go_wp2; go_ret; exact ⟨rfl, Below.refl _ _⟩
  by_cases g5 : (n : Int) < a4
  · go_enter Try.func4, Try.ntmps4; go_wp2; go_ret; exact ⟨rfl, Below.refl _ _⟩
  obtain ⟨j, rfl⟩ : ∃ j : Nat, a4 = (j : Int) := ⟨a4.toNat, by omega⟩
  by_cases g6 : j = n
  · exact more_new s sent a2 k2 o2 m c2 S a3 k3 o3 n c3 f j a5 a6 w (by omega) g6 b3 (fun h => absurd h (by omega)) b2 e2 z2 c2' e3 z3 c3'
  · have hjn : j < n := by omega
    by_cases g7 : f j = 255
    · obtain rfl := e3 (by omega)
      have hc := c3' j hjn
      rw [g7] at hc
      have hjz : (j : Int) < (n : Int) := by omega
      clear g7 c3' c2' b2 b3
      go_enter Try.func4, Try.ntmps4; go_wp2; go_ret; exact ⟨rfl, Below.refl _ _⟩
    · exact more_at s sent a2 k2 o2 m c2 S a3 k3 o3 n c3 f j a5 a6 w (by omega) hjn b3 (fun _ => g7) b2 e2 z2 c2' e3 z3 c3'

set_option maxRecDepth 100000 in
theorem lifted (os : Os) (started : os.Started) (H : Type) (enc : TypeId × Value → H) :
    ReturnsInHanded {} Try.checked os 4 .any (Rows.fnCountsOneMoreDrainSpec.pre6 enc Try.prog Try.f4 Rows.fnCountsOneMoreDrainRow.domain false) (Rows.fnCountsOneMoreDrainSpec.post enc Try.prog Try.f4 false true false false) := by
  refine returnsInHanded_of_change (C := Try.checked) own started (by kernel_rfl) Try.func4
    (ChangeSpec.witness6 (enc := enc) (C := Try.checked) false ⟨#[], #[.string ByteArray.empty, .int .u64 0, .slice none 0 0, .slice none 0 0, .int .i64 0, .int .i64 0, .int .i64 0], []⟩ 8 (by kernel_rfl) (by kernel_rfl) (by kernel_rfl) (by kernel_rfl)) ?_
  intro W base args ds gs before hval0 hW hcnd _
  have hval : ∀ (j : Nat) t v, Try.f4.params[j]? = some t → args[j]? = some v → Value.okWide Try.prog W .any base t v := hval0
  have hW' := hW
  obtain ⟨p, q, hA0, hV, rfl, hfz, hnd⟩ := hW
  have hA : DataW.TrodAll enc Try.prog W 0 (fun _ => true) true Try.f4.params.toList args.toList ds p := hA0
  rw [Try.params4] at hA hval
  obtain ⟨v0, vs0, d0, ds0, p0, q0, hargs, rfl, rfl, h0, r0⟩ := trodAll_cons hA
  obtain ⟨v1, vs1, d1, ds1, p1, q1, rfl, rfl, rfl, h1, r1⟩ := trodAll_cons r0
  obtain ⟨v2, vs2, d2, ds2, p2, q2, rfl, rfl, rfl, h2, r2⟩ := trodAll_cons r1
  obtain ⟨v3, vs3, d3, ds3, p3, q3, rfl, rfl, rfl, h3, r3⟩ := trodAll_cons r2
  obtain ⟨v4, vs4, d4, ds4, p4, q4, rfl, rfl, rfl, h4, r4⟩ := trodAll_cons r3
  obtain ⟨v5, vs5, d5, ds5, p5, q5, rfl, rfl, rfl, h5, r5⟩ := trodAll_cons r4
  obtain ⟨v6, vs6, d6, ds6, p6, q6, rfl, rfl, rfl, h6, r6⟩ := trodAll_cons r5
  obtain ⟨rfl, rfl, rfl⟩ := trodAll_nil r6
  obtain rfl : args = #[v0, v1, v2, v3, v4, v5, v6] := by cases args; simp_all
  obtain ⟨rfl, rfl⟩ := trodVars_none hV
  obtain ⟨s, rfl, rfl, rfl, hs⟩ := open_string Try.underlying9 (hval 0 9 v0 rfl rfl) h0
  obtain ⟨a1, rfl, rfl, rfl, w1⟩ := open_int Try.underlying29 (hval 1 29 v1 rfl rfl) h1
  obtain ⟨a2, len2, cap2, rfl⟩ := okWide_slice Try.underlying27 (hval 2 27 v2 rfl rfl)
  have k2 := h2
  have lt2 : ∀ x ∈ p2, x.block < W.heap.size := by obtain ⟨m, hm⟩ := k2; exact DataW.trod_lt m _ _ _ hm
  obtain ⟨S, w2, hl2⟩ : ∃ S, RowAt .u64 2 18446744073709551615 W a2 len2 S ∧ len2 ≤ maxLen := by
    obtain ⟨fuel, hf⟩ := h2
    obtain ⟨a, n, c, S, hcs, hR, hn⟩ := open_spans hf
    simp [Value.cells] at hcs
    obtain ⟨rfl, rfl, rfl⟩ := hcs
    exact ⟨S, hR, hn⟩
  obtain ⟨a3, len3, cap3, rfl⟩ := okWide_slice Try.underlying28 (hval 3 28 v3 rfl rfl)
  have k3 := h3
  have lt3 : ∀ x ∈ p3, x.block < W.heap.size := by obtain ⟨m, hm⟩ := k3; exact DataW.trod_lt m _ _ _ hm
  obtain ⟨f, w3, hl3⟩ : ∃ f, RowAt .u8 1 255 W a3 len3 f ∧ len3 ≤ maxLen := by
    obtain ⟨fuel, hf⟩ := h3
    obtain ⟨a, n, c, f, hcs, hR, hn⟩ := open_bytes hf
    simp [Value.cells] at hcs
    obtain ⟨rfl, rfl, rfl⟩ := hcs
    exact ⟨f, hR, hn⟩
  obtain ⟨a4, rfl, rfl, rfl, w4⟩ := open_int Try.underlying3 (hval 4 3 v4 rfl rfl) h4
  obtain ⟨a5, rfl, rfl, rfl, w5⟩ := open_int Try.underlying3 (hval 5 3 v5 rfl rfl) h5
  obtain ⟨a6, rfl, rfl, rfl, w6⟩ := open_int Try.underlying3 (hval 6 3 v6 rfl rfl) h6
  clear hA0 hval0
  refine (walk s a1 a2 len2 cap2 S a3 len3 cap3 f a4 a5 a6 W w2 w3 w4 hs hl2 hl3).mono fun e W' ⟨he, bel⟩ => ?_
  subst he
  exact ⟨_, rfl, _, _, _, [], _, [], hW', trodAll_mk1 (shut_bool Try.underlying4 _), (trodAll_cons_mk (shut_string Try.underlying9 hs) (trodAll_cons_mk (shut_int Try.underlying29 w1) (trodAll_cons_mk (Below.trod laidOut (by kernel_rfl) (of_decide_eq_true (by kernel_rfl)) k2 bel lt2) (trodAll_cons_mk (Below.trod laidOut (by kernel_rfl) (of_decide_eq_true (by kernel_rfl)) k3 bel lt3) (trodAll_cons_mk (shut_int Try.underlying3 w4) (trodAll_cons_mk (shut_int Try.underlying3 w5) (trodAll_cons_mk (shut_int Try.underlying3 w6) trodAll_mk0))))))), rfl, bel.frame _, fun h => by cases h⟩

theorem over : Rows.fnCountsOneMoreDrainRow.holds Try.pinned (OpenSpec.ofChange Rows.fnCountsOneMoreDrainSpec) :=
  OpenClaim.holds_of_wide 4 Try.f4 rfl rfl rfl rfl rfl rfl rfl ⟨rfl, rfl, rfl, rfl, rfl⟩ rfl rfl rfl rfl rfl (by kernel_rfl) Try.func4 (by kernel_rfl)
    (of_decide_eq_true (by kernel_rfl)) (by unfold Func.isWrapper; first | (rw [if_pos (by decide +kernel)]; kernel_rfl) | (rw [if_neg (by decide +kernel)]; exact ⟨rfl, rfl⟩))
    (fun os started H enc _ => lifted os started H enc)

/-- THE STATEMENT -/
theorem proved : Rows.FnCountsOneMoreDrainSaid := over
#print axioms proved
end Go.Proofs.Qxb6630564a.fnCountsOneMoreDrain
