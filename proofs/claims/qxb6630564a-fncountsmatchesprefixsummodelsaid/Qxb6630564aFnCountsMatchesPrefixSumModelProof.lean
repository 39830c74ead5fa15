/-
  THE PROOF OF 'Rows.FnCountsMatchesPrefixSumModelSaid'. The frame goes the guide's own way (howto/template/XProofs.lean), at this function's number and types.
-/
import Derived.Test.Qxb6630564aRows
import Derived.WalkKit
import Derived.ProofKit
import Derived.OpenShut
import Derived.ShutString
import Derived.ChangeOld
import Derived.Below
import Derived.Test.Qxb6630564aOpenB
import Derived.Test.Qxb6630564aPrefix
namespace Go.Proofs.Qxb6630564a.fnCountsMatchesPrefixSumModel
open Go.ChangeShapes Go.WideShapes Go.ChangeAt Go.RowKit
set_option linter.unusedVariables false

theorem own : ownKnob Try.prog.godebug = none := by kernel_rfl
theorem laidOut : laidOutB Try.prog = true := by kernel_rfl

theorem walk (na : Option Addr) (K nc : Nat) (N : Nat → ByteArray) (nb no : Nat) (sa : Option Addr) (K1 sc : Nat) (T : Nat → Int) (sk so : Nat) (pa : Option Addr) (K2 pc : Nat) (I : Nat → Inner) (pb po : Nat)
    (da : Option Addr) (K3 dc : Nat) (J : Nat → Inner) (db do0 : Nat) (ack dr : Int) (w : World)
    (hn : ValAt w na K (fun i => .string (N i)) nb no) (hN : ∀ i, i < K → (N i).size ≤ maxLen) (mK : K ≤ maxLen)
    (hs : ValAt w sa K1 (fun i => .int .u64 (T i)) sk so) (mK1 : K1 ≤ maxLen)
    (hp : ValAt w pa K2 (fun i => .slice (I i).a (I i).n (I i).c) pb po) (hI : ∀ i, i < K2 → InnerAt .u64 2 18446744073709551615 w (I i)) (mK2 : K2 ≤ maxLen)
    (hd : ValAt w da K3 (fun i => .slice (J i).a (J i).n (J i).c) db do0) (hJ : ∀ i, i < K3 → InnerAt .u8 1 255 w (J i)) (mK3 : K3 ≤ maxLen) :
    Calls Try.prog 3 #[.slice na K nc, .slice sa K1 sc, .slice pa K2 pc, .slice da K3 dc, .int .i64 ack, .int .i64 dr] w fun e w' => e = .returned (.bool true) ∧ Below w.heap.size w w' := by
  unfold maxLen at hN mK mK1 mK2 mK3
  refine prefix_core na nb no K nc N sa sk so K1 sc T pa pb po K2 pc (fun i => (I i).a) (fun i => (I i).b) (fun i => (I i).o) (fun i => (I i).n) (fun i => (I i).c) (fun i => (I i).f)
    da db do0 K3 dc (fun i => (J i).a) (fun i => (J i).b) (fun i => (J i).o) (fun i => (J i).n) (fun i => (J i).c) (fun i => (J i).f) ack dr w
    { xna := hn.1, xnz := hn.2.1, xnc := hn.2.2, xnl := hN
      xsa := hs.1, xsz := hs.2.1, xsc := hs.2.2
      xpa := hp.1, xpz := hp.2.1, xpc := hp.2.2, xpl := fun i hi => (hI i hi).2.2.2.2
      xPa := fun i hi => (hI i hi).2.1, xPz := fun i hi => (hI i hi).1, xPc := fun i hi => (hI i hi).2.2.1, xPb := fun i hi => (hI i hi).2.2.2.1
      xda := hd.1, xdz := hd.2.1, xdc := hd.2.2, xdl := fun i hi => (hJ i hi).2.2.2.2
      xDa := fun i hi => (hJ i hi).2.1, xDz := fun i hi => (hJ i hi).1, xDc := fun i hi t ht => (hJ i hi).2.2.1 t (by simpa using ht), xDb := fun i hi t ht => (hJ i hi).2.2.2.1 t (by simpa using ht)
      xmK := mK, xmK1 := mK1, xmK2 := mK2, xmK3 := mK3 }

set_option maxRecDepth 100000 in
theorem lifted (os : Os) (started : os.Started) (H : Type) (enc : TypeId × Value → H) :
    ReturnsInHanded {} Try.checked os 3 .any (Rows.fnCountsMatchesPrefixSumModelSpec.pre6 enc Try.prog Try.f3 Rows.fnCountsMatchesPrefixSumModelRow.domain false) (Rows.fnCountsMatchesPrefixSumModelSpec.post enc Try.prog Try.f3 false true false false) := by
  refine returnsInHanded_of_change (C := Try.checked) own started (by kernel_rfl) Try.func3
    (ChangeSpec.witness6 (enc := enc) (C := Try.checked) false ⟨#[], #[.slice none 0 0, .slice none 0 0, .slice none 0 0, .slice none 0 0, .int .i64 0, .int .i64 0], []⟩ 8 (by kernel_rfl) (by kernel_rfl) (by kernel_rfl) (by kernel_rfl)) ?_
  intro W base args ds gs before hval0 hW hcnd _
  have hval : ∀ (j : Nat) t v, Try.f3.params[j]? = some t → args[j]? = some v → Value.okWide Try.prog W .any base t v := hval0
  have hW' := hW
  obtain ⟨p, q, hA0, hV, rfl, hfz, hnd⟩ := hW
  have hA : DataW.TrodAll enc Try.prog W 0 (fun _ => true) true Try.f3.params.toList args.toList ds p := hA0
  rw [Try.params3] at hA hval
  obtain ⟨v0, vs0, d0, ds0, p0, q0, hargs, rfl, rfl, h0, r0⟩ := trodAll_cons hA
  obtain ⟨v1, vs1, d1, ds1, p1, q1, rfl, rfl, rfl, h1, r1⟩ := trodAll_cons r0
  obtain ⟨v2, vs2, d2, ds2, p2, q2, rfl, rfl, rfl, h2, r2⟩ := trodAll_cons r1
  obtain ⟨v3, vs3, d3, ds3, p3, q3, rfl, rfl, rfl, h3, r3⟩ := trodAll_cons r2
  obtain ⟨v4, vs4, d4, ds4, p4, q4, rfl, rfl, rfl, h4, r4⟩ := trodAll_cons r3
  obtain ⟨v5, vs5, d5, ds5, p5, q5, rfl, rfl, rfl, h5, r5⟩ := trodAll_cons r4
  obtain ⟨rfl, rfl, rfl⟩ := trodAll_nil r5
  obtain rfl : args = #[v0, v1, v2, v3, v4, v5] := by cases args; simp_all
  obtain ⟨rfl, rfl⟩ := trodVars_none hV
  obtain ⟨na, K, nc, rfl⟩ := okWide_slice Try.underlying22 (hval 0 22 v0 rfl rfl)
  have k0 := h0
  have lt0 : ∀ x ∈ p0, x.block < W.heap.size := by obtain ⟨m, hm⟩ := k0; exact DataW.trod_lt m _ _ _ hm
  obtain ⟨N, nb, no, wn, wN, mK⟩ : ∃ (N : Nat → ByteArray) (nb no : Nat), ValAt W na K (fun i => .string (N i)) nb no ∧ (∀ i, i < K → (N i).size ≤ maxLen) ∧ K ≤ maxLen := by
    obtain ⟨fuel, hf⟩ := h0
    obtain ⟨a, n, c, N, b, o, hcs, hR, hN, hn⟩ := open_names hf
    simp [Value.cells] at hcs
    obtain ⟨rfl, rfl, rfl⟩ := hcs
    exact ⟨N, b, o, hR, hN, hn⟩
  obtain ⟨sa, K1, sc, rfl⟩ := okWide_slice Try.underlying23 (hval 1 23 v1 rfl rfl)
  have k1 := h1
  have lt1 : ∀ x ∈ p1, x.block < W.heap.size := by obtain ⟨m, hm⟩ := k1; exact DataW.trod_lt m _ _ _ hm
  obtain ⟨T, sk, so, ws, mK1⟩ : ∃ (T : Nat → Int) (sk so : Nat), ValAt W sa K1 (fun i => .int .u64 (T i)) sk so ∧ K1 ≤ maxLen := by
    obtain ⟨fuel, hf⟩ := h1
    obtain ⟨a, n, c, T, b, o, hcs, hR, hn⟩ := open_sents hf
    simp [Value.cells] at hcs
    obtain ⟨rfl, rfl, rfl⟩ := hcs
    exact ⟨T, b, o, hR, hn⟩
  obtain ⟨pa, K2, pc, rfl⟩ := okWide_slice Try.underlying24 (hval 2 24 v2 rfl rfl)
  have k2 := h2
  have lt2 : ∀ x ∈ p2, x.block < W.heap.size := by obtain ⟨m, hm⟩ := k2; exact DataW.trod_lt m _ _ _ hm
  obtain ⟨I, pb, po, wp, wI, mK2⟩ : ∃ (I : Nat → Inner) (pb po : Nat), ValAt W pa K2 (fun i => .slice (I i).a (I i).n (I i).c) pb po ∧ (∀ i, i < K2 → InnerAt .u64 2 18446744073709551615 W (I i)) ∧ K2 ≤ maxLen := by
    obtain ⟨fuel, hf⟩ := h2
    obtain ⟨a, n, c, I, b, o, hcs, hR, hI, hn⟩ := open_spanss hf
    simp [Value.cells] at hcs
    obtain ⟨rfl, rfl, rfl⟩ := hcs
    exact ⟨I, b, o, hR, hI, hn⟩
  obtain ⟨da, K3, dc, rfl⟩ := okWide_slice Try.underlying25 (hval 3 25 v3 rfl rfl)
  have k3 := h3
  have lt3 : ∀ x ∈ p3, x.block < W.heap.size := by obtain ⟨m, hm⟩ := k3; exact DataW.trod_lt m _ _ _ hm
  obtain ⟨J, db, do0, wd, wJ, mK3⟩ : ∃ (J : Nat → Inner) (db do0 : Nat), ValAt W da K3 (fun i => .slice (J i).a (J i).n (J i).c) db do0 ∧ (∀ i, i < K3 → InnerAt .u8 1 255 W (J i)) ∧ K3 ≤ maxLen := by
    obtain ⟨fuel, hf⟩ := h3
    obtain ⟨a, n, c, J, b, o, hcs, hR, hJ, hn⟩ := open_bytess hf
    simp [Value.cells] at hcs
    obtain ⟨rfl, rfl, rfl⟩ := hcs
    exact ⟨J, b, o, hR, hJ, hn⟩
  obtain ⟨a4, rfl, rfl, rfl, w4⟩ := open_int Try.underlying3 (hval 4 3 v4 rfl rfl) h4
  obtain ⟨a5, rfl, rfl, rfl, w5⟩ := open_int Try.underlying3 (hval 5 3 v5 rfl rfl) h5
  clear hA0 hval0
  refine (walk na K nc N nb no sa K1 sc T sk so pa K2 pc I pb po da K3 dc J db do0 a4 a5 W wn wN mK ws mK1 wp wI mK2 wd wJ mK3).mono fun e W' ⟨he, bel⟩ => ?_
  subst he
  exact ⟨_, rfl, _, _, _, [], _, [], hW', trodAll_mk1 (shut_bool Try.underlying4 _), (trodAll_cons_mk (Below.trod laidOut (by kernel_rfl) (of_decide_eq_true (by kernel_rfl)) k0 bel lt0) (trodAll_cons_mk (Below.trod laidOut (by kernel_rfl) (of_decide_eq_true (by kernel_rfl)) k1 bel lt1) (trodAll_cons_mk (Below.trod laidOut (by kernel_rfl) (of_decide_eq_true (by kernel_rfl)) k2 bel lt2) (trodAll_cons_mk (Below.trod laidOut (by kernel_rfl) (of_decide_eq_true (by kernel_rfl)) k3 bel lt3) (trodAll_cons_mk (shut_int Try.underlying3 w4) (trodAll_cons_mk (shut_int Try.underlying3 w5) trodAll_mk0)))))), rfl, bel.frame _, fun h => by cases h⟩

theorem over : Rows.fnCountsMatchesPrefixSumModelRow.holds Try.pinned (OpenSpec.ofChange Rows.fnCountsMatchesPrefixSumModelSpec) :=
  OpenClaim.holds_of_wide 3 Try.f3 rfl rfl rfl rfl rfl rfl rfl ⟨rfl, rfl, rfl, rfl, rfl⟩ rfl rfl rfl rfl rfl (by kernel_rfl) Try.func3 (by kernel_rfl)
    (of_decide_eq_true (by kernel_rfl)) (by unfold Func.isWrapper; first | (rw [if_pos (by decide +kernel)]; kernel_rfl) | (rw [if_neg (by decide +kernel)]; exact ⟨rfl, rfl⟩))
    (fun os started H enc _ => lifted os started H enc)

/-- THE STATEMENT -/
theorem proved : Rows.FnCountsMatchesPrefixSumModelSaid := over
#print axioms proved
end Go.Proofs.Qxb6630564a.fnCountsMatchesPrefixSumModel
