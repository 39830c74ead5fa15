/-
  THE ARGUMENTS OPENED: a []byte, a [][2]uint64.
-/
import Derived.Test.Qxb6630564aRows
import Derived.WalkKit
import Derived.ProofKit
import Derived.OpenShut
import Derived.Deep.Slices
import Derived.Below
set_option linter.unusedVariables false
namespace Go.Proofs.Qxb6630564a
open Go.ChangeShapes Go.WideShapes Go.ChangeAt Go.RowKit Go.Deep

theorem Try.cells30 : Try.prog.cellsOf 30 = 2 := by kernel_rfl
theorem Try.cells29 : Try.prog.cellsOf 29 = 1 := by kernel_rfl
theorem Try.cells5 : Try.prog.cellsOf 5 = 1 := by kernel_rfl

/-- A slice of n elements of q numbers each, told by f, each number between 0 and top. -/
def RowAt (k : IntKind) (q : Nat) (top : Int) (w : World) (a : Option Addr) (n : Nat) (f : Nat → Int) : Prop :=
  (a = none → n = 0) ∧ (∃ b o, (0 < n → a = some ⟨b, o, none⟩) ∧ ∀ i, i < n * q → w.cell? ⟨b, o + i, none⟩ = some (.int k (f i))) ∧ ∀ i, i < n * q → 0 ≤ f i ∧ f i ≤ top

theorem rowAt_mk {k : IntKind} {q : Nat} {top : Int} {w : World} {a : Addr} {n : Nat} {f : Nat → Int} (hq : 0 < q) (hc : ∀ i, i < n * q → w.cell? (a.add i) = some (.int k (f i))) (hb : ∀ i, i < n * q → 0 ≤ f i ∧ f i ≤ top) : RowAt k q top w (some a) n f := by
  obtain ⟨b, o, spot⟩ := a
  by_cases hn : 0 < n
  · have h0 : 0 < n * q := Nat.mul_pos hn hq
    have hs : spot = none := by simpa [Addr.add] using World.cell?_spot (hc 0 h0)
    subst hs
    exact ⟨fun h => (by cases h), ⟨b, o, fun _ => rfl, fun i hi => by have := hc i hi; rwa [Addr.add_lit] at this⟩, hb⟩
  · have h0 : n = 0 := by omega
    subst h0
    exact ⟨fun h => (by cases h), ⟨b, o, fun h => absurd h (by omega), fun i hi => absurd hi (by omega)⟩, hb⟩
theorem rowAt_nil (k : IntKind) (q : Nat) (top : Int) (w : World) (f : Nat → Int) : RowAt k q top w none 0 f :=
  ⟨fun _ => rfl, ⟨0, 0, fun h => absurd h (by omega), fun i hi => absurd hi (by omega)⟩, fun i hi => absurd hi (by omega)⟩

section
variable {H : Type} {enc : TypeId × Value → H} {w : World} {base : Nat} {spare : Nat → Bool} {held : Bool}

theorem open_bytes {fuel : Nat} {cs : List Value} {x : DataW H × List MemPlace} (h : DataW.trod enc Try.prog w base spare held fuel 28 cs = some x) :
    ∃ (a : Option Addr) (n c : Nat) (f : Nat → Int), cs = [.slice a n c] ∧ RowAt .u8 1 255 w a n f ∧ n ≤ maxLen := by
  rcases open_ints Try.underlying28 Try.underlying5 Try.cells5 h with ⟨hcs, _⟩ | ⟨a, l, c, zs, hcs, _, hl, hm, hz, _, hcell, hwz⟩
  · exact ⟨none, 0, 0, fun _ => 0, hcs, rowAt_nil _ _ _ _ _, Nat.zero_le _⟩
  · have hlz : l ≤ zs.length := by rw [hz]; split <;> omega
    refine ⟨some a, l, c, fun i => zs.getD i 0, hcs, rowAt_mk (by omega) (fun i hi => hcell i (by omega)) (fun i hi => ?_), Nat.le_trans hl hm⟩
    have hi' : i < zs.length := by omega
    have := bounds_u8 (hwz (zs.getD i 0) (by simp [List.getD, hi']))
    exact this

theorem open_spans {fuel : Nat} {cs : List Value} {x : DataW H × List MemPlace} (h : DataW.trod enc Try.prog w base spare held fuel 27 cs = some x) :
    ∃ (a : Option Addr) (n c : Nat) (S : Nat → Int), cs = [.slice a n c] ∧ RowAt .u64 2 18446744073709551615 w a n S ∧ n ≤ maxLen := by
  rcases open_slice Try.underlying27 h with ⟨hcs, _⟩ | ⟨a, len, cap, m, n, D, Pl, rfl, hb, hl, hm, hmm, rfl, hx⟩
  · exact ⟨none, 0, 0, fun _ => 0, hcs, rowAt_nil _ _ _ _ _, Nat.zero_le _⟩
  have hlm : len ≤ m := by rw [hmm]; split <;> omega
  have each : ∀ i, i < m → ∃ q : Int × Int, (w.cell? (a.add (i * 2)) = some (.int .u64 q.1) ∧ w.cell? (a.add (i * 2 + 1)) = some (.int .u64 q.2)) ∧ (Lit.int .u64 q.1).wf = true ∧ (Lit.int .u64 q.2).wf = true := by
    intro i hi
    obtain ⟨cs', h1, h2⟩ := hx i hi
    rw [Try.cells30] at h1
    obtain ⟨_, hlen, hcell⟩ := World.cells?_some h1
    obtain ⟨xs, k, hk, hxy, _, hxl, hf⟩ := DataW.trod_array Try.underlying30 h2
    match xs, hxl, cs', hlen with
    | [y0, y1], _, [v0, v1], _ =>
      have g0 := hf 0 (by omega)
      have g1 := hf 1 (by omega)
      simp [Try.cells29] at g0 g1
      obtain ⟨z0, e0, _, w0⟩ := DataW.trod_int Try.underlying29 g0
      obtain ⟨z1, e1, _, w1⟩ := DataW.trod_int Try.underlying29 g1
      simp at e0 e1
      subst e0 e1
      have c0 := hcell 0 (by omega)
      have c1 := hcell 1 (by omega)
      rw [add_add] at c0 c1
      exact ⟨(z0, z1), ⟨by simpa using c0, by simpa using c1⟩, w0, w1⟩
  obtain ⟨q, hq⟩ := choose_lt each
  have par : ∀ i, i < len * 2 → ∃ t, t < m ∧ (i = t * 2 ∨ i = t * 2 + 1) := fun i hi => ⟨i / 2, by omega, by omega⟩
  have val0 : ∀ t : Nat, (if t * 2 % 2 = 0 then (q (t * 2 / 2)).1 else (q (t * 2 / 2)).2) = (q t).1 := fun t => by
    rw [if_pos (by omega), show t * 2 / 2 = t by omega]
  have val1 : ∀ t : Nat, (if (t * 2 + 1) % 2 = 0 then (q ((t * 2 + 1) / 2)).1 else (q ((t * 2 + 1) / 2)).2) = (q t).2 := fun t => by
    rw [if_neg (by omega), show (t * 2 + 1) / 2 = t by omega]
  refine ⟨some a, len, cap, fun i => if i % 2 = 0 then (q (i / 2)).1 else (q (i / 2)).2, rfl, rowAt_mk (by omega) (fun i hi => ?_) (fun i hi => ?_), Nat.le_trans hl hm⟩
  · obtain ⟨t, ht, rfl | rfl⟩ := par i hi
    · show _ = some (Value.int .u64 (if t * 2 % 2 = 0 then _ else _)); rw [val0]; exact (hq t ht).1.1
    · show _ = some (Value.int .u64 (if (t * 2 + 1) % 2 = 0 then _ else _)); rw [val1]; exact (hq t ht).1.2
  · obtain ⟨t, ht, rfl | rfl⟩ := par i hi
    · show 0 ≤ (if t * 2 % 2 = 0 then _ else _) ∧ (if t * 2 % 2 = 0 then _ else _) ≤ _; rw [val0]; exact bounds_u64 (hq t ht).2.1
    · show 0 ≤ (if (t * 2 + 1) % 2 = 0 then _ else _) ∧ (if (t * 2 + 1) % 2 = 0 then _ else _) ≤ _; rw [val1]; exact bounds_u64 (hq t ht).2.2

end
end Go.Proofs.Qxb6630564a
