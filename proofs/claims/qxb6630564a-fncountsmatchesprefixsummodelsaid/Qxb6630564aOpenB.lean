/-
  THE ARGUMENTS OPENED: []string, []uint64, [][][2]uint64, [][]byte.
-/
import Derived.Test.Qxb6630564aOpen
import Derived.SliceStrings
set_option linter.unusedVariables false
namespace Go.Proofs.Qxb6630564a
open Go.ChangeShapes Go.WideShapes Go.ChangeAt Go.RowKit Go.Deep

theorem Try.cells9 : Try.prog.cellsOf 9 = 1 := by kernel_rfl
theorem Try.cells27 : Try.prog.cellsOf 27 = 1 := by kernel_rfl
theorem Try.cells28 : Try.prog.cellsOf 28 = 1 := by kernel_rfl

/-- A slice of n one-cell elements, told by V. -/
def ValAt (w : World) (a : Option Addr) (n : Nat) (V : Nat → Value) (b o : Nat) : Prop :=
  (0 < n → a = some ⟨b, o, none⟩) ∧ (a = none → n = 0) ∧ ∀ i, i < n → w.cell? ⟨b, o + i, none⟩ = some (V i)

theorem valAt_mk {w : World} {a : Addr} {n : Nat} {V : Nat → Value} (hc : ∀ i, i < n → w.cell? (a.add i) = some (V i)) : ∃ b o, ValAt w (some a) n V b o := by
  obtain ⟨b, o, spot⟩ := a
  by_cases hn : 0 < n
  · have hs : spot = none := by simpa [Addr.add] using World.cell?_spot (hc 0 hn)
    subst hs
    exact ⟨b, o, fun _ => rfl, fun h => (by cases h), fun i hi => by have := hc i hi; rwa [Addr.add_lit] at this⟩
  · exact ⟨b, o, fun h => absurd h hn, fun h => (by cases h), fun i hi => absurd hi (by omega)⟩
theorem valAt_nil (w : World) (V : Nat → Value) : ValAt w none 0 V 0 0 :=
  ⟨fun h => absurd h (by omega), fun _ => rfl, fun i hi => absurd hi (by omega)⟩

section
variable {H : Type} {enc : TypeId × Value → H} {w : World} {base : Nat} {spare : Nat → Bool} {held : Bool}

theorem open_names {fuel : Nat} {cs : List Value} {x : DataW H × List MemPlace} (h : DataW.trod enc Try.prog w base spare held fuel 22 cs = some x) :
    ∃ (a : Option Addr) (n c : Nat) (N : Nat → ByteArray) (b o : Nat), cs = [.slice a n c] ∧ ValAt w a n (fun i => .string (N i)) b o ∧ (∀ i, i < n → (N i).size ≤ maxLen) ∧ n ≤ maxLen := by
  rcases open_strings Try.underlying22 Try.underlying9 Try.cells9 h with ⟨hcs, _⟩ | ⟨a, l, c, ss, hcs, _, hl, hm, hz, _, hcell, hwz⟩
  · exact ⟨none, 0, 0, fun _ => ByteArray.empty, 0, 0, hcs, valAt_nil _ _, fun i hi => absurd hi (by omega), Nat.zero_le _⟩
  · have hlz : l ≤ ss.length := by rw [hz]; split <;> omega
    obtain ⟨b, o, hv⟩ := valAt_mk (w := w) (a := a) (n := l) (V := fun i => .string (ss.getD i ByteArray.empty)) (fun i hi => hcell i (by omega))
    refine ⟨some a, l, c, fun i => ss.getD i ByteArray.empty, b, o, hcs, hv, fun i hi => ?_, Nat.le_trans hl hm⟩
    have hi' : i < ss.length := by omega
    exact hwz (ss.getD i ByteArray.empty) (by simp [List.getD, hi'])

theorem open_sents {fuel : Nat} {cs : List Value} {x : DataW H × List MemPlace} (h : DataW.trod enc Try.prog w base spare held fuel 23 cs = some x) :
    ∃ (a : Option Addr) (n c : Nat) (T : Nat → Int) (b o : Nat), cs = [.slice a n c] ∧ ValAt w a n (fun i => .int .u64 (T i)) b o ∧ n ≤ maxLen := by
  rcases open_ints Try.underlying23 Try.underlying29 Try.cells29 h with ⟨hcs, _⟩ | ⟨a, l, c, zs, hcs, _, hl, hm, hz, _, hcell, hwz⟩
  · exact ⟨none, 0, 0, fun _ => 0, 0, 0, hcs, valAt_nil _ _, Nat.zero_le _⟩
  · have hlz : l ≤ zs.length := by rw [hz]; split <;> omega
    obtain ⟨b, o, hv⟩ := valAt_mk (w := w) (a := a) (n := l) (V := fun i => .int .u64 (zs.getD i 0)) (fun i hi => hcell i (by omega))
    exact ⟨some a, l, c, fun i => zs.getD i 0, b, o, hcs, hv, Nat.le_trans hl hm⟩

/-- What one inner slice is. -/
structure Inner where
  a : Option Addr
  n : Nat
  c : Nat
  f : Nat → Int
  b : Nat
  o : Nat
instance : Inhabited Inner := ⟨⟨none, 0, 0, fun _ => 0, 0, 0⟩⟩
def InnerAt (k : IntKind) (q : Nat) (top : Int) (w : World) (I : Inner) : Prop :=
  (I.a = none → I.n = 0) ∧ (0 < I.n → I.a = some ⟨I.b, I.o, none⟩) ∧ (∀ i, i < I.n * q → w.cell? ⟨I.b, I.o + i, none⟩ = some (.int k (I.f i))) ∧ (∀ i, i < I.n * q → 0 ≤ I.f i ∧ I.f i ≤ top) ∧ I.n ≤ maxLen
theorem innerAt_mk {k : IntKind} {q : Nat} {top : Int} {w : World} {a : Option Addr} {n c : Nat} {f : Nat → Int} (h : RowAt k q top w a n f) (hn : n ≤ maxLen) : ∃ I : Inner, I.a = a ∧ I.n = n ∧ I.c = c ∧ InnerAt k q top w I := by
  obtain ⟨h1, ⟨b, o, h2, h3⟩, h4⟩ := h
  exact ⟨⟨a, n, c, f, b, o⟩, rfl, rfl, rfl, h1, h2, h3, h4, hn⟩

theorem open_spanss {fuel : Nat} {cs : List Value} {x : DataW H × List MemPlace} (h : DataW.trod enc Try.prog w base spare held fuel 24 cs = some x) :
    ∃ (a : Option Addr) (n c : Nat) (I : Nat → Inner) (b o : Nat), cs = [.slice a n c] ∧ ValAt w a n (fun i => .slice (I i).a (I i).n (I i).c) b o ∧ (∀ i, i < n → InnerAt .u64 2 18446744073709551615 w (I i)) ∧ n ≤ maxLen := by
  rcases open_slice1 Try.underlying24 Try.cells27 h with ⟨hcs, _⟩ | ⟨a, len, cap, m, n, V, D, Pl, rfl, hb, hl, hm, hmm, rfl, hx⟩
  · exact ⟨none, 0, 0, fun _ => default, 0, 0, hcs, valAt_nil _ _, fun i hi => absurd hi (by omega), Nat.zero_le _⟩
  have hlm : len ≤ m := by rw [hmm]; split <;> omega
  have each : ∀ i, i < len → ∃ I : Inner, V i = .slice I.a I.n I.c ∧ InnerAt .u64 2 18446744073709551615 w I := by
    intro i hi
    obtain ⟨h1, h2⟩ := hx i (by omega)
    obtain ⟨a', n', c', S, hcs, hR, hn⟩ := open_spans h2
    obtain ⟨I, rfl, rfl, rfl, hI⟩ := innerAt_mk (c := c') hR hn
    simp at hcs
    exact ⟨I, hcs, hI⟩
  obtain ⟨I, hI⟩ := choose_lt each
  obtain ⟨b, o, hv⟩ := valAt_mk (w := w) (a := a) (n := len) (V := fun i => .slice (I i).a (I i).n (I i).c) (fun i hi => by rw [(hx i (by omega)).1, (hI i hi).1])
  exact ⟨some a, len, cap, I, b, o, rfl, hv, fun i hi => (hI i hi).2, Nat.le_trans hl hm⟩

theorem open_bytess {fuel : Nat} {cs : List Value} {x : DataW H × List MemPlace} (h : DataW.trod enc Try.prog w base spare held fuel 25 cs = some x) :
    ∃ (a : Option Addr) (n c : Nat) (I : Nat → Inner) (b o : Nat), cs = [.slice a n c] ∧ ValAt w a n (fun i => .slice (I i).a (I i).n (I i).c) b o ∧ (∀ i, i < n → InnerAt .u8 1 255 w (I i)) ∧ n ≤ maxLen := by
  rcases open_slice1 Try.underlying25 Try.cells28 h with ⟨hcs, _⟩ | ⟨a, len, cap, m, n, V, D, Pl, rfl, hb, hl, hm, hmm, rfl, hx⟩
  · exact ⟨none, 0, 0, fun _ => default, 0, 0, hcs, valAt_nil _ _, fun i hi => absurd hi (by omega), Nat.zero_le _⟩
  have hlm : len ≤ m := by rw [hmm]; split <;> omega
  have each : ∀ i, i < len → ∃ I : Inner, V i = .slice I.a I.n I.c ∧ InnerAt .u8 1 255 w I := by
    intro i hi
    obtain ⟨h1, h2⟩ := hx i (by omega)
    obtain ⟨a', n', c', S, hcs, hR, hn⟩ := open_bytes h2
    obtain ⟨I, rfl, rfl, rfl, hI⟩ := innerAt_mk (c := c') hR hn
    simp at hcs
    exact ⟨I, hcs, hI⟩
  obtain ⟨I, hI⟩ := choose_lt each
  obtain ⟨b, o, hv⟩ := valAt_mk (w := w) (a := a) (n := len) (V := fun i => .slice (I i).a (I i).n (I i).c) (fun i hi => by rw [(hx i (by omega)).1, (hI i hi).1])
  exact ⟨some a, len, cap, I, b, o, rfl, hv, fun i hi => (hI i hi).2, Nat.le_trans hl hm⟩

end
end Go.Proofs.Qxb6630564a
