/-
  zzBytes WALKED; copy into a row just made, as a law.
-/
import Derived.Test.Qxb6625825aRoutes
import Derived.Laws.CopyOwn
import Derived.WalkSpells
set_option linter.unusedVariables false
namespace Go.Proofs.Qxb6625825a
open Go.RowKit

set_option maxHeartbeats 1600000 in
theorem bytes_any (a0 : Option Addr) (n0 c0 : Nat) (a1 : Option Addr) (n1 c1 : Nat) (a2 : Option Addr) (n2 c2 : Nat) (a3 : Option Addr) (n3 c3 : Nat) (x4 x5 x6 x7 : Int) (w : World)
    (h0 : n0 ≤ 9223372036854775807) (h1 : n1 ≤ 9223372036854775807) (h2 : n2 ≤ 9223372036854775807) (h3 : n3 ≤ 9223372036854775807) :
    Calls Try.prog 5 #[.slice a0 n0 c0, .slice a1 n1 c1, .slice a2 n2 c2, .slice a3 n3 c3, .int .u64 x4, .int .i64 x5, .int .i64 x6, .int .u64 x7] w fun e w' => (∃ r : Bool, e = .returned (.bool r)) ∧ w = w' := by
  by_cases g0 : 1048576 < n0
  · go_enter Try.func5, Try.ntmps5; go_wp2; go_ret; exact ⟨⟨_, rfl⟩, rfl⟩
  by_cases g1 : 1048576 < n1
  · go_enter Try.func5, Try.ntmps5; go_wp2; go_ret; exact ⟨⟨_, rfl⟩, rfl⟩
  by_cases k1 : 1048576 < n0 + n1
  · go_enter Try.func5, Try.ntmps5; go_wp2; go_ret; exact ⟨⟨_, rfl⟩, rfl⟩
  by_cases g2 : 1048576 < n2
  · go_enter Try.func5, Try.ntmps5; go_wp2; go_ret; exact ⟨⟨_, rfl⟩, rfl⟩
  by_cases k2 : 1048576 < n0 + n1 + n2
  · go_enter Try.func5, Try.ntmps5; go_wp2; go_ret; exact ⟨⟨_, rfl⟩, rfl⟩
  by_cases g3 : 1048576 < n3
  · go_enter Try.func5, Try.ntmps5; go_wp2; go_ret; exact ⟨⟨_, rfl⟩, rfl⟩
  by_cases k3 : 1048576 < n0 + n1 + n2 + n3
  · go_enter Try.func5, Try.ntmps5; go_wp2; go_ret; exact ⟨⟨_, rfl⟩, rfl⟩
  go_enter Try.func5, Try.ntmps5; go_wp2; go_ret; exact ⟨⟨_, rfl⟩, rfl⟩

theorem Try.info23 : (Try.prog.info? 23).map (fun i => (i.zero, i.size, i.bytes)) = some (some (.int .u64 0), 1, 8) := by kernel_rfl
theorem Try.size23 : (Try.prog.info? 23).map (·.size) = some 1 := by kernel_rfl

theorem Col.later {w w' : World} {b o n : Nat} {A : Nat → Int} (h : Col w b o n A) (hB : Below w.heap.size w w') : Col w' b o n A := fun i hi => by
  rw [hB.cell (p := ⟨b, o + i, none⟩) (World.block_lt_of_cell? _ _ (h i hi))]; exact h i hi

/-- 'copy(c, xs)', c the row that 'make([]uint64, len(xs))' has just made. -/
theorem wpList_copy_col {W0 w : World} {ops : Array Oper} {rest : List Oper} {o : Oper} {a : Act} {Q : Exit → Act → World → Prop} (hgd : o.guard = none) (d s : Operand)
    (ho : o.op = .call { callee := .builtin .copy, args := #[d, s], argTypes := #[22, 22] }) (n : Nat) (sp : Option Addr) (c : Nat) (A : Nat → Int)
    (hw : w = W0.alloc (.cells (madeCells #[.int .u64 0] n) 23)) (hd : a.eval d = .slice (some ⟨W0.heap.size, 0, none⟩) n n) (hs : a.eval s = .slice sp n c)
    (hsrc : 0 < n → ∃ x, sp = some x ∧ ∀ i, i < n → W0.cell? (x.add i) = some (.int .u64 (A i)))
    (h : ∀ w' r, Below W0.heap.size W0 w' → Col w' W0.heap.size 0 n A → wpList Try.prog ops Q rest (a.put o.dst r) w') : wpList Try.prog ops Q (o :: rest) a w := by
  subst hw
  have hlen : ((List.range n).map (fun i => Value.int .u64 (A i))).length = n := by simp
  have hcl : (madeCells #[Value.int .u64 0] n).toList.length = n := by simp [size_madeCells]
  refine wpList_copy_splice hgd d s 22 22 ho 23 Try.underlying22 Try.size23 (some ⟨W0.heap.size, 0, none⟩) sp n n n c hd hs W0.heap.size 0 (madeCells #[.int .u64 0] n).toList 23 (by simpa using Deep.blk_alloc_new W0 _)
    ((List.range n).map (fun i => Value.int .u64 (A i))) (by rw [hlen]; simp) (fun hp => ⟨rfl, ?_⟩) (by rw [hlen, hcl]; omega) (fun v hv => ?_) W0.heap.size W0 ((Below.refl _ _).alloc (Nat.le_refl _) _) (Nat.le_refl _) (fun w' hh hB => ?_)
  · rw [hlen] at hp
    obtain ⟨x, rfl, hx⟩ := hsrc hp
    refine ⟨x, rfl, fun j v hv => ?_⟩
    have hj : j < n := by
      have := (List.getElem?_eq_some_iff.1 hv).1
      simpa using this
    have hc := hx j hj
    rw [World.cell?_alloc_lt _ _ _ (World.block_lt_of_cell? _ _ hc), hc]
    simpa [hj] using hv
  · obtain ⟨i, _, rfl⟩ := List.mem_map.1 hv
    rfl
  · refine h w' _ hB (fun i hi => ?_)
    have hh' : w'.heap[W0.heap.size]? = some (.cells (splice (madeCells #[Value.int .u64 0] n).toList 0 ((List.range n).map (fun i => Value.int .u64 (A i)))).toArray 23 (0, 0)) := hh
    simp only [World.cell?, hh', splice]
    simp
    rw [List.getElem?_append_left (by simpa using hi)]
    simp [hi]

end Go.Proofs.Qxb6625825a
