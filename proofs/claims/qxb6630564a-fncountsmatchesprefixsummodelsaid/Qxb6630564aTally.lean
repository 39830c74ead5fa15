import Derived.Test.Qxb6630564aClone
import Derived.Test.Qxb6630564aLocks
import Derived.Maps.OwnSet
import Derived.Maps.RangeWalk
import Derived.Maps.Ext
import Derived.Deep.AppendLies
import Derived.Deep.RegionHeld3
set_option linter.unusedVariables false
namespace Go.Proofs.Qxb6630564a
open Go.RowKit Go.Maps Go.WideMaps Go.MapKept Go.ChangeMaps

theorem Try.info61 : (Try.prog.info? 61).map (fun i => (i.zero, i.size, i.bytes)) = some (some (.agg #[.int .u64 0, .int .u64 0]), 2, 16) := by kernel_rfl
theorem law9 : Keyed Try.prog 9 := string_keyed Try.underlying9
theorem zero56 (w : World) : (zeroValue 56).run Try.prog w = .ok (.pointer none) w := by kernel_rfl

/-- HOW AN ELEMENT OF THE MAP READS, for the proof's own book: a pointer to the head of block b reads as the number b. -/
def ptrElem (v : Value) : Option (DataW Unit × List MemPlace) :=
  match v with
  | .pointer (some ⟨b, 0, none⟩) => some (.lit (.int .i64 b), [])
  | .pointer none => some (.nil, [])
  | _ => none
theorem ptrElem_mk (b : Nat) : ptrElem (.pointer (some ⟨b, 0, none⟩)) = some (.lit (.int .i64 b), []) := rfl
theorem ptrElem_nil : ptrElem (.pointer none) = some (.nil, []) := rfl
theorem ptrElem_inv {v : Value} {b : Nat} {ps : List MemPlace} (h : ptrElem v = some (.lit (.int .i64 b), ps)) : v = .pointer (some ⟨b, 0, none⟩) := by
  unfold ptrElem at h
  split at h
  · simp at h; have e := h.1; norm_cast at e; rw [e]
  · simp at h
  · simp at h

/-- A Tally's cells. -/
def tal (mb : Nat) (ack dr : Int) : Nat → Value := fun i =>
  match i with
  | 0 => .int .u64 0 | 1 => .int .i32 0 | 2 => .int .u32 0 | 3 => .map (some mb) | 4 => .int .i64 ack | 5 => .int .i64 dr | 6 => .slice none 0 0 | _ => .int .i64 0

/-- A tally whose map holds D. -/
structure Idle (w : World) (tb mb n : Nat) (D : DataW Unit) (ack dr : Int) : Prop where
  tal : w.rowIs tb 55 8 (tal mb ack dr)
  map : w.ownsMap Try.prog 9 ptrElem mb n D

/-- 'ZZnewTally'. -/
def NewTally (ack dr : Int) (w : World) (e : Ending) (w' : World) : Prop :=
  e = .returned (.pointer (some ⟨w.heap.size + 1, 0, none⟩)) ∧ Idle w' (w.heap.size + 1) w.heap.size 0 (.map []) ack dr ∧ Below w.heap.size w w' ∧ w'.heap.size = w.heap.size + 2
theorem newTally_any (ack dr : Int) (w : World) : Calls Try.prog 10 #[.int .i64 ack, .int .i64 dr] w (NewTally ack dr w) := by
  have hmm := @run_makeMap Try.prog
  go_enter Try.func10, Try.ntmps10
  go_wp2
  go_ret
  refine ⟨rfl, ⟨?_, ?_⟩, ?_, ?_⟩
  · have := World.rowIs_alloc (w.alloc (.map #[] 0)) #[.int .u64 0, .int .i32 0, .int .u32 0, .map (some w.heap.size), .int .i64 ack, .int .i64 dr, .slice none 0 0, .int .i64 0] 55 (Qxb6630564a.tal w.heap.size ack dr) (fun i hi => by
      match i, hi with
      | 0, _ => rfl | 1, _ => rfl | 2, _ => rfl | 3, _ => rfl | 4, _ => rfl | 5, _ => rfl | 6, _ => rfl | 7, _ => rfl)
    simpa using this
  · exact (World.ownsMap_made w Try.prog 9 ptrElem).alloc _
  · exact ((Below.refl _ _).alloc (Nat.le_refl _) _).alloc (by simp) _
  · simp

/-- A session's cells. -/
def ses (sent : Int) (v drv : Value) : Nat → Value := fun i => match i with | 0 => .int .u64 sent | 1 => v | _ => drv

/-- m spans of the session that was laid last are in. -/
structure Hot (w : World) (tb mb sb n : Nat) (D : DataW Unit) (kl : Lit) (sent ack dr : Int) (drv v : Value) (m : Nat) (S : Nat → Int) : Prop where
  idle : Idle w tb mb n D ack dr
  ses : w.rowIs sb 59 3 (ses sent v drv)
  acked : w.ownsRow (sb + 1) 61 2 v m ((List.range (m * 2)).map fun j => Value.int .u64 (S j))
  hat : ∀ zd, D.atKey kl zd = .lit (.int .i64 sb)
  lt1 : mb < sb
  lt2 : tb < sb

theorem Idle.grown {w w' : World} {tb mb n : Nat} {D : DataW Unit} {ack dr : Int} (h : Idle w tb mb n D ack dr) (hb : ∀ k, k = tb ∨ k = mb → w'.heap[k]? = w.heap[k]?) : Idle w' tb mb n D ack dr := by
  refine ⟨h.tal.of_block (hb tb (.inl rfl)), ?_⟩
  obtain ⟨es, clock, e1, e2⟩ := h.map
  exact ⟨es, clock, (hb mb (.inr rfl)).trans e1, e2⟩

def SetSession (tb mb n : Nat) (D : DataW Unit) (kl : Lit) (sent ack dr : Int) (drv : Value) (S : Nat → Int) (w : World) (e : Ending) (w' : World) : Prop :=
  e = .returned (.tuple #[]) ∧ Hot w' tb mb w.heap.size (n + 1) (D.put kl (.lit (.int .i64 w.heap.size))) kl sent ack dr drv (.slice none 0 0) 0 S ∧ w.grownBy w' (some mb)

theorem setSession_any (tb mb n : Nat) (D : DataW Unit) (name : ByteArray) (sent ack dr : Int) (da : Option Addr) (dn dc : Nat) (S : Nat → Int) (w : World) (h : Idle w tb mb n D ack dr) (hn : n < 1048576) (hname : name.size ≤ maxLen) (hne : tb ≠ mb) :
    Calls Try.prog 11 #[.pointer (some ⟨tb, 0, none⟩), .string name, .int .u64 sent, .slice da dn dc] w (SetSession tb mb n D (.string name.data.toList) sent ack dr (.slice da dn dc) S w) := by
  have hkey := keyOf_string_mk (P := Try.prog) Try.underlying9 hname
  have c3 : w.cell? ⟨tb, 3, none⟩ = some (.map (some mb)) := h.tal.cell (i := 3) (by omega)
  have hmap := h.map
  go_enter Try.func11, Try.ntmps11
  go_wp2_with (at_mapUpdate; refine wpList_mapUpdate_own _ rfl _ _ _ 46 rfl 9 56 law9 Try.underlying46 ptrElem mb n D rfl (hmap.alloc _) (by unfold maxLen; omega) _ _ _ rfl rfl hkey _ [] (ptrElem_mk _) ?_)
  intro w1 hown1 hgrow1
  go_wp2
  go_end0
  have hgA := World.grownBy_alloc w (.cells #[.int .u64 sent, .slice none 0 0, .slice da dn dc] 59) (some mb)
  have hg := hgA.trans hgrow1
  have hlm := h.map.lt
  have hlt := h.tal.lt
  have hR : (w.alloc (.cells #[.int .u64 sent, .slice none 0 0, .slice da dn dc] 59)).rowIs w.heap.size 59 3 (ses sent (.slice none 0 0) (.slice da dn dc)) :=
    World.rowIs_alloc w #[.int .u64 sent, .slice none 0 0, .slice da dn dc] 59 _ (fun i hi => by
      match i, hi with
      | 0, _ => rfl | 1, _ => rfl | 2, _ => rfl)
  refine ⟨rfl, ⟨⟨h.tal.of_block (hg.block tb hlt (by simpa using hne)), hown1⟩, hR.of_block (hgrow1.block _ (by simp) (by simp; omega)), ⟨by simp, .inl ⟨rfl, rfl⟩⟩, fun zd => atKey_put_same h.map.isMap (k := .string name.data.toList) trivial _ _, hlm, hlt⟩, hg⟩

/-- 'm[k]' (without 'ok') where the map's element is known to be a pointer to the head of block sb. -/
theorem wpList_lookup_ptr (w : World) {ops : Array Oper} {rest : List Oper} {o : Oper} {a : Act} {Q : Exit → Act → World → Prop}
    (hg : o.guard = none) (m x : Operand) (hop : o.op = Op.lookup 46 m x false) (b n : Nat) (D : DataW Unit)
    (hm : a.eval m = .map (some b)) (hown : w.ownsMap Try.prog 9 ptrElem b n D) (key : Value) (kl : Lit) (hx : a.eval x = key) (hkey : keyOf Try.prog 9 key = some kl)
    (sb : Nat) (hat : ∀ zd, D.atKey kl zd = .lit (.int .i64 sb))
    (hK : wpList Try.prog ops Q rest (a.put o.dst (.pointer (some ⟨sb, 0, none⟩))) w) :
    wpList Try.prog ops Q (o :: rest) a w := by
  refine wpList_plain hg fun K' hK' => ?_
  obtain ⟨v, ps, hrun, hv⟩ := hown.lookup law9 Try.underlying46 (zero56 w) ptrElem_nil hkey
  rw [hat] at hv
  obtain rfl := ptrElem_inv hv
  unfold Oper.wp
  simp [execOp, hop, hm, hx, hrun, Result.andThen]
  exact hK' _ _ hK

theorem own_ge {w : World} {base : Nat} {e : TypeId} {size : Nat} {v : Value} {n : Nat} {xs : List Value} (h : w.ownsRow base e size v n xs) {k : Nat} (hk : v.ownBlock = some k) : base ≤ k := by
  rcases h.2 with ⟨hv, _⟩ | ⟨g, cap, cur, hv, hb, _⟩
  · subst hv; simp [Value.ownBlock] at hk
  · subst hv; simp [Value.ownBlock] at hk; omega

def AddAck (tb mb sb n : Nat) (D : DataW Unit) (kl : Lit) (sent ack dr : Int) (drv : Value) (m : Nat) (S : Nat → Int) (w : World) (e : Ending) (w' : World) : Prop :=
  e = .returned (.tuple #[]) ∧ (∃ v', Hot w' tb mb sb n D kl sent ack dr drv v' (m + 1) S) ∧ Below sb w w'

theorem range_two (m : Nat) (S : Nat → Int) : ((List.range (m * 2)).map fun j => Value.int .u64 (S j)) ++ [.int .u64 (S (m * 2)), .int .u64 (S (m * 2 + 1))] = (List.range ((m + 1) * 2)).map fun j => Value.int .u64 (S j) := by
  have e : (m + 1) * 2 = m * 2 + 1 + 1 := by omega
  rw [e, List.range_succ, List.range_succ]
  simp

set_option maxHeartbeats 400000 in
theorem addAck_any (tb mb sb n : Nat) (D : DataW Unit) (name : ByteArray) (sent ack dr : Int) (da : Option Addr) (dn dc : Nat) (v : Value) (m : Nat) (S : Nat → Int) (w : World)
    (h : Hot w tb mb sb n D (.string name.data.toList) sent ack dr (.slice da dn dc) v m S) (hm : m < 1048576) (hname : name.size ≤ maxLen) :
    Calls Try.prog 12 #[.pointer (some ⟨tb, 0, none⟩), .string name, .int .u64 (S (m * 2)), .int .u64 (S (m * 2 + 1))] w (AddAck tb mb sb n D (.string name.data.toList) sent ack dr (.slice da dn dc) m S w) := by
  have hkey := keyOf_string_mk (P := Try.prog) Try.underlying9 hname
  have c3 : w.cell? ⟨tb, 3, none⟩ = some (.map (some mb)) := h.idle.tal.cell (i := 3) (by omega)
  have s1 : w.cell? ⟨sb, 1, none⟩ = some v := h.ses.cell (i := 1) (by omega)
  have hsz := h.ses.lt
  have hmap := h.idle.map
  have hown := h.acked
  obtain ⟨i0, hi, hz0, hz1, hz2⟩ := info_parts Try.info61
  go_enter Try.func12, Try.ntmps12
  go_wp2_with (first
    | (at_lookup; refine wpList_lookup_ptr _ rfl _ _ rfl mb n D rfl hmap _ _ rfl hkey sb h.hat ?_)
    | (at_builtin; refine wpList_append_lies _ rfl _ _ 57 rfl (sb + 1) 61 i0 (.agg #[.int .u64 0, .int .u64 0]) 2 16 Try.underlying57 hi hz0 hz1 hz2 rfl (by decide) v m _ rfl (hown.alloc _) ⟨w.heap.size, 0, none⟩ 1 1 [.int .u64 (S (m * 2)), .int .u64 (S (m * 2 + 1))] rfl rfl ?c1 ?c2 (by decide) ?c3 ?c4 ?c5 (w.heap.size + 1) (by simp) ?_))
  case c1 =>
    intro j u hj
    rw [Addr.add_lit]
    match j, hj with
    | 0, hj => simp at hj; subst hj; simp
    | 1, hj => simp at hj; subst hj; simp
    | j + 2, hj => simp at hj
  case c2 =>
    intro u hu
    simp at hu
    rcases hu with rfl | rfl <;> rfl
  case c3 => unfold maxLen; omega
  case c4 => omega
  case c5 => simp; omega
  intro g cap w1 hown1 hgrow1 _ _
  have hblk : ∀ k, k ≤ sb → w1.heap[k]? = w.heap[k]? := fun k hk => by
    rw [hgrow1.block k (by simp; omega) (fun e => by have := own_ge hown e.symm; omega), Below.heap_alloc _ _ _ (by omega)]
  have t1 : w1.cell? ⟨sb, 1, none⟩ = some v := (World.cell?_of_block (w := w) (a := ⟨sb, 1, none⟩) (hblk sb (Nat.le_refl _))).trans s1
  have f1 : w1.frozen? ⟨sb, 1, none⟩ = false := (World.frozen?_of_block (w := w) (a := ⟨sb, 1, none⟩) (hblk sb (Nat.le_refl _))).trans (h.ses.frozen 1)
  clear s1 c3 hkey hi hz0 hz1 hz2
  go_wp2
  go_end0
  have hsz1 : sb + 1 ≤ w1.heap.size := by have := hgrow1.size; simp at this; omega
  have hB0 : Below sb w w1 := ((Below.refl sb w).alloc (by omega) _).grown hgrow1 (by simp; omega) (fun k hk => by have := own_ge hown hk; omega)
  have hB : Below sb w (w1.setCell ⟨sb, 1, none⟩ (.slice (some ⟨g, 0, none⟩) (m + 1) cap)) := hB0.setCell (Nat.le_refl _) _
  refine ⟨rfl, ⟨.slice (some ⟨g, 0, none⟩) (m + 1) cap, h.idle.grown (fun k hk => ?_), ?_, ?_, h.hat, h.lt1, h.lt2⟩, hB⟩
  · exact hB.block k (by rcases hk with rfl | rfl; exact h.lt2; exact h.lt1)
  · exact ((h.ses.of_block (hblk sb (Nat.le_refl _))).set 1 _).congr (fun j hj => by
      match j, hj with
      | 0, _ => rfl | 1, _ => rfl | 2, _ => rfl)
  · rw [range_two] at hown1
    exact ownsRow_setCell_below hown1 (by show sb < sb + 1; omega) _
end Go.Proofs.Qxb6630564a
