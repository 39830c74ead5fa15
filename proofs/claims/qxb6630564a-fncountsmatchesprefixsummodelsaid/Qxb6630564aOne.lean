import Derived.Test.Qxb6630564aCounts
set_option linter.unusedVariables false
namespace Go.Proofs.Qxb6630564a
open Go.RowKit Go.Maps Go.WideMaps Go.MapKept Go.ChangeMaps

theorem Hot.drew {w : World} {tb mb sb n : Nat} {D : DataW Unit} {kl : Lit} {sent ack dr : Int} {drv v : Value} {m : Nat} {S : Nat → Int} (h : Hot w tb mb sb n D kl sent ack dr drv v m S) : Hot w.drew tb mb sb n D kl sent ack dr drv v m S :=
  ⟨⟨h.idle.tal, h.idle.map⟩, h.ses, h.acked, h.hat, h.lt1, h.lt2⟩

/-- ONE SESSION: a tally at tb, its map at mb with the one session at sb, m spans in it. -/
def OneSession (name : ByteArray) (sent ack dr : Int) (drv : Value) (m : Nat) (S : Nat → Int) (w : World) (e : Ending) (w' : World) : Prop :=
  ∃ (mb tb sb : Nat) (v : Value), e = .returned (.pointer (some ⟨tb, 0, none⟩)) ∧ mb < tb ∧ w.heap.size ≤ mb ∧
    Hot w' tb mb sb 1 ((DataW.map []).put (.string name.data.toList) (.lit (.int .i64 sb))) (.string name.data.toList) sent ack dr drv v m S ∧ Below w.heap.size w w'

set_option maxHeartbeats 1000000 in
theorem oneSession_any (name : ByteArray) (sent ack dr : Int) (a : Option Addr) (b m c : Nat) (S : Nat → Int) (da : Option Addr) (dn dc : Nat) (w : World) (hm : m ≤ 65536) (hname : name.size ≤ 1048576)
    (ha : 0 < m → a = some ⟨b, 0, none⟩) (hc : ∀ j, j < m * 2 → w.cell? ⟨b, j, none⟩ = some (.int .u64 (S j))) :
    Calls Try.prog 17 #[.string name, .int .u64 sent, .slice a m c, .slice da dn dc, .int .i64 ack, .int .i64 dr] w (OneSession name sent ack dr (.slice da dn dc) m S w) := by
  have hnm : name.size ≤ maxLen := by unfold maxLen; omega
  go_enter Try.func17, Try.ntmps17
  go_wp2_with fail
  refine (newTally_any ack dr w).mono ?_
  rintro e w1 ⟨rfl, hI1, hB1, hs1⟩
  go_wp2_with fail
  refine (setSession_any _ _ 0 _ name sent ack dr da dn dc S w1 hI1 (by omega) hnm (by omega)).mono ?_
  rintro e w2 ⟨rfl, hH2, hg2⟩
  have hB2 : Below w.heap.size w w2 := hB1.grown hg2 (by omega) (fun k hk => by cases hk; exact Nat.le_refl _)
  clear hI1 hB1 hg2
  go_wp2_with fail
  rw [hs1] at hH2
  go_loopg [14] m (fun k s14 wr => ∃ (i : Nat) (v : Value), i ≤ m ∧ k = m - i ∧ s14 = .int .i64 i ∧ Hot wr (w.heap.size + 1) w.heap.size (w.heap.size + 2) (0 + 1) ((DataW.map []).put (.string name.data.toList) (.lit (.int .i64 ((w.heap.size + 2 : Nat) : Int)))) (.string name.data.toList) sent ack dr (.slice da dn dc) v i S ∧ Below w.heap.size w wr)
  case atStart => exact ⟨0, _, Nat.zero_le _, rfl, rfl, hH2, hB2⟩
  case round =>
    obtain ⟨i, v, him, rfl, rfl, hH, hB⟩ := hrel
    clear hH2 hB2
    by_cases hi : i < m
    · obtain rfl := ha (by omega)
      have v0 : wr.cell? ⟨b, i * 2, none⟩ = some (.int .u64 (S (i * 2))) := by
        rw [hB.cell (p := ⟨b, i * 2, none⟩) (World.block_lt_of_cell? _ _ (hc (i * 2) (by omega)))]; exact hc _ (by omega)
      have v1 : wr.cell? ⟨b, i * 2 + 1, none⟩ = some (.int .u64 (S (i * 2 + 1))) := by
        rw [hB.cell (p := ⟨b, i * 2 + 1, none⟩) (World.block_lt_of_cell? _ _ (hc (i * 2 + 1) (by omega)))]; exact hc _ (by omega)
      have hbs : b < w.heap.size + 2 := by have hbw : b < w.heap.size := World.block_lt_of_cell? _ _ (hc (i * 2) (by omega)); omega
      have hiz : (i : Int) < (m : Int) := by omega
      have hiz0 : (0 : Int) ≤ (i : Int) := by omega
      go_wp2_with fail
      go_region_held3 (fun w' => w'.cell? ⟨b, i * 2, none⟩ = some (.int .u64 (S (i * 2))) ∧ w'.cell? ⟨b, i * 2 + 1, none⟩ = some (.int .u64 (S (i * 2 + 1)))) (go_keep) ((go_at_call 12; refine (addAck_any (w.heap.size + 1) w.heap.size (w.heap.size + 2) (0 + 1) _ name sent ack dr da dn dc v i S _ hH.drew (by omega) hnm).mono ?_; rintro e w' ⟨rfl, ⟨v', hH'⟩, hB'⟩; have hk0 := (hB'.cell (p := ⟨b, i * 2, none⟩) hbs).trans v0; have hk1 := (hB'.cell (p := ⟨b, i * 2 + 1, none⟩) hbs).trans v1))
      go_wp2
      go_roundg (m - (i + 1))
      case measure => go_light; omega
      case rel =>
        go_light
        exact ⟨i + 1, v', by omega, rfl, by go_num, hH', hB.drew.trans (hB'.mono (by omega))⟩
    · obtain rfl : i = m := by omega
      go_wp2
      go_ret
      exact ⟨_, _, _, v, rfl, Nat.lt_succ_self _, Nat.le_refl _, hH, hB⟩
end Go.Proofs.Qxb6630564a
