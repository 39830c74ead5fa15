/-
  zzSessionModel (15): the prefix-sum model of one session.
-/
import Derived.Test.Qxb6630564aSmall
import Derived.Test.Qxb6630564aPlainModel
set_option linter.unusedVariables false
namespace Go.Proofs.Qxb6630564a
open Go.RowKit

theorem Try.info3 : (Try.prog.info? 3).map (fun i => (i.zero, i.size, i.bytes)) = some (some (.int .i64 0), 1, 8) := by kernel_rfl

/-- The prefix sums in memory, i of them reckoned. -/
structure Pre (w : World) (n : Nat) (f : Nat → Int) (i : Nat) (wr : World) : Prop where
  below : Below w.heap.size w wr
  row : wr.rowIs w.heap.size 3 (n + 1) (fun t => if t < i + 1 then .int .i64 (pre f t) else .int .i64 0)

theorem pre_start (w : World) (n : Nat) (f : Nat → Int) : Pre w n f 0 (w.alloc (.cells (madeCells #[.int .i64 0] (n + 1)) 3)) :=
  ⟨(Below.refl _ _).alloc (Nat.le_refl _) _, (World.rowIs_made w (.int .i64 0) (n + 1) 3).congr (fun t _ => by
    by_cases h : t < 0 + 1
    · have : t = 0 := by omega
      subst this; simp [pre]
    · rw [if_neg h])⟩

theorem pre_zero {w : World} {n : Nat} {f : Nat → Int} {i : Nat} {wr : World} (h : Pre w n f i wr) (h0 : nz1 f i = 0) : Pre w n f (i + 1) (wr.setCell ⟨w.heap.size, i + 1, none⟩ (.int .i64 (pre f i))) :=
  ⟨h.below.setCell (Nat.le_refl _) _, (h.row.set (i + 1) _).congr (fun t ht => by
    by_cases e : t = i + 1
    · subst e; rw [if_pos rfl, if_pos (by omega)]; simp only [pre, h0, Nat.add_zero]
    · rw [if_neg e]
      by_cases hl : t < i + 1
      · rw [if_pos hl, if_pos (by omega)]
      · rw [if_neg hl, if_neg (by omega)])⟩
theorem pre_one {w : World} {n : Nat} {f : Nat → Int} {i : Nat} {wr : World} (h : Pre w n f i wr) (h0 : nz1 f i = 1) (v : Value) : Pre w n f (i + 1) ((wr.setCell ⟨w.heap.size, i + 1, none⟩ v).setCell ⟨w.heap.size, i + 1, none⟩ (.int .i64 ((pre f i : Nat) + 1))) :=
  ⟨(h.below.setCell (Nat.le_refl _) _).setCell (Nat.le_refl _) _, ((h.row.set (i + 1) _).set (i + 1) _).congr (fun t ht => by
    by_cases e : t = i + 1
    · subst e; rw [if_pos rfl, if_pos (by omega)]; simp only [pre, h0]; rfl
    · rw [if_neg e, if_neg e]
      by_cases hl : t < i + 1
      · rw [if_pos hl, if_pos (by omega)]
      · rw [if_neg hl, if_neg (by omega)])⟩

def Modeled (l r : Nat) (w : World) (e : Ending) (w' : World) : Prop := e = .returned (.tuple #[.int .i64 l, .int .i64 r]) ∧ Below w.heap.size w w'

set_option maxRecDepth 100000 in
set_option maxHeartbeats 3200000 in
theorem model_any (pa : Option Addr) (pb m mc : Nat) (S : Nat → Int) (da : Option Addr) (db n dc : Nat) (f : Nat → Int) (w : World) (hm : m ≤ 65536) (hn : n ≤ 1048576)
    (hpa : 0 < m → pa = some ⟨pb, 0, none⟩) (hpc : ∀ t, t < m * 2 → w.cell? ⟨pb, t, none⟩ = some (.int .u64 (S t))) (hfit : ∀ i, i < m → Fit1 S i)
    (hda : 0 < n → da = some ⟨db, 0, none⟩) (hdc : ∀ t, t < n → w.cell? ⟨db, t, none⟩ = some (.int .u8 (f t))) (hf : ∀ t, t < n → 0 ≤ f t) :
    Calls Try.prog 15 #[.slice pa m mc, .slice da n dc] w (Modeled (lostTo f n S m) (repTo f n) w) := by
  have hmk := run_make_row' (P := Try.prog) 62 3 (.int .i64 0) 8 Try.underlying62 Try.info3 rfl .i64 .i64 (n + 1) (by omega) (by omega)
  have ec : ((n + 1 : Nat) : Int) = (n : Int) + 1 := by omega
  rw [ec] at hmk
  clear ec
  have HRC : Aside (repTo f n + cnt f 0 n + cnt f 1 n = n) := reps_cnt f n hf
  go_enter Try.func15, Try.ntmps15
  go_wp2
  clear hmk hf
  go_loopg [8, 9, 10] n (fun k s8 s9 s10 wr => ∃ i : Nat, i ≤ n ∧ k = n - i ∧ s8 = .int .i64 (cnt f 0 i) ∧ s9 = .int .i64 (cnt f 1 i) ∧ s10 = .int .i64 i ∧ Pre w n f i wr)
  case atStart => exact ⟨0, Nat.zero_le _, rfl, rfl, rfl, rfl, pre_start w n f⟩
  case round =>
    obtain ⟨i, hi, rfl, rfl, rfl, rfl, hP⟩ := hrel
    have b0 := cnt_le f 0 i
    have b1 := cnt_le f 1 i
    have bp := pre_le f i
    by_cases hlt : i < n
    · obtain rfl := hda (by omega)
      have hcd : wr.cell? ⟨db, i, none⟩ = some (.int .u8 (f i)) := by
        rw [hP.below.cell (p := ⟨db, i, none⟩) (World.block_lt_of_cell? _ _ (hdc i hlt))]; exact hdc i hlt
      have hdbw : db < w.heap.size := World.block_lt_of_cell? _ _ (hdc i hlt)
      have hcd1 : ∀ v, (wr.setCell ⟨w.heap.size, i + 1, none⟩ v).cell? ⟨db, i, none⟩ = some (.int .u8 (f i)) := fun v => by
        rw [World.cell?_setCell_other _ _ _ _ (fun e => by have := congrArg Addr.block e; simp at this; omega)]; exact hcd
      have hci : wr.cell? ⟨w.heap.size, i, none⟩ = some (.int .i64 (pre f i)) := by rw [hP.row.cell (i := i) (by omega), if_pos (by omega)]
      have hcj : wr.cell? ⟨w.heap.size, i + 1, none⟩ = some (.int .i64 0) := by rw [hP.row.cell (i := i + 1) (by omega), if_neg (by omega)]
      have hfj : wr.frozen? ⟨w.heap.size, i + 1, none⟩ = false := hP.row.frozen _
      have hci1 : ∀ v, (wr.setCell ⟨w.heap.size, i + 1, none⟩ v).cell? ⟨w.heap.size, i, none⟩ = some (.int .i64 (pre f i)) := fun v => by
        rw [World.cell?_setCell_other _ _ _ _ (fun e => by have := congrArg Addr.off e; simp at this)]; exact hci
      have hiz : (i : Int) < (n : Int) := by omega
      have hiz1 : (i : Int) < (n : Int) + 1 := by omega
      have hiz2 : (i : Int) + 1 < (n : Int) + 1 := by omega
      clear hdc hpc hpa
      by_cases f0 : f i = 0
      · have q0 : (f i == 0) = true := by simp [f0]
        have q0' : (f i != 0) = false := by simp [f0]
        have HZ : Aside (nz1 f i = 0 ∧ isv f 0 i = 1 ∧ isv f 1 i = 0) := ⟨by simp [nz1, f0], by simp [isv, f0], by simp [isv, f0]⟩
        clear f0
        go_wp2
        go_roundg (n - (i + 1))
        case measure => go_light; omega
        case rel =>
          go_light
          refine ⟨i + 1, by omega, rfl, by rw [cnt, HZ.out.2.1]; go_num, by rw [cnt, HZ.out.2.2]; rfl, by go_num, pre_zero hP HZ.out.1⟩
      · have q0 : (f i == 0) = false := by simp [f0]
        have q0' : (f i != 0) = true := by simp [f0]
        by_cases f1 : f i = 1
        · have q1 : (f i == 1) = true := by simp [f1]
          have HZ : Aside (nz1 f i = 1 ∧ isv f 0 i = 0 ∧ isv f 1 i = 1) := ⟨by simp [nz1, f1], by simp [isv, f1], by simp [isv, f1]⟩
          clear f0 f1
          go_wp2
          go_roundg (n - (i + 1))
          case measure => go_light; omega
          case rel =>
            go_light
            refine ⟨i + 1, by omega, rfl, by rw [cnt, HZ.out.2.1]; rfl, by rw [cnt, HZ.out.2.2]; go_num, by go_num, pre_one hP HZ.out.1 _⟩
        · have q1 : (f i == 1) = false := by simp [f1]
          have HZ : Aside (nz1 f i = 1 ∧ isv f 0 i = 0 ∧ isv f 1 i = 0) := ⟨by simp only [nz1, q0]; rfl, by simp only [isv, q0]; rfl, by simp only [isv, q1]; rfl⟩
          clear f0 f1
          go_wp2
          go_roundg (n - (i + 1))
          case measure => go_light; omega
          case rel =>
            go_light
            refine ⟨i + 1, by omega, rfl, by rw [cnt, HZ.out.2.1]; rfl, by rw [cnt, HZ.out.2.2]; rfl, by go_num, pre_one hP HZ.out.1 _⟩
    · obtain rfl : i = n := by omega
      have hpre : ∀ t, t < i + 1 → wr.cell? ⟨w.heap.size, t, none⟩ = some (.int .i64 (pre f t)) := fun t ht => by rw [hP.row.cell (i := t) ht, if_pos ht]
      have hBp := hP.below
      have hpc2 : ∀ t, t < m * 2 → wr.cell? ⟨pb, t, none⟩ = some (.int .u64 (S t)) := fun t ht => by
        rw [hBp.cell (p := ⟨pb, t, none⟩) (World.block_lt_of_cell? _ _ (hpc t ht))]; exact hpc t ht
      clear hP hdc hpc hda hlt
      go_wp2
      obtain ⟨wp, hwp⟩ : ∃ wp, wp = wr := ⟨_, rfl⟩
      subst hwp
      go_loopg [11, 12] m (fun k s11 s12 wx => (∃ q, wx = wp.drewN q) ∧ ∃ j T : Nat, j ≤ m ∧ k = m - j ∧ s12 = .int .i64 j ∧ s11 = .int .i64 T ∧ T = lostTo f i S j)
      case atStart => exact ⟨⟨0, rfl⟩, 0, 0, Nat.zero_le _, rfl, rfl, rfl, rfl⟩
      case round =>
        obtain ⟨⟨q, rfl⟩, j, T, hj, rfl, rfl, rfl, hT⟩ := hrel
        have bT : T ≤ 4294967296 := by have := lostTo_le f i S j (fun t ht => hfit t (by omega)); omega
        have HT : Aside (T = lostTo f i S j) := hT
        clear hT
        by_cases hjm : j < m
        · obtain rfl := hpa (by omega)
          have hF := hfit j hjm
          obtain ⟨lo, hlo⟩ : ∃ lo : Nat, S (j * 2) = lo := ⟨(S (j * 2)).toNat, by unfold Fit1 at hF; omega⟩
          obtain ⟨hh, hhi⟩ : ∃ hh : Nat, S (j * 2 + 1) = hh := ⟨(S (j * 2 + 1)).toNat, by unfold Fit1 at hF; omega⟩
          have u0 := hpc2 (j * 2) (by omega)
          have u1 := hpc2 (j * 2 + 1) (by omega)
          rw [hlo] at u0
          rw [hhi] at u1
          have hlh : 1 ≤ lo ∧ lo ≤ hh ∧ hh ≤ 18446744073709551614 ∧ hh - lo < 65536 := by unfold Fit1 at hF; omega
          obtain ⟨hl1, hl2, hl3, hl4⟩ := hlh
          have HN : Aside (lostTo f i S (j + 1) = T + lostSpan f i lo (hh - lo + 1)) := by
            have e1 : spanLo S j = lo := by unfold spanLo; omega
            have e2 : spanLen S j = hh - lo + 1 := by unfold spanLen; omega
            show lostTo f i S j + lostSpan f i (spanLo S j) (spanLen S j) = _
            rw [e1, e2, HT.out]
          have hLS := lostSpan_pre f i lo (hh - lo + 1)
          have hjz : (j : Int) < (m : Int) := by omega
          clear hF hlo hhi hpc2 hfit
          by_cases c1 : hh + 1 < i
          · have e1 : min (lo + (hh - lo + 1)) i = hh + 1 := by omega
            have e2 : min lo i = lo := by omega
            rw [e1, e2] at hLS
            have x1 := hpre (hh + 1) (by omega)
            have x0 := hpre lo (by omega)
            have p1 := pre_le f (hh + 1)
            have p2 := pre_mono f (show lo ≤ hh + 1 by omega)
            obtain ⟨P1, hP1⟩ : ∃ P1, P1 = pre f (hh + 1) := ⟨_, rfl⟩
            obtain ⟨P0, hP0⟩ : ∃ P0, P0 = pre f lo := ⟨_, rfl⟩
            rw [← hP1] at hLS x1 p1 p2
            rw [← hP0] at hLS x0 p2
            have HLS : Aside (lostSpan f i lo (hh - lo + 1) + (P1 - P0) = hh - lo + 1) := hLS
            clear hLS hP1 hP0 e1 e2 hpre
            have z1 : (hh : Int) + 1 < (i : Int) + 1 := by omega
            have z0 : (lo : Int) < (i : Int) + 1 := by omega
            go_wp2_with fail
            go_quiet (fail)
            go_wp2
            go_roundg (m - (j + 1))
            case measure => go_light; omega
            case rel =>
              go_light
              have h1 := HLS.out
              have h2 := HN.out
              exact ⟨⟨_, rfl⟩, j + 1, lostTo f i S (j + 1), by omega, rfl, by go_num, by go_num, rfl⟩
          · by_cases c2 : lo < i
            · have e1 : min (lo + (hh - lo + 1)) i = i := by omega
              have e2 : min lo i = lo := by omega
              rw [e1, e2] at hLS
              have x1 := hpre i (by omega)
              have x0 := hpre lo (by omega)
              have p1 := pre_le f i
              have p2 := pre_mono f (show lo ≤ i by omega)
              obtain ⟨P1, hP1⟩ : ∃ P1, P1 = pre f i := ⟨_, rfl⟩
              obtain ⟨P0, hP0⟩ : ∃ P0, P0 = pre f lo := ⟨_, rfl⟩
              rw [← hP1] at hLS x1 p1 p2
              rw [← hP0] at hLS x0 p2
              have HLS : Aside (lostSpan f i lo (hh - lo + 1) + (P1 - P0) = hh - lo + 1) := hLS
              clear hLS hP1 hP0 e1 e2 hpre
              have z1 : (i : Int) < (i : Int) + 1 := by omega
              have z0 : (lo : Int) < (i : Int) + 1 := by omega
              go_wp2_with fail
              go_quiet (fail)
              go_wp2
              go_roundg (m - (j + 1))
              case measure => go_light; omega
              case rel =>
                go_light
                have h1 := HLS.out
                have h2 := HN.out
                exact ⟨⟨_, rfl⟩, j + 1, lostTo f i S (j + 1), by omega, rfl, by go_num, by go_num, rfl⟩
            · have e1 : min (lo + (hh - lo + 1)) i = i := by omega
              have e2 : min lo i = i := by omega
              rw [e1, e2] at hLS
              have x1 := hpre i (by omega)
              have p1 := pre_le f i
              obtain ⟨P1, hP1⟩ : ∃ P1, P1 = pre f i := ⟨_, rfl⟩
              rw [← hP1] at hLS x1 p1
              have HLS : Aside (lostSpan f i lo (hh - lo + 1) + (P1 - P1) = hh - lo + 1) := hLS
              clear hLS hP1 e1 e2 hpre
              have z1 : (i : Int) < (i : Int) + 1 := by omega
              go_wp2_with fail
              go_quiet (fail)
              go_wp2
              go_roundg (m - (j + 1))
              case measure => go_light; omega
              case rel =>
                go_light
                have h1 := HLS.out
                have h2 := HN.out
                exact ⟨⟨_, rfl⟩, j + 1, lostTo f i S (j + 1), by omega, rfl, by go_num, by go_num, rfl⟩
        · obtain rfl : j = m := by omega
          clear hpc2 hfit hpre
          go_wp2
          go_ret2
          go_light
          have hr : ((repTo f i : Nat) : Int) = (i : Int) - (cnt f 0 i : Nat) - (cnt f 1 i : Nat) := by have := HRC.out; omega
          refine ⟨?_, ⟨hBp.os, hBp.tape, hBp.output, hBp.size, hBp.block⟩⟩
          rw [hr, ← HT.out]
          rfl
end Go.Proofs.Qxb6630564a
