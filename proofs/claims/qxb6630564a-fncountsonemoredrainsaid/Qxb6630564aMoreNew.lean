import Derived.Test.Qxb6630564aOneB
set_option linter.unusedVariables false
namespace Go.Proofs.Qxb6630564a
open Go.RowKit Go.Maps Go.WideMaps Go.MapKept Go.ChangeMaps

set_option maxRecDepth 100000 in
set_option maxHeartbeats 3200000 in
theorem more_new (name : ByteArray) (sent : Int) (sa : Option Addr) (sk so m sc : Nat) (S : Nat → Int) (da : Option Addr) (dk do0 n dc : Nat) (f : Nat → Int) (j : Nat) (ack dr : Int) (w : World)
    (hsz : name.size + 16 * m + n ≤ 1048576) (hj : j = n) (hf : ∀ i, i < n → 0 ≤ f i ∧ f i ≤ 255) (h255 : j < n → f j ≠ 255) (hS : ∀ i, i < m * 2 → 0 ≤ S i ∧ S i ≤ 18446744073709551615)
    (hsa : 0 < m → sa = some ⟨sk, so, none⟩) (hsn : sa = none → m = 0) (hsc : ∀ i, i < m * 2 → w.cell? ⟨sk, so + i, none⟩ = some (.int .u64 (S i)))
    (hda : 0 < n → da = some ⟨dk, do0, none⟩) (hdn : da = none → n = 0) (hdc : ∀ i, i < n → w.cell? ⟨dk, do0 + i, none⟩ = some (.int .u8 (f i))) :
    Calls Try.prog 4 #[.string name, .int .u64 sent, .slice sa m sc, .slice da n dc, .int .i64 j, .int .i64 ack, .int .i64 dr] w fun e w' => e = .returned (.bool true) ∧ Below w.heap.size w w' := by
  obtain rfl := hj
  clear h255
  go_enter Try.func4, Try.ntmps4
  go_wp2_with (go_at_call 16; go_in)
  go_loopg [15, 16] m (fun k s15 s16 wx => wx = w ∧ ∃ i W : Nat, i ≤ m ∧ k = m - i ∧ W ≤ 65536 ∧ s15 = .int .u64 W ∧ s16 = .int .i64 i ∧ ∀ t, t < i → Fit1 S t)
  case atStart => exact ⟨rfl, 0, 0, Nat.zero_le _, rfl, by omega, rfl, rfl, fun t ht => absurd ht (by omega)⟩
  case round =>
    obtain ⟨rfl, i, W, him, rfl, hW, rfl, rfl, hfit⟩ := hrel
    have HFIT : Aside (∀ t, t < i → Fit1 S t) := hfit
    clear hfit
    by_cases hi : i < m
    · obtain rfl := hsa (by omega)
      have b0 := hS (i * 2) (by omega)
      have b1 := hS (i * 2 + 1) (by omega)
      obtain ⟨lo, hlo⟩ : ∃ lo : Nat, S (i * 2) = lo := ⟨(S (i * 2)).toNat, by omega⟩
      obtain ⟨hh, hhi⟩ : ∃ hh : Nat, S (i * 2 + 1) = hh := ⟨(S (i * 2 + 1)).toNat, by omega⟩
      have v0 := hsc (i * 2) (by omega)
      have v1 := hsc (i * 2 + 1) (by omega)
      rw [hlo] at v0 b0
      rw [hhi] at v1 b1
      rw [← Nat.add_assoc] at v1
      have HF : Aside (S (i * 2) = lo ∧ S (i * 2 + 1) = hh) := ⟨hlo, hhi⟩
      clear hlo hhi hS hsc hdc hf
      have hiz : (i : Int) < (m : Int) := by omega
      by_cases c1 : lo < 1
      · go_wp2; go_ret; exact ⟨rfl, Below.refl _ _⟩
      by_cases c2 : hh < lo
      · go_wp2; go_ret; exact ⟨rfl, Below.refl _ _⟩
      by_cases c3 : sent < (hh : Int)
      · go_wp2; go_ret; exact ⟨rfl, Below.refl _ _⟩
      by_cases c4 : 18446744073709551614 < hh
      · have hmx : ((hh : Int) == 18446744073709551615) = true := beq_iff_eq.2 (by omega)
        go_wp2; go_ret; exact ⟨rfl, Below.refl _ _⟩
      have hmx : ((hh : Int) == 18446744073709551615) = false := beq_eq_false_iff_ne.2 (by omega)
      by_cases c5 : 65536 ≤ hh - lo
      · go_wp2; go_ret; exact ⟨rfl, Below.refl _ _⟩
      by_cases c6 : 65536 < W + (hh - lo + 1)
      · go_wp2; go_ret; exact ⟨rfl, Below.refl _ _⟩
      go_wp2
      go_roundg (m - (i + 1))
      case measure => go_light; omega
      case rel =>
        go_light
        refine ⟨rfl, i + 1, W + (hh - lo + 1), by omega, rfl, by omega, by go_num, by go_num, fun t ht => ?_⟩
        by_cases e : t = i
        · subst e
          unfold Fit1
          rw [HF.out.1, HF.out.2]
          omega
        · exact HFIT.out t (by omega)
    · obtain rfl : i = m := by omega
      have hfit := HFIT.out
      clear HFIT
      go_wp2_with fail
      refine (cloneSpans_any sa sk so i sc S _ (by omega) hsa hsn hsc).mono ?_
      rintro e w1 ⟨a1, b1, rfl, hB1, ha1, hc1, _⟩
      have hdc1 : ∀ t, t < j → w1.cell? ⟨dk, do0 + t, none⟩ = some (.int .u8 (f t)) := fun t ht => by
        rw [hB1.cell (p := ⟨dk, do0 + t, none⟩) (World.block_lt_of_cell? _ _ (hdc t ht))]; exact hdc t ht
      clear hsc hdc hS hsa hsn
      go_wp2_with fail
      refine (cloneBytes_any da dk do0 j dc f w1 (by omega) hda hdn hdc1).mono ?_
      rintro e w2 ⟨a2, b2, rfl, hB2, ha2, hc2, _⟩
      simp only [Nat.mul_one] at hc2
      have hz1 := hB1.size
      have hz2 := hB2.size
      have hBw2 : Below wr.heap.size wr w2 := hB1.trans (hB2.mono hz1)
      have hcs2 : ∀ t, t < i * 2 → w2.cell? ⟨b1, t, none⟩ = some (.int .u64 (S t)) := fun t ht => by
        rw [hB2.cell (p := ⟨b1, t, none⟩) (World.block_lt_of_cell? _ _ (hc1 t ht))]; exact hc1 t ht
      clear hdc1 hc1 hda hdn hB1 hB2
      have hmk := run_make_row' (P := Try.prog) 28 5 (.int .u8 0) 1 Try.underlying28 Try.info5 rfl .i64 .i64 (j + 1) (by omega) (by omega)
      have ec : ((j + 1 : Nat) : Int) = (j : Int) + 1 := by omega
      rw [ec] at hmk
      clear ec
      go_wp2_with fail
      clear hmk
      go_loopg [21] j (fun k s21 wx => ∃ q : Nat, q ≤ j ∧ k = j - q ∧ s21 = .int .i64 q ∧ Below w2.heap.size w2 wx ∧ wx.rowIs w2.heap.size 5 (j + 1) (fun t => if t < q then .int .u8 (f t) else .int .u8 0))
      case atStart => exact ⟨0, Nat.zero_le _, rfl, rfl, (Below.refl _ _).alloc (Nat.le_refl _) _, (World.rowIs_made w2 (.int .u8 0) (j + 1) 5).congr (fun t _ => by simp)⟩
      case round =>
        obtain ⟨q, hq, rfl, rfl, hBq, hRq⟩ := hrel
        by_cases hqn : q < j
        · obtain ⟨rfl, _⟩ := ha2 (by omega)
          have hcx : wr.cell? ⟨b2, q, none⟩ = some (.int .u8 (f q)) := by
            rw [hBq.cell (p := ⟨b2, q, none⟩) (World.block_lt_of_cell? _ _ (hc2 q hqn))]; exact hc2 q hqn
          have hcy : wr.cell? ⟨w2.heap.size, q, none⟩ = some (.int .u8 0) := by simpa using hRq.cell (i := q) (by omega)
          have hcf : wr.frozen? ⟨w2.heap.size, q, none⟩ = false := hRq.frozen q
          have hqz : (q : Int) < (j : Int) := by omega
          have hqz2 : (q : Int) < (j : Int) + 1 := by omega
          go_wp2
          go_roundg (j - (q + 1))
          case measure => go_light; omega
          case rel => go_light; exact ⟨q + 1, by omega, rfl, by go_num, hBq.setCell (Nat.le_refl _) _, row_step hRq⟩
        · obtain rfl : q = j := by omega
          have hcy : wr.cell? ⟨w2.heap.size, q, none⟩ = some (.int .u8 0) := by simpa using hRq.cell (i := q) (by omega)
          have hcf : wr.frozen? ⟨w2.heap.size, q, none⟩ = false := hRq.frozen q
          have hqz2 : (q : Int) < (q : Int) + 1 := by omega
          go_wp2_with fail
          have hB3 : Below w2.heap.size w2 (wr.setCell ⟨w2.heap.size, q, none⟩ (.int .u8 1)) := hBq.setCell (Nat.le_refl _) _
          have hR3 := (hRq.set q (.int .u8 1)).congr (g := fun t => .int .u8 (upNew f q t)) (fun t ht => by
            by_cases e : t = q
            · subst e; simp [upNew]
            · rw [if_neg e, if_pos (by omega)]; simp [upNew, e])
          have hz3 := hB3.size
          clear hBq hRq hcy hcf
          generalize hW3 : wr.setCell ⟨w2.heap.size, q, none⟩ (.int .u8 1) = w3 at hB3 hR3 hz3 ⊢
          clear hW3
          have hc3 : ∀ t, t < q + 1 → w3.cell? ⟨w2.heap.size, t, none⟩ = some (.int .u8 (upNew f q t)) := fun t ht => hR3.cell ht
          clear hR3
          clear hqn
          have hBw3 := hBw2.trans (hB3.mono hBw2.size)
          have hb2w : ∀ t, t < q → b2 < w2.heap.size := fun t ht => World.block_lt_of_cell? _ _ (hc2 t ht)
          have hcs3 : ∀ t, t < i * 2 → w3.cell? ⟨b1, t, none⟩ = some (.int .u64 (S t)) := fun t ht => by
            rw [hB3.cell (p := ⟨b1, t, none⟩) (World.block_lt_of_cell? _ _ (hcs2 t ht))]; exact hcs2 t ht
          have hcd3 : ∀ t, t < q → w3.cell? ⟨b2, 0 + t, none⟩ = some (.int .u8 (f t)) := fun t ht => by
            rw [Nat.zero_add, hB3.cell (p := ⟨b2, t, none⟩) (hb2w t ht)]; exact hc2 t ht
          clear hcs2 hc2
          go_wp2_with fail
          refine (cloneBytes_any a2 b2 0 q q f w3 (by omega) (fun h => (ha2 h).1) (fun h => by rcases Nat.eq_zero_or_pos q with h0 | h0; exact h0; rw [(ha2 h0).1] at h; cases h) hcd3).mono ?_
          rintro e w4 ⟨a4, b4, rfl, hB4, ha4, hc4, _⟩
          simp only [Nat.mul_one] at hc4
          have hBw4 := hBw3.trans (hB4.mono hBw3.size)
          have hz4 := hB4.size
          have hcs4 : ∀ t, t < i * 2 → w4.cell? ⟨b1, t, none⟩ = some (.int .u64 (S t)) := fun t ht => by
            rw [hB4.cell (p := ⟨b1, t, none⟩) (World.block_lt_of_cell? _ _ (hcs3 t ht))]; exact hcs3 t ht
          have hca4 : ∀ t, t < q + 1 → w4.cell? ⟨w2.heap.size, t, none⟩ = some (.int .u8 (upNew f q t)) := fun t ht => by
            rw [hB4.cell (p := ⟨w2.heap.size, t, none⟩) (World.block_lt_of_cell? _ _ (hc3 t ht))]; exact hc3 t ht
          have hb3w : w2.heap.size < w4.heap.size := by have := World.block_lt_of_cell? _ _ (hca4 q (by omega)); exact this
          have hb1w : 0 < i → b1 < w4.heap.size := fun h => World.block_lt_of_cell? _ _ (hcs4 0 (by omega))
          have hb4w : 0 < q → b4 < w4.heap.size := fun h => World.block_lt_of_cell? _ _ (hc4 0 (by omega))
          clear hcs3 hcd3 hc3
          go_wp2_with fail
          refine (oneSession_any name sent ack dr a1 b1 i i S a4 q q w4 (by omega) (by omega) (fun h => (ha1 h).1) hcs4).mono ?_
          rintro e w5 ⟨mb1, tb1, sb1, v1, rfl, hmt1, hwm1, hH1, hB5⟩
          have hBw5 := hBw4.trans (hB5.mono hBw4.size)
          have hz5 := hB5.size
          have hcs5 : ∀ t, t < i * 2 → w5.cell? ⟨b1, t, none⟩ = some (.int .u64 (S t)) := fun t ht => by
            rw [hB5.cell (p := ⟨b1, t, none⟩) (hb1w (by omega))]; exact hcs4 t ht
          have hca5 : ∀ t, t < q + 1 → w5.cell? ⟨w2.heap.size, t, none⟩ = some (.int .u8 (upNew f q t)) := fun t ht => by
            rw [hB5.cell (p := ⟨w2.heap.size, t, none⟩) hb3w]; exact hca4 t ht
          have hcb5 : ∀ t, t < q → w5.cell? ⟨b4, t, none⟩ = some (.int .u8 (f t)) := fun t ht => by
            rw [hB5.cell (p := ⟨b4, t, none⟩) (hb4w (by omega))]; exact hc4 t ht
          clear hcs4 hca4 hc4
          go_wp2_with fail
          refine (oneSession_any name sent ack dr a1 b1 i i S (some ⟨w2.heap.size, 0, none⟩) (q + 1) (q + 1) w5 (by omega) (by omega) (fun h => (ha1 h).1) hcs5).mono ?_
          rintro e w6 ⟨mb2, tb2, sb2, v2, rfl, hmt2, hwm2, hH2, hB6⟩
          have hBw6 := hBw5.trans (hB6.mono hBw5.size)
          have hz6 := hB6.size
          have hcs6 : ∀ t, t < i * 2 → w6.cell? ⟨b1, t, none⟩ = some (.int .u64 (S t)) := fun t ht => by
            rw [hB6.cell (p := ⟨b1, t, none⟩) (by have := hb1w (by omega); show b1 < _; omega)]; exact hcs5 t ht
          have hca6 : ∀ t, t < q + 1 → w6.cell? ⟨w2.heap.size, t, none⟩ = some (.int .u8 (upNew f q t)) := fun t ht => by
            rw [hB6.cell (p := ⟨w2.heap.size, t, none⟩) (by show w2.heap.size < _; omega)]; exact hca5 t ht
          have hcb6 : ∀ t, t < q → w6.cell? ⟨b4, t, none⟩ = some (.int .u8 (f t)) := fun t ht => by
            rw [hB6.cell (p := ⟨b4, t, none⟩) (by have := hb4w (by omega); show b4 < _; omega)]; exact hcb5 t ht
          have ht1 : tb1 < w5.heap.size := hH1.idle.tal.lt
          have hH1' := hH1.below hB6
          clear hcs5 hca5 hcb5 hH1
          go_wp2_with fail
          refine (counts_one tb1 mb1 sb1 _ sent ack dr a4 b4 q q f v1 i S w6 hH1' (by omega) (fun h => ⟨(ha4 h).1, by have := hb4w h; omega⟩) hcb6 hfit (by omega) (by omega)).mono ?_
          rintro e w7 ⟨rfl, hg7⟩
          have hBw7 := hBw6.grown hg7 hBw6.size (fun k hk => by cases hk; have := hBw4.size; omega)
          have hcs7 : ∀ t, t < i * 2 → w7.cell? ⟨b1, t, none⟩ = some (.int .u64 (S t)) := fun t ht => by
            rw [hg7.cell_far ⟨b1, t, none⟩ (World.block_lt_of_cell? _ _ (hcs6 t ht)) (by have := hb1w (by omega); simp; omega)]; exact hcs6 t ht
          have hca7 : ∀ t, t < q + 1 → w7.cell? ⟨w2.heap.size, t, none⟩ = some (.int .u8 (upNew f q t)) := fun t ht => by
            rw [hg7.cell_far ⟨w2.heap.size, t, none⟩ (World.block_lt_of_cell? _ _ (hca6 t ht)) (by simp; omega)]; exact hca6 t ht
          have hH2' := hH2.far hg7 (by omega) (by omega)
          clear hcs6 hca6 hcb6 hH1' hH2
          go_wp2_with fail
          refine (counts_one tb2 mb2 sb2 _ sent ack dr (some ⟨w2.heap.size, 0, none⟩) w2.heap.size (q + 1) (q + 1) (upNew f q) v2 i S w7 hH2' (by omega) (fun h => ⟨rfl, by omega⟩) hca7 hfit (by omega) (by omega)).mono ?_
          rintro e w8 ⟨rfl, hg8⟩
          have hBw8 := hBw7.grown hg8 hBw7.size (fun k hk => by cases hk; have := hBw4.size; omega)
          have hcs8 : ∀ t, t < i * 2 → w8.cell? ⟨b1, t, none⟩ = some (.int .u64 (S t)) := fun t ht => by
            rw [hg8.cell_far ⟨b1, t, none⟩ (World.block_lt_of_cell? _ _ (hcs7 t ht)) (by have := hb1w (by omega); simp; omega)]; exact hcs7 t ht

          have hL1 := lostTo_le f q S i hfit
          have hL2 := lostTo_le (upNew f q) (q + 1) S i hfit
          have hR1 := repTo_le f q
          have hR2 := repTo_le (upNew f q) (q + 1)
          have HL : Aside (lostTo f q S i = lostTo (upNew f q) (q + 1) S i + miss f q q * coverTo S q i) := lostTo_more (upNew_more f q) S i hfit
          have HR : Aside (repTo (upNew f q) (q + 1) = repTo f q) := repTo_upNew f q
          obtain ⟨l1, e1⟩ : ∃ x, x = lostTo f q S i := ⟨_, rfl⟩
          obtain ⟨l2, e2⟩ : ∃ x, x = lostTo (upNew f q) (q + 1) S i := ⟨_, rfl⟩
          obtain ⟨r1, e3⟩ : ∃ x, x = repTo f q := ⟨_, rfl⟩
          obtain ⟨r2, e4⟩ : ∃ x, x = repTo (upNew f q) (q + 1) := ⟨_, rfl⟩
          rw [← e1] at HL hL1 ⊢
          rw [← e2] at HL hL2 ⊢
          rw [← e3] at HR hR1 ⊢
          rw [← e4] at HR hR2 ⊢
          clear e1 e2 e3 e4 hcs7 hca7 hH2' hg7 hg8 hBw2 hBw3 hBw4 hBw5 hBw6 hBw7 hB3 hB4 hB5 hB6 hb4w hb3w
          go_wp2_with fail
          go_loopg [32, 34] i (fun k s32 s34 wx => wx = w8 ∧ ∃ p C : Nat, p ≤ i ∧ k = i - p ∧ s34 = .int .i64 p ∧ s32 = .int .i64 C ∧ C = coverTo S q p)
          case atStart => exact ⟨rfl, 0, 0, Nat.zero_le _, rfl, rfl, rfl, rfl⟩
          case round =>
            obtain ⟨rfl, p, C, hp, rfl, rfl, rfl, hC⟩ := hrel
            have bC : C ≤ 65536 := by have := coverTo_le S q p; omega
            have HC : Aside (C = coverTo S q p) := hC
            clear hC
            by_cases hpi : p < i
            · obtain ⟨rfl, _⟩ := ha1 (by omega)
              have hF := hfit p hpi
              obtain ⟨lo, hlo⟩ : ∃ lo : Nat, S (p * 2) = lo := ⟨(S (p * 2)).toNat, by unfold Fit1 at hF; omega⟩
              obtain ⟨hh, hhi⟩ : ∃ hh : Nat, S (p * 2 + 1) = hh := ⟨(S (p * 2 + 1)).toNat, by unfold Fit1 at hF; omega⟩
              have u0 := hcs8 (p * 2) (by omega)
              have u1 := hcs8 (p * 2 + 1) (by omega)
              rw [hlo] at u0
              rw [hhi] at u1
              have hlh : lo ≤ hh ∧ hh ≤ 18446744073709551614 := by unfold Fit1 at hF; omega
              have HCV : Aside (cov1 S q p = (decide ((lo : Int) ≤ (q : Int)) && decide ((q : Int) ≤ (hh : Int)))) := by unfold cov1; rw [hlo, hhi]; rfl
              clear hF hlo hhi hcs8
              have hpz : (p : Int) < (i : Int) := by omega
              by_cases k1 : (lo : Int) ≤ (q : Int)
              · by_cases k2 : (q : Int) ≤ (hh : Int)
                · go_wp2
                  go_roundg (i - (p + 1))
                  case measure => go_light; omega
                  case rel =>
                    go_light
                    exact ⟨rfl, p + 1, C + 1, by omega, rfl, by go_num, by go_num, by rw [coverTo, HCV.out, decide_eq_true k1, decide_eq_true k2, HC.out]; rfl⟩
                · go_wp2
                  go_roundg (i - (p + 1))
                  case measure => go_light; omega
                  case rel =>
                    go_light
                    have k3 : ¬ (q : Int) ≤ (hh : Int) := by omega
                    exact ⟨rfl, p + 1, C, by omega, rfl, by go_num, rfl, by rw [coverTo, HCV.out, decide_eq_false k3, Bool.and_false, HC.out]; rfl⟩
              · go_wp2
                go_roundg (i - (p + 1))
                case measure => go_light; omega
                case rel =>
                  go_light
                  have k3 : ¬ (lo : Int) ≤ (q : Int) := by omega
                  exact ⟨rfl, p + 1, C, by omega, rfl, by go_num, rfl, by rw [coverTo, HCV.out, decide_eq_false k3, Bool.false_and, HC.out]; rfl⟩
            · obtain rfl : p = i := by omega
              clear hcs8 ha1 ha4 hfit
              have e := HL.out
              rw [miss_far (Nat.le_refl _), Nat.one_mul, ← HC.out] at e
              have e' := HR.out
              have t1 : ((l2 : Int) == (l1 : Int) - (C : Int)) = true := beq_iff_eq.2 (by omega)
              have t2 : ((r2 : Int) == (r1 : Int)) = true := beq_iff_eq.2 (by omega)
              have t3 : (l1 : Int) ≤ 4294967296 := by omega
              have t4 : (C : Int) ≤ (l1 : Int) := by omega
              clear e e' HL HR
              go_wp2
              go_ret
              exact ⟨by simp, hBw8⟩

end Go.Proofs.Qxb6630564a
