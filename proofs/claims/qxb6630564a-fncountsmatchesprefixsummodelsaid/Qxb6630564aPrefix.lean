import Derived.Test.Qxb6630564aTalliedB
import Derived.Test.Qxb6630564aBytes
set_option linter.unusedVariables false
namespace Go.Proofs.Qxb6630564a
open Go.RowKit Go.Maps Go.WideMaps Go.MapKept Go.ChangeMaps

/-- THE INPUT, as the walk is told of it. -/
structure Given4 (w : World) (na : Option Addr) (nb no K : Nat) (N : Nat → ByteArray) (sa : Option Addr) (sk so K1 : Nat) (T : Nat → Int) (pa : Option Addr) (pb po K2 : Nat) (PA : Nat → Option Addr) (PB PO PM PC : Nat → Nat) (PS : Nat → Nat → Int)
    (da : Option Addr) (db do0 K3 : Nat) (DA : Nat → Option Addr) (DB DO DM DC : Nat → Nat) (DF : Nat → Nat → Int) : Prop where
  xna : 0 < K → na = some ⟨nb, no, none⟩
  xnz : na = none → K = 0
  xnc : ∀ i, i < K → w.cell? ⟨nb, no + i, none⟩ = some (.string (N i))
  xnl : ∀ i, i < K → (N i).size ≤ 9223372036854775807
  xsa : 0 < K1 → sa = some ⟨sk, so, none⟩
  xsz : sa = none → K1 = 0
  xsc : ∀ i, i < K1 → w.cell? ⟨sk, so + i, none⟩ = some (.int .u64 (T i))
  xpa : 0 < K2 → pa = some ⟨pb, po, none⟩
  xpz : pa = none → K2 = 0
  xpc : ∀ i, i < K2 → w.cell? ⟨pb, po + i, none⟩ = some (.slice (PA i) (PM i) (PC i))
  xpl : ∀ i, i < K2 → PM i ≤ 9223372036854775807
  xPa : ∀ i, i < K2 → 0 < PM i → PA i = some ⟨PB i, PO i, none⟩
  xPz : ∀ i, i < K2 → PA i = none → PM i = 0
  xPc : ∀ i, i < K2 → ∀ t, t < PM i * 2 → w.cell? ⟨PB i, PO i + t, none⟩ = some (.int .u64 (PS i t))
  xPb : ∀ i, i < K2 → ∀ t, t < PM i * 2 → 0 ≤ PS i t ∧ PS i t ≤ 18446744073709551615
  xda : 0 < K3 → da = some ⟨db, do0, none⟩
  xdz : da = none → K3 = 0
  xdc : ∀ i, i < K3 → w.cell? ⟨db, do0 + i, none⟩ = some (.slice (DA i) (DM i) (DC i))
  xdl : ∀ i, i < K3 → DM i ≤ 9223372036854775807
  xDa : ∀ i, i < K3 → 0 < DM i → DA i = some ⟨DB i, DO i, none⟩
  xDz : ∀ i, i < K3 → DA i = none → DM i = 0
  xDc : ∀ i, i < K3 → ∀ t, t < DM i → w.cell? ⟨DB i, DO i + t, none⟩ = some (.int .u8 (DF i t))
  xDb : ∀ i, i < K3 → ∀ t, t < DM i → 0 ≤ DF i t ∧ DF i t ≤ 255
  xmK : K ≤ 9223372036854775807
  xmK1 : K1 ≤ 9223372036854775807
  xmK2 : K2 ≤ 9223372036854775807
  xmK3 : K3 ≤ 9223372036854775807

set_option maxRecDepth 1000000 in
set_option maxHeartbeats 12800000 in
theorem prefix_core (na : Option Addr) (nb no K nc : Nat) (N : Nat → ByteArray) (sa : Option Addr) (sk so K1 sc : Nat) (T : Nat → Int) (pa : Option Addr) (pb po K2 pc : Nat) (PA : Nat → Option Addr) (PB PO PM PC : Nat → Nat) (PS : Nat → Nat → Int)
    (da : Option Addr) (db do0 K3 dc : Nat) (DA : Nat → Option Addr) (DB DO DM DC : Nat → Nat) (DF : Nat → Nat → Int) (ack dr : Int) (w : World)
    (H : Given4 w na nb no K N sa sk so K1 T pa pb po K2 PA PB PO PM PC PS da db do0 K3 DA DB DO DM DC DF) :
    Calls Try.prog 3 #[.slice na K nc, .slice sa K1 sc, .slice pa K2 pc, .slice da K3 dc, .int .i64 ack, .int .i64 dr] w fun e w' => e = .returned (.bool true) ∧ Below w.heap.size w w' := by
  have mK := H.xmK
  have mK1 := H.xmK1
  have mK2 := H.xmK2
  have mK3 := H.xmK3
  go_enter Try.func3, Try.ntmps3
  go_wp2_with fail
  refine (bytes_any na nb no K nc N sa K1 sc pa pb po K2 pc PA PM PC da db do0 K3 dc DA DM DC ack dr w H.xna H.xnc H.xnl H.xpa H.xpc H.xpl H.xda H.xdc H.xdl H.xmK H.xmK1 H.xmK2 H.xmK3).mono ?_
  rintro e w' ⟨⟨r, rfl⟩, rfl⟩
  cases r
  · go_wp2; go_ret; exact ⟨rfl, Below.refl _ _⟩
  by_cases g0 : 4096 < K
  · go_wp2; go_ret; exact ⟨rfl, Below.refl _ _⟩
  by_cases g1 : 4096 < K1
  · go_wp2; go_ret; exact ⟨rfl, Below.refl _ _⟩
  by_cases g2 : 4096 < K2
  · go_wp2; go_ret; exact ⟨rfl, Below.refl _ _⟩
  by_cases g3 : 4096 < K3
  · go_wp2; go_ret; exact ⟨rfl, Below.refl _ _⟩
  have h0 : K ≤ 4096 := by omega
  have h1 : K1 ≤ 4096 := by omega
  have h2 : K2 ≤ 4096 := by omega
  have h3 : K3 ≤ 4096 := by omega
  clear g0 g1 g2 g3 mK mK1 mK2 mK3
  have d0 : decide ((4096 : Int) < (K : Int)) = false := decide_eq_false (by omega)
  have d1 : decide ((4096 : Int) < (K1 : Int)) = false := decide_eq_false (by omega)
  have d2 : decide ((4096 : Int) < (K2 : Int)) = false := decide_eq_false (by omega)
  have d3 : decide ((4096 : Int) < (K3 : Int)) = false := decide_eq_false (by omega)
  go_wp2
  clear d0 d1 d2 d3
  go_loopg [13, 14] K (fun k s13 s14 wx => wx = w ∧ ∃ i z : Nat, i ≤ K ∧ k = K - i ∧ z ≤ 1048576 ∧ s13 = .int .i64 z ∧ s14 = .int .i64 i ∧ ∀ t, t < i → (N t).size ≤ 1048576)
  case atStart => exact ⟨rfl, 0, 8 * K1, Nat.zero_le _, rfl, by omega, by go_num, rfl, fun t ht => absurd ht (by omega)⟩
  case round =>
    obtain ⟨rfl, i, z, hi, rfl, hz, rfl, rfl, hN⟩ := hrel
    have HN : Aside (∀ t, t < i → (N t).size ≤ 1048576) := hN
    clear hN
    by_cases hlt : i < K
    · obtain rfl := H.xna (by omega)
      have kx := H.xnc i hlt
      have lx := H.xnl i hlt
      have hiz : (i : Int) < (K : Int) := by omega
      by_cases q1 : 1048576 < (N i).size
      · go_wp2; go_ret; exact ⟨rfl, Below.refl _ _⟩
      by_cases q2 : 1048576 < z + (N i).size
      · go_wp2; go_ret; exact ⟨rfl, Below.refl _ _⟩
      go_wp2
      go_roundg (K - (i + 1))
      case measure => go_light; omega
      case rel =>
        go_light
        refine ⟨rfl, i + 1, z + (N i).size, by omega, rfl, by omega, by go_num, by go_num, fun t ht => ?_⟩
        by_cases e : t = i
        · subst e; omega
        · exact HN.out t (by omega)
    · obtain rfl : i = K := by omega
      clear hlt hi
      go_wp2
      go_loopg [13, 15] K2 (fun k s13 s15 wx => wx = wr ∧ ∃ j z : Nat, j ≤ K2 ∧ k = K2 - j ∧ z ≤ 1048576 ∧ s13 = .int .i64 z ∧ s15 = .int .i64 j ∧ ∀ t, t < j → PM t ≤ 65536)
      case atStart => exact ⟨rfl, 0, z, Nat.zero_le _, rfl, hz, rfl, rfl, fun t ht => absurd ht (by omega)⟩
      case round =>
        obtain ⟨rfl, j, z2, hj, rfl, hz2, rfl, rfl, hP⟩ := hrel
        have HP : Aside (∀ t, t < j → PM t ≤ 65536) := hP
        clear hP hz
        by_cases hlt : j < K2
        · obtain rfl := H.xpa (by omega)
          have kx := H.xpc j hlt
          have lx := H.xpl j hlt
          have hiz : (j : Int) < (K2 : Int) := by omega
          by_cases q1 : 65536 < PM j
          · go_wp2; go_ret; exact ⟨rfl, Below.refl _ _⟩
          by_cases q2 : 1048576 < z2 + 16 * PM j
          · go_wp2; go_ret; exact ⟨rfl, Below.refl _ _⟩
          go_wp2
          go_roundg (K2 - (j + 1))
          case measure => go_light; omega
          case rel =>
            go_light
            refine ⟨rfl, j + 1, z2 + 16 * PM j, by omega, rfl, by omega, by go_num, by go_num, fun t ht => ?_⟩
            by_cases e : t = j
            · subst e; omega
            · exact HP.out t (by omega)
        · obtain rfl : j = K2 := by omega
          clear hlt hj
          go_wp2
          go_loopg [13, 16] K3 (fun k s13 s16 wx => wx = wr ∧ ∃ l z : Nat, l ≤ K3 ∧ k = K3 - l ∧ z ≤ 1048576 ∧ s13 = .int .i64 z ∧ s16 = .int .i64 l ∧ ∀ t, t < l → DM t ≤ 1048576)
          case atStart => exact ⟨rfl, 0, z2, Nat.zero_le _, rfl, hz2, rfl, rfl, fun t ht => absurd ht (by omega)⟩
          case round =>
            obtain ⟨rfl, l, z3, hl, rfl, hz3, rfl, rfl, hD⟩ := hrel
            have HD : Aside (∀ t, t < l → DM t ≤ 1048576) := hD
            clear hD hz2
            by_cases hlt : l < K3
            · obtain rfl := H.xda (by omega)
              have kx := H.xdc l hlt
              have lx := H.xdl l hlt
              have hiz : (l : Int) < (K3 : Int) := by omega
              by_cases q1 : 1048576 < DM l
              · go_wp2; go_ret; exact ⟨rfl, Below.refl _ _⟩
              by_cases q2 : 1048576 < z3 + DM l
              · go_wp2; go_ret; exact ⟨rfl, Below.refl _ _⟩
              go_wp2
              go_roundg (K3 - (l + 1))
              case measure => go_light; omega
              case rel =>
                go_light
                refine ⟨rfl, l + 1, z3 + DM l, by omega, rfl, by omega, by go_num, by go_num, fun t ht => ?_⟩
                by_cases e : t = l
                · subst e; omega
                · exact HD.out t (by omega)
            · obtain rfl : l = K3 := by omega
              clear hlt hl
              by_cases e1 : K1 = i
              · by_cases e2 : j = i
                · by_cases e3 : l = i
                  · obtain rfl := e1
                    obtain rfl := e2
                    obtain rfl := e3
                    clear h1 h2 h3
                    go_wp2
                    go_loopg [18, 19] l (fun k s18 s19 wx => wx = wr ∧ ∃ i W : Nat, i ≤ l ∧ k = l - i ∧ W ≤ 65536 ∧ s18 = .int .u64 W ∧ s19 = .int .i64 i ∧ ∀ t, t < i → ∀ q, q < PM t → Fit1 (PS t) q)
                    case atStart => exact ⟨rfl, 0, 0, Nat.zero_le _, rfl, by omega, rfl, rfl, fun t ht => absurd ht (by omega)⟩
                    case round =>
                      obtain ⟨rfl, i, W, hi, rfl, hW, rfl, rfl, hF⟩ := hrel
                      have HF : Aside (∀ t, t < i → ∀ q, q < PM t → Fit1 (PS t) q) := hF
                      clear hF
                      by_cases hlt : i < l
                      · obtain rfl := H.xpa (by omega)
                        obtain rfl := H.xsa (by omega)
                        have kx := H.xpc i hlt
                        have sx := H.xsc i hlt
                        have lx := HP.out i hlt
                        have hiz : (i : Int) < (l : Int) := by omega
                        go_wp2
                        go_loopg [18, 20] (PM i) (fun k s18 s20 wx => wx = wr ∧ ∃ q W : Nat, q ≤ PM i ∧ k = PM i - q ∧ W ≤ 65536 ∧ s18 = .int .u64 W ∧ s20 = .int .i64 q ∧ ∀ t, t < q → Fit1 (PS i) t)
                        case atStart => exact ⟨rfl, 0, W, Nat.zero_le _, rfl, hW, rfl, rfl, fun t ht => absurd ht (by omega)⟩
                        case round =>
                          obtain ⟨rfl, q, W2, hq, rfl, hW2, rfl, rfl, hF2⟩ := hrel
                          have HF2 : Aside (∀ t, t < q → Fit1 (PS i) t) := hF2
                          clear hF2 hW
                          by_cases hlt2 : q < PM i
                          · have hpe := H.xPa i hlt (by omega)
                            have kx2 : wr.cell? ⟨pb, po + i, none⟩ = some (.slice (some ⟨PB i, PO i, none⟩) (PM i) (PC i)) := by rw [← hpe]; exact kx
                            have b0 := H.xPb i hlt (q * 2) (by omega)
                            have b1 := H.xPb i hlt (q * 2 + 1) (by omega)
                            obtain ⟨lo, hlo⟩ : ∃ lo : Nat, PS i (q * 2) = lo := ⟨(PS i (q * 2)).toNat, by omega⟩
                            obtain ⟨hh, hhi⟩ : ∃ hh : Nat, PS i (q * 2 + 1) = hh := ⟨(PS i (q * 2 + 1)).toNat, by omega⟩
                            have v0 := H.xPc i hlt (q * 2) (by omega)
                            have v1 := H.xPc i hlt (q * 2 + 1) (by omega)
                            rw [hlo] at v0 b0
                            rw [hhi] at v1 b1
                            rw [← Nat.add_assoc] at v1
                            have HX : Aside (PS i (q * 2) = lo ∧ PS i (q * 2 + 1) = hh) := ⟨hlo, hhi⟩
                            have hqz : (q : Int) < (PM i : Int) := by omega
                            clear hlo hhi kx hpe
                            by_cases c1 : lo < 1
                            · go_wp2; go_ret; exact ⟨rfl, Below.refl _ _⟩
                            by_cases c2 : hh < lo
                            · go_wp2; go_ret; exact ⟨rfl, Below.refl _ _⟩
                            by_cases c3 : T i < (hh : Int)
                            · go_wp2; go_ret; exact ⟨rfl, Below.refl _ _⟩
                            by_cases c4 : 18446744073709551614 < hh
                            · have hmx : ((hh : Int) == 18446744073709551615) = true := beq_iff_eq.2 (by omega)
                              go_wp2; go_ret; exact ⟨rfl, Below.refl _ _⟩
                            have hmx : ((hh : Int) == 18446744073709551615) = false := beq_eq_false_iff_ne.2 (by omega)
                            by_cases c5 : 65536 ≤ hh - lo
                            · go_wp2; go_ret; exact ⟨rfl, Below.refl _ _⟩
                            by_cases c6 : 65536 < W2 + (hh - lo + 1)
                            · go_wp2; go_ret; exact ⟨rfl, Below.refl _ _⟩
                            go_wp2
                            go_roundg (PM i - (q + 1))
                            case measure => go_light; omega
                            case rel =>
                              go_light
                              refine ⟨rfl, q + 1, W2 + (hh - lo + 1), by omega, rfl, by omega, by go_num, by go_num, fun t ht => ?_⟩
                              by_cases e : t = q
                              · subst e
                                unfold Fit1
                                rw [HX.out.1, HX.out.2]
                                omega
                              · exact HF2.out t (by omega)
                          · obtain rfl : q = PM i := by omega
                            go_wp2
                            go_roundg (l - (i + 1))
                            case measure => go_light; omega
                            case rel =>
                              go_light
                              refine ⟨rfl, i + 1, W2, by omega, rfl, hW2, rfl, by go_num, fun t ht => ?_⟩
                              by_cases e : t = i
                              · subst e; exact HF2.out
                              · exact HF.out t (by omega)
                      · obtain rfl : i = l := by omega
                        clear hlt hi hW
                        go_wp2_with fail
                        obtain ⟨w0, hw0⟩ : ∃ w0, w0 = wr := ⟨_, rfl⟩
                        subst hw0
                        refine (cloneStrings_any na nb no i nc N w0 (by omega) H.xna H.xnz H.xnc).mono ?_
                        rintro e w1 ⟨a1, b1, rfl, hB1, ha1, hc1⟩
                        have hsc1 : ∀ t, t < i → w1.cell? ⟨sk, so + t, none⟩ = some (.int .u64 (T t)) := fun t ht => by
                          rw [hB1.cell (p := ⟨sk, so + t, none⟩) (World.block_lt_of_cell? _ _ (H.xsc t ht))]; exact H.xsc t ht
                        have HSC1 : Aside (∀ t, t < i → w1.cell? ⟨sk, so + t, none⟩ = some (.int .u64 (T t))) := hsc1
                        have HC1 : Aside (∀ t, t < i → w1.cell? ⟨b1, t, none⟩ = some (.string (N t))) := hc1
                        clear hsc1 hc1
                        go_wp2_with fail
                        refine (cloneU64_any sa sk so i sc T w1 (by omega) H.xsa H.xsz HSC1.out).mono ?_
                        rintro e w2 ⟨a2, b2, rfl, hB2, ha2, hc2⟩
                        have hBw2 : Below w0.heap.size w0 w2 := hB1.trans (hB2.mono hB1.size)
                        have HN2 : Aside (∀ t, t < i → w2.cell? ⟨b1, t, none⟩ = some (.string (N t))) := fun t ht => by
                          rw [hB2.cell (p := ⟨b1, t, none⟩) (World.block_lt_of_cell? _ _ (HC1.out t ht))]; exact HC1.out t ht
                        have HT2 : Aside (∀ t, t < i → w2.cell? ⟨b2, t, none⟩ = some (.int .u64 (T t))) := hc2
                        clear hc2 HC1 HSC1 hB1 hB2
                        have hmk := run_make_row' (P := Try.prog) 24 27 (.slice none 0 0) 24 Try.underlying24 Try.info27 rfl .i64 .i64 i (by omega) (by omega)
                        go_wp2_with fail
                        clear hmk
                        go_loopg [24] i (fun k s24 wx => ∃ (q : Nat) (A : Nat → Option Addr) (B : Nat → Nat), q ≤ i ∧ k = i - q ∧ s24 = .int .i64 q ∧ Rows2 27 .u64 2 w2 i PM PS q A B wx)
                        case atStart => exact ⟨0, _, _, Nat.zero_le _, rfl, rfl, rows2_start 27 .u64 2 w2 i PM PS⟩
                        case round =>
                          obtain ⟨q, A, B, hq, rfl, rfl, hR⟩ := hrel
                          by_cases hlt : q < i
                          · obtain rfl := H.xpa (by omega)
                            have hBx : Below w0.heap.size w0 wr := hBw2.trans (hR.below.mono hBw2.size)
                            have kx : wr.cell? ⟨pb, po + q, none⟩ = some (.slice (PA q) (PM q) (PC q)) := by
                              rw [hBx.cell (p := ⟨pb, po + q, none⟩) (World.block_lt_of_cell? _ _ (H.xpc q hlt))]; exact H.xpc q hlt
                            have HPc : Aside (∀ t, t < PM q * 2 → wr.cell? ⟨PB q, PO q + t, none⟩ = some (.int .u64 (PS q t))) := fun t ht => by
                              rw [hBx.cell (p := ⟨PB q, PO q + t, none⟩) (World.block_lt_of_cell? _ _ (H.xPc q hlt t ht))]; exact H.xPc q hlt t ht
                            have hpm := HP.out q hlt
                            have hiz : (q : Int) < (i : Int) := by omega
                            go_wp2_with fail
                            refine (cloneSpans_any (PA q) (PB q) (PO q) (PM q) (PC q) (PS q) wr (by omega) (H.xPa q hlt) (H.xPz q hlt) HPc.out).mono ?_
                            rintro e w3 ⟨a3, b3, rfl, hB3, ha3, hc3, _⟩
                            have HC3 : Aside (∀ t, t < PM q * 2 → w3.cell? ⟨b3, t, none⟩ = some (.int .u64 (PS q t))) := hc3
                            have t1 : w3.cell? ⟨w2.heap.size, q, none⟩ = some (.slice none 0 0) := by
                              rw [hB3.cell (p := ⟨w2.heap.size, q, none⟩) hR.row.lt, hR.row.cell hlt, if_neg (by omega)]
                            have t2 : w3.frozen? ⟨w2.heap.size, q, none⟩ = false := by
                              rw [hB3.frozen (p := ⟨w2.heap.size, q, none⟩) hR.row.lt]; exact hR.row.frozen q
                            clear hc3 kx
                            go_wp2
                            go_roundg (i - (q + 1))
                            case measure => go_light; omega
                            case rel =>
                              go_light
                              exact ⟨q + 1, _, _, by omega, rfl, by go_num, rows2_step hR (by omega) hlt hB3 ha3 HC3.out⟩
                          · obtain rfl : q = i := by omega
                            have hD4 := rows2_done hR (by omega)
                            have hBw4 : Below w0.heap.size w0 wr := hBw2.trans (hR.below.mono hBw2.size)
                            have hz4 := hR.below.size
                            have HN4 : Aside (∀ t, t < q → wr.cell? ⟨b1, t, none⟩ = some (.string (N t))) := fun t ht => by
                              rw [hR.below.cell (p := ⟨b1, t, none⟩) (World.block_lt_of_cell? _ _ (HN2.out t ht))]; exact HN2.out t ht
                            have HT4 : Aside (∀ t, t < q → wr.cell? ⟨b2, t, none⟩ = some (.int .u64 (T t))) := fun t ht => by
                              rw [hR.below.cell (p := ⟨b2, t, none⟩) (World.block_lt_of_cell? _ _ (HT2.out t ht))]; exact HT2.out t ht
                            have HLB : Aside (0 < q → b1 < w2.heap.size ∧ b2 < w2.heap.size) := fun h => ⟨World.block_lt_of_cell? _ _ (HN2.out 0 h), World.block_lt_of_cell? _ _ (HT2.out 0 h)⟩
                            obtain ⟨w4, hw4⟩ : ∃ w4, w4 = wr := ⟨_, rfl⟩
                            subst hw4
                            clear hR hlt hq HN2 HT2 hBw2
                            have hmk := run_make_row' (P := Try.prog) 25 28 (.slice none 0 0) 24 Try.underlying25 Try.info28 rfl .i64 .i64 q (by omega) (by omega)
                            go_wp2_with fail
                            clear hmk
                            go_loopg [26] q (fun k s26 wx => ∃ (r : Nat) (A2 : Nat → Option Addr) (B2 : Nat → Nat), r ≤ q ∧ k = q - r ∧ s26 = .int .i64 r ∧ Rows2 28 .u8 1 w4 q DM DF r A2 B2 wx)
                            case atStart => exact ⟨0, _, _, Nat.zero_le _, rfl, rfl, rows2_start 28 .u8 1 w4 q DM DF⟩
                            case round =>
                              obtain ⟨r, A2, B2, hr, rfl, rfl, hR⟩ := hrel
                              by_cases hlt : r < q
                              · obtain rfl := H.xda (by omega)
                                have hBx : Below w0.heap.size w0 wr := hBw4.trans (hR.below.mono hBw4.size)
                                have kx : wr.cell? ⟨db, do0 + r, none⟩ = some (.slice (DA r) (DM r) (DC r)) := by
                                  rw [hBx.cell (p := ⟨db, do0 + r, none⟩) (World.block_lt_of_cell? _ _ (H.xdc r hlt))]; exact H.xdc r hlt
                                have HDc : Aside (∀ t, t < DM r → wr.cell? ⟨DB r, DO r + t, none⟩ = some (.int .u8 (DF r t))) := fun t ht => by
                                  rw [hBx.cell (p := ⟨DB r, DO r + t, none⟩) (World.block_lt_of_cell? _ _ (H.xDc r hlt t ht))]; exact H.xDc r hlt t ht
                                have hdm := HD.out r hlt
                                have hiz : (r : Int) < (q : Int) := by omega
                                go_wp2_with fail
                                refine (cloneBytes_any (DA r) (DB r) (DO r) (DM r) (DC r) (DF r) wr (by omega) (H.xDa r hlt) (H.xDz r hlt) HDc.out).mono ?_
                                rintro e w3 ⟨a3, b3, rfl, hB3, ha3, hc3, _⟩
                                have HC3 : Aside (∀ t, t < DM r * 1 → w3.cell? ⟨b3, t, none⟩ = some (.int .u8 (DF r t))) := hc3
                                have t1 : w3.cell? ⟨w4.heap.size, r, none⟩ = some (.slice none 0 0) := by
                                  rw [hB3.cell (p := ⟨w4.heap.size, r, none⟩) hR.row.lt, hR.row.cell hlt, if_neg (by omega)]
                                have t2 : w3.frozen? ⟨w4.heap.size, r, none⟩ = false := by
                                  rw [hB3.frozen (p := ⟨w4.heap.size, r, none⟩) hR.row.lt]; exact hR.row.frozen r
                                clear hc3 kx
                                go_wp2
                                go_roundg (q - (r + 1))
                                case measure => go_light; omega
                                case rel =>
                                  go_light
                                  exact ⟨r + 1, _, _, by omega, rfl, by go_num, rows2_step hR (by omega) hlt hB3 ha3 HC3.out⟩
                              · obtain rfl : r = q := by omega
                                have hE5 := rows2_done hR (by omega)
                                have hD5 := hD4.below hR.below
                                have hBw5 : Below w0.heap.size w0 wr := hBw4.trans (hR.below.mono hBw4.size)
                                have hz5 := hR.below.size
                                have HN5 : Aside (∀ t, t < r → wr.cell? ⟨b1, t, none⟩ = some (.string (N t))) := fun t ht => by
                                  rw [hR.below.cell (p := ⟨b1, t, none⟩) (World.block_lt_of_cell? _ _ (HN4.out t ht))]; exact HN4.out t ht
                                have HT5 : Aside (∀ t, t < r → wr.cell? ⟨b2, t, none⟩ = some (.int .u64 (T t))) := fun t ht => by
                                  rw [hR.below.cell (p := ⟨b2, t, none⟩) (World.block_lt_of_cell? _ _ (HT4.out t ht))]; exact HT4.out t ht
                                obtain ⟨w5, hw5⟩ : ∃ w5, w5 = wr := ⟨_, rfl⟩
                                subst hw5
                                clear hR hlt hr HN4 HT4 hBw4 hD4
                                go_wp2_with fail
                                refine (newTally_any ack dr w5).mono ?_
                                rintro e w6 ⟨rfl, hI6, hB6, hs6⟩
                                have hT6 := tallied_start N PM PS DM DF hI6 hB6
                                clear hI6 hB6 hs6
                                go_wp2_with fail
                                go_loopg [28] r (fun k s28 wx => ∃ x : Nat, x ≤ r ∧ k = r - x ∧ s28 = .int .i64 x ∧ Tallied w5 (w5.heap.size + 1) w5.heap.size ack dr N PM PS DM DF x wx)
                                case atStart => exact ⟨0, Nat.zero_le _, rfl, rfl, hT6⟩
                                case round =>
                                  obtain ⟨x, hx, rfl, rfl, hTl⟩ := hrel
                                  clear hT6
                                  by_cases hlt : x < r
                                  · obtain rfl := ha1 (by omega)
                                    obtain rfl := ha2 (by omega)
                                    have hb12 := HLB.out (by omega)
                                    have hb1 : b1 < w5.heap.size := by omega
                                    have hb2 : b2 < w5.heap.size := by omega
                                    have hrow4 : w4.heap.size < w5.heap.size := hE5.lt
                                    have hrow2 : w2.heap.size < w5.heap.size := by have := hD5.lt; omega
                                    have hzr := hTl.below.size
                                    have hztb : w5.heap.size + 1 < wr.heap.size := by obtain ⟨_, _, _, hI, _⟩ := hTl.ex; exact hI.tal.lt
                                    have n1 : wr.cell? ⟨b1, x, none⟩ = some (.string (N x)) := by rw [hTl.below.cell (p := ⟨b1, x, none⟩) hb1]; exact HN5.out x hlt
                                    have s1 : wr.cell? ⟨b2, x, none⟩ = some (.int .u64 (T x)) := by rw [hTl.below.cell (p := ⟨b2, x, none⟩) hb2]; exact HT5.out x hlt
                                    have d1 : wr.cell? ⟨w4.heap.size, x, none⟩ = some (.slice (A2 x) (DM x) (DM x)) := by rw [hTl.below.cell (p := ⟨w4.heap.size, x, none⟩) hrow4]; exact hE5.row x hlt
                                    have HDc : Aside (∀ t, t < DM x → wr.drew.cell? ⟨B2 x, 0 + t, none⟩ = some (.int .u8 (DF x t))) := fun t ht => by
                                      rw [Nat.zero_add]
                                      show wr.cell? ⟨B2 x, t, none⟩ = _
                                      rw [hTl.below.cell (p := ⟨B2 x, t, none⟩) (hE5.ltB x hlt (by omega))]; exact hE5.cells x hlt t (by omega)
                                    have HDh : Aside (0 < DM x → A2 x = some ⟨B2 x, 0, none⟩) := hE5.head x hlt
                                    have HDz : Aside (A2 x = none → DM x = 0) := fun h => by
                                      rcases Nat.eq_zero_or_pos (DM x) with h0 | h0
                                      · exact h0
                                      · rw [hE5.head x hlt h0] at h; cases h
                                    have hdm := HD.out x hlt
                                    have hnm0 := HN.out x hlt
                                    have hnm : (N x).size ≤ maxLen := by unfold maxLen; omega
                                    have HB1 : Aside (b1 < wr.heap.size ∧ b2 < wr.heap.size ∧ w4.heap.size < wr.heap.size) := ⟨by omega, by omega, by omega⟩
                                    have hiz : (x : Int) < (r : Int) := by omega
                                    have hiz0 : (0 : Int) ≤ (x : Int) := by omega
                                    have hxb : x < 1048576 := by omega
                                    go_wp2_with fail
                                    go_region_held3 (fun w' => w'.cell? ⟨b1, x, none⟩ = some (.string (N x)) ∧ w'.cell? ⟨b2, x, none⟩ = some (.int .u64 (T x)) ∧ w'.cell? ⟨w4.heap.size, x, none⟩ = some (.slice (A2 x) (DM x) (DM x))) (go_keep)
                                      (first
                                        | (go_at_call 9; refine (cloneBytes_any (A2 x) (B2 x) 0 (DM x) (DM x) (DF x) wr.drew hdm HDh.out HDz.out HDc.out).mono ?_; rintro e wc ⟨a4, b4, rfl, hB4, ha4, hc4, _⟩; have hT4 := hTl.drew.below' hB4; have hk0 := (hB4.cell (p := ⟨b1, x, none⟩) HB1.out.1).trans n1; have hk1 := (hB4.cell (p := ⟨b2, x, none⟩) HB1.out.2.1).trans s1; have hk2 := (hB4.cell (p := ⟨w4.heap.size, x, none⟩) HB1.out.2.2).trans d1; have HA4 : Aside (0 < DM x → a4 = some ⟨b4, 0, none⟩ ∧ w5.heap.size + 1 < b4) := (fun h => ⟨(ha4 h).1, Nat.lt_of_lt_of_le hztb (ha4 h).2⟩); have HC4 : Aside (∀ t, t < DM x → wc.cell? ⟨b4, t, none⟩ = some (.int .u8 (DF x t))) := (fun t ht => hc4 t (by omega)); clear ha4 hc4)
                                        | (go_at_call 11; refine (under_start hT4 (T x) hxb hnm HA4.out HC4.out).mono ?_; rintro e wd ⟨rfl, hU⟩; have hj0 := (hU.below.cell (p := ⟨b1, x, none⟩) hb1).trans (HN5.out x hlt); have hj1 := (hU.below.cell (p := ⟨b2, x, none⟩) hb2).trans (HT5.out x hlt); have hj2 := (hU.below.cell (p := ⟨w4.heap.size, x, none⟩) hrow4).trans (hE5.row x hlt)))
                                    clear n1 s1 d1 HDc HDh HDz HB1 hk0 hk1 hk2 hj0 hj1 hj2 hT4 HC4 hB4 hztb hzr hTl
                                    obtain ⟨sbx, hsbx⟩ : ∃ sbx, sbx = wc.heap.size := ⟨_, rfl⟩
                                    rw [← hsbx] at hU
                                    clear hsbx HA4
                                    have p0 : wd.cell? ⟨w2.heap.size, x, none⟩ = some (.slice (A x) (PM x) (PM x)) := by rw [hU.below.cell (p := ⟨w2.heap.size, x, none⟩) hrow2]; exact hD5.row x hlt
                                    go_wp2_with fail
                                    clear p0
                                    go_loopg [29] (PM x) (fun k s29 wx => ∃ y : Nat, y ≤ PM x ∧ k = PM x - y ∧ s29 = .int .i64 y ∧ Under w5 (w5.heap.size + 1) w5.heap.size ack dr N PM PS DM DF (T x) a4 b4 x sbx y wx)
                                    case atStart => exact ⟨0, Nat.zero_le _, rfl, rfl, hU⟩
                                    case round =>
                                      obtain ⟨y, hy, rfl, rfl, hV⟩ := hrel
                                      clear hU
                                      have hpm := HP.out x hlt
                                      have p1 : wr.cell? ⟨w2.heap.size, x, none⟩ = some (.slice (A x) (PM x) (PM x)) := by rw [hV.below.cell (p := ⟨w2.heap.size, x, none⟩) hrow2]; exact hD5.row x hlt
                                      by_cases hyl : y < PM x
                                      · have hae := hD5.head x hlt (by omega)
                                        have hBx : B x < w5.heap.size := by have := hD5.ltB x hlt (by omega); omega
                                        rw [hae] at p1
                                        have n1 : wr.cell? ⟨b1, x, none⟩ = some (.string (N x)) := by rw [hV.below.cell (p := ⟨b1, x, none⟩) hb1]; exact HN5.out x hlt
                                        have v0 : wr.cell? ⟨B x, y * 2, none⟩ = some (.int .u64 (PS x (y * 2))) := by rw [hV.below.cell (p := ⟨B x, y * 2, none⟩) hBx]; exact hD5.cells x hlt (y * 2) (by omega)
                                        have v1 : wr.cell? ⟨B x, y * 2 + 1, none⟩ = some (.int .u64 (PS x (y * 2 + 1))) := by rw [hV.below.cell (p := ⟨B x, y * 2 + 1, none⟩) hBx]; exact hD5.cells x hlt (y * 2 + 1) (by omega)
                                        have HAE : Aside (A x = some ⟨B x, 0, none⟩) := hae
                                        clear hae
                                        have hyz : (y : Int) < (PM x : Int) := by omega
                                        have hyz0 : (0 : Int) ≤ (y : Int) := by omega
                                        have hyb : y < 1048576 := by omega
                                        have p1x : ∀ wq : World, Below w5.heap.size w5 wq → wq.cell? ⟨w2.heap.size, x, none⟩ = some (.slice (some ⟨B x, 0, none⟩) (PM x) (PM x)) := fun wq hq => by rw [hq.cell (p := ⟨w2.heap.size, x, none⟩) hrow2, hD5.row x hlt, HAE.out]
                                        have HP1X : Aside (∀ wq : World, Below w5.heap.size w5 wq → wq.cell? ⟨w2.heap.size, x, none⟩ = some (.slice (some ⟨B x, 0, none⟩) (PM x) (PM x))) := p1x
                                        have HV0X : Aside (∀ wq : World, Below w5.heap.size w5 wq → wq.cell? ⟨B x, y * 2, none⟩ = some (.int .u64 (PS x (y * 2))) ∧ wq.cell? ⟨B x, y * 2 + 1, none⟩ = some (.int .u64 (PS x (y * 2 + 1)))) := fun wq hq => by
                                          rw [hq.cell (p := ⟨B x, y * 2, none⟩) hBx, hq.cell (p := ⟨B x, y * 2 + 1, none⟩) hBx]
                                          exact ⟨hD5.cells x hlt (y * 2) (by omega), hD5.cells x hlt (y * 2 + 1) (by omega)⟩
                                        clear p1x
                                        go_wp2_with fail
                                        go_region_held3 (fun w' => w'.cell? ⟨b1, x, none⟩ = some (.string (N x)) ∧ w'.cell? ⟨w2.heap.size, x, none⟩ = some (.slice (some ⟨B x, 0, none⟩) (PM x) (PM x)) ∧ w'.cell? ⟨B x, y * 2, none⟩ = some (.int .u64 (PS x (y * 2))) ∧ w'.cell? ⟨B x, y * 2 + 1, none⟩ = some (.int .u64 (PS x (y * 2 + 1)))) (go_keep)
                                          ((go_at_call 12; refine (under_step hV.drew hyb hnm).mono ?_; rintro e wd2 ⟨rfl, hV2⟩; have hj0 := (hV2.below.cell (p := ⟨b1, x, none⟩) hb1).trans (HN5.out x hlt); have hj1 := HP1X.out wd2 hV2.below; have hj2 := (HV0X.out wd2 hV2.below).1; have hj3 := (HV0X.out wd2 hV2.below).2))
                                        clear n1 v0 v1 p1 hj0 hj1 hj2 hj3
                                        go_wp2
                                        go_roundg (PM x - (y + 1))
                                        case measure => go_light; omega
                                        case rel =>
                                          go_light
                                          exact ⟨y + 1, by omega, rfl, by go_num, hV2⟩
                                      · have e : y = PM x := by omega
                                        have HY : Aside (y = PM x) := e
                                        have hyz : ¬ (y : Int) < (PM x : Int) := by omega
                                        clear e
                                        go_wp2
                                        go_roundg (r - (x + 1))
                                        case measure => go_light; omega
                                        case rel =>
                                          go_light
                                          have e := HY.out
                                          rw [e] at hV
                                          exact ⟨x + 1, by omega, rfl, by go_num, under_done hV (HF.out x hlt) hpm hdm⟩
                                  · obtain rfl : x = r := by omega
                                    go_wp2_with fail
                                    refine (counts_tallied hTl (by omega) HF.out HP.out HD.out).mono ?_
                                    rintro e w7 ⟨rfl, hB7, hg7⟩
                                    clear hTl hg7 hlt hx
                                    have HWL : Aside (sumL (fun t => lostTo (DF t) (DM t) (PS t) (PM t)) (live N x) = wsum (fun t => lostTo (DF t) (DM t) (PS t) (PM t)) N x x) := (wsum_live _ N x).symm
                                    have HWR : Aside (sumL (fun t => repTo (DF t) (DM t)) (live N x) = wsum (fun t => repTo (DF t) (DM t)) N x x) := (wsum_live _ N x).symm
                                    obtain ⟨LL, eLL⟩ : ∃ LL, LL = sumL (fun t => lostTo (DF t) (DM t) (PS t) (PM t)) (live N x) := ⟨_, rfl⟩
                                    obtain ⟨RR, eRR⟩ : ∃ RR, RR = sumL (fun t => repTo (DF t) (DM t)) (live N x) := ⟨_, rfl⟩
                                    rw [← eLL] at HWL ⊢
                                    rw [← eRR] at HWR ⊢
                                    clear eLL eRR
                                    have HBL : Aside (∀ t, t < x → lostTo (DF t) (DM t) (PS t) (PM t) ≤ 4294967296) := fun t ht => by
                                      have h1 := lostTo_le (DF t) (DM t) (PS t) (PM t) (HF.out t ht)
                                      have h2 := HP.out t ht
                                      omega
                                    have HBR : Aside (∀ t, t < x → repTo (DF t) (DM t) ≤ 4294967296) := fun t ht => by
                                      have h1 := repTo_le (DF t) (DM t)
                                      have h2 := HD.out t ht
                                      omega
                                    go_wp2_with fail
                                    go_loopg [34, 35, 36] x (fun k s34 s35 s36 wx => ∃ y Y Z : Nat, y ≤ x ∧ k = x - y ∧ s36 = .int .i64 y ∧ s34 = .int .i64 Y ∧ s35 = .int .i64 Z ∧ Y = wsum (fun t => lostTo (DF t) (DM t) (PS t) (PM t)) N x y ∧ Z = wsum (fun t => repTo (DF t) (DM t)) N x y ∧ Below w5.heap.size w5 wx)
                                    case atStart => exact ⟨0, 0, 0, Nat.zero_le _, rfl, rfl, rfl, rfl, rfl, rfl, hB7⟩
                                    case round =>
                                      obtain ⟨y, Y, Z, hy, rfl, rfl, rfl, rfl, hY, hZ, hBx⟩ := hrel
                                      have bY : Y ≤ 17592186044416 := by
                                        have := wsum_le (fun t => lostTo (DF t) (DM t) (PS t) (PM t)) N x 4294967296 y (fun t ht => HBL.out t (by omega))
                                        omega
                                      have bZ : Z ≤ 17592186044416 := by
                                        have := wsum_le (fun t => repTo (DF t) (DM t)) N x 4294967296 y (fun t ht => HBR.out t (by omega))
                                        omega
                                      have HY : Aside (Y = wsum (fun t => lostTo (DF t) (DM t) (PS t) (PM t)) N x y ∧ Z = wsum (fun t => repTo (DF t) (DM t)) N x y) := ⟨hY, hZ⟩
                                      clear hY hZ hB7
                                      by_cases hlt : y < x
                                      · obtain rfl := ha1 (by omega)
                                        have hb12 := HLB.out (by omega)
                                        have hb1 : b1 < w5.heap.size := by omega
                                        have hrow4 : w4.heap.size < w5.heap.size := hE5.lt
                                        have hrow2 : w2.heap.size < w5.heap.size := by have := hD5.lt; omega
                                        have HNX : Aside (∀ j, j < x → wr.cell? ⟨b1, j, none⟩ = some (.string (N j))) := fun j hj => by rw [hBx.cell (p := ⟨b1, j, none⟩) hb1]; exact HN5.out j hj
                                        have hyz : (y : Int) < (x : Int) := by omega
                                        have hyz0 : (0 : Int) ≤ (y : Int) := by omega
                                        go_wp2_with fail
                                        refine (shadowed_any b1 x y N wr (by omega) hlt HNX.out).mono ?_
                                        rintro e w8 ⟨rfl, hB8⟩
                                        have hBx8 : Below w5.heap.size w5 w8 := hBx.trans (hB8.mono hBx.size)
                                        clear HNX hB8 hBx
                                        cases hsh : shad N x y
                                        · have hlb := HBL.out y hlt
                                          have hrb := HBR.out y hlt
                                          have HMODEL : Aside (∀ wq : World, Below w5.heap.size w5 wq → Calls Try.prog 15 #[.slice (A y) (PM y) (PM y), .slice (A2 y) (DM y) (DM y)] wq (Modeled (lostTo (DF y) (DM y) (PS y) (PM y)) (repTo (DF y) (DM y)) wq)) := fun wq hq => by
                                            refine model_any (A y) (B y) (PM y) (PM y) (PS y) (A2 y) (B2 y) (DM y) (DM y) (DF y) wq (HP.out y hlt) (HD.out y hlt) (hD5.head y hlt) (fun t ht => ?_) (HF.out y hlt) (hE5.head y hlt) (fun t ht => ?_) (fun t ht => (H.xDb y hlt t ht).1)
                                            · rw [hq.cell (p := ⟨B y, t, none⟩) (by have := hD5.ltB y hlt (by omega); show B y < _; omega)]; exact hD5.cells y hlt t ht
                                            · rw [hq.cell (p := ⟨B2 y, t, none⟩) (hE5.ltB y hlt (by omega))]; exact hE5.cells y hlt t (by omega)
                                          obtain ⟨l1, el1⟩ : ∃ l1, l1 = lostTo (DF y) (DM y) (PS y) (PM y) := ⟨_, rfl⟩
                                          obtain ⟨r1, er1⟩ : ∃ r1, r1 = repTo (DF y) (DM y) := ⟨_, rfl⟩
                                          rw [← el1, ← er1] at HMODEL
                                          rw [← el1] at hlb
                                          rw [← er1] at hrb
                                          have HEL : Aside (l1 = lostTo (DF y) (DM y) (PS y) (PM y) ∧ r1 = repTo (DF y) (DM y)) := ⟨el1, er1⟩
                                          have HSH : Aside (shad N x y = false) := hsh
                                          have HROWS : Aside (∀ wq : World, Below w5.heap.size w5 wq → wq.cell? ⟨w2.heap.size, y, none⟩ = some (.slice (A y) (PM y) (PM y)) ∧ wq.cell? ⟨w4.heap.size, y, none⟩ = some (.slice (A2 y) (DM y) (DM y))) := fun wq hq => by
                                            rw [hq.cell (p := ⟨w2.heap.size, y, none⟩) hrow2, hq.cell (p := ⟨w4.heap.size, y, none⟩) hrow4]; exact ⟨hD5.row y hlt, hE5.row y hlt⟩
                                          have p1 := (HROWS.out w8 hBx8).1
                                          have p2 := (HROWS.out w8 hBx8).2
                                          have hBd : Below w5.heap.size w5 w8.drew := hBx8.drew
                                          clear el1 er1 hsh
                                          go_wp2_with fail
                                          go_region_held3 (fun w' => w'.cell? ⟨w2.heap.size, y, none⟩ = some (.slice (A y) (PM y) (PM y)) ∧ w'.cell? ⟨w4.heap.size, y, none⟩ = some (.slice (A2 y) (DM y) (DM y))) (go_keep)
                                            ((go_at_call 15; refine (HMODEL.out w8.drew hBd).mono ?_; rintro e w9 ⟨rfl, hB9⟩; have hBx9 : Below w5.heap.size w5 w9 := hBd.trans (hB9.mono hBd.size); have hj0 := (HROWS.out w9 hBx9).1; have hj1 := (HROWS.out w9 hBx9).2))
                                          clear p1 p2 hj0 hj1
                                          go_wp2
                                          go_roundg (x - (y + 1))
                                          case measure => go_light; omega
                                          case rel =>
                                            go_light
                                            exact ⟨y + 1, Y + l1, Z + r1, by omega, rfl, by go_num, by go_num, by go_num, by rw [wsum, HSH.out, HY.out.1, HEL.out.1]; rfl, by rw [wsum, HSH.out, HY.out.2, HEL.out.2]; rfl, hBx9⟩
                                        · have HSH : Aside (shad N x y = true) := hsh
                                          clear hsh
                                          go_wp2
                                          go_roundg (x - (y + 1))
                                          case measure => go_light; omega
                                          case rel =>
                                            go_light
                                            exact ⟨y + 1, Y, Z, by omega, rfl, by go_num, rfl, rfl, by rw [wsum, HSH.out, HY.out.1]; rfl, by rw [wsum, HSH.out, HY.out.2]; rfl, hBx8⟩
                                      · obtain rfl : y = x := by omega
                                        have t1 : ((LL : Int) == (Y : Int)) = true := beq_iff_eq.2 (by rw [HWL.out, HY.out.1])
                                        have t2 : ((RR : Int) == (Z : Int)) = true := beq_iff_eq.2 (by rw [HWR.out, HY.out.2])
                                        have hBfin : Below w0.heap.size w0 wr := hBw5.trans (hBx.mono hBw5.size)
                                        go_wp2
                                        go_ret
                                        exact ⟨by simp, hBfin⟩
                  · have t1 : ((K1 : Int) != (i : Int)) = false := by simp [e1]
                    have t2 : ((j : Int) != (i : Int)) = false := by simp [e2]
                    have t3 : ((l : Int) != (i : Int)) = true := bne_iff_ne.2 (by omega)
                    clear e1 e2
                    go_wp2; go_ret; exact ⟨rfl, Below.refl _ _⟩
                · have t1 : ((K1 : Int) != (i : Int)) = false := by simp [e1]
                  have t2 : ((j : Int) != (i : Int)) = true := bne_iff_ne.2 (by omega)
                  clear e1
                  go_wp2; go_ret; exact ⟨rfl, Below.refl _ _⟩
              · have t1 : ((K1 : Int) != (i : Int)) = true := bne_iff_ne.2 (by omega)
                go_wp2; go_ret; exact ⟨rfl, Below.refl _ _⟩
end Go.Proofs.Qxb6630564a
