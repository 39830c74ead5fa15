/-
  zzBytes_FnCountsMatchesPrefixSumModel (5): it answers SOME bool and turns nothing. (The law checks all bounds anew by itself.)
-/
import Derived.Test.Qxb6630564aClone
set_option linter.unusedVariables false
namespace Go.Proofs.Qxb6630564a
open Go.RowKit

def AnyBool (w : World) (e : Ending) (w' : World) : Prop := (∃ r, e = .returned (.bool r)) ∧ w = w'

set_option maxRecDepth 100000 in
set_option maxHeartbeats 3200000 in
theorem bytes_any (a0 : Option Addr) (b0 o0 n0 c0 : Nat) (N : Nat → ByteArray) (a1 : Option Addr) (n1 c1 : Nat) (a2 : Option Addr) (b2 o2 n2 c2 : Nat) (PA : Nat → Option Addr) (PM PC : Nat → Nat)
    (a3 : Option Addr) (b3 o3 n3 c3 : Nat) (DA : Nat → Option Addr) (DM DC : Nat → Nat) (x y : Int) (w : World)
    (h0 : 0 < n0 → a0 = some ⟨b0, o0, none⟩) (k0 : ∀ i, i < n0 → w.cell? ⟨b0, o0 + i, none⟩ = some (.string (N i))) (l0 : ∀ i, i < n0 → (N i).size ≤ 9223372036854775807)
    (h2 : 0 < n2 → a2 = some ⟨b2, o2, none⟩) (k2 : ∀ i, i < n2 → w.cell? ⟨b2, o2 + i, none⟩ = some (.slice (PA i) (PM i) (PC i))) (l2 : ∀ i, i < n2 → PM i ≤ 9223372036854775807)
    (h3 : 0 < n3 → a3 = some ⟨b3, o3, none⟩) (k3 : ∀ i, i < n3 → w.cell? ⟨b3, o3 + i, none⟩ = some (.slice (DA i) (DM i) (DC i))) (l3 : ∀ i, i < n3 → DM i ≤ 9223372036854775807)
    (m0 : n0 ≤ 9223372036854775807) (m1 : n1 ≤ 9223372036854775807) (m2 : n2 ≤ 9223372036854775807) (m3 : n3 ≤ 9223372036854775807) :
    Calls Try.prog 5 #[.slice a0 n0 c0, .slice a1 n1 c1, .slice a2 n2 c2, .slice a3 n3 c3, .int .i64 x, .int .i64 y] w (AnyBool w) := by
  by_cases g0 : 1048576 < n0
  · go_enter Try.func5, Try.ntmps5; go_wp2; go_ret; exact ⟨⟨_, rfl⟩, rfl⟩
  go_enter Try.func5, Try.ntmps5
  go_wp2
  go_loopg [13, 14] n0 (fun k s13 s14 wx => wx = w ∧ ∃ i z : Nat, i ≤ n0 ∧ k = n0 - i ∧ z ≤ 1048576 ∧ s13 = .int .i64 z ∧ s14 = .int .i64 i)
  case atStart => exact ⟨rfl, 0, n0, Nat.zero_le _, rfl, by omega, rfl, rfl⟩
  case round =>
    obtain ⟨rfl, i, z, hi, rfl, hz, rfl, rfl⟩ := hrel
    by_cases hlt : i < n0
    · obtain rfl := h0 (by omega)
      have kx := k0 i hlt
      have lx := l0 i hlt
      have hiz : (i : Int) < (n0 : Int) := by omega
      clear k0 l0 k2 l2 k3 l3
      by_cases q1 : 1048576 < (N i).size
      · go_wp2; go_ret; exact ⟨⟨_, rfl⟩, rfl⟩
      by_cases q2 : 1048576 < z + (N i).size
      · go_wp2; go_ret; exact ⟨⟨_, rfl⟩, rfl⟩
      go_wp2
      go_roundg (n0 - (i + 1))
      case measure => go_light; omega
      case rel => go_light; exact ⟨rfl, i + 1, z + (N i).size, by omega, rfl, by omega, by go_num, by go_num⟩
    · clear k0 l0 h0
      by_cases g1 : 1048576 < n1
      · go_wp2; go_ret; exact ⟨⟨_, rfl⟩, rfl⟩
      by_cases g2 : 1048576 < z + n1
      · go_wp2; go_ret; exact ⟨⟨_, rfl⟩, rfl⟩
      by_cases g3 : 1048576 < n2
      · go_wp2; go_ret; exact ⟨⟨_, rfl⟩, rfl⟩
      by_cases g4 : 1048576 < z + n1 + n2
      · go_wp2; go_ret; exact ⟨⟨_, rfl⟩, rfl⟩
      go_wp2
      go_loopg [13, 15] n2 (fun k s13 s15 wx => wx = wr ∧ ∃ i z : Nat, i ≤ n2 ∧ k = n2 - i ∧ z ≤ 1048576 ∧ s13 = .int .i64 z ∧ s15 = .int .i64 i)
      case atStart => exact ⟨rfl, 0, z + n1 + n2, Nat.zero_le _, rfl, by omega, by go_num, rfl⟩
      case round =>
        obtain ⟨rfl, i2, z2, hi2, rfl, hz2, rfl, rfl⟩ := hrel
        clear g1 g2 g3 g4 hz hlt hi
        by_cases hlt2 : i2 < n2
        · obtain rfl := h2 (by omega)
          have kx := k2 i2 hlt2
          have lx := l2 i2 hlt2
          have hiz : (i2 : Int) < (n2 : Int) := by omega
          clear k2 l2 k3 l3
          by_cases q1 : 1048576 < PM i2
          · go_wp2; go_ret; exact ⟨⟨_, rfl⟩, rfl⟩
          by_cases q2 : 1048576 < z2 + PM i2
          · go_wp2; go_ret; exact ⟨⟨_, rfl⟩, rfl⟩
          go_wp2
          go_roundg (n2 - (i2 + 1))
          case measure => go_light; omega
          case rel => go_light; exact ⟨rfl, i2 + 1, z2 + PM i2, by omega, rfl, by omega, by go_num, by go_num⟩
        · clear k2 l2 h2
          by_cases g5 : 1048576 < n3
          · go_wp2; go_ret; exact ⟨⟨_, rfl⟩, rfl⟩
          by_cases g6 : 1048576 < z2 + n3
          · go_wp2; go_ret; exact ⟨⟨_, rfl⟩, rfl⟩
          go_wp2
          go_loopg [13, 16] n3 (fun k s13 s16 wx => wx = wr ∧ ∃ i z : Nat, i ≤ n3 ∧ k = n3 - i ∧ z ≤ 1048576 ∧ s13 = .int .i64 z ∧ s16 = .int .i64 i)
          case atStart => exact ⟨rfl, 0, z2 + n3, Nat.zero_le _, rfl, by omega, by go_num, rfl⟩
          case round =>
            obtain ⟨rfl, i3, z3, hi3, rfl, hz3, rfl, rfl⟩ := hrel
            clear g5 g6 hz2 hlt2 hi2
            by_cases hlt3 : i3 < n3
            · obtain rfl := h3 (by omega)
              have kx := k3 i3 hlt3
              have lx := l3 i3 hlt3
              have hiz : (i3 : Int) < (n3 : Int) := by omega
              clear k3 l3
              by_cases q1 : 1048576 < DM i3
              · go_wp2; go_ret; exact ⟨⟨_, rfl⟩, rfl⟩
              by_cases q2 : 1048576 < z3 + DM i3
              · go_wp2; go_ret; exact ⟨⟨_, rfl⟩, rfl⟩
              go_wp2
              go_roundg (n3 - (i3 + 1))
              case measure => go_light; omega
              case rel => go_light; exact ⟨rfl, i3 + 1, z3 + DM i3, by omega, rfl, by omega, by go_num, by go_num⟩
            · go_wp2
              go_ret
              exact ⟨⟨_, rfl⟩, rfl⟩
end Go.Proofs.Qxb6630564a
