/-
  THE WALKS of this seat's shared functions: zzIsCont (7), RuneStart (10), cut (9), Enclose (6).
-/
import Derived.Test.Qxb6630607aRows
import Derived.WalkKit
import Derived.WalkSpells
import Derived.Below
import Derived.Deep.LoopGhost
import Derived.Deep.Light
set_option linter.unusedVariables false
namespace Go.Proofs.Qxb6630607a
open Go.RowKit

/-- Does the byte continue a UTF-8 character? -/
def cont (c : Int) : Bool := bits BinOp.and IntKind.u8 c 192 == 128
/-- The byte at i. -/
def byteOf (s : ByteArray) (i : Nat) : Int := if h : i < s.size then ((s[i]'h).toNat : Int) else 0
theorem byteOf_eq (s : ByteArray) (i : Nat) (h : i < s.size) : byteOf s i = ((s[i]'h).toNat : Int) := by simp [byteOf, h]

/-- Where a text of more than 64 bytes is cut. -/
def cutOf (s : ByteArray) : Nat := bif cont (byteOf s 64) then (bif cont (byteOf s 63) then (bif cont (byteOf s 62) then 61 else 62) else 63) else 64
theorem cutOf_bd (s : ByteArray) : 61 ≤ cutOf s ∧ cutOf s ≤ 64 := by
  unfold cutOf
  cases cont (byteOf s 64) <;> cases cont (byteOf s 63) <;> cases cont (byteOf s 62) <;> simp
def dots : ByteArray := { data := #[46, 46, 46] }
def enc (s m : ByteArray) : ByteArray := if s.size ≤ 64 then m ++ s ++ m else m ++ s.extract 0 (cutOf s) ++ m ++ { data := #[46, 46, 46] }

theorem isCont_any (c : Int) (w : World) : Calls Try.prog 7 #[.int .u8 c] w fun e w' => e = .returned (.bool (cont c)) ∧ w = w' := by
  go_enter Try.func7, Try.ntmps7
  go_wp2
  go_ret
  exact ⟨rfl, rfl⟩
theorem runeStart_any (c : Int) (w : World) : Calls Try.prog 10 #[.int .u8 c] w fun e w' => e = .returned (.bool (!cont c)) ∧ w = w' := by
  go_enter Try.func10, Try.ntmps10
  go_wp2
  go_ret
  exact ⟨by unfold cont; rfl, rfl⟩

theorem cut_any (s : ByteArray) (w : World) (h : 64 < s.size) (hs : s.size ≤ 1048576) : Calls Try.prog 9 #[.string s] w fun e w' => e = .returned (.int .i64 (cutOf s)) ∧ w = w' := by
  unfold cutOf
  rw [byteOf_eq s 64 (by omega), byteOf_eq s 63 (by omega), byteOf_eq s 62 (by omega)]
  have i4 : (64 : Int) < (s.size : Int) := by omega
  have i3 : (63 : Int) < (s.size : Int) := by omega
  have i2 : (62 : Int) < (s.size : Int) := by omega
  cases h4 : cont ((s[64]'(by omega)).toNat : Int)
  · go_enter Try.func9, Try.ntmps9
    go_wp2
    refine wp_loop_rounds 1 ?_
    rw [rounds_succ]
    go_wp2_with (go_at_call 10; refine (runeStart_any _ _).mono ?_; rintro e w' ⟨rfl, rfl⟩)
    go_ret
    exact ⟨rfl, rfl⟩
  · cases h3 : cont ((s[63]'(by omega)).toNat : Int)
    · go_enter Try.func9, Try.ntmps9
      go_wp2
      refine wp_loop_rounds 2 ?_
      rw [rounds_succ]
      go_wp2_with (go_at_call 10; refine (runeStart_any _ _).mono ?_; rintro e w' ⟨rfl, rfl⟩)
      rw [rounds_succ]
      go_wp2_with (go_at_call 10; refine (runeStart_any _ _).mono ?_; rintro e w' ⟨rfl, rfl⟩)
      go_ret
      exact ⟨rfl, rfl⟩
    · cases h2 : cont ((s[62]'(by omega)).toNat : Int)
      · go_enter Try.func9, Try.ntmps9
        go_wp2
        refine wp_loop_rounds 3 ?_
        rw [rounds_succ]
        go_wp2_with (go_at_call 10; refine (runeStart_any _ _).mono ?_; rintro e w' ⟨rfl, rfl⟩)
        rw [rounds_succ]
        go_wp2_with (go_at_call 10; refine (runeStart_any _ _).mono ?_; rintro e w' ⟨rfl, rfl⟩)
        rw [rounds_succ]
        go_wp2_with (go_at_call 10; refine (runeStart_any _ _).mono ?_; rintro e w' ⟨rfl, rfl⟩)
        go_ret
        exact ⟨rfl, rfl⟩
      · go_enter Try.func9, Try.ntmps9
        go_wp2
        refine wp_loop_rounds 4 ?_
        rw [rounds_succ]
        go_wp2_with (go_at_call 10; refine (runeStart_any _ _).mono ?_; rintro e w' ⟨rfl, rfl⟩)
        rw [rounds_succ]
        go_wp2_with (go_at_call 10; refine (runeStart_any _ _).mono ?_; rintro e w' ⟨rfl, rfl⟩)
        rw [rounds_succ]
        go_wp2_with (go_at_call 10; refine (runeStart_any _ _).mono ?_; rintro e w' ⟨rfl, rfl⟩)
        rw [rounds_succ]
        go_wp2_with (go_at_call 10; refine (runeStart_any _ _).mono ?_; rintro e w' ⟨rfl, rfl⟩)
        go_ret
        exact ⟨rfl, rfl⟩

theorem enclose_any (s m : ByteArray) (w : World) (hs : s.size ≤ 1048576) (hm : m.size ≤ 1048576) : Calls Try.prog 6 #[.string s, .string m] w fun e w' => e = .returned (.string (enc s m)) ∧ w = w' := by
  by_cases h : s.size ≤ 64
  · unfold enc
    rw [if_pos h]
    go_enter Try.func6, Try.ntmps6
    go_wp2
    go_ret
    exact ⟨rfl, rfl⟩
  · unfold enc
    rw [if_neg h]
    have hc := cutOf_bd s
    obtain ⟨c, hce⟩ : ∃ c, c = cutOf s := ⟨_, rfl⟩
    rw [← hce] at hc ⊢
    obtain ⟨hc1, hc2⟩ := hc
    have HC : Aside (c = cutOf s) := hce
    clear hce
    go_enter Try.func6, Try.ntmps6
    go_wp2_with fail
    refine (cut_any s _ (by omega) hs).mono ?_
    rintro e w' ⟨rfl, rfl⟩
    rw [← HC.out]
    go_wp2
    go_ret
    exact ⟨rfl, rfl⟩
end Go.Proofs.Qxb6630607a
