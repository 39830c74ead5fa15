import Derived.Test.Qxb6630607aWhole
set_option linter.unusedVariables false
namespace Go.Proofs.Qxb6630607a
open Go.RowKit

theorem byteOf_extract (u : ByteArray) (i : Nat) (h : 64 < u.size) (hi : i < 65) : byteOf (u.extract 0 65) i = byteOf u i := by
  have hs : (u.extract 0 65).size = 65 := by rw [ByteArray.size_extract]; omega
  rw [byteOf_eq _ i (by omega), byteOf_eq u i (by omega)]
  have e : (u.extract 0 65)[i]'(by omega) = u[i]'(by omega) := by
    rw [ByteArray.getElem_extract]
    simp
  rw [e]
theorem cutOf_extract (u : ByteArray) (h : 64 < u.size) : cutOf (u.extract 0 65) = cutOf u := by
  unfold cutOf
  rw [byteOf_extract u 64 h (by omega), byteOf_extract u 63 h (by omega), byteOf_extract u 62 h (by omega)]
theorem enc_extract (u m : ByteArray) (h : 64 < u.size) : enc (u.extract 0 65) m = enc u m := by
  have hs : (u.extract 0 65).size = 65 := by rw [ByteArray.size_extract]; omega
  have hc := cutOf_bd u
  unfold enc
  rw [if_neg (by omega), if_neg (by omega), cutOf_extract u h, ByteArray.extract_extract]
  have e : min (0 + cutOf u) 65 = cutOf u := by omega
  rw [e]
theorem enc_cut (u m : ByteArray) (h : 64 < u.size) : enc (u.extract 0 (cutOf u)) m ++ { data := #[46, 46, 46] } = enc u m := by
  have hc := cutOf_bd u
  have hs : (u.extract 0 (cutOf u)).size = cutOf u := by rw [ByteArray.size_extract]; omega
  unfold enc
  rw [if_pos (by omega), if_neg (by omega)]

theorem joined_long (s t m : ByteArray) (w : World) (hu : 64 < s.size + t.size) (hs : s.size ≤ 262144) (ht : t.size ≤ 262144) (hm : m.size ≤ 262144) :
    Calls Try.prog 4 #[.string s, .string t, .string m] w fun e w' => e = .returned (.bool true) ∧ w = w' := by
  have hul : 64 < (s ++ t).size := by rw [ByteArray.size_append]; exact hu
  have hc := cutOf_bd (s ++ t)
  have hsz := size_enc_long (s ++ t) m hul
  have hx := enc_cut (s ++ t) m hul
  obtain ⟨c, hce⟩ : ∃ c, c = cutOf (s ++ t) := ⟨_, rfl⟩
  rw [← hce] at hc hsz hx
  obtain ⟨hc1, hc2⟩ := hc
  have hk : ((enc (s ++ t) m).size : Int) - 2 * (m.size : Int) - 3 = (c : Int) := by omega
  have hb : (enc (s ++ t) m).size ≤ 2097152 := by omega
  have q1 : ((enc (s ++ t) m).toList == (enc ((s ++ t).extract 0 65) m).toList) = true := by rw [enc_extract _ _ hul]; simp
  have q2 : ((enc (s ++ t) m).toList == (enc ((s ++ t).extract 0 c) m ++ { data := #[46, 46, 46] }).toList) = true := by rw [hx]; simp
  clear hce hsz hx hul
  go_enter Try.func4, Try.ntmps4
  go_wp2_with (go_at_call 8; go_in)
  refine (enclose_any _ _ _ (by rw [ByteArray.size_append]; omega) (by omega)).mono ?_
  rintro e w' ⟨rfl, rfl⟩
  go_wp2_with fail
  refine (enclose_any _ _ _ (by rw [ByteArray.size_extract, ByteArray.size_append]; omega) (by omega)).mono ?_
  rintro e w' ⟨rfl, rfl⟩
  go_wp2_with fail
  refine (enclose_any _ _ _ (by rw [ByteArray.size_extract, ByteArray.size_append]; omega) (by omega)).mono ?_
  rintro e w' ⟨rfl, rfl⟩
  have hb3 : (enc ((s ++ t).extract 0 c) m).size ≤ 2097152 := by
    have hz : ((s ++ t).extract 0 c).size ≤ 64 := by rw [ByteArray.size_extract]; omega
    unfold enc
    rw [if_pos hz, ByteArray.size_append, ByteArray.size_append]
    omega
  go_wp2
  go_ret
  exact ⟨by first | rfl | simp [q2], rfl⟩

theorem joined_short (s t m : ByteArray) (w : World) (hu : s.size + t.size ≤ 64) (hm : m.size ≤ 262144) :
    Calls Try.prog 4 #[.string s, .string t, .string m] w fun e w' => e = .returned (.bool true) ∧ w = w' := by
  have e0 : enc (s ++ t) m = m ++ (s ++ t) ++ m := by unfold enc; rw [if_pos (by rw [ByteArray.size_append]; omega)]
  have e1 : enc s ByteArray.empty = s := by unfold enc; rw [if_pos (by omega)]; simp
  have e2 : enc t ByteArray.empty = t := by unfold enc; rw [if_pos (by omega)]; simp
  have q0 : ((m ++ (s ++ t) ++ m).toList == (m ++ s ++ t ++ m).toList) = true := by rw [ByteArray.append_assoc (a := m) (b := s) (c := t)]; simp
  go_enter Try.func4, Try.ntmps4
  go_wp2_with (go_at_call 8; go_in)
  refine (enclose_any _ _ _ (by rw [ByteArray.size_append]; omega) (by omega)).mono ?_
  rintro e w' ⟨rfl, rfl⟩
  rw [e0]
  clear e0
  go_wp2_with fail
  refine (enclose_any _ _ _ (by omega) (by decide)).mono ?_
  rintro e w' ⟨he, rfl⟩
  rw [show enc s { data := #[] } = s from e1] at he
  subst he
  go_wp2_with fail
  refine (enclose_any _ _ _ (by omega) (by decide)).mono ?_
  rintro e w' ⟨he, rfl⟩
  rw [show enc t { data := #[] } = t from e2] at he
  subst he
  clear e1 e2
  go_wp2
  go_ret
  exact ⟨by first | rfl | simp [q0], rfl⟩
end Go.Proofs.Qxb6630607a
