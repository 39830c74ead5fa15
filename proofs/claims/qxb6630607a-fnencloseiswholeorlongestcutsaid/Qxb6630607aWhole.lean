import Derived.Test.Qxb6630607aWalks
set_option linter.unusedVariables false
namespace Go.Proofs.Qxb6630607a
open Go.RowKit

theorem size_enc_long (s m : ByteArray) (h : 64 < s.size) : (enc s m).size = m.size + cutOf s + m.size + 3 := by
  have hc := cutOf_bd s
  unfold enc
  rw [if_neg (by omega)]
  have e3 : ({ data := #[46, 46, 46] } : ByteArray).size = 3 := rfl
  rw [ByteArray.size_append, ByteArray.size_append, ByteArray.size_append, ByteArray.size_extract, e3]
  omega

theorem whole_short (s m : ByteArray) (w : World) (hs : s.size ≤ 64) (hm : m.size ≤ 524288) :
    Calls Try.prog 3 #[.string s, .string m] w fun e w' => e = .returned (.bool true) ∧ w = w' := by
  have he : enc s m = m ++ s ++ m := by unfold enc; rw [if_pos hs]
  go_enter Try.func3, Try.ntmps3
  go_wp2_with (first | (go_at_call 5; go_in) | (go_at_call 6; refine (enclose_any _ _ _ (by omega) (by omega)).mono ?_; rintro e w' ⟨rfl, rfl⟩))
  go_ret
  exact ⟨by simp, rfl⟩

theorem whole_64 (s m : ByteArray) (w : World) (hs : 64 < s.size) (hs2 : s.size ≤ 524288) (hm : m.size ≤ 524288) (hsm : s.size + m.size ≤ 1048576) (hcut : cutOf s = 64) (h4 : cont ((s[64]'(by omega)).toNat : Int) = false) :
    Calls Try.prog 3 #[.string s, .string m] w fun e w' => e = .returned (.bool true) ∧ w = w' := by
  have hk : ((enc s m).size : Int) - 2 * (m.size : Int) - 3 = 64 := by have := size_enc_long s m hs; omega
  have hq : ((enc s m).toList == (m ++ s.extract 0 64 ++ m ++ { data := #[46, 46, 46] }).toList) = true := by
    have he : enc s m = m ++ s.extract 0 (cutOf s) ++ m ++ { data := #[46, 46, 46] } := by unfold enc; rw [if_neg (by omega)]
    rw [he, hcut]; simp
  have hb : (enc s m).size ≤ 2097152 := by have := size_enc_long s m hs; omega
  clear hcut
  go_enter Try.func3, Try.ntmps3
  go_wp2_with (first | (go_at_call 5; go_in) | (go_at_call 6; refine (enclose_any _ _ _ (by omega) (by omega)).mono ?_; rintro e w' ⟨rfl, rfl⟩) | (go_at_call 7; refine (isCont_any _ _).mono ?_; rintro e w' ⟨rfl, rfl⟩))
  refine wp_loop_rounds 1 ?_
  rw [rounds_succ]
  go_wp2_with (first | (go_at_call 5; go_in) | (go_at_call 6; refine (enclose_any _ _ _ (by omega) (by omega)).mono ?_; rintro e w' ⟨rfl, rfl⟩) | (go_at_call 7; refine (isCont_any _ _).mono ?_; rintro e w' ⟨rfl, rfl⟩))
  go_ret
  exact ⟨rfl, rfl⟩

theorem whole_63 (s m : ByteArray) (w : World) (hs : 64 < s.size) (hs2 : s.size ≤ 524288) (hm : m.size ≤ 524288) (hsm : s.size + m.size ≤ 1048576) (hcut : cutOf s = 63) (h4 : cont ((s[64]'(by omega)).toNat : Int) = true) (h3 : cont ((s[63]'(by omega)).toNat : Int) = false) :
    Calls Try.prog 3 #[.string s, .string m] w fun e w' => e = .returned (.bool true) ∧ w = w' := by
  have hk : ((enc s m).size : Int) - 2 * (m.size : Int) - 3 = 63 := by have := size_enc_long s m hs; omega
  have hq : ((enc s m).toList == (m ++ s.extract 0 63 ++ m ++ { data := #[46, 46, 46] }).toList) = true := by
    have he : enc s m = m ++ s.extract 0 (cutOf s) ++ m ++ { data := #[46, 46, 46] } := by unfold enc; rw [if_neg (by omega)]
    rw [he, hcut]; simp
  have hb : (enc s m).size ≤ 2097152 := by have := size_enc_long s m hs; omega
  clear hcut
  go_enter Try.func3, Try.ntmps3
  go_wp2_with (first | (go_at_call 5; go_in) | (go_at_call 6; refine (enclose_any _ _ _ (by omega) (by omega)).mono ?_; rintro e w' ⟨rfl, rfl⟩) | (go_at_call 7; refine (isCont_any _ _).mono ?_; rintro e w' ⟨rfl, rfl⟩))
  refine wp_loop_rounds 2 ?_
  rw [rounds_succ]
  go_wp2_with (first | (go_at_call 5; go_in) | (go_at_call 6; refine (enclose_any _ _ _ (by omega) (by omega)).mono ?_; rintro e w' ⟨rfl, rfl⟩) | (go_at_call 7; refine (isCont_any _ _).mono ?_; rintro e w' ⟨rfl, rfl⟩))
  rw [rounds_succ]
  go_wp2_with (first | (go_at_call 5; go_in) | (go_at_call 6; refine (enclose_any _ _ _ (by omega) (by omega)).mono ?_; rintro e w' ⟨rfl, rfl⟩) | (go_at_call 7; refine (isCont_any _ _).mono ?_; rintro e w' ⟨rfl, rfl⟩))
  go_ret
  exact ⟨rfl, rfl⟩

theorem whole_62 (s m : ByteArray) (w : World) (hs : 64 < s.size) (hs2 : s.size ≤ 524288) (hm : m.size ≤ 524288) (hsm : s.size + m.size ≤ 1048576) (hcut : cutOf s = 62) (h4 : cont ((s[64]'(by omega)).toNat : Int) = true) (h3 : cont ((s[63]'(by omega)).toNat : Int) = true) (h2 : cont ((s[62]'(by omega)).toNat : Int) = false) :
    Calls Try.prog 3 #[.string s, .string m] w fun e w' => e = .returned (.bool true) ∧ w = w' := by
  have hk : ((enc s m).size : Int) - 2 * (m.size : Int) - 3 = 62 := by have := size_enc_long s m hs; omega
  have hq : ((enc s m).toList == (m ++ s.extract 0 62 ++ m ++ { data := #[46, 46, 46] }).toList) = true := by
    have he : enc s m = m ++ s.extract 0 (cutOf s) ++ m ++ { data := #[46, 46, 46] } := by unfold enc; rw [if_neg (by omega)]
    rw [he, hcut]; simp
  have hb : (enc s m).size ≤ 2097152 := by have := size_enc_long s m hs; omega
  clear hcut
  go_enter Try.func3, Try.ntmps3
  go_wp2_with (first | (go_at_call 5; go_in) | (go_at_call 6; refine (enclose_any _ _ _ (by omega) (by omega)).mono ?_; rintro e w' ⟨rfl, rfl⟩) | (go_at_call 7; refine (isCont_any _ _).mono ?_; rintro e w' ⟨rfl, rfl⟩))
  refine wp_loop_rounds 3 ?_
  rw [rounds_succ]
  go_wp2_with (first | (go_at_call 5; go_in) | (go_at_call 6; refine (enclose_any _ _ _ (by omega) (by omega)).mono ?_; rintro e w' ⟨rfl, rfl⟩) | (go_at_call 7; refine (isCont_any _ _).mono ?_; rintro e w' ⟨rfl, rfl⟩))
  rw [rounds_succ]
  go_wp2_with (first | (go_at_call 5; go_in) | (go_at_call 6; refine (enclose_any _ _ _ (by omega) (by omega)).mono ?_; rintro e w' ⟨rfl, rfl⟩) | (go_at_call 7; refine (isCont_any _ _).mono ?_; rintro e w' ⟨rfl, rfl⟩))
  rw [rounds_succ]
  go_wp2_with (first | (go_at_call 5; go_in) | (go_at_call 6; refine (enclose_any _ _ _ (by omega) (by omega)).mono ?_; rintro e w' ⟨rfl, rfl⟩) | (go_at_call 7; refine (isCont_any _ _).mono ?_; rintro e w' ⟨rfl, rfl⟩))
  go_ret
  exact ⟨rfl, rfl⟩

theorem whole_61 (s m : ByteArray) (w : World) (hs : 64 < s.size) (hs2 : s.size ≤ 524288) (hm : m.size ≤ 524288) (hsm : s.size + m.size ≤ 1048576) (hcut : cutOf s = 61) (h4 : cont ((s[64]'(by omega)).toNat : Int) = true) (h3 : cont ((s[63]'(by omega)).toNat : Int) = true) (h2 : cont ((s[62]'(by omega)).toNat : Int) = true) :
    Calls Try.prog 3 #[.string s, .string m] w fun e w' => e = .returned (.bool true) ∧ w = w' := by
  have hk : ((enc s m).size : Int) - 2 * (m.size : Int) - 3 = 61 := by have := size_enc_long s m hs; omega
  have hq : ((enc s m).toList == (m ++ s.extract 0 61 ++ m ++ { data := #[46, 46, 46] }).toList) = true := by
    have he : enc s m = m ++ s.extract 0 (cutOf s) ++ m ++ { data := #[46, 46, 46] } := by unfold enc; rw [if_neg (by omega)]
    rw [he, hcut]; simp
  have hb : (enc s m).size ≤ 2097152 := by have := size_enc_long s m hs; omega
  clear hcut
  go_enter Try.func3, Try.ntmps3
  go_wp2_with (first | (go_at_call 5; go_in) | (go_at_call 6; refine (enclose_any _ _ _ (by omega) (by omega)).mono ?_; rintro e w' ⟨rfl, rfl⟩) | (go_at_call 7; refine (isCont_any _ _).mono ?_; rintro e w' ⟨rfl, rfl⟩))
  refine wp_loop_rounds 4 ?_
  rw [rounds_succ]
  go_wp2_with (first | (go_at_call 5; go_in) | (go_at_call 6; refine (enclose_any _ _ _ (by omega) (by omega)).mono ?_; rintro e w' ⟨rfl, rfl⟩) | (go_at_call 7; refine (isCont_any _ _).mono ?_; rintro e w' ⟨rfl, rfl⟩))
  rw [rounds_succ]
  go_wp2_with (first | (go_at_call 5; go_in) | (go_at_call 6; refine (enclose_any _ _ _ (by omega) (by omega)).mono ?_; rintro e w' ⟨rfl, rfl⟩) | (go_at_call 7; refine (isCont_any _ _).mono ?_; rintro e w' ⟨rfl, rfl⟩))
  rw [rounds_succ]
  go_wp2_with (first | (go_at_call 5; go_in) | (go_at_call 6; refine (enclose_any _ _ _ (by omega) (by omega)).mono ?_; rintro e w' ⟨rfl, rfl⟩) | (go_at_call 7; refine (isCont_any _ _).mono ?_; rintro e w' ⟨rfl, rfl⟩))
  rw [rounds_succ]
  go_wp2_with (first | (go_at_call 5; go_in) | (go_at_call 6; refine (enclose_any _ _ _ (by omega) (by omega)).mono ?_; rintro e w' ⟨rfl, rfl⟩) | (go_at_call 7; refine (isCont_any _ _).mono ?_; rintro e w' ⟨rfl, rfl⟩))
  go_ret
  exact ⟨rfl, rfl⟩

theorem whole_long (s m : ByteArray) (w : World) (hs : 64 < s.size) (hs2 : s.size ≤ 524288) (hm : m.size ≤ 524288) (hsm : s.size + m.size ≤ 1048576) :
    Calls Try.prog 3 #[.string s, .string m] w fun e w' => e = .returned (.bool true) ∧ w = w' := by
  have hc : cutOf s = bif cont ((s[64]'(by omega)).toNat : Int) then (bif cont ((s[63]'(by omega)).toNat : Int) then (bif cont ((s[62]'(by omega)).toNat : Int) then 61 else 62) else 63) else 64 := by
    unfold cutOf
    rw [byteOf_eq s 64 (by omega), byteOf_eq s 63 (by omega), byteOf_eq s 62 (by omega)]
  cases h4 : cont ((s[64]'(by omega)).toNat : Int)
  · exact whole_64 s m w hs hs2 hm hsm (by rw [hc, h4]; rfl) h4
  · cases h3 : cont ((s[63]'(by omega)).toNat : Int)
    · exact whole_63 s m w hs hs2 hm hsm (by rw [hc, h4, h3]; rfl) h4 h3
    · cases h2 : cont ((s[62]'(by omega)).toNat : Int)
      · exact whole_62 s m w hs hs2 hm hsm (by rw [hc, h4, h3, h2]; rfl) h4 h3 h2
      · exact whole_61 s m w hs hs2 hm hsm (by rw [hc, h4, h3, h2]; rfl) h4 h3 h2
end Go.Proofs.Qxb6630607a
