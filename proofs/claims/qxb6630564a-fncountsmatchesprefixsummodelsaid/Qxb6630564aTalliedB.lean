import Derived.Test.Qxb6630564aTallied
set_option linter.unusedVariables false
namespace Go.Proofs.Qxb6630564a
open Go.RowKit Go.Maps

theorem Try.info27 : (Try.prog.info? 27).map (fun i => (i.zero, i.size, i.bytes)) = some (some (.slice none 0 0), 1, 24) := by kernel_rfl
theorem Try.info28 : (Try.prog.info? 28).map (fun i => (i.zero, i.size, i.bytes)) = some (some (.slice none 0 0), 1, 24) := by kernel_rfl

theorem Tallied.drew {w : World} {tb mb : Nat} {ack dr : Int} {N : Nat → ByteArray} {PM : Nat → Nat} {PS : Nat → Nat → Int} {DM : Nat → Nat} {DF : Nat → Nat → Int} {i : Nat} {wr : World} (h : Tallied w tb mb ack dr N PM PS DM DF i wr) : Tallied w tb mb ack dr N PM PS DM DF i wr.drew := by
  obtain ⟨SB, G, es, hI, hp, hL⟩ := h.ex
  exact ⟨⟨SB, G, es, ⟨hI.tal, hI.map⟩, hp, fun t ht => (hL t ht).below ⟨rfl, rfl, rfl, Nat.le_refl _, fun _ _ => rfl⟩⟩, h.below.drew, h.lt1, h.lt2⟩

theorem tallied_start {w w' : World} {ack dr : Int} (N : Nat → ByteArray) (PM : Nat → Nat) (PS : Nat → Nat → Int) (DM : Nat → Nat) (DF : Nat → Nat → Int) (hI : Idle w' (w.heap.size + 1) w.heap.size 0 (.map []) ack dr) (hB : Below w.heap.size w w') :
    Tallied w (w.heap.size + 1) w.heap.size ack dr N PM PS DM DF 0 w' :=
  ⟨⟨fun _ => 0, fun _ => ⟨0, none, 0, 0, 0, fun _ => 0, none, 0, 0, 0, fun _ => 0⟩, [], hI, List.Perm.refl _, fun t ht => absurd ht (by omega)⟩, hB, Nat.le_refl _, by omega⟩

/-- Behind the copy of the drains: still i sessions. -/
theorem Tallied.below' {w : World} {tb mb : Nat} {ack dr : Int} {N : Nat → ByteArray} {PM : Nat → Nat} {PS : Nat → Nat → Int} {DM : Nat → Nat} {DF : Nat → Nat → Int} {i : Nat} {wr w1 : World} (h : Tallied w tb mb ack dr N PM PS DM DF i wr) (hB : Below wr.heap.size wr w1) : Tallied w tb mb ack dr N PM PS DM DF i w1 := by
  obtain ⟨SB, G, es, hI, hp, hL⟩ := h.ex
  exact ⟨⟨SB, G, es, hI.grown (fun k hk => hB.block k (by rcases hk with rfl | rfl; exact hI.tal.lt; exact hI.map.lt)), hp, fun t ht => ((hL t ht).below hB).top hB.size⟩, h.below.trans (hB.mono h.below.size), h.lt1, h.lt2⟩

/-- 'ZZsetSession' at the i-th name. -/
theorem under_start {w : World} {tb mb : Nat} {ack dr : Int} {N : Nat → ByteArray} {PM : Nat → Nat} {PS : Nat → Nat → Int} {DM : Nat → Nat} {DF : Nat → Nat → Int} {i : Nat} {w1 : World} (h : Tallied w tb mb ack dr N PM PS DM DF i w1)
    (sent : Int) {a4 : Option Addr} {b4 : Nat} (hi : i < 1048576) (hn : (N i).size ≤ maxLen) (ha : 0 < DM i → a4 = some ⟨b4, 0, none⟩ ∧ tb < b4) (hc : ∀ t, t < DM i → w1.cell? ⟨b4, t, none⟩ = some (.int .u8 (DF i t))) :
    Calls Try.prog 11 #[.pointer (some ⟨tb, 0, none⟩), .string (N i), .int .u64 sent, .slice a4 (DM i) (DM i)] w1 fun e w2 => e = .returned (.tuple #[]) ∧ Under w tb mb ack dr N PM PS DM DF sent a4 b4 i w1.heap.size 0 w2 := by
  obtain ⟨SB, G, es, hI, hp, hL⟩ := h.ex
  have hlt2 := h.lt2
  refine (setSession_any tb mb i (.map es) (N i) sent ack dr a4 (DM i) (DM i) (PS i) w1 hI hi hn (by omega)).mono ?_
  rintro e w2 ⟨rfl, hH, hg⟩
  refine ⟨rfl, ⟨SB, G, es, .slice none 0 0, hH, hp, fun t ht => (hL t ht).far hg hlt2⟩, h.below.grown hg h.below.size (fun k hk => by cases hk; exact h.lt1), h.lt1, h.lt2, fun x => ?_, fun t ht => ?_⟩
  · have hb := World.block_lt_of_cell? _ _ (hc 0 x)
    exact ⟨(ha x).1, (ha x).2, hb⟩
  · have := ha (by omega)
    have hx := hc t ht
    rw [hg.cell_far ⟨b4, t, none⟩ (World.block_lt_of_cell? _ _ hx) (by simp; omega)]
    exact hx

theorem Under.drew {w : World} {tb mb : Nat} {ack dr : Int} {N : Nat → ByteArray} {PM : Nat → Nat} {PS : Nat → Nat → Int} {DM : Nat → Nat} {DF : Nat → Nat → Int} {sent : Int} {a4 : Option Addr} {b4 i sb q : Nat} {wr : World} (h : Under w tb mb ack dr N PM PS DM DF sent a4 b4 i sb q wr) : Under w tb mb ack dr N PM PS DM DF sent a4 b4 i sb q wr.drew := by
  obtain ⟨SB, G, es, v, hH, hp, hL⟩ := h.ex
  exact ⟨⟨SB, G, es, v, hH.drew, hp, fun t ht => (hL t ht).below ⟨rfl, rfl, rfl, Nat.le_refl _, fun _ _ => rfl⟩⟩, h.below.drew, h.lt1, h.lt2, h.head, h.cells⟩

/-- 'ZZaddAck' of one span more. -/
theorem under_step {w : World} {tb mb : Nat} {ack dr : Int} {N : Nat → ByteArray} {PM : Nat → Nat} {PS : Nat → Nat → Int} {DM : Nat → Nat} {DF : Nat → Nat → Int} {sent : Int} {a4 : Option Addr} {b4 i sb q : Nat} {wr : World}
    (h : Under w tb mb ack dr N PM PS DM DF sent a4 b4 i sb q wr) (hq : q < 1048576) (hn : (N i).size ≤ maxLen) :
    Calls Try.prog 12 #[.pointer (some ⟨tb, 0, none⟩), .string (N i), .int .u64 (PS i (q * 2)), .int .u64 (PS i (q * 2 + 1))] wr fun e w2 => e = .returned (.tuple #[]) ∧ Under w tb mb ack dr N PM PS DM DF sent a4 b4 i sb (q + 1) w2 := by
  obtain ⟨SB, G, es, v, hH, hp, hL⟩ := h.ex
  have hlt1 := hH.lt1
  refine (addAck_any tb mb sb (i + 1) _ (N i) sent ack dr a4 (DM i) (DM i) v q (PS i) wr hH hq hn).mono ?_
  rintro e w2 ⟨rfl, ⟨v', hH'⟩, hB⟩
  have h1 := h.lt1
  refine ⟨rfl, ⟨SB, G, es, v', hH', hp, fun t ht => (hL t ht).below hB⟩, h.below.trans (hB.mono (by omega)), h.lt1, h.lt2, h.head, fun t ht => ?_⟩
  rw [hB.cell (p := ⟨b4, t, none⟩) (h.head (by omega)).2.2]
  exact h.cells t ht

/-- COUNTS of what is laid. -/
theorem counts_tallied {w : World} {tb mb : Nat} {ack dr : Int} {N : Nat → ByteArray} {PM : Nat → Nat} {PS : Nat → Nat → Int} {DM : Nat → Nat} {DF : Nat → Nat → Int} {K : Nat} {wr : World} (h : Tallied w tb mb ack dr N PM PS DM DF K wr)
    (hK : K ≤ 4096) (hfit : ∀ t, t < K → ∀ q, q < PM t → Fit1 (PS t) q) (hm : ∀ t, t < K → PM t ≤ 65536) (hd : ∀ t, t < K → DM t ≤ 1048576) :
    Calls Try.prog 13 #[.pointer (some ⟨tb, 0, none⟩)] wr fun e w2 => e = .returned (.tuple #[.int .i64 ack, .int .i64 dr, .int .i64 (sumL (fun t => lostTo (DF t) (DM t) (PS t) (PM t)) (live N K) : Nat), .int .i64 (sumL (fun t => repTo (DF t) (DM t)) (live N K) : Nat)]) ∧ Below w.heap.size w w2 ∧ wr.grownBy w2 (some tb) := by
  obtain ⟨SB, G, es, hI, hp, hL⟩ := h.ex
  have hlt2 := h.lt2
  have s1 : sumAll (fun b => (G b).lost) es = sumL (fun t => lostTo (DF t) (DM t) (PS t) (PM t)) (live N K) := by
    rw [sumAll_perm _ hp]; exact sumAll_entries _ _ N SB K (fun t ht => (hL t ht).lost)
  have s2 : sumAll (fun b => (G b).reps) es = sumL (fun t => repTo (DF t) (DM t)) (live N K) := by
    rw [sumAll_perm _ hp]; exact sumAll_entries _ _ N SB K (fun t ht => (hL t ht).reps)
  have l1 := sumL_live_le (fun t => lostTo (DF t) (DM t) (PS t) (PM t)) N K 4294967296 (fun t ht => by
    have := lostTo_le (DF t) (DM t) (PS t) (PM t) (hfit t ht)
    have := hm t ht
    show lostTo _ _ _ _ ≤ _
    omega)
  have l2 := sumL_live_le (fun t => repTo (DF t) (DM t)) N K 4294967296 (fun t ht => by
    have := repTo_le (DF t) (DM t)
    have := hd t ht
    show repTo _ _ ≤ _
    omega)
  have hcount := counts_any tb mb K ack dr es G wr hI (by omega) (fun p hpm => by
    have hpe : p ∈ entries N SB K := hp.mem_iff.1 hpm
    obtain ⟨t, ht, rfl⟩ := List.mem_map.1 hpe
    have ht' : t < K := List.mem_range.1 (List.mem_filter.1 ht).1
    have hLt := hL t ht'
    exact ⟨SB t, rfl, hLt.at_, by have := hLt.lo1; omega, fun x => by have := hLt.lo2 x; omega, fun x => by have := hLt.lo3 x; omega⟩) (by rw [s1]; omega) (by rw [s2]; omega)
  rw [s1, s2] at hcount
  refine hcount.mono ?_
  rintro e w2 ⟨rfl, hg⟩
  have h1 := h.lt1
  exact ⟨rfl, h.below.grown hg h.below.size (fun k hk => by cases hk; omega), hg⟩

end Go.Proofs.Qxb6630564a
