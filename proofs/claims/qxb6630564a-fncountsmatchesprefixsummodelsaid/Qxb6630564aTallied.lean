/-
  THE RELATIONS of FnCountsMatchesPrefixSumModel's loops: rows of rows that the call copies; sessions laid one behind the other.
-/
import Derived.Test.Qxb6630564aOneB
import Derived.Test.Qxb6630564aLive
import Derived.Test.Qxb6630564aModel
set_option linter.unusedVariables false
namespace Go.Proofs.Qxb6630564a
open Go.RowKit Go.Maps

/-- A ROW OF ROWS: q of K rows copied; row j has M j elements of u numbers each, told by F j. -/
structure Rows2 (ty : TypeId) (k : IntKind) (u : Nat) (w : World) (K : Nat) (M : Nat → Nat) (F : Nat → Nat → Int) (q : Nat) (A : Nat → Option Addr) (B : Nat → Nat) (wr : World) : Prop where
  below : Below w.heap.size w wr
  row : wr.rowIs w.heap.size ty K (fun j => if j < q then .slice (A j) (M j) (M j) else .slice none 0 0)
  head : ∀ j, j < q → 0 < M j → A j = some ⟨B j, 0, none⟩ ∧ w.heap.size < B j
  cells : ∀ j, j < q → ∀ t, t < M j * u → wr.cell? ⟨B j, t, none⟩ = some (.int k (F j t))

theorem rows2_start (ty : TypeId) (k : IntKind) (u : Nat) (w : World) (K : Nat) (M : Nat → Nat) (F : Nat → Nat → Int) : Rows2 ty k u w K M F 0 (fun _ => none) (fun _ => 0) (w.alloc (.cells (madeCells #[.slice none 0 0] K) ty)) where
  below := (Below.refl _ _).alloc (Nat.le_refl _) _
  row := (World.rowIs_made w (.slice none 0 0) K ty).congr (fun j _ => by simp)
  head := fun j hj => absurd hj (by omega)
  cells := fun j hj => absurd hj (by omega)

theorem rows2_step {ty : TypeId} {k : IntKind} {u : Nat} {w : World} {K : Nat} {M : Nat → Nat} {F : Nat → Nat → Int} {q : Nat} {A : Nat → Option Addr} {B : Nat → Nat} {wr w1 : World} (h : Rows2 ty k u w K M F q A B wr) (hu : 0 < u) (hq : q < K)
    {a' : Option Addr} {b' : Nat} (hB : Below wr.heap.size wr w1) (ha : 0 < M q → a' = some ⟨b', 0, none⟩ ∧ wr.heap.size ≤ b') (hc : ∀ t, t < M q * u → w1.cell? ⟨b', t, none⟩ = some (.int k (F q t))) :
    Rows2 ty k u w K M F (q + 1) (fun j => if j = q then a' else A j) (fun j => if j = q then b' else B j) (w1.setCell ⟨w.heap.size, q, none⟩ (.slice a' (M q) (M q))) := by
  have hlt := h.row.lt
  have hsz := h.below.size
  refine ⟨(h.below.trans (hB.mono hsz)).setCell (Nat.le_refl _) _, ((h.row.of_block (hB.block _ hlt)).set q _).congr (fun j hj => ?_), fun j hj hm => ?_, fun j hj t ht => ?_⟩
  · by_cases e : j = q
    · subst e; simp
    · simp only [e, if_false]
      by_cases hl : j < q
      · rw [if_pos hl, if_pos (by omega)]
      · rw [if_neg hl, if_neg (by omega)]
  · by_cases e : j = q
    · subst e
      simp only [if_true]
      obtain ⟨h1, h2⟩ := ha hm
      exact ⟨h1, by omega⟩
    · simp only [e, if_false]
      exact h.head j (by omega) hm
  · by_cases e : j = q
    · subst e
      simp only [if_true]
      have hm : 0 < M j := by
        rcases Nat.eq_zero_or_pos (M j) with h0 | h0
        · rw [h0] at ht; omega
        · exact h0
      have := (ha hm).2
      rw [World.cell?_setCell_other _ _ _ _ (fun e' => by have := congrArg Addr.block e'; simp at this; omega)]
      exact hc t ht
    · simp only [e, if_false]
      have hm : 0 < M j := by
        rcases Nat.eq_zero_or_pos (M j) with h0 | h0
        · rw [h0] at ht; omega
        · exact h0
      have h1 := h.head j (by omega) hm
      have hx := h.cells j (by omega) t ht
      rw [World.cell?_setCell_other _ _ _ _ (fun e' => by have := congrArg Addr.block e'; simp at this; omega), hB.cell (p := ⟨B j, t, none⟩) (World.block_lt_of_cell? _ _ hx)]
      exact hx

/-- What a row of rows, all copied, is good for behind further calls that turn nothing old: the cells. -/
structure Rows2Done (k : IntKind) (u : Nat) (b : Nat) (K : Nat) (M : Nat → Nat) (F : Nat → Nat → Int) (A : Nat → Option Addr) (B : Nat → Nat) (top : Nat) (wr : World) : Prop where
  row : ∀ j, j < K → wr.cell? ⟨b, j, none⟩ = some (.slice (A j) (M j) (M j))
  head : ∀ j, j < K → 0 < M j → A j = some ⟨B j, 0, none⟩
  cells : ∀ j, j < K → ∀ t, t < M j * u → wr.cell? ⟨B j, t, none⟩ = some (.int k (F j t))
  lt : b < top
  ltB : ∀ j, j < K → 0 < M j → B j < top

theorem rows2_done {ty : TypeId} {k : IntKind} {u : Nat} {w : World} {K : Nat} {M : Nat → Nat} {F : Nat → Nat → Int} {A : Nat → Option Addr} {B : Nat → Nat} {wr : World} (h : Rows2 ty k u w K M F K A B wr) (hu : 0 < u) :
    Rows2Done k u w.heap.size K M F A B wr.heap.size wr where
  row := fun j hj => by rw [h.row.cell hj, if_pos hj]
  head := fun j hj hm => (h.head j hj hm).1
  cells := h.cells
  lt := h.row.lt
  ltB := fun j hj hm => World.block_lt_of_cell? _ _ (h.cells j hj 0 (Nat.mul_pos hm hu))

theorem Rows2Done.below {k : IntKind} {u b K : Nat} {M : Nat → Nat} {F : Nat → Nat → Int} {A : Nat → Option Addr} {B : Nat → Nat} {top : Nat} {w w' : World} (h : Rows2Done k u b K M F A B top w) (hB : Below top w w') : Rows2Done k u b K M F A B top w' where
  row := fun j hj => by rw [hB.cell (p := ⟨b, j, none⟩) h.lt]; exact h.row j hj
  head := h.head
  cells := fun j hj t ht => by
    have hm : 0 < M j := by
      rcases Nat.eq_zero_or_pos (M j) with h0 | h0
      · rw [h0] at ht; omega
      · exact h0
    rw [hB.cell (p := ⟨B j, t, none⟩) (h.ltB j hj hm)]; exact h.cells j hj t ht
  lt := h.lt
  ltB := h.ltB

theorem SessAt.below {w w' : World} {sb : Nat} {s : Sess} {T : Nat} (h : SessAt w sb s) (hB : Below T w w') (h1 : sb < T) (h2 : 0 < s.m → s.ab < T) (h3 : 0 < s.dn → s.db < T) : SessAt w' sb s where
  ses := h.ses.of_block (hB.block sb h1)
  aa := h.aa
  spans := fun j hj => by rw [hB.cell (p := ⟨s.ab, j, none⟩) (h2 (by omega))]; exact h.spans j hj
  da := h.da
  drains := fun i hi => by rw [hB.cell (p := ⟨s.db, i, none⟩) (h3 (by omega))]; exact h.drains i hi
  fit := h.fit
  mle := h.mle
  dle := h.dle

/-- Session t, laid at SB t, is what the input says; it lies between the tally and T. -/
structure Laid (tb : Nat) (PM : Nat → Nat) (PS : Nat → Nat → Int) (DM : Nat → Nat) (DF : Nat → Nat → Int) (T : Nat) (SB : Nat → Nat) (G : Nat → Sess) (wr : World) (t : Nat) : Prop where
  at_ : SessAt wr (SB t) (G (SB t))
  lost : (G (SB t)).lost = lostTo (DF t) (DM t) (PS t) (PM t)
  reps : (G (SB t)).reps = repTo (DF t) (DM t)
  lo1 : tb < SB t
  lo2 : 0 < (G (SB t)).m → tb < (G (SB t)).ab
  lo3 : 0 < (G (SB t)).dn → tb < (G (SB t)).db
  hi1 : SB t < T
  hi2 : 0 < (G (SB t)).m → (G (SB t)).ab < T
  hi3 : 0 < (G (SB t)).dn → (G (SB t)).db < T

theorem Laid.below {tb : Nat} {PM : Nat → Nat} {PS : Nat → Nat → Int} {DM : Nat → Nat} {DF : Nat → Nat → Int} {T : Nat} {SB : Nat → Nat} {G : Nat → Sess} {w w' : World} {t : Nat} (h : Laid tb PM PS DM DF T SB G w t) (hB : Below T w w') : Laid tb PM PS DM DF T SB G w' t :=
  ⟨h.at_.below hB h.hi1 h.hi2 h.hi3, h.lost, h.reps, h.lo1, h.lo2, h.lo3, h.hi1, h.hi2, h.hi3⟩
theorem Laid.far {tb mb : Nat} {PM : Nat → Nat} {PS : Nat → Nat → Int} {DM : Nat → Nat} {DF : Nat → Nat → Int} {T : Nat} {SB : Nat → Nat} {G : Nat → Sess} {w w' : World} {t : Nat} (h : Laid tb PM PS DM DF T SB G w t) (hg : w.grownBy w' (some mb)) (hm : mb < tb) : Laid tb PM PS DM DF T SB G w' t :=
  ⟨h.at_.far hg (by have := h.lo1; omega) (fun x => by have := h.lo2 x; omega) (fun x => by have := h.lo3 x; omega), h.lost, h.reps, h.lo1, h.lo2, h.lo3, h.hi1, h.hi2, h.hi3⟩
theorem Laid.top {tb : Nat} {PM : Nat → Nat} {PS : Nat → Nat → Int} {DM : Nat → Nat} {DF : Nat → Nat → Int} {T T' : Nat} {SB : Nat → Nat} {G : Nat → Sess} {w : World} {t : Nat} (h : Laid tb PM PS DM DF T SB G w t) (hT : T ≤ T') : Laid tb PM PS DM DF T' SB G w t :=
  ⟨h.at_, h.lost, h.reps, h.lo1, h.lo2, h.lo3, by have := h.hi1; omega, fun x => by have := h.hi2 x; omega, fun x => by have := h.hi3 x; omega⟩

/-- i SESSIONS ARE LAID. -/
structure Tallied (w : World) (tb mb : Nat) (ack dr : Int) (N : Nat → ByteArray) (PM : Nat → Nat) (PS : Nat → Nat → Int) (DM : Nat → Nat) (DF : Nat → Nat → Int) (i : Nat) (wr : World) : Prop where
  ex : ∃ (SB : Nat → Nat) (G : Nat → Sess) (es : List (Lit × DataW Unit)), Idle wr tb mb i (.map es) ack dr ∧ es.Perm (entries N SB i) ∧ ∀ t, t < i → Laid tb PM PS DM DF wr.heap.size SB G wr t
  below : Below w.heap.size w wr
  lt1 : w.heap.size ≤ mb
  lt2 : mb < tb

/-- .. AND q SPANS OF SESSION i, whose own row begins at sb. -/
structure Under (w : World) (tb mb : Nat) (ack dr : Int) (N : Nat → ByteArray) (PM : Nat → Nat) (PS : Nat → Nat → Int) (DM : Nat → Nat) (DF : Nat → Nat → Int) (sent : Int) (a4 : Option Addr) (b4 : Nat) (i sb q : Nat) (wr : World) : Prop where
  ex : ∃ (SB : Nat → Nat) (G : Nat → Sess) (es : List (Lit × DataW Unit)) (v : Value), Hot wr tb mb sb (i + 1) ((DataW.map es).put (key N i) (.lit (.int .i64 sb))) (key N i) sent ack dr (.slice a4 (DM i) (DM i)) v q (PS i) ∧ es.Perm (entries N SB i) ∧ ∀ t, t < i → Laid tb PM PS DM DF sb SB G wr t
  below : Below w.heap.size w wr
  lt1 : w.heap.size ≤ mb
  lt2 : mb < tb
  head : 0 < DM i → a4 = some ⟨b4, 0, none⟩ ∧ tb < b4 ∧ b4 < sb
  cells : ∀ t, t < DM i → wr.cell? ⟨b4, t, none⟩ = some (.int .u8 (DF i t))

/-- Session i is laid whole. -/
theorem under_done {w : World} {tb mb : Nat} {ack dr : Int} {N : Nat → ByteArray} {PM : Nat → Nat} {PS : Nat → Nat → Int} {DM : Nat → Nat} {DF : Nat → Nat → Int} {sent : Int} {a4 : Option Addr} {b4 i sb : Nat} {wr : World}
    (h : Under w tb mb ack dr N PM PS DM DF sent a4 b4 i sb (PM i) wr) (hfit : ∀ t, t < PM i → Fit1 (PS i) t) (hm : PM i ≤ 65536) (hd : DM i ≤ 1048576) : Tallied w tb mb ack dr N PM PS DM DF (i + 1) wr := by
  obtain ⟨SB, G, es, v, hH, hp, hL⟩ := h.ex
  obtain ⟨aa, ab, ac, hv, haa, hsp⟩ := own_spans hH.acked
  have hlt := hH.ses.lt
  have hlt2 := hH.lt2
  have hS : SessAt wr sb ⟨sent, aa, ab, PM i, ac, PS i, a4, b4, DM i, DM i, DF i⟩ :=
    ⟨by rw [← hv]; exact hH.ses, fun x => (haa x).1, hsp, fun x => (h.head x).1, h.cells, hfit, hm, by show DM i ≤ 1048577; omega⟩
  refine ⟨⟨fun t => if t = i then sb else SB t, fun b => if b = sb then ⟨sent, aa, ab, PM i, ac, PS i, a4, b4, DM i, DM i, DF i⟩ else G b, _, hH.idle, perm_succ hp sb, fun t ht => ?_⟩, h.below, h.lt1, h.lt2⟩
  by_cases e : t = i
  · subst e
    refine ⟨?_, ?_, ?_, ?_, ?_, ?_, ?_, ?_, ?_⟩
    · simpa using hS
    · simp [Sess.lost]
    · simp [Sess.reps]
    · simpa using hlt2
    · simp only [if_true]; intro x; have := (haa x).2.1; show tb < ab; omega
    · simp only [if_true]; intro x; exact (h.head x).2.1
    · simpa using hlt
    · simp only [if_true]; intro x; exact (haa x).2.2
    · simp only [if_true]; intro x; have := (h.head x).2.2; show b4 < _; omega
  · have hLt := (hL t (by omega)).top (T' := wr.heap.size) (by omega)
    have hne : SB t ≠ sb := by have := (hL t (by omega)).hi1; omega
    have eG : (fun b => if b = sb then (⟨sent, aa, ab, PM i, ac, PS i, a4, b4, DM i, DM i, DF i⟩ : Sess) else G b) (SB t) = G (SB t) := if_neg hne
    have eS : (fun t => if t = i then sb else SB t) t = SB t := if_neg e
    obtain ⟨x1, x2, x3, x4, x5, x6, x7, x8, x9⟩ := hLt
    refine ⟨?_, ?_, ?_, ?_, ?_, ?_, ?_, ?_, ?_⟩ <;> simp only [e, if_false, hne]
    · exact x1
    · exact x2
    · exact x3
    · exact x4
    · exact x5
    · exact x6
    · exact x7
    · exact x8
    · exact x9

end Go.Proofs.Qxb6630564a
