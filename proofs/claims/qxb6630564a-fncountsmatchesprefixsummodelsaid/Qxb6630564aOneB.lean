import Derived.Test.Qxb6630564aOne
import Derived.Test.Qxb6630564aPlainMore
set_option linter.unusedVariables false
namespace Go.Proofs.Qxb6630564a
open Go.RowKit Go.Maps Go.WideMaps Go.MapKept Go.ChangeMaps

/-- What a loaded session's spans are: a slice whose cells are known. -/
theorem own_spans {w : World} {base : Nat} {v : Value} {m : Nat} {S : Nat → Int} (h : w.ownsRow base 61 2 v m ((List.range (m * 2)).map fun j => Value.int .u64 (S j))) :
    ∃ (aa : Option Addr) (ab ac : Nat), v = .slice aa m ac ∧ (0 < m → aa = some ⟨ab, 0, none⟩ ∧ base ≤ ab ∧ ab < w.heap.size) ∧ ∀ j, j < m * 2 → w.cell? ⟨ab, j, none⟩ = some (.int .u64 (S j)) := by
  rcases h.2 with ⟨hv, h0⟩ | ⟨g, cap, cur, hv, hb, hg, _, _, hsz, ht⟩
  · subst h0
    exact ⟨none, 0, 0, hv, fun h => absurd h (by omega), fun j hj => absurd hj (by omega)⟩
  · refine ⟨some ⟨g, 0, none⟩, g, cap, hv, fun _ => ⟨rfl, hb, (Array.getElem?_eq_some_iff.1 hg).1⟩, fun j hj => ?_⟩
    have e : (cur.toList.take (m * 2))[j]? = some (.int .u64 (S j)) := by rw [ht]; simp [hj]
    rw [List.getElem?_take, if_pos hj] at e
    simp [World.cell?, hg]
    simpa using e

theorem ownsRow_of_block {w w' : World} {base : Nat} {e : TypeId} {size : Nat} {v : Value} {n : Nat} {xs : List Value} (h : w.ownsRow base e size v n xs) (hb : ∀ k, base ≤ k → k < w.heap.size → w'.heap[k]? = w.heap[k]?) : w'.ownsRow base e size v n xs := by
  refine ⟨h.1, ?_⟩
  rcases h.2 with h2 | ⟨g, cap, cur, hv, hg, hh, r⟩
  · exact .inl h2
  · exact .inr ⟨g, cap, cur, hv, hg, (hb g hg (Array.getElem?_eq_some_iff.1 hh).1).trans hh, r⟩

theorem Hot.keep {w w' : World} {tb mb sb n : Nat} {D : DataW Unit} {kl : Lit} {sent ack dr : Int} {drv v : Value} {m : Nat} {S : Nat → Int} (h : Hot w tb mb sb n D kl sent ack dr drv v m S)
    (hb : ∀ k, k = tb ∨ k = mb ∨ sb ≤ k → k < w.heap.size → w'.heap[k]? = w.heap[k]?) : Hot w' tb mb sb n D kl sent ack dr drv v m S where
  idle := h.idle.grown (fun k hk => by rcases hk with rfl | rfl; exact hb _ (.inl rfl) h.idle.tal.lt; exact hb _ (.inr (.inl rfl)) h.idle.map.lt)
  ses := h.ses.of_block (hb sb (.inr (.inr (Nat.le_refl _))) h.ses.lt)
  acked := ownsRow_of_block h.acked (fun k h1 h2 => hb k (.inr (.inr (by omega))) h2)
  hat := h.hat
  lt1 := h.lt1
  lt2 := h.lt2

theorem Hot.below {w w' : World} {tb mb sb n : Nat} {D : DataW Unit} {kl : Lit} {sent ack dr : Int} {drv v : Value} {m : Nat} {S : Nat → Int} (h : Hot w tb mb sb n D kl sent ack dr drv v m S)
    (hB : Below w.heap.size w w') : Hot w' tb mb sb n D kl sent ack dr drv v m S := h.keep (fun k _ hk => hB.block k hk)
theorem Hot.far {w w' : World} {tb mb sb n : Nat} {D : DataW Unit} {kl : Lit} {sent ack dr : Int} {drv v : Value} {m : Nat} {S : Nat → Int} {t : Nat} (h : Hot w tb mb sb n D kl sent ack dr drv v m S)
    (hg : w.grownBy w' (some t)) (h1 : t < mb) (h2 : t < tb) : Hot w' tb mb sb n D kl sent ack dr drv v m S :=
  h.keep (fun k hk hlt => hg.block k hlt (by have := h.lt1; simp; rcases hk with rfl | rfl | hk <;> omega))

/-- COUNTS OF A TALLY OF ONE SESSION. -/
theorem counts_one (tb mb sb : Nat) (kl : Lit) (sent ack dr : Int) (da : Option Addr) (db dn dc : Nat) (f : Nat → Int) (v : Value) (m : Nat) (S : Nat → Int) (w : World)
    (h : Hot w tb mb sb 1 ((DataW.map []).put kl (.lit (.int .i64 sb))) kl sent ack dr (.slice da dn dc) v m S) (hne : tb ≠ mb)
    (hda : 0 < dn → da = some ⟨db, 0, none⟩ ∧ db ≠ tb) (hdr : ∀ i, i < dn → w.cell? ⟨db, i, none⟩ = some (.int .u8 (f i))) (hfit : ∀ i, i < m → Fit1 S i) (hm : m ≤ 65536) (hdn : dn ≤ 1048577) :
    Calls Try.prog 13 #[.pointer (some ⟨tb, 0, none⟩)] w (Counted tb ack dr (lostTo f dn S m) (repTo f dn) w) := by
  obtain ⟨aa, ab, ac, hv, haa, hsp⟩ := own_spans h.acked
  have hS : SessAt w sb ⟨sent, aa, ab, m, ac, S, da, db, dn, dc, f⟩ := ⟨by rw [← hv]; exact h.ses, fun hm => (haa hm).1, hsp, fun hd => (hda hd).1, hdr, hfit, hm, hdn⟩
  have h1 := lostTo_le f dn S m hfit
  have h2 := repTo_le f dn
  have e : ((DataW.map []).put kl (.lit (.int .i64 (sb : Int))) : DataW Unit) = .map [(kl, .lit (.int .i64 sb))] := rfl
  have hI := h.idle
  rw [e] at hI
  have hlt := h.lt2
  have := counts_any tb mb 1 ack dr [(kl, .lit (.int .i64 sb))] (fun _ => ⟨sent, aa, ab, m, ac, S, da, db, dn, dc, f⟩) w hI hne
    (fun p hp => by
      simp at hp
      subst hp
      exact ⟨sb, rfl, hS, by omega, fun hm => by have := (haa hm).2.1; show ab ≠ tb; omega, fun hd => (hda hd).2⟩)
    (by simp only [sumAll, Sess.lost]; omega) (by simp only [sumAll, Sess.reps]; omega)
  simpa only [sumAll, Sess.lost, Sess.reps, Nat.add_zero] using this

end Go.Proofs.Qxb6630564a
