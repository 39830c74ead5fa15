import Derived.Test.Qxb6630564aTally
import Derived.Test.Qxb6630564aPlain
import Derived.Conc.MuLone
import Derived.Deep.QuietTactic
import Derived.BigQuiet
set_option linter.unusedVariables false
namespace Go.Proofs.Qxb6630564a
open Go.RowKit Go.Maps Go.WideMaps Go.MapKept Go.ChangeMaps Go.MuLone

/-- What a session holds: its spans (m of them, 2 m numbers S) and its drains table (dn numbers f), and where they lie. -/
structure Sess where
  sent : Int
  aa : Option Addr
  ab : Nat
  m : Nat
  ac : Nat
  S : Nat → Int
  da : Option Addr
  db : Nat
  dn : Nat
  dc : Nat
  f : Nat → Int

structure SessAt (w : World) (sb : Nat) (s : Sess) : Prop where
  ses : w.rowIs sb 59 3 (ses s.sent (.slice s.aa s.m s.ac) (.slice s.da s.dn s.dc))
  aa : 0 < s.m → s.aa = some ⟨s.ab, 0, none⟩
  spans : ∀ j, j < s.m * 2 → w.cell? ⟨s.ab, j, none⟩ = some (.int .u64 (s.S j))
  da : 0 < s.dn → s.da = some ⟨s.db, 0, none⟩
  drains : ∀ i, i < s.dn → w.cell? ⟨s.db, i, none⟩ = some (.int .u8 (s.f i))
  fit : ∀ i, i < s.m → Fit1 s.S i
  mle : s.m ≤ 65536
  dle : s.dn ≤ 1048577

def Sess.lost (s : Sess) : Nat := lostTo s.f s.dn s.S s.m
def Sess.reps (s : Sess) : Nat := repTo s.f s.dn

/-- Where no block that the session lies in has turned it is as it was. -/
theorem SessAt.far {w w' : World} {sb : Nat} {s : Sess} {tb : Nat} (h : SessAt w sb s) (hg : w.grownBy w' (some tb)) (h1 : sb ≠ tb) (h2 : 0 < s.m → s.ab ≠ tb) (h3 : 0 < s.dn → s.db ≠ tb) : SessAt w' sb s where
  ses := h.ses.of_block (hg.block sb h.ses.lt (by simpa using h1))
  aa := h.aa
  spans := fun j hj => by
    have hc := h.spans j hj
    rw [hg.cell_far ⟨s.ab, j, none⟩ (World.block_lt_of_cell? _ _ hc) (by simpa using h2 (by omega))]
    exact hc
  da := h.da
  drains := fun i hi => by
    have hc := h.drains i hi
    rw [hg.cell_far ⟨s.db, i, none⟩ (World.block_lt_of_cell? _ _ hc) (by simpa using h3 (by omega))]
    exact hc
  fit := h.fit
  mle := h.mle
  dle := h.dle

theorem keyOf_string_inv {key : Value} {kl : Lit} (h : keyOf Try.prog 9 key = some kl) : ∃ s, key = .string s := by
  unfold keyOf mapKey at h
  rw [Try.underlying9] at h
  cases key <;> simp at h
  exact ⟨_, rfl⟩

/-- 'next' over a map whose elements are all pointers to blocks. -/
theorem wpList_next_ses (w : World) {ops : Array Oper} {rest : List Oper} {o : Oper} {a : Act} {Q : Exit → Act → World → Prop}
    (hg : o.guard = none) (it : Operand) (hop : o.op = Op.next it false) (b r n : Nat) (D : DataW Unit) (left : Lit → Bool) (cnt : Nat)
    (hit : a.eval it = .pointer (some ⟨r, 0, none⟩)) (h : w.ranges Try.prog 9 ptrElem b r n D left cnt)
    (hall : ∀ kl d, (∀ zd, D.atKey kl zd = d) → ∃ sb : Nat, d = .lit (.int .i64 sb))
    (hDone : (∀ kl, left kl = false) → wpList Try.prog ops Q rest (a.put o.dst (.tuple #[.bool false])) w)
    (hMore : ∀ (s : ByteArray) (kl : Lit) (sb : Nat) (w' : World) (cnt' : Nat), left kl = true → (∀ zd, D.atKey kl zd = .lit (.int .i64 sb)) → w'.ranges Try.prog 9 ptrElem b r n D (fun z => left z && !z.sameKey kl) cnt' → cnt' < cnt →
      w.grownBy w' (some r) → w'.heap.size = w.heap.size → (Instr.entry (.pointer (some ⟨r, 0, none⟩))).run Try.prog w' = .ok (.tuple #[.string s, .pointer (some ⟨sb, 0, none⟩)]) w' → wpList Try.prog ops Q rest (a.put o.dst (.tuple #[.bool true, .string s, .pointer (some ⟨sb, 0, none⟩)])) w') :
    wpList Try.prog ops Q (o :: rest) a w := by
  refine wpList_plain hg fun K' hK' => ?_
  unfold Oper.wp
  rcases h.next law9 o.type with ⟨h0, hl, hrun⟩ | ⟨key, v, kl, y, w', cnt', hkey, hlk, hv, hat, hrun, hrg, hlt, hgr, hsz, hen⟩
  · simp [execOp, hop, hit, hrun, Result.andThen]
    exact hK' _ _ (hDone hl)
  · obtain ⟨x, rfl⟩ := keyOf_string_inv hkey
    obtain ⟨sb, hd⟩ := hall kl y.1 hat
    obtain ⟨y1, y2⟩ := y
    simp only at hd
    subst hd
    obtain rfl := ptrElem_inv hv
    simp [execOp, hop, hit, hrun, Result.andThen]
    exact hK' _ _ (hMore x kl sb w' cnt' hlk hat hrg hlt hgr hsz hen)

theorem results_tmp4 {fn : Func} {t u v x : Tmp} (h : fn.results = #[.tmp t, .tmp u, .tmp v, .tmp x]) (tmps : Array Value) (P : Program) (w : World) :
    (results fn tmps).run P w = .ok (.tuple #[tmps.getD t undef, tmps.getD u undef, tmps.getD v undef, tmps.getD x undef]) w := by
  simp [results, h]

/-- The tally's cells while the lock is held. -/
def talL (mb : Nat) (ack dr : Int) : Nat → Value := fun i => if i = 1 then .int .i32 1 else tal mb ack dr i

def Counted (tb : Nat) (ack dr : Int) (lost reps : Nat) (w : World) (e : Ending) (w' : World) : Prop :=
  e = .returned (.tuple #[.int .i64 ack, .int .i64 dr, .int .i64 lost, .int .i64 reps]) ∧ w.grownBy w' (some tb)

set_option maxHeartbeats 1600000 in
theorem counts_any (tb mb n : Nat) (ack dr : Int) (es : List (Lit × DataW Unit)) (G : Nat → Sess) (w : World) (h : Idle w tb mb n (.map es) ack dr) (hne : tb ≠ mb)
    (hall : ∀ p ∈ es, ∃ sb : Nat, p.2 = .lit (.int .i64 sb) ∧ SessAt w sb (G sb) ∧ sb ≠ tb ∧ (0 < (G sb).m → (G sb).ab ≠ tb) ∧ (0 < (G sb).dn → (G sb).db ≠ tb))
    (hL : sumAll (fun b => (G b).lost) es ≤ 35184372088832) (hR : sumAll (fun b => (G b).reps) es ≤ 35184372088832) :
    Calls Try.prog 13 #[.pointer (some ⟨tb, 0, none⟩)] w (Counted tb ack dr (sumAll (fun b => (G b).lost) es) (sumAll (fun b => (G b).reps) es) w) := by
  have c1 : w.cell? ⟨tb, 1, none⟩ = some (.int .i32 0) := h.tal.cell (i := 1) (by omega)
  have f1 : w.frozen? ⟨tb, 1, none⟩ = false := h.tal.frozen 1
  have hT1 : (w.setCell ⟨tb, 1, none⟩ (.int .i32 1)).rowIs tb 55 8 (talL mb ack dr) := (h.tal.set 1 _).congr (fun j _ => by unfold talL; rfl)
  have c3 : (w.setCell ⟨tb, 1, none⟩ (.int .i32 1)).cell? ⟨tb, 3, none⟩ = some (.map (some mb)) := hT1.cell (i := 3) (by omega)
  have hown1 := h.map.setCell (a := ⟨tb, 1, none⟩) (Ne.symm hne) (.int .i32 1)
  obtain ⟨_, heq, hpair, hkeys⟩ := h.map.entries law9
  cases heq
  have hat : ∀ kl d, (∀ zd, (DataW.map es).atKey kl zd = d) → ∃ sb : Nat, d = .lit (.int .i64 sb) := fun kl d hd => by
    obtain ⟨p, hp, _, rfl⟩ := entry_at hd
    obtain ⟨sb, hsb, _⟩ := hall p hp
    exact ⟨sb, hsb⟩
  have hHall : Aside (∀ p ∈ es, ∃ sb : Nat, p.2 = .lit (.int .i64 sb) ∧ SessAt w sb (G sb) ∧ sb ≠ tb ∧ (0 < (G sb).m → (G sb).ab ≠ tb) ∧ (0 < (G sb).dn → (G sb).db ≠ tb)) := hall
  have HP : Aside (es.Pairwise (fun p q => p.1 ≠ q.1)) := hpair
  clear hall hpair
  go_enter_defers Try.func13, Try.ntmps13
  go_wp2_with (first
    | (go_at_call 18; refine (lock_free Try.muLib ⟨tb, 1, none⟩ _ c1 f1).mono ?_; rintro e w' ⟨rfl, rfl⟩)
    | (at_range; refine wpList_range_own _ rfl _ 46 rfl 9 56 law9 Try.underlying46 ptrElem mb n (.map es) rfl hown1 ?_; intro w0 hrg0 hg0 hs0))
  go_frame
  have e1 : (w.setCell ⟨tb, 1, none⟩ (.int .i32 1)).heap.size = w.heap.size := by simp
  have hg00 : w.grownBy w0 (some tb) := by
    have hs : w.grownBy (w.setCell ⟨tb, 1, none⟩ (.int .i32 1)) (some tb) := ⟨rfl, rfl, rfl, by simp, fun k _ hk => Below.heap_setCell _ _ _ _ (by simpa using hk)⟩
    exact hs.andThen hg0 (fun j hj => by cases hj)
  have hT0 : w0.rowIs tb 55 8 (talL mb ack dr) := hT1.of_block (hg0.block tb hT1.lt (by simp))
  generalize hr : (w.setCell ⟨tb, 1, none⟩ (.int .i32 1)).heap.size = r at *
  have hrw : w.heap.size ≤ r := by omega
  have htb := h.tal.lt
  clear hT1 c3 hown1 hg0 hs0 e1 hr c1 f1
  go_loopg [4, 5] (Maps.size (.map es)) (fun k s4 s5 wr => ∃ left, wr.ranges Try.prog 9 ptrElem mb r n (.map es) left k ∧ w.grownBy wr (some tb) ∧ wr.rowIs tb 55 8 (talL mb ack dr) ∧ s4 = .int .i64 ((sumOff (fun b => (G b).lost) left es : Nat) : Int) ∧ s5 = .int .i64 ((sumOff (fun b => (G b).reps) left es : Nat) : Int))
  case atStart => exact ⟨_, hrg0, hg00, hT0, by rw [sumOff_start _ es hkeys]; rfl, by rw [sumOff_start _ es hkeys]; rfl⟩
  case round =>
    obtain ⟨left, hrg, hgw, hT, rfl, rfl⟩ := hrel
    clear hrg0 hg00 hT0
    have bL := sumOff_le (fun b => (G b).lost) left es
    have bR := sumOff_le (fun b => (G b).reps) left es
    obtain ⟨L, hLe⟩ : ∃ L, L = sumOff (fun b => (G b).lost) left es := ⟨_, rfl⟩
    obtain ⟨R, hRe⟩ : ∃ R, R = sumOff (fun b => (G b).reps) left es := ⟨_, rfl⟩
    rw [← hLe] at bL ⊢
    rw [← hRe] at bR ⊢
    have HL : Aside (L = sumOff (fun b => (G b).lost) left es ∧ R = sumOff (fun b => (G b).reps) left es) := ⟨hLe, hRe⟩
    clear hLe hRe
    go_wp2_with (at_next; refine wpList_next_ses _ rfl _ rfl mb r n (.map es) left _ rfl hrg hat ?_ ?_)
    · intro hl0
      have HE : Aside (sumAll (fun b => (G b).lost) es = L ∧ sumAll (fun b => (G b).reps) es = R) := ⟨by rw [HL.out.1, sumOff_all _ _ _ hl0], by rw [HL.out.2, sumOff_all _ _ _ hl0]⟩
      have a4 : wr.cell? ⟨tb, 4, none⟩ = some (.int .i64 ack) := hT.cell (i := 4) (by omega)
      have a5 : wr.cell? ⟨tb, 5, none⟩ = some (.int .i64 dr) := hT.cell (i := 5) (by omega)
      clear hL hR bL bR
      go_wp2_with fail
      go_quiet (fail)
      go_wp2
      refine leaves_cons (f := 19) (args := #[.pointer (some ⟨tb, 1, none⟩)]) (by simp) (by simp [go_sem]) ?_
      refine (unlock_deferred Try.muLib ⟨tb, 1, none⟩ .returning _ ?_ ?_).mono ?_
      · exact hT.cell (i := 1) (by omega)
      · exact hT.frozen 1
      rintro e u' w'' ⟨rfl, rfl, rfl⟩
      go_light
      refine ⟨_, results_tmp4 rfl _ _ _, ?_⟩
      rw [HE.out.1, HE.out.2]
      exact ⟨rfl, ⟨hgw.os, hgw.tape, hgw.output, by simpa using hgw.size, fun k hk hne => (Below.heap_setCell _ _ _ _ (by simpa using hne)).trans (hgw.block k hk hne)⟩⟩
    · intro s kl sb w1 cnt1 hlk hatk hrg1 hlt hg1 hs1 hen
      obtain ⟨p, hp, hpk, hpd⟩ := entry_at hatk
      obtain ⟨sb', hsb', hSA, hn1, hn2, hn3⟩ := hHall.out p hp
      obtain rfl : sb' = sb := by
        rw [hsb'] at hpd
        simp at hpd
        omega
      have hgw1 : w.grownBy w1 (some tb) := hgw.andThen hg1 (fun j hj => by cases hj; exact .inl hrw)
      have hT1 : w1.rowIs tb 55 8 (talL mb ack dr) := hT.of_block (hg1.block tb hT.lt (by simp; omega))
      have hS := hSA.far hgw1 hn1 hn2 hn3
      obtain ⟨sx, hsx⟩ : ∃ sx, sx = G sb' := ⟨_, rfl⟩
      -- what the sums come to behind this entry
      have HN : Aside (sumOff (fun b => (G b).lost) (fun z => left z && !z.sameKey kl) es = L + sx.lost ∧ sumOff (fun b => (G b).reps) (fun z => left z && !z.sameKey kl) es = R + sx.reps) := by
        have hin : ∃ q ∈ es, q.1.sameKey kl = true ∧ q.2 = DataW.lit (.int .i64 sb') := ⟨p, hp, hpk, hpd⟩
        refine ⟨?_, ?_⟩
        · rw [sumOff_step _ left kl _ es HP.out hlk hin, ← HL.out.1, hsx]; simp [blk]
        · rw [sumOff_step _ left kl _ es HP.out hlk hin, ← HL.out.2, hsx]; simp [blk]
      clear hpk hpd hp hsb' hSA hn1 hn2 hn3
      rw [← hsx] at hS
      clear hsx
      obtain ⟨hSs, haa, hsp, hda, hdr, hfit, hmle, hdle⟩ := hS
      obtain ⟨sent, aa, ab, m, ac, S, da, db, dn, dc, f⟩ := sx
      simp only at hSs haa hsp hda hdr hfit hmle hdle
      have q1 : w1.cell? ⟨sb', 1, none⟩ = some (.slice aa m ac) := hSs.cell (i := 1) (by omega)
      have q2 : w1.cell? ⟨sb', 2, none⟩ = some (.slice da dn dc) := hSs.cell (i := 2) (by omega)
      have hsz : sb' < w1.heap.size := hSs.lt
      have bL2 : L ≤ 35184372088832 := by omega
      have bR2 : R ≤ 35184372088832 := by omega
      clear hL hR bL bR hSs hat
      go_wp2_with fail
      clear hen q1 hlk hatk
      go_loopg [4, 34] m (fun k s4 s34 wx => ∃ i T : Nat, i ≤ m ∧ k = m - i ∧ s34 = .int .i64 i ∧ s4 = .int .i64 T ∧ T = L + lostTo f dn S i ∧ Below w1.heap.size w1 wx)
      case atStart => exact ⟨0, L, Nat.zero_le _, rfl, rfl, rfl, rfl, Below.refl _ _⟩
      case round =>
        obtain ⟨i, T, him, rfl, rfl, rfl, hTe, hBx⟩ := hrel
        have hTle := lostTo_le f dn S i (fun j hj => hfit j (by omega))
        have bT : T ≤ 35188667056128 := by omega
        have HTE : Aside (T = L + lostTo f dn S i) := hTe
        clear hTe hTle
        have q2x : wr.cell? ⟨sb', 2, none⟩ = some (.slice da dn dc) := by rw [hBx.cell (p := ⟨sb', 2, none⟩) hsz]; exact q2
        by_cases hi : i < m
        · obtain rfl := haa (by omega)
          have hF := hfit i hi
          obtain ⟨lo, hlo⟩ : ∃ lo : Nat, S (i * 2) = lo := ⟨(S (i * 2)).toNat, by unfold Fit1 at hF; omega⟩
          obtain ⟨hh, hhi⟩ : ∃ hh : Nat, S (i * 2 + 1) = hh := ⟨(S (i * 2 + 1)).toNat, by unfold Fit1 at hF; omega⟩
          have v0 : wr.cell? ⟨ab, i * 2, none⟩ = some (.int .u64 lo) := by
            rw [hBx.cell (p := ⟨ab, i * 2, none⟩) (World.block_lt_of_cell? _ _ (hsp (i * 2) (by omega))), hsp (i * 2) (by omega), hlo]
          have v1 : wr.cell? ⟨ab, i * 2 + 1, none⟩ = some (.int .u64 hh) := by
            rw [hBx.cell (p := ⟨ab, i * 2 + 1, none⟩) (World.block_lt_of_cell? _ _ (hsp (i * 2 + 1) (by omega))), hsp (i * 2 + 1) (by omega), hhi]
          have hlh : lo ≤ hh ∧ hh ≤ 18446744073709551614 ∧ hh - lo < 65536 := by unfold Fit1 at hF; omega
          obtain ⟨hlh1, hlh2, hlh3⟩ := hlh
          have hslo : spanLo S i = lo := by unfold spanLo; omega
          have hslen : spanLen S i = hh - lo + 1 := by unfold spanLen; omega
          have HSP : Aside (spanLo S i = lo ∧ spanLen S i = hh - lo + 1) := ⟨hslo, hslen⟩
          clear hF hlo hhi hslo hslen
          have hiz : (i : Int) < (m : Int) := by omega
          go_wp2_with fail
          clear v0 v1
          have q2y : (wr.alloc (.cells #[.int .u64 lo, .int .u64 hh] 61)).cell? ⟨sb', 2, none⟩ = some (.slice da dn dc) := by
            rw [World.cell?_alloc_old _ _ _ (by show sb' ≠ wr.heap.size; have := hBx.size; omega)]; exact q2x
          have hB2 : Below w1.heap.size w1 (wr.alloc (.cells #[.int .u64 lo, .int .u64 hh] 61)) := hBx.alloc hBx.size _
          have z1 : (wr.alloc (.cells #[.int .u64 lo, .int .u64 hh] 61)).cell? ⟨wr.heap.size, 1, none⟩ = some (.int .u64 hh) := by simp
          generalize hW : wr.alloc (.cells #[.int .u64 lo, .int .u64 hh] 61) = W at q2y hB2 z1 ⊢
          clear hW q2x hBx
          go_loopg [4, 10] (hh - lo + 1) (fun k s4 s10 wy => wy = W ∧ ∃ t U : Nat, t ≤ hh - lo + 1 ∧ k = hh - lo + 1 - t ∧ s10 = .int .u64 ((lo + t : Nat) : Int) ∧ s4 = .int .i64 U ∧ U = T + lostSpan f dn lo t)
          case atStart => exact ⟨rfl, 0, T, Nat.zero_le _, rfl, rfl, rfl, rfl⟩
          case round =>
            obtain ⟨rfl, t, U, ht, rfl, rfl, rfl, hUe⟩ := hrel
            have hUle := lostSpan_le f dn lo t
            have bU : U ≤ 35188667121665 := by omega
            have HU : Aside (U = T + lostSpan f dn lo t) := hUe
            clear hUe hUle
            obtain ⟨d, hd⟩ : ∃ d, d = lo + t := ⟨_, rfl⟩
            rw [← hd]
            have hdle2 : d ≤ hh + 1 := by omega
            have HD : Aside (d = lo + t) := hd
            by_cases htl : t < hh - lo + 1
            · have hdh : d ≤ hh := by omega
              clear hd
              by_cases hdn : d < dn
              · obtain rfl := hda (by omega)
                have hcd : wr.cell? ⟨db, d, none⟩ = some (.int .u8 (f d)) := by
                  rw [hB2.cell (p := ⟨db, d, none⟩) (World.block_lt_of_cell? _ _ (hdr d hdn))]; exact hdr d hdn
                have hdz : (d : Int) < (dn : Int) := by omega
                by_cases hf0 : f d = 0
                · have hm1 : miss f dn d = 1 := miss_zero hf0
                  have hff : (f d == 0) = true := by simp [hf0]
                  have HM : Aside (miss f dn d = 1) := hm1
                  clear hf0 hm1
                  go_wp2
                  go_roundg (hh - lo + 1 - (t + 1))
                  case measure => go_light; omega
                  case rel =>
                    go_light
                    have hd := HD.out
                    exact ⟨rfl, t + 1, U + 1, by omega, rfl, by go_num, by go_num, by rw [lostSpan, ← hd, HM.out, HU.out, Nat.add_assoc]⟩
                · have hm1 : miss f dn d = 0 := miss_no hdn hf0
                  have hff : (f d == 0) = false := by simp [hf0]
                  have HM : Aside (miss f dn d = 0) := hm1
                  clear hf0 hm1
                  go_wp2
                  go_roundg (hh - lo + 1 - (t + 1))
                  case measure => go_light; omega
                  case rel =>
                    go_light
                    have hd := HD.out
                    exact ⟨rfl, t + 1, U, by omega, rfl, by go_num, rfl, by rw [lostSpan, ← hd, HM.out, HU.out]; rfl⟩
              · have hm1 : miss f dn d = 1 := miss_far (by omega)
                have HM : Aside (miss f dn d = 1) := hm1
                have hdz : ¬ (d : Int) < (dn : Int) := by omega
                clear hm1
                go_wp2
                go_roundg (hh - lo + 1 - (t + 1))
                case measure => go_light; omega
                case rel =>
                  go_light
                  have hd := HD.out
                  exact ⟨rfl, t + 1, U + 1, by omega, rfl, by go_num, by go_num, by rw [lostSpan, ← hd, HM.out, HU.out, Nat.add_assoc]⟩
            · obtain rfl : t = hh - lo + 1 := by omega
              have hdh : hh < d := by omega
              clear hd
              go_wp2
              go_roundg (m - (i + 1))
              case measure => go_light; omega
              case rel =>
                go_light
                exact ⟨i + 1, U, by omega, rfl, by go_num, rfl, by rw [HU.out, HTE.out, lostTo, HSP.out.1, HSP.out.2, Nat.add_assoc], hB2⟩
        · obtain rfl : i = m := by omega
          go_wp2_with fail
          go_loopg [5, 72] dn (fun k s5 s72 wy => wy = wr ∧ ∃ j V : Nat, j ≤ dn ∧ k = dn - j ∧ s72 = .int .i64 j ∧ s5 = .int .i64 V ∧ V = R + repTo f j)
          case atStart => exact ⟨rfl, 0, R, Nat.zero_le _, rfl, rfl, rfl, rfl⟩
          case round =>
            obtain ⟨rfl, j, V, hj, rfl, rfl, rfl, hVe⟩ := hrel
            have hVle := repTo_le f j
            have bV : V ≤ 35184373137409 := by omega
            have HV : Aside (V = R + repTo f j) := hVe
            clear hVe hVle
            by_cases hjn : j < dn
            · obtain rfl := hda (by omega)
              have hcd : wr.cell? ⟨db, j, none⟩ = some (.int .u8 (f j)) := by
                rw [hBx.cell (p := ⟨db, j, none⟩) (World.block_lt_of_cell? _ _ (hdr j hjn))]; exact hdr j hjn
              have hjz : (j : Int) < (dn : Int) := by omega
              by_cases hf1 : 1 < f j
              · have hr1 : rep1 f j = 1 := by simp [rep1, hf1]
                have HM : Aside (rep1 f j = 1) := hr1
                clear hr1
                go_wp2
                go_roundg (dn - (j + 1))
                case measure => go_light; omega
                case rel =>
                  go_light
                  exact ⟨rfl, j + 1, V + 1, by omega, rfl, by go_num, by go_num, by rw [repTo, HM.out, HV.out, Nat.add_assoc]⟩
              · have hr1 : rep1 f j = 0 := by simp [rep1, hf1]
                have HM : Aside (rep1 f j = 0) := hr1
                clear hr1
                go_wp2
                go_roundg (dn - (j + 1))
                case measure => go_light; omega
                case rel =>
                  go_light
                  exact ⟨rfl, j + 1, V, by omega, rfl, by go_num, rfl, by rw [repTo, HM.out, HV.out]; rfl⟩
            · obtain rfl : j = dn := by omega
              go_wp2
              go_roundg cnt1
              case measure => go_light; exact hlt
              case rel =>
                go_light
                have hgn : w1.grownBy wr none := ⟨hBx.os, hBx.tape, hBx.output, hBx.size, fun k hk _ => hBx.block k hk⟩
                refine ⟨_, hrg1.kept hgn (by simp) (by simp), hgw1.andThen hgn (fun j hj => by cases hj), hT1.of_block (hBx.block tb hT1.lt), ?_, ?_⟩
                · rw [HN.out.1, HTE.out]; rfl
                · rw [HN.out.2, HV.out]; rfl
end Go.Proofs.Qxb6630564a
