/-
  THE WALK of FnAppendJumpsFollowSkewBinary.
-/
import Derived.Test.Qxb6628307aHolds
import Derived.Deep.RegionWith
import Derived.Deep.OwnRows
import Derived.Lib.Builder
namespace Go.Proofs.Qxb6628307a
open Go.RowKit
set_option linter.unusedVariables false
attribute [local go_sem ↓] Go.wp_at_zero Go.wp_at_succ
attribute [local go_sem] World.cell?_alloc_lt

theorem LinkAt.keep {w w' : World} {b : Nat} {m n : Int} {s : ByteArray} {p j : Option Addr} {l : Int} (h : LinkAt w b m n s p j l) (e : ∀ o, w'.cell? ⟨b, o, none⟩ = w.cell? ⟨b, o, none⟩) : LinkAt w' b m n s p j l := by
  obtain ⟨c0, c1, c2, c3, c4, c5⟩ := h
  exact ⟨(e _).trans c0, (e _).trans c1, (e _).trans c2, (e _).trans c3, (e _).trans c4, (e _).trans c5⟩

/-- the loop that appends: block hb holds the history built so far -/
structure Built (w0 : World) (hb : Nat) (wr : World) (B : Nat → Nat) (E : Nat → Ent) (i : Nat) (q : Option Addr) : Prop where
  bel : Below w0.heap.size w0 wr
  low : w0.heap.size ≤ hb
  lt : hb < wr.heap.size
  c0 : wr.cell? ⟨hb, 0, none⟩ = some (.pointer (pos B i))
  c1 : wr.cell? ⟨hb, 1, none⟩ = some (.pointer q)
  f0 : wr.frozen? ⟨hb, 0, none⟩ = false
  f1 : wr.frozen? ⟨hb, 1, none⟩ = false
  hist : Hist wr B E i
  up : ∀ k, 1 ≤ k → k ≤ i → hb < B k

theorem Built.step {w0 wr w1 w2 : World} {hb : Nat} {B B' : Nat → Nat} {E : Nat → Ent} {i : Nat} {q q' : Option Addr} (h : Built w0 hb wr B E i q)
    (h1 : Below wr.heap.size wr w1) (h2 : Below w1.heap.size w1 w2) (hH : Hist w2 B' E (i + 1)) (hB : ∀ k, k ≤ i → B' k = B k) (hn : w1.heap.size ≤ B' (i + 1)) :
    Built w0 hb ((w2.setCell ⟨hb, 0, none⟩ (.pointer (pos B' (i + 1)))).setCell ⟨hb, 1, none⟩ (.pointer q')) B' E (i + 1) q' := by
  have h12 : Below wr.heap.size wr w2 := h1.trans (h2.mono h1.size)
  have ec : ∀ o, w2.cell? ⟨hb, o, none⟩ = wr.cell? ⟨hb, o, none⟩ := fun o => h12.cell (p := ⟨hb, o, none⟩) h.lt
  have ef : ∀ o, w2.frozen? ⟨hb, o, none⟩ = wr.frozen? ⟨hb, o, none⟩ := fun o => h12.frozen (p := ⟨hb, o, none⟩) h.lt
  have hup : ∀ k, 1 ≤ k → k ≤ i + 1 → hb < B' k := fun k k1 k2 => by
    by_cases e : k = i + 1
    · subst e; have := h.lt; have := h1.size; omega
    · rw [hB k (by omega)]; exact h.up k k1 (by omega)
  have hlt : hb < w2.heap.size := Nat.lt_of_lt_of_le h.lt h12.size
  refine ⟨?_, h.low, by simpa [World.setCell] using hlt, ?_, ?_, ?_, ?_, ?_, hup⟩
  · exact ((h.bel.trans (h12.mono h.bel.size)).setCell h.low _).setCell h.low _
  · rw [World.cell?_setCell_other _ _ _ _ (by simp)]
    exact World.cell?_setCell_same _ _ _ ((ec 0).trans h.c0)
  · refine World.cell?_setCell_same _ _ _ (u := .pointer q) ?_
    rw [World.cell?_setCell_other _ _ _ _ (by simp)]
    exact (ec 1).trans h.c1
  · simpa using (ef 0).trans h.f0
  · simpa using (ef 1).trans h.f1
  · exact (hH.setCell (fun k k1 k2 => by have := hup k k1 k2; simp; omega) _).setCell (fun k k1 k2 => by have := hup k k1 k2; simp; omega) _

theorem neq_same (b : Nat) (w : World) : (binOp .neq 26 (.pointer (some ⟨b, 0, none⟩)) (.pointer (some ⟨b, 0, none⟩))).run Try.prog w = .ok (.bool false) w := by
  obtain ⟨j, hj⟩ : ∃ j, Try.prog.info? 47 = some j := Option.isSome_iff_exists.1 (by kernel_rfl)
  exact Lib.run_neq_ptr_same _ _ Try.underlying26 hj
theorem Try.info26 : (Try.prog.info? 26).map (fun i => (i.zero, i.size, i.bytes)) = some (some (.pointer none), 1, 8) := by kernel_rfl

set_option maxHeartbeats 1000000 in
theorem law4 (a : Option Addr) (len cap : Nat) (E : Nat → Ent) (w : World) (hE : EsAt w a len E) (hs : ∀ i, (E i).s.size ≤ maxLen) (hl : len ≤ maxLen) :
    Calls Try.prog 4 #[.slice a len cap] w fun e w' => e = .returned (.bool true) ∧ Below w.heap.size w w' := by
  have HE : Hid (EsAt w a len E) := hE
  by_cases hbig : 4096 < len
  · have hbig' : (4096 : Int) < (len : Int) := by omega
    go_enter Try.func4, Try.ntmps4
    go_wp2_with fail
    refine (bytes4_any a len cap E w hE hs hl).mono ?_
    rintro e w' ⟨rfl | ⟨rfl, hsmall⟩, hw⟩
    all_goals
      rw [hw]
      clear hw
      go_wp2_with fail
      go_ret
      exact ⟨rfl, Below.refl _ _⟩
  have hsm : (len : Int) ≤ 4096 := by omega
  go_enter Try.func4, Try.ntmps4
  go_wp2_with fail
  refine (bytes4_any a len cap E w hE hs hl).mono ?_
  rintro e w' ⟨rfl | ⟨rfl, hsmall⟩, hw⟩
  · rw [hw]
    clear hw
    go_wp2_with fail
    go_ret
    exact ⟨rfl, Below.refl _ _⟩
  rw [hw]
  clear hw hE
  unfold maxLen at hs hl
  go_wp2_with fail
  go_loop [3, 4] (fun z i => ∃ (k : Nat) (zz : Int), k ≤ len ∧ i = .int .i64 k ∧ z = .int .i64 zz ∧ 0 ≤ zz ∧ zz ≤ 1048576) (fun _ i => len - (intOf i).toNat)
  case atStart => exact ⟨0, _, Nat.zero_le _, rfl, rfl, by omega, by omega⟩
  case round =>
    obtain ⟨k, zz, hk, rfl, rfl, hz, hz'⟩ := hrel
    by_cases hlt : k < len
    · obtain ⟨b, off, rfl, hcell⟩ := HE.out (by omega)
      obtain ⟨c0, c1, c2⟩ := hcell k hlt
      clear hcell
      have hsk := hsmall k hlt
      go_wp2_with fail
      · go_ret
        exact ⟨rfl, Below.refl _ _⟩
      · go_round
        case rel => exact ⟨k + 1, _, by omega, by go_num, rfl, by omega, by omega⟩
        case measure => simp [intOf]; omega
    · go_wp2_with fail
      clear hz hz' hs
      go_loopw [6] (fun x wr => ∃ (i : Nat) (B : Nat → Nat), i ≤ len ∧ x = .int .i64 i ∧ Built w w.heap.size wr B E i none) (fun x _ => len - (intOf x).toNat)
      case atStart => exact ⟨0, fun _ => 0, Nat.zero_le _, rfl, (Below.refl _ _).alloc (Nat.le_refl _) _, Nat.le_refl _, by simp, by simp [pos], by simp, by go_simp, by go_simp, fun k h1 h2 => by omega, fun k h1 h2 => by omega⟩
      case round =>
        obtain ⟨i, B, hi, rfl, hB⟩ := hrel
        by_cases hilt : i < len
        · obtain ⟨b, off, rfl, hcell⟩ := (HE.out.below hB.bel) (by omega)
          obtain ⟨c0, c1, c2⟩ := hcell i hilt
          have hblt : b < wr.heap.size := World.block_lt_of_cell? _ _ c0
          have q1 := up1 hblt
          have q2 := up1 q1
          have HB : Hid (Built w w.heap.size wr B E i none) := hB
          obtain ⟨_, _, hlt0, e0, e1, f0, f1, _, _⟩ := hB
          have r1 := up1 hlt0
          have r2 := up1 r1
          clear hcell
          go_wp2_with fail
          go_region_with (first | (go_at_call 8; refine (toEntry_any _ _ _ _).mono ?_; rintro e w' ⟨rfl, rfl⟩) | (go_at_call 7; refine (append_hist B E i none (fun _ _ => True) _ (by omega) ?_ (fun h => by cases h)).mono ?_; exact (HB.out.hist.below (by repeat (first | exact Below.refl _ _ | refine Below.drew ?_ | refine bel_alloc ?_ _))); rintro e w2 ⟨B', q', rfl, hB', hn', hb', hH', ht⟩; obtain rfl := ht.1 rfl; obtain ⟨hc, hf⟩ := bcell hb'))
          all_goals
            go_wp2_with fail
            go_roundw
            case rel =>
              refine ⟨i + 1, B', by omega, by go_num, HB.out.step ?_ hb' hH' hB' hn'⟩
              repeat (first | exact Below.refl _ _ | refine Below.drew ?_ | refine bel_alloc ?_ _)
            case measure => simp [intOf]; omega
        · obtain rfl : i = len := by omega
          have HB : Hid (Built w w.heap.size wr B E i none) := hB
          obtain ⟨_, _, hlt0, e0, e1, f0, f1, _, _⟩ := hB
          go_wp2_with fail
          refine (holds_any B E i none a cap wr (by omega) HB.out.hist (HE.out.below HB.out.bel)).mono ?_
          rintro e w2 ⟨rfl, hb2⟩
          have z2 : w.heap.size < w2.heap.size := Nat.lt_of_lt_of_le hlt0 hb2.size
          have g0 : w2.cell? ⟨w.heap.size, 0, none⟩ = some (.pointer (pos B i)) := (hb2.cell (p := ⟨w.heap.size, 0, none⟩) hlt0).trans e0
          have g1 : w2.cell? ⟨w.heap.size, 1, none⟩ = some (.pointer none) := (hb2.cell (p := ⟨w.heap.size, 1, none⟩) hlt0).trans e1
          have hH2 : Hid (Hist w2 B E i) := HB.out.hist.below hb2
          have hbw : Hid (Below w.heap.size w w2) := HB.out.bel.trans (hb2.mono HB.out.bel.size)
          clear HB hlt0 e0 e1 f0 f1 hb2
          have hmk := run_make_row' (P := Try.prog) 40 26 (.pointer none) 8 Try.underlying40 Try.info26 rfl .i64 .i64 (i + 1) (by omega) (by omega)
          rw [show ((i + 1 : Nat) : Int) = (i : Int) + 1 by omega] at hmk
          go_wp2_with fail
          refine (zzlast_any _ _ _).mono ?_
          rintro e w3 ⟨rfl, hw3⟩
          have hrow : w3.rowIs w2.heap.size 26 (i + 1) (fun _ => .pointer none) := by
            rw [hw3]; exact (World.rowIs_made w2 (.pointer none) (i + 1) 26).alloc _
          have hb3 : Below w2.heap.size w2 w3 := by
            rw [hw3]; exact bel_alloc (bel_alloc (Below.refl _ _) _) _
          clear hw3 hmk g0 g1
          have hH3 : Hid (Hist w3 B E i) := hH2.out.below hb3
          have hbw3 : Hid (Below w.heap.size w w3) := hbw.out.trans (hb3.mono hbw.out.size)
          have hBlt : Hid (∀ k, 1 ≤ k → k ≤ i → B k < w2.heap.size) := fun k h1 h2 => hH2.out.lt h1 h2
          clear hb3 hH2
          go_wp2_with fail
          go_loopw [9, 10] (fun l x wr => ∃ k : Nat, k ≤ i ∧ x = .int .i64 k ∧ l = .pointer (pos B k) ∧ Below w2.heap.size w3 wr ∧ wr.rowIs w2.heap.size 26 (i + 1) (fun j => if k < j then .pointer (pos B j) else .pointer none)) (fun _ x _ => (intOf x).toNat)
          case atStart => exact ⟨i, Nat.le_refl _, rfl, rfl, Below.refl _ _, hrow.congr (fun j hj => by rw [if_neg (by omega)])⟩
          case round =>
            obtain ⟨p, hp, rfl, rfl, hbr, hrr⟩ := hrel
            by_cases hp0 : p = 0
            · subst hp0
              have hH4 : Hid (Hist wr B E i) := fun k h1 h2 => (hH3.out k h1 h2).keep (fun o => hbr.cell (p := ⟨B k, o, none⟩) (hBlt.out k h1 h2))
              have hbw4 : Hid (Below w.heap.size w wr) := hbw3.out.trans (hbr.mono hbw.out.size)
              have hcell : Hid (∀ j, 1 ≤ j → j ≤ i → wr.cell? ⟨w2.heap.size, j, none⟩ = some (.pointer (some ⟨B j, 0, none⟩))) := fun j h1 h2 => by
                have := hrr.cell (i := j) (by omega)
                rw [if_pos (by omega), pos_pos B h1] at this
                exact this
              clear hrr hbr hrow hH3 hbw3
              rw [show ((0 : Nat) : Int) = 0 from rfl, pos_zero]
              go_wp2_with fail
              go_loop [11] (fun x => ∃ m : Nat, 1 ≤ m ∧ m ≤ i + 1 ∧ x = .int .i64 m) (fun x => i + 1 - (intOf x).toNat)
              case atStart => exact ⟨1, Nat.le_refl _, by omega, rfl⟩
              case round =>
                obtain ⟨m, hm1, hm2, rfl⟩ := hrel
                by_cases hm : m ≤ i
                · have c4 := (hH4.out m hm1 hm).c4
                  have k1 := hcell.out m hm1 hm
                  have hJ := Skew.J_lt hm1
                  obtain ⟨t, ht⟩ : ∃ t, t = Skew.fin m 0 := ⟨_, rfl⟩
                  have htm : t + Skew.J m = m := by
                    have := (Skew.term_le m m (Nat.le_refl _)).1
                    rw [ht]; unfold Skew.fin Skew.J; rw [if_neg (by omega)]; omega
                  have Ht : Hid (t = Skew.fin m 0) := ht
                  clear ht
                  generalize Skew.J m = jm at *
                  by_cases hj0 : jm = 0
                  · subst hj0
                    rw [pos_zero] at c4
                    obtain rfl : t = m := by omega
                    go_wp2_with fail
                    refine (skew_any t wr (by omega)).mono ?_
                    rintro e w5 ⟨rfl, hw5⟩
                    rw [hw5, ← Ht.out]
                    clear hw5
                    go_wp2_with fail
                    refine (jump_any _ _ _ c4).mono ?_
                    rintro e w5 ⟨rfl, hw5⟩
                    rw [hw5]
                    clear hw5
                    go_wp2_with fail
                    go_round
                    case rel => exact ⟨t + 1, by omega, by omega, by go_num⟩
                    case measure => simp [intOf]; omega
                  · have k2 := hcell.out jm (by omega) (by omega)
                    rw [pos_pos B (show 1 ≤ jm by omega)] at c4
                    have htl : (t : Int) ≤ (m : Int) := by omega
                    go_wp2_with fail
                    refine (skew_any m wr (by omega)).mono ?_
                    rintro e w5 ⟨rfl, hw5⟩
                    rw [hw5, ← Ht.out]
                    clear hw5
                    go_wp2_with fail
                    refine (jump_any _ _ _ c4).mono ?_
                    rintro e w5 ⟨rfl, hw5⟩
                    rw [hw5, show (m : Int) - (t : Int) = (jm : Int) by omega]
                    clear hw5
                    have hjne : ((jm : Int) == 0) = false := by simp; omega
                    have hpp := neq_same (B jm)
                    go_wp2_with fail
                    go_round
                    case rel => exact ⟨m + 1, by omega, by omega, by go_num⟩
                    case measure => simp [intOf]; omega
                · go_wp2_with fail
                  go_ret
                  exact ⟨rfl, hbw4.out⟩
            · obtain ⟨p', rfl⟩ : ∃ p', p = p' + 1 := ⟨p - 1, by omega⟩
              have hl3 := (hH3.out (p' + 1) (by omega) hp).c3
              have hlt3 := hBlt.out (p' + 1) (by omega) hp
              simp only [Nat.add_sub_cancel] at hl3
              have d3 : wr.cell? ⟨B (p' + 1), 3, none⟩ = some (.pointer (pos B p')) := (hbr.cell (p := ⟨B (p' + 1), 3, none⟩) hlt3).trans hl3
              have kc := hrr.cell (i := p' + 1) (by omega)
              have kf := hrr.frozen (p' + 1)
              have HR : Hid (wr.rowIs w2.heap.size 26 (i + 1) (fun j => if p' + 1 < j then .pointer (pos B j) else .pointer none)) := hrr
              rw [pos_pos B (show 1 ≤ p' + 1 by omega)]
              simp only [Nat.lt_irrefl, if_false] at kc
              clear hrr hrow hl3
              go_wp2_with fail
              refine (prev_any _ (pos B p') _ ?_).mono ?_
              · rw [World.cell?_setCell_far _ _ _ _ (by simp; omega)]; exact d3
              rintro e w5 ⟨rfl, hw5⟩
              rw [hw5]
              clear hw5
              go_wp2_with fail
              go_roundw
              case rel =>
                refine ⟨p', by omega, by go_num, rfl, hbr.setCell (Nat.le_refl _) _, ?_⟩
                have := HR.out.set (p' + 1) (.pointer (some ⟨B (p' + 1), 0, none⟩))
                refine this.congr (fun j hj => ?_)
                by_cases e : j = p' + 1
                · subst e
                  rw [if_pos rfl, if_pos (by omega), pos_pos B (by omega)]
                · rw [if_neg e]
                  by_cases e2 : p' + 1 < j
                  · rw [if_pos e2, if_pos (by omega)]
                  · rw [if_neg e2, if_neg (by omega)]
              case measure => simp [intOf] <;> omega

end Go.Proofs.Qxb6628307a
