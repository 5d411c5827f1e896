/-
  holdsList: it says true of a history that holds the list.
-/
import Derived.Test.Qxb6628307aHist
namespace Go.Proofs.Qxb6628307a
open Go.RowKit
set_option linter.unusedVariables false
attribute [local go_sem ↓] Go.wp_at_zero Go.wp_at_succ
attribute [local go_sem] World.cell?_alloc_lt

theorem len_hist (B : Nat → Nat) (E : Nat → Ent) (n : Nat) (q : Option Addr) (w : World) (hH : Hist w B E n) :
    Calls Try.prog 17 #[.agg #[.pointer (pos B n), .pointer q]] w fun e w' => e = .returned (.int .i64 n) ∧ Below w.heap.size w w' := by
  by_cases h0 : n = 0
  · subst h0
    refine (len_nil q w).mono ?_
    rintro e w' ⟨rfl, rfl⟩
    exact ⟨rfl, bel_alloc (Below.refl _ _) _⟩
  · rw [pos_pos B (show 1 ≤ n by omega)]
    refine (len_some (B n) n q w (hH.lt (by omega) (Nat.le_refl _)) (hH n (by omega) (Nat.le_refl _)).c5).mono ?_
    rintro e w' ⟨rfl, rfl⟩
    exact ⟨rfl, bel_alloc (Below.refl _ _) _⟩

theorem EsAt.below {w w' : World} {a : Option Addr} {len : Nat} {E : Nat → Ent} (h : EsAt w a len E) (hb : Below w.heap.size w w') : EsAt w' a len E := by
  intro h0
  obtain ⟨b, off, rfl, hc⟩ := h h0
  have hlt : b < w.heap.size := World.block_lt_of_cell? _ _ (hc 0 h0).1
  have e : ∀ o, w'.cell? ⟨b, o, none⟩ = w.cell? ⟨b, o, none⟩ := fun o => hb.cell (p := ⟨b, o, none⟩) hlt
  exact ⟨b, off, rfl, fun i hi => ⟨(e _).trans (hc i hi).1, (e _).trans (hc i hi).2.1, (e _).trans (hc i hi).2.2⟩⟩

set_option maxHeartbeats 1000000 in
theorem holds_any (B : Nat → Nat) (E : Nat → Ent) (n : Nat) (q a : Option Addr) (cap : Nat) (w : World) (hn : n ≤ 100000) (hH : Hist w B E n) (hE : EsAt w a n E) :
    Calls Try.prog 9 #[.agg #[.pointer (pos B n), .pointer q], .slice a n cap] w fun e w' => e = .returned (.bool true) ∧ Below w.heap.size w w' := by
  have hH' : Hid (Hist w B E n) := hH
  have hE' : Hid (EsAt w a n E) := hE
  clear hH hE
  go_enter Try.func9, Try.ntmps9
  go_wp2_with fail
  have hb0 : ∀ o, Below w.heap.size w (w.alloc o) := fun o => (Below.refl _ _).alloc (Nat.le_refl _) _
  refine (len_hist B E n q _ (hH'.out.below (hb0 _))).mono ?_
  rintro e w1 ⟨rfl, hb1⟩
  obtain ⟨hc, hf⟩ := bcell hb1
  go_wp2_with fail
  refine (zzlast_any (pos B n) q _).mono ?_
  rintro e w2 ⟨rfl, hw2⟩
  have hb2 : Below w.heap.size w w2 := by
    rw [hw2]
    exact ((hb0 _).trans (hb1.mono (by simp))).alloc (by have := hb1.size; simp at this; omega) _
  clear hw2 hc hf hb1 hb0
  go_wp2_with fail
  go_loopw [6, 7] (fun l k wr => ∃ j : Nat, j ≤ n ∧ k = .int .i64 j ∧ l = .pointer (pos B j) ∧ Below w.heap.size w wr) (fun _ k _ => (intOf k).toNat)
  case atStart => exact ⟨n, Nat.le_refl _, rfl, rfl, hb2⟩
  case round =>
    obtain ⟨j, hj, rfl, rfl, hbr⟩ := hrel
    have hHr : Hist wr B E n := hH'.out.below hbr
    have hEr : EsAt wr a n E := hE'.out.below hbr
    by_cases h0 : j = 0
    · subst h0
      rw [pos_zero]
      go_wp2_with fail
      go_ret
      exact ⟨rfl, hbr⟩
    · obtain ⟨i, rfl⟩ : ∃ i, j = i + 1 := ⟨j - 1, by omega⟩
      have hlt := hHr.lt (k := i + 1) (by omega) hj
      obtain ⟨c0, c1, c2, c3, c4, c5⟩ := hHr (i + 1) (by omega) hj
      obtain ⟨b, off, rfl, hcell⟩ := hEr (by omega)
      obtain ⟨d0, d1, d2⟩ := hcell i (by omega)
      rw [pos_pos B (show 1 ≤ i + 1 by omega)]
      clear hHr hEr hcell
      simp only [Nat.add_sub_cancel] at c0 c1 c2 c3
      generalize B (i + 1) = bl at *
      go_wp2_with fail
      refine (linkLen_any bl _ wr c5).mono ?_
      rintro e w3 ⟨rfl, hw⟩
      rw [hw]
      clear hw
      have hblt : b < wr.heap.size := World.block_lt_of_cell? _ _ d0
      have q1 := up1 hblt
      have q2 := up1 q1
      have q3 := up1 q2
      have r1 := up1 hlt
      have r2 := up1 r1
      have r3 := up1 r2
      go_wp2_with fail
      have i0 : (0 : Int) ≤ (i : Int) := by omega
      have i2 : IntKind.i64.wrap (i : Int) = (i : Int) := by rw [IntKind.wrap_i64]; omega
      have i1 : (i : Int) < (n : Int) := by omega
      go_region_held3 (fun w' => w'.cell? ⟨b, off + i * 3, none⟩ = some (.int .i64 (E i).m) ∧ w'.cell? ⟨b, off + i * 3 + 1, none⟩ = some (.int .i64 (E i).n) ∧ w'.cell? ⟨b, off + i * 3 + 2, none⟩ = some (.string (E i).s)) (refine ⟨?_, ?_, ?_⟩ <;> go_simp)
        (first | (go_at_call 22; refine (linkEntry_any bl (E i).m (E i).n (E i).s _ ?_ ?_ ?_ ?_).mono ?_; (go_simp); (go_simp); (go_simp); (go_simp); rintro e w' ⟨rfl, rfl⟩) | (go_at_call 21; refine (same_yes _ _ _ _).mono ?_; rintro e w' ⟨rfl, rfl⟩))
      go_wp2_with fail
      refine (prev_any bl (pos B i) _ ?_).mono ?_
      · go_simp
      rintro e w4 ⟨rfl, hw⟩
      rw [hw]
      clear hw
      go_wp2_with fail
      go_roundw
      case rel =>
        refine ⟨i, by omega, by go_num, rfl, hbr.trans (Below.mono (B := wr.heap.size) ?_ hbr.size)⟩
        repeat (first | exact Below.refl _ _ | refine Below.drew ?_ | refine bel_alloc ?_ _)
      case measure => simp [intOf] <;> omega

end Go.Proofs.Qxb6628307a
