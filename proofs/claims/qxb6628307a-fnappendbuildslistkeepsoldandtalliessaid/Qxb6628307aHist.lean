/-
  A history in memory: its links at positions 1 .. n; Append's contract over it; holdsList.
-/
import Derived.Test.Qxb6628307aAppC
import Derived.Test.Qxb6628307aAppD
import Derived.Test.Qxb6628307aBytes
namespace Go.Proofs.Qxb6628307a
open Go.RowKit
set_option linter.unusedVariables false

/-- the pointer to the link at position k (nil at 0); B gives the links' blocks -/
def pos (B : Nat → Nat) (k : Nat) : Option Addr := if k = 0 then none else some ⟨B k, 0, none⟩
theorem pos_zero (B : Nat → Nat) : pos B 0 = none := rfl
theorem pos_pos (B : Nat → Nat) {k : Nat} (h : 1 ≤ k) : pos B k = some ⟨B k, 0, none⟩ := by unfold pos; rw [if_neg (by omega)]

def Hist (w : World) (B : Nat → Nat) (E : Nat → Ent) (n : Nat) : Prop :=
  ∀ k, 1 ≤ k → k ≤ n → LinkAt w (B k) (E (k - 1)).m (E (k - 1)).n (E (k - 1)).s (pos B (k - 1)) (pos B (Skew.J k)) k

theorem LinkAt.below {w w' : World} {b : Nat} {m n : Int} {s : ByteArray} {p j : Option Addr} {l : Int} (h : LinkAt w b m n s p j l) (hb : Below w.heap.size w w') : LinkAt w' b m n s p j l := by
  obtain ⟨c0, c1, c2, c3, c4, c5⟩ := h
  have hlt : b < w.heap.size := World.block_lt_of_cell? _ _ c0
  have e : ∀ o, w'.cell? ⟨b, o, none⟩ = w.cell? ⟨b, o, none⟩ := fun o => hb.cell (p := ⟨b, o, none⟩) hlt
  exact ⟨(e _).trans c0, (e _).trans c1, (e _).trans c2, (e _).trans c3, (e _).trans c4, (e _).trans c5⟩
theorem Hist.below {w w' : World} {B : Nat → Nat} {E : Nat → Ent} {n : Nat} (h : Hist w B E n) (hb : Below w.heap.size w w') : Hist w' B E n :=
  fun k h1 h2 => (h k h1 h2).below hb
theorem Hist.lt {w : World} {B : Nat → Nat} {E : Nat → Ent} {n : Nat} (h : Hist w B E n) {k : Nat} (h1 : 1 ≤ k) (h2 : k ≤ n) : B k < w.heap.size := World.block_lt_of_cell? _ _ (h k h1 h2).c0
theorem Hist.congr {w : World} {B B' : Nat → Nat} {E E' : Nat → Ent} {n : Nat} (h : Hist w B E n) (hB : ∀ k, k ≤ n → B' k = B k) (hE : ∀ i, i < n → E' i = E i) : Hist w B' E' n := by
  have hp : ∀ k, k ≤ n → pos B' k = pos B k := fun k hk => by unfold pos; rw [hB k hk]
  intro k h1 h2
  rw [hB k h2, hE (k - 1) (by omega), hp _ (by omega), hp _ (by have := Skew.J_lt h1; omega)]
  exact h k h1 h2
theorem Hist.snoc {w w' : World} {B : Nat → Nat} {E : Nat → Ent} {n b : Nat} (h : Hist w B E n) (hb : Below w.heap.size w w') (hl : LinkAt w' b (E n).m (E n).n (E n).s (pos B n) (pos B (Skew.J (n + 1))) (n + 1 : Nat)) :
    Hist w' (fun k => if k = n + 1 then b else B k) E (n + 1) := by
  have hp : ∀ k, k ≤ n → pos (fun k => if k = n + 1 then b else B k) k = pos B k := fun k hk => by unfold pos; simp only []; rw [if_neg (show ¬ k = n + 1 by omega)]
  intro k h1 h2
  by_cases e : k = n + 1
  · subst e
    rw [hp _ (by omega), hp _ (by have := Skew.J_lt h1; omega)]
    simp only [if_true]
    exact hl
  · have := (h.below hb).congr (B' := fun k => if k = n + 1 then b else B k) (E' := E) (fun k hk => if_neg (by omega)) (fun _ _ => rfl)
    exact this k h1 (by omega)

theorem Hist.setCell {w : World} {B : Nat → Nat} {E : Nat → Ent} {n : Nat} (h : Hist w B E n) {a : Addr} (ha : ∀ k, 1 ≤ k → k ≤ n → a.block ≠ B k) (v : Value) : Hist (w.setCell a v) B E n := by
  intro k h1 h2
  obtain ⟨c0, c1, c2, c3, c4, c5⟩ := h k h1 h2
  have e : ∀ o, (w.setCell a v).cell? ⟨B k, o, none⟩ = w.cell? ⟨B k, o, none⟩ := fun o => World.cell?_setCell_far _ _ _ _ (ha k h1 h2)
  exact ⟨(e _).trans c0, (e _).trans c1, (e _).trans c2, (e _).trans c3, (e _).trans c4, (e _).trans c5⟩

/-- APPEND over a history. -/
theorem append_hist (B : Nat → Nat) (E : Nat → Ent) (n : Nat) (q : Option Addr) (R : World → Option Addr → Prop) (w : World) (hn : n ≤ 100000) (hH : Hist w B E n) (hset : SetK q (E n).m (E n).n R w) :
    Calls Try.prog 7 #[.agg #[.pointer (pos B n), .pointer q], .agg #[.int .i64 (E n).m, .int .i64 (E n).n, .string (E n).s]] w fun e w' => ∃ B' q', e = .returned (.agg #[.pointer (pos B' (n + 1)), .pointer q']) ∧ (∀ k, k ≤ n → B' k = B k) ∧ w.heap.size ≤ B' (n + 1) ∧ Below w.heap.size w w' ∧ Hist w' B' E (n + 1) ∧ TallyPost q R w.heap.size w' q' := by
  have fin : ∀ (e : Ending) (w' : World) (b : Nat) (q' : Option Addr), e = .returned (.agg #[.pointer (some ⟨b, 0, none⟩), .pointer q']) → w.heap.size ≤ b → Below w.heap.size w w' → LinkAt w' b (E n).m (E n).n (E n).s (pos B n) (pos B (Skew.J (n + 1))) (n + 1 : Nat) → TallyPost q R w.heap.size w' q' →
      ∃ B' q', e = .returned (.agg #[.pointer (pos B' (n + 1)), .pointer q']) ∧ (∀ k, k ≤ n → B' k = B k) ∧ w.heap.size ≤ B' (n + 1) ∧ Below w.heap.size w w' ∧ Hist w' B' E (n + 1) ∧ TallyPost q R w.heap.size w' q' := by
    intro e w' b q' he hbb hb hl ht
    refine ⟨fun k => if k = n + 1 then b else B k, q', ?_, fun k hk => if_neg (by omega), by simpa using hbb, hb, hH.snoc hb hl, ht⟩
    rw [he, pos_pos _ (by omega)]; simp
  have hJ := Skew.J_succ n n (Nat.le_refl _)
  by_cases h0 : n = 0
  · subst h0
    rw [pos_zero] at *
    refine (append_A _ _ _ q R w hset).mono ?_
    rintro e w' ⟨b, q', he, hbb, hb, hl, ht⟩
    refine fin e w' b q' he hbb hb ?_ ht
    rw [hJ, if_neg (by omega), pos_zero]
    exact hl
  · have hl := hH n (by omega) (Nat.le_refl _)
    have hlt := hH.lt (k := n) (by omega) (Nat.le_refl _)
    by_cases hj : Skew.J n = 0
    · have c4 := hl.c4
      rw [hj, pos_zero] at c4
      rw [if_neg (by omega)] at hJ
      rw [pos_pos B (show 1 ≤ n by omega)] at *
      refine (append_B _ _ _ q R w hset (B n) n hlt c4 hl.c5 (by omega) (by omega)).mono ?_
      rintro e w' ⟨b, q', he, hbb, hb, hl', ht⟩
      refine fin e w' b q' he hbb hb ?_ ht
      rw [hJ, pos_pos B (show 1 ≤ n by omega)]
      exact hl'
    · have hjlt := Skew.J_lt (m := n) (by omega)
      have hjl := hH (Skew.J n) (by omega) (by omega)
      have hjb := hH.lt (k := Skew.J n) (by omega) (by omega)
      have c4 := hl.c4
      rw [pos_pos B (show 1 ≤ Skew.J n by omega)] at c4
      have hjj := Skew.J_lt (m := Skew.J n) (by omega)
      have k4 := hjl.c4
      rw [pos_pos B (show 1 ≤ n by omega)] at *
      by_cases hg : Skew.J (Skew.J n) = 0
      · rw [hg, pos_zero] at k4
        rw [hg] at hJ
        by_cases hc : n - Skew.J n = Skew.J n - 0
        · rw [if_pos ⟨by omega, hj, hc⟩] at hJ
          refine (append_C0t _ _ _ q R w hset (B n) (B (Skew.J n)) n (Skew.J n) hlt c4 hl.c5 (by omega) (by omega) hjb hjl.c5 (by omega) (by omega) k4 (by simp; omega)).mono ?_
          rintro e w' ⟨b, q', he, hbb, hb, hl', ht⟩
          refine fin e w' b q' he hbb hb ?_ ht
          rw [hJ, pos_zero]
          exact hl'
        · rw [if_neg (by omega)] at hJ
          refine (append_C0f _ _ _ q R w hset (B n) (B (Skew.J n)) n (Skew.J n) hlt c4 hl.c5 (by omega) (by omega) hjb hjl.c5 (by omega) (by omega) k4 (by simp; omega)).mono ?_
          rintro e w' ⟨b, q', he, hbb, hb, hl', ht⟩
          refine fin e w' b q' he hbb hb ?_ ht
          rw [hJ, pos_pos B (show 1 ≤ n by omega)]
          exact hl'
      · rw [pos_pos B (show 1 ≤ Skew.J (Skew.J n) by omega)] at k4
        have hgl := hH (Skew.J (Skew.J n)) (by omega) (by omega)
        have hgb := hH.lt (k := Skew.J (Skew.J n)) (by omega) (by omega)
        by_cases hc : n - Skew.J n = Skew.J n - Skew.J (Skew.J n)
        · rw [if_pos ⟨by omega, hj, hc⟩] at hJ
          refine (append_C1t _ _ _ q R w hset (B n) (B (Skew.J n)) n (Skew.J n) hlt c4 hl.c5 (by omega) (by omega) hjb hjl.c5 (by omega) (by omega) (B (Skew.J (Skew.J n))) (Skew.J (Skew.J n)) hgb k4 hgl.c5 (by omega) (by omega) (by simp; omega)).mono ?_
          rintro e w' ⟨b, q', he, hbb, hb, hl', ht⟩
          refine fin e w' b q' he hbb hb ?_ ht
          rw [hJ, pos_pos B (show 1 ≤ Skew.J (Skew.J n) by omega)]
          exact hl'
        · rw [if_neg (by omega)] at hJ
          refine (append_C1f _ _ _ q R w hset (B n) (B (Skew.J n)) n (Skew.J n) hlt c4 hl.c5 (by omega) (by omega) hjb hjl.c5 (by omega) (by omega) (B (Skew.J (Skew.J n))) (Skew.J (Skew.J n)) hgb k4 hgl.c5 (by omega) (by omega) (by simp; omega)).mono ?_
          rintro e w' ⟨b, q', he, hbb, hb, hl', ht⟩
          refine fin e w' b q' he hbb hb ?_ ht
          rw [hJ, pos_pos B (show 1 ≤ n by omega)]
          exact hl'

end Go.Proofs.Qxb6628307a
