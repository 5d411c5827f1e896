/-
  THE WALKS of the two closed forms.
-/
import Derived.Test.Qxb6628373aRows
import Derived.Test.Qxb6628373aPlain
import Derived.WalkKit
import Derived.WalkSpells
import Derived.WalkLawsBesides
import Derived.Deep.DeepCutAuto
namespace Go.Proofs.Qxb6628373a
open Go.RowKit
set_option linter.unusedVariables false

theorem tmod_zero {y k : Int} : (Int.tmod y k = 0) ↔ y % k = 0 :=
  ⟨fun h => Int.emod_eq_zero_of_dvd (Int.dvd_of_tmod_eq_zero h), fun h => Int.tmod_eq_zero_of_dvd (Int.dvd_of_emod_eq_zero h)⟩
theorem tm_t {y k : Int} (h : y % k = 0) : (Int.tmod y k == 0) = true := beq_iff_eq.2 (tmod_zero.2 h)
theorem tn_f {y k : Int} (h : y % k = 0) : (Int.tmod y k != 0) = false := by rw [bne, tm_t h]; rfl
theorem tm_f {y k : Int} (h : ¬ y % k = 0) : (Int.tmod y k == 0) = false := beq_eq_false_iff_ne.2 (fun e => h (tmod_zero.1 e))
theorem tn_t {y k : Int} (h : ¬ y % k = 0) : (Int.tmod y k != 0) = true := by rw [bne, tm_f h]; rfl

set_option maxHeartbeats 400000 in
theorem daysIn_any (y m : Int) (w : World) (h1 : 1 ≤ m) (h2 : m ≤ 12) (hy1 : -2000000000 ≤ y) (hy2 : y ≤ 2000000000) :
    Calls Try.prog 12 #[.int .i64 y, .int .i64 m] w fun e w' => e = .returned (.int .i64 (dim y m)) ∧ w' = w := by
  by_cases hm : m = 2
  · subst hm
    by_cases h4 : y % 4 = 0
    · have b4 := tm_t h4
      by_cases h100 : y % 100 = 0
      · have b100 := tn_f h100
        by_cases h400 : y % 400 = 0
        · have hD : dim y 2 = 29 := by unfold dim; rw [if_pos rfl, if_pos ⟨h4, Or.inr h400⟩]
          rw [hD]
          have b400 := tm_t h400
          clear h4 h100 h400 hD
          go_enter Try.func12, Try.ntmps12
          go_wp2_with fail
          go_ret
          exact ⟨rfl, rfl⟩
        · have hD : dim y 2 = 28 := by unfold dim; rw [if_pos rfl, if_neg (by rintro ⟨_, h | h⟩ <;> omega)]
          rw [hD]
          have b400 := tm_f h400
          clear h4 h100 h400 hD
          go_enter Try.func12, Try.ntmps12
          go_wp2_with fail
          go_ret
          exact ⟨rfl, rfl⟩
      · have hD : dim y 2 = 29 := by unfold dim; rw [if_pos rfl, if_pos ⟨h4, Or.inl h100⟩]
        rw [hD]
        have b100 := tn_t h100
        clear h4 h100 hD
        go_enter Try.func12, Try.ntmps12
        go_wp2_with fail
        go_ret
        exact ⟨rfl, rfl⟩
    · have hD : dim y 2 = 28 := by unfold dim; rw [if_pos rfl, if_neg (by rintro ⟨_, _⟩; omega)]
      rw [hD]
      have b4 := tm_f h4
      clear h4 hD
      go_enter Try.func12, Try.ntmps12
      go_wp2_with fail
      go_ret
      exact ⟨rfl, rfl⟩
  · have : m = 1 ∨ m = 3 ∨ m = 4 ∨ m = 5 ∨ m = 6 ∨ m = 7 ∨ m = 8 ∨ m = 9 ∨ m = 10 ∨ m = 11 ∨ m = 12 := by omega
    rcases this with rfl | rfl | rfl | rfl | rfl | rfl | rfl | rfl | rfl | rfl | rfl
    all_goals (simp [dim]; go_enter Try.func12, Try.ntmps12; go_wp2_with fail; go_ret; exact ⟨rfl, rfl⟩)

theorem fl400 {s : Int} (h : s < 0) : (s - 399).tdiv 400 = s / 400 := by
  have : (s - 399).tdiv 400 = -((399 - s) / 400) := by
    rw [show s - 399 = -(399 - s) from by omega, Int.neg_tdiv, Int.tdiv_eq_ediv_of_nonneg (by omega)]
  rw [this]; omega

/-- the closed form behind the year's start -/
def cored (s m d : Int) : Int := (s / 400) * 146097 + ((s % 400) * 365 + (s % 400) / 4 - (s % 400) / 100 + ((153 * mpOf m + 2) / 5 + d - 1)) - 719468
theorem dnum_core (y m d : Int) : dnum y m d = cored (ya y m) m d := rfl

set_option maxRecDepth 100000 in
set_option maxHeartbeats 1000000 in
theorem daysFrom_any (y m d : Int) (w : World) (h1 : 1 ≤ m) (h2 : m ≤ 12) (h3 : 1 ≤ d) (h4 : d ≤ 31) (hy1 : -2000000000 ≤ y) (hy2 : y ≤ 2000000000) :
    Calls Try.prog 10 #[.int .i64 y, .int .i64 m, .int .i64 d] w fun e w' => e = .returned (.int .i64 (dnum y m d)) ∧ w' = w := by
  by_cases hm : 2 < m
  · have hm' : ¬ m ≤ 2 := by omega
    by_cases hy : 0 ≤ y
    · go_enter Try.func10, Try.ntmps10
      go_wp2_with fail
      go_ret
      have e : dnum y m d = cored y m d := by rw [dnum_core]; congr 1; unfold ya; exact if_neg (by omega)
      rw [e]
      unfold cored mpOf
      rw [if_pos (by omega)]
      refine ⟨congrArg (fun z => Ending.returned (Value.int IntKind.i64 z)) ?_, rfl⟩
      omega
    · have hf := fl400 (s := y) (by omega)
      go_enter Try.func10, Try.ntmps10
      go_wp2_with fail
      go_ret
      have e : dnum y m d = cored y m d := by rw [dnum_core]; congr 1; unfold ya; exact if_neg (by omega)
      rw [e]
      unfold cored mpOf
      rw [if_pos (by omega)]
      refine ⟨congrArg (fun z => Ending.returned (Value.int IntKind.i64 z)) ?_, rfl⟩
      omega
  · have hm' : m ≤ 2 := by omega
    by_cases hy : 0 ≤ y - 1
    · go_enter Try.func10, Try.ntmps10
      go_wp2_with fail
      go_ret
      have e : dnum y m d = cored (y - 1) m d := by rw [dnum_core]; congr 1; unfold ya; exact if_pos (by omega)
      rw [e]
      unfold cored mpOf
      rw [if_neg (by omega)]
      refine ⟨congrArg (fun z => Ending.returned (Value.int IntKind.i64 z)) ?_, rfl⟩
      omega
    · have hf := fl400 (s := y - 1) (by omega)
      go_enter Try.func10, Try.ntmps10
      go_wp2_with fail
      go_ret
      have e : dnum y m d = cored (y - 1) m d := by rw [dnum_core]; congr 1; unfold ya; exact if_pos (by omega)
      rw [e]
      unfold cored mpOf
      rw [if_neg (by omega)]
      refine ⟨congrArg (fun z => Ending.returned (Value.int IntKind.i64 z)) ?_, rfl⟩
      omega
end Go.Proofs.Qxb6628373a
