/-
  THE WALK of AddDays.
-/
import Derived.Test.Qxb6628373aDate
namespace Go.Proofs.Qxb6628373a
open Go.RowKit
set_option linter.unusedVariables false
attribute [local go_sem] World.cell?_alloc_lt

set_option maxRecDepth 100000 in
set_option maxHeartbeats 1000000 in
theorem addDays_zero (n : Int) (w : World) :
    Calls Try.prog 7 #[dat 0 0 0, .int .i64 n] w fun e w' => e = .returned (dat 0 0 0) ∧ Below w.heap.size w w' := by
  have hb0 : w.heap.size < w.heap.size + 1 := by omega
  have hb1 : w.heap.size < w.heap.size + 1 + 1 := by omega
  have hb2 : w.heap.size + 1 < w.heap.size + 1 + 1 := by omega
  go_enter Try.func7, Try.ntmps7
  go_wp2_with fail
  refine (isZero_yes _).mono ?_
  rintro e w1 ⟨rfl, hw⟩
  rw [hw]
  clear hw
  go_wp2_with fail
  refine bodyPost_ret (v := dat 0 0 0) (by simp [results, Try.results7, go_sem]) rfl ⟨rfl, ?_⟩
  repeat (first | exact Below.refl _ _ | refine below_drewN ?_ _ | refine bel_alloc ?_ _ | refine Below.setCell ?_ (by first | omega | (simp; done) | (simp; omega)) _)

theorem back_in {Y M D : Int} (h1 : 1 < M) (h2 : M ≤ 12) : dnum Y (M - 1) (D + dim Y (M - 1)) = dnum Y M D := by
  rw [step_in (by omega) (by omega)]
  congr 1 <;> omega
theorem back_over {Y D : Int} : dnum (Y - 1) 12 (D + dim (Y - 1) 12) = dnum Y 1 D := by
  rw [step_over]
  congr 1 <;> omega

set_option maxRecDepth 100000 in
set_option maxHeartbeats 1000000 in
theorem addDays_some (y m d n : Int) (w : World) (hV : Hid (Valid y m d)) (hy1 : -1100000000 ≤ y) (hy2 : y ≤ 1100000000) (hn1 : -70000 ≤ n) (hn2 : n ≤ 70000) :
    Calls Try.prog 7 #[dat y m d, .int .i64 n] w fun e w' => ∃ y' m' d', e = .returned (dat y' m' d') ∧
      Hid (Valid y' m' d' ∧ dnum y' m' d' = dnum y m d + n ∧ y - 500 ≤ y' ∧ y' ≤ y + 500) ∧ Below w.heap.size w w' := by
  have hb0 : w.heap.size < w.heap.size + 1 := by omega
  have hb1 : w.heap.size < w.heap.size + 1 + 1 := by omega
  have hb2 : w.heap.size + 1 < w.heap.size + 1 + 1 := by omega
  obtain ⟨k1, k2, k3, k4'⟩ := hV.out
  have k4 : d ≤ 31 := by have := dim_le y m; omega
  clear k4'
  have hm0 : (m == 0) = false := beq_eq_false_iff_ne.2 (by omega)
  have hT : Hid (dnum y m (d + n) = dnum y m d + n) := by
    show dnum y m (d + n) = dnum y m d + n
    unfold dnum; omega
  go_enter Try.func7, Try.ntmps7
  go_wp2_with fail
  refine (isZero_no y m d _ hm0).mono ?_
  rintro e w1 ⟨rfl, hw⟩
  rw [hw]
  clear hw
  go_wp2_with (go_quiet (fail))
  go_loop [5, 6, 7] (fun a b c => ∃ Y M D : Int, a = .int .i64 Y ∧ b = .int .i64 M ∧ c = .int .i64 D ∧ 1 ≤ M ∧ M ≤ 12 ∧ D ≤ 70100 ∧
    12 * Y + M ≤ 12 * y + m ∧ 28 * (12 * y + m) + d + n ≤ 28 * (12 * Y + M) + D ∧ Hid (dnum Y M D = dnum y m d + n)) (fun a b c => (1 - intOf c).toNat)
  case atStart => exact ⟨y, m, d + n, rfl, rfl, rfl, k1, k2, by omega, by omega, by omega, hT⟩
  case round =>
    obtain ⟨Y, M, D, rfl, rfl, rfl, m1, m2, d1, p1, p2, hD⟩ := hrel
    by_cases hlt : D < 1
    · by_cases hM : M = 1
      · subst hM
        have g1 := dim_ge (Y - 1) 12
        have g2 := dim_le (Y - 1) 12
        have hB : Hid (dnum (Y - 1) 12 (D + dim (Y - 1) 12) = dnum y m d + n) := back_over.trans hD.out
        go_wp2_with fail
        refine (daysIn_any (Y - 1) 12 _ (by omega) (by omega) (by omega) (by omega)).mono ?_
        rintro e w1 ⟨rfl, hw⟩
        rw [hw]
        clear hw
        go_wp2_with fail
        go_round
        case rel => exact ⟨Y - 1, 12, D + dim (Y - 1) 12, rfl, rfl, rfl, by omega, by omega, by omega, by omega, by omega, hB⟩
        case measure => simp [intOf]; omega
      · have hM1 : 1 < M := by omega
        have g1 := dim_ge Y (M - 1)
        have g2 := dim_le Y (M - 1)
        have hB : Hid (dnum Y (M - 1) (D + dim Y (M - 1)) = dnum y m d + n) := (back_in hM1 m2).trans hD.out
        clear hM
        go_wp2_with fail
        refine (daysIn_any Y (M - 1) _ (by omega) (by omega) (by omega) (by omega)).mono ?_
        rintro e w1 ⟨rfl, hw⟩
        rw [hw]
        clear hw
        go_wp2_with fail
        go_round
        case rel => exact ⟨Y, M - 1, D + dim Y (M - 1), rfl, rfl, rfl, by omega, by omega, by omega, by omega, by omega, hB⟩
        case measure => simp [intOf]; omega
    · go_wp2_with fail
      go_loop [5, 6, 7] (fun a b c => ∃ Y M D : Int, a = .int .i64 Y ∧ b = .int .i64 M ∧ c = .int .i64 D ∧ 1 ≤ M ∧ M ≤ 12 ∧ 1 ≤ D ∧
        12 * y + m - 5100 ≤ 12 * Y + M ∧ 28 * (12 * Y + M) + D ≤ 28 * (12 * y + m) + 70100 ∧ Hid (dnum Y M D = dnum y m d + n)) (fun a b c => (intOf c).toNat)
      case atStart => exact ⟨Y, M, D, rfl, rfl, rfl, m1, m2, by omega, by omega, by omega, hD⟩
      case round =>
        clear hD p1 p2 d1 m1 m2 hlt
        obtain ⟨Y, M, D, rfl, rfl, rfl, m1, m2, d1, p1, p2, hD⟩ := hrel
        have g1 := dim_ge Y M
        have g2 := dim_le Y M
        by_cases hgt : dim Y M < D
        · go_wp2_with fail
          refine (daysIn_any Y M _ (by omega) (by omega) (by omega) (by omega)).mono ?_
          rintro e w1 ⟨rfl, hw⟩
          rw [hw]
          clear hw
          by_cases hM : M = 12
          · subst hM
            have hB : Hid (dnum (Y + 1) 1 (D - dim Y 12) = dnum y m d + n) := step_over.symm.trans hD.out
            go_wp2_with fail
            refine (daysIn_any Y 12 _ (by omega) (by omega) (by omega) (by omega)).mono ?_
            rintro e w1 ⟨rfl, hw⟩
            rw [hw]
            clear hw
            go_wp2_with fail
            go_round
            case rel => exact ⟨Y + 1, 1, D - dim Y 12, rfl, rfl, rfl, by omega, by omega, by omega, by omega, by omega, hB⟩
            case measure => simp [intOf]; omega
          · have hM1 : M < 12 := by omega
            have hB : Hid (dnum Y (M + 1) (D - dim Y M) = dnum y m d + n) := (step_in m1 hM1).symm.trans hD.out
            clear hM
            go_wp2_with fail
            refine (daysIn_any Y M _ (by omega) (by omega) (by omega) (by omega)).mono ?_
            rintro e w1 ⟨rfl, hw⟩
            rw [hw]
            clear hw
            go_wp2_with fail
            go_round
            case rel => exact ⟨Y, M + 1, D - dim Y M, rfl, rfl, rfl, by omega, by omega, by omega, by omega, by omega, hB⟩
            case measure => simp [intOf]; omega
        · have hR : Hid (Valid Y M D ∧ dnum Y M D = dnum y m d + n ∧ y - 500 ≤ Y ∧ Y ≤ y + 500) :=
            ⟨⟨m1, m2, d1, by omega⟩, hD.out, by omega, by omega⟩
          go_wp2_with fail
          refine (daysIn_any Y M _ (by omega) (by omega) (by omega) (by omega)).mono ?_
          rintro e w1 ⟨rfl, hw⟩
          rw [hw]
          clear hw
          go_wp2_with fail
          refine bodyPost_ret (v := dat Y M D) (by simp [results, Try.results7, go_sem]) rfl ⟨Y, M, D, rfl, hR, ?_⟩
          repeat (first | exact Below.refl _ _ | refine below_drewN ?_ _ | refine bel_alloc ?_ _ | refine Below.setCell ?_ (by first | omega | (simp; done) | (simp; omega)) _)
end Go.Proofs.Qxb6628373a
