/-
  THE WALK of the inverse closed form, and of the law's own test of a date.
-/
import Derived.Test.Qxb6628373aDays
namespace Go.Proofs.Qxb6628373a
open Go.RowKit
set_option linter.unusedVariables false

theorem flEra {s : Int} (h : s < 0) : (s - 146096).tdiv 146097 = s / 146097 := by
  have : (s - 146096).tdiv 146097 = -((146096 - s) / 146097) := by
    rw [show s - 146096 = -(146096 - s) from by omega, Int.neg_tdiv, Int.tdiv_eq_ediv_of_nonneg (by omega)]
  rw [this]; omega

theorem doy_range {A : Int} (h0 : 0 ≤ A) (h1 : A < 146097) : 0 ≤ yoeOf A ∧ yoeOf A < 400 ∧ 0 ≤ doyOf A ∧ doyOf A ≤ 365 := by
  have hc : ∃ c, 0 ≤ c ∧ c ≤ 3 ∧ 0 ≤ A - 36524 * c ∧ A - 36524 * c ≤ 36524 ∧ (A - 36524 * c = 36524 → c = 3) := by
    by_cases h : A = 146096
    · exact ⟨3, by omega, by omega, by omega, by omega, by omega⟩
    · exact ⟨A / 36524, by omega, by omega, by omega, by omega, by omega⟩
  obtain ⟨c, c0, c1, c2, c3, c4⟩ := hc
  have hr : ∃ r, 0 ≤ r ∧ r ≤ 3 ∧ 0 ≤ (A - 36524 * c) % 1461 - 365 * r ∧ (A - 36524 * c) % 1461 - 365 * r ≤ 365 ∧ ((A - 36524 * c) % 1461 - 365 * r = 365 → r = 3) := by
    by_cases h : (A - 36524 * c) % 1461 = 1460
    · exact ⟨3, by omega, by omega, by omega, by omega, by omega⟩
    · exact ⟨(A - 36524 * c) % 1461 / 365, by omega, by omega, by omega, by omega, by omega⟩
  obtain ⟨r, r0, r1, r2, r3, r4⟩ := hr
  obtain ⟨q, hq⟩ : ∃ q, q = (A - 36524 * c) / 1461 := ⟨_, rfl⟩
  have q0 : 0 ≤ q := by omega
  have q1 : q ≤ 24 := by omega
  obtain ⟨t, ht⟩ : ∃ t, t = (A - 36524 * c) % 1461 - 365 * r := ⟨_, rfl⟩
  have eA : A = 36524 * c + 1461 * q + 365 * r + t := by omega
  have hy := yoe_at (c := c) (q := q) (r := r) (t := t) (doe := A) ⟨c0, c1⟩ ⟨q0, q1⟩ ⟨r0, r1⟩ (by omega)
    (fun h => ⟨r4 (by omega), by omega⟩) eA
  unfold doyOf
  rw [hy]
  have d4 : (100 * c + 4 * q + r) / 4 = 25 * c + q := by omega
  have d100 : (100 * c + 4 * q + r) / 100 = c := by omega
  rw [d4, d100]
  omega

set_option maxRecDepth 100000 in
set_option maxHeartbeats 1000000 in
theorem civil_any (z : Int) (w : World) (hz1 : -1000000000000 ≤ z) (hz2 : z ≤ 1000000000000) :
    Calls Try.prog 9 #[.int .i64 z] w fun e w' => e = .returned (.tuple #[.int .i64 (civY z), .int .i64 (civM z), .int .i64 (civD z)]) ∧ w' = w := by
  go_enter Try.func9, Try.ntmps9
  go_upto_if 16 with fail
  go_cut [5] (fun s wx => s = .int .i64 (eraOf z) ∧ wx = w)
  case first =>
    by_cases h : 0 ≤ z + 719468
    · go_wp2_with fail
      go_meet
      case rel => exact ⟨rfl, rfl⟩
    · have hf := flEra (s := z + 719468) (by omega)
      go_wp2_with fail
      go_meet
      case rel => exact ⟨rfl, rfl⟩
  case rest =>
    obtain ⟨rfl, hw⟩ := hcut; rw [hw]; clear hw
    obtain ⟨E, hE, e0⟩ : ∃ E, Hid (eraOf z = E) ∧ E = (z + 719468) / 146097 := ⟨_, rfl, rfl⟩
    rw [hE.out]
    go_upto_region 6 with fail
    go_cut [6] (fun s wx => s = .int .i64 (doeOf z) ∧ wx = w)
    case first =>
      go_wp2_with fail
      go_meet
      case rel => exact ⟨by unfold doeOf; congr 1; omega, rfl⟩
    case rest =>
      obtain ⟨rfl, hw⟩ := hcut; rw [hw]; clear hw
      obtain ⟨A, hA, a0⟩ : ∃ A, Hid (doeOf z = A) ∧ A = (z + 719468) % 146097 := ⟨_, rfl, rfl⟩
      rw [hA.out]
      have a1 : 0 ≤ A := by omega
      have a2 : A < 146097 := by omega
      obtain ⟨y0, y1, t0, t1⟩ := doy_range a1 a2
      clear a0
      go_upto_region 7 with fail
      go_cut [7] (fun s wx => s = .int .i64 (yoeOf A) ∧ wx = w)
      case first =>
        go_wp2_with fail
        go_meet
        case rel => exact ⟨rfl, rfl⟩
      case rest =>
        obtain ⟨rfl, hw⟩ := hcut; rw [hw]; clear hw
        obtain ⟨T, hT⟩ : ∃ T, Hid (doyOf A = T) := ⟨_, rfl⟩
        rw [hT.out] at t0 t1
        obtain ⟨Y, hY⟩ : ∃ Y, Hid (yoeOf A = Y) := ⟨_, rfl⟩
        rw [hY.out] at y0 y1 ⊢
        go_upto_region 9 with fail
        go_cut [9] (fun s wx => s = .int .i64 T ∧ wx = w)
        case first =>
          go_wp2_with fail
          go_meet
          case rel => exact ⟨by rw [← hT.out]; unfold doyOf; rw [hY.out], rfl⟩
        case rest =>
          obtain ⟨rfl, hw⟩ := hcut; rw [hw]; clear hw
          have hmpA : mpAt A = (5 * T + 2) / 153 := by unfold mpAt; rw [hT.out]
          have hE' : eraOf z = (z + 719468) / 146097 := rfl
          have hcD : civD z = T - (153 * ((5 * T + 2) / 153) + 2) / 5 + 1 := by unfold civD; rw [hA.out]; unfold dayAt; rw [hmpA, hT.out]
          by_cases hmp : (5 * T + 2) / 153 < 10
          · have hmA : monAt A = (5 * T + 2) / 153 + 3 := by unfold monAt; rw [hmpA]; exact if_pos hmp
            have hcM : civM z = (5 * T + 2) / 153 + 3 := by unfold civM; rw [hA.out]; exact hmA
            have hcY : civY z = Y + (z + 719468) / 146097 * 400 := by
              unfold civY; rw [hA.out, hmA, hY.out, hE', if_neg (by omega)]; omega
            have H : Hid (civY z = _ ∧ civM z = _ ∧ civD z = _) := ⟨hcY, hcM, hcD⟩
            clear hcY hcM hcD hmA hE' hmpA
            go_wp2_with fail
            go_ret3
            rw [H.out.1, H.out.2.1, H.out.2.2]
            exact ⟨rfl, rfl⟩
          · have hmA : monAt A = (5 * T + 2) / 153 - 9 := by unfold monAt; rw [hmpA]; exact if_neg hmp
            have hcM : civM z = (5 * T + 2) / 153 - 9 := by unfold civM; rw [hA.out]; exact hmA
            have hcY : civY z = Y + (z + 719468) / 146097 * 400 + 1 := by
              unfold civY; rw [hA.out, hmA, hY.out, hE', if_pos (by omega)]
            have H : Hid (civY z = _ ∧ civM z = _ ∧ civD z = _) := ⟨hcY, hcM, hcD⟩
            clear hcY hcM hcD hmA hE' hmpA
            go_wp2_with fail
            go_ret3
            rw [H.out.1, H.out.2.1, H.out.2.2]
            exact ⟨rfl, rfl⟩
end Go.Proofs.Qxb6628373a
