/-
  THE WALK of FnAddDaysMatchesDayNumberModel, and its row.
-/
import Derived.Test.Qxb6628373aAdd
import Derived.ProofKit
import Derived.OpenShut
import Derived.ShutString
namespace Go.Proofs.Qxb6628373a
open Go.ChangeShapes Go.WideShapes Go.ChangeAt Go.RowKit
open Go.ChangeMaps (open_string shut_string)
set_option linter.unusedVariables false

set_option maxRecDepth 100000 in
set_option maxHeartbeats 1000000 in
theorem law3_far (y m d n : Int) (w : World) (h : y < -1073741824 ∨ 1073741824 < y) :
    Calls Try.prog 3 #[.int .i64 y, .int .i64 m, .int .i64 d, .int .i64 n] w fun e w' => e = .returned (.bool true) ∧ Below w.heap.size w w' := by
  rcases h with h | h
  · go_enter Try.func3, Try.ntmps3
    go_wp2_with fail
    go_ret
    exact ⟨rfl, Below.refl _ _⟩
  · have h' : ¬ y < -1073741824 := by omega
    go_enter Try.func3, Try.ntmps3
    go_wp2_with fail
    go_ret
    exact ⟨rfl, Below.refl _ _⟩

set_option maxRecDepth 100000 in
set_option maxHeartbeats 1000000 in
theorem law3_wide (y m d n : Int) (w : World) (hy1 : -1073741824 ≤ y) (hy2 : y ≤ 1073741824) (h : n < -65536 ∨ 65536 < n) :
    Calls Try.prog 3 #[.int .i64 y, .int .i64 m, .int .i64 d, .int .i64 n] w fun e w' => e = .returned (.bool true) ∧ Below w.heap.size w w' := by
  rcases h with h | h
  · go_enter Try.func3, Try.ntmps3
    go_wp2_with fail
    go_ret
    exact ⟨rfl, Below.refl _ _⟩
  · have h' : ¬ n < -65536 := by omega
    go_enter Try.func3, Try.ntmps3
    go_wp2_with fail
    go_ret
    exact ⟨rfl, Below.refl _ _⟩

set_option maxRecDepth 100000 in
set_option maxHeartbeats 1000000 in
theorem law3_zero (n : Int) (w : World) (hn1 : -65536 ≤ n) (hn2 : n ≤ 65536) :
    Calls Try.prog 3 #[.int .i64 0, .int .i64 0, .int .i64 0, .int .i64 n] w fun e w' => e = .returned (.bool true) ∧ Below w.heap.size w w' := by
  go_enter Try.func3, Try.ntmps3
  go_wp2_with fail
  refine (newDate_any 0 0 0 _).mono ?_
  rintro e w1 ⟨rfl, b1⟩
  go_wp2_with fail
  refine (addDays_zero n _).mono ?_
  rintro e w2 ⟨rfl, b2⟩
  have bb2 : Below w.heap.size w w2 := b1.trans (b2.mono b1.size)
  go_wp2_with fail
  refine (fields_any 0 0 0 _).mono ?_
  rintro e w3 ⟨rfl, b3⟩
  have hsz := bb2.size
  go_wp2_with fail
  go_ret
  refine ⟨rfl, ?_⟩
  exact Below.trans (bel_alloc bb2 _) (b3.mono (by first | omega | (simp; done) | (simp; omega)))

theorem civ_at {y m d n y' m' d' : Int} (h : Valid y' m' d' ∧ dnum y' m' d' = dnum y m d + n ∧ y - 500 ≤ y' ∧ y' ≤ y + 500) (w : World)
    (hz1 : -1000000000000 ≤ dnum y m d + n) (hz2 : dnum y m d + n ≤ 1000000000000) :
    Calls Try.prog 9 #[.int .i64 (dnum y m d + n)] w fun e w' => e = .returned (.tuple #[.int .i64 y', .int .i64 m', .int .i64 d']) ∧ w' = w := by
  have hc := civil_any (dnum y m d + n) w hz1 hz2
  obtain ⟨e1, e2, e3⟩ := civ_valid h.1
  rw [h.2.1] at e1 e2 e3
  rw [e1, e2, e3] at hc
  exact hc

set_option maxRecDepth 100000 in
set_option maxHeartbeats 1000000 in
theorem law3_some (y m d n : Int) (w : World) (hy1 : -1073741824 ≤ y) (hy2 : y ≤ 1073741824) (hn1 : -65536 ≤ n) (hn2 : n ≤ 65536) (hz : ¬ (y = 0 ∧ m = 0 ∧ d = 0)) :
    Calls Try.prog 3 #[.int .i64 y, .int .i64 m, .int .i64 d, .int .i64 n] w fun e w' => e = .returned (.bool true) ∧ Below w.heap.size w w' := by
  go_enter Try.func3, Try.ntmps3
  go_upto_region 5 with fail
  go_cut [9] (fun s wx => s = .bool false ∧ wx = w)
  case first =>
    by_cases h1 : y = 0
    · by_cases h2 : m = 0
      · have h3 : (d == 0) = false := beq_eq_false_iff_ne.2 (fun e => hz ⟨h1, h2, e⟩)
        subst h1
        subst h2
        clear hz
        go_wp2_with fail
        go_meet
        case rel => exact ⟨rfl, rfl⟩
      · have h3 : (m == 0) = false := beq_eq_false_iff_ne.2 h2
        subst h1
        clear hz h2
        go_wp2_with fail
        go_meet
        case rel => exact ⟨rfl, rfl⟩
    · have h3 : (y == 0) = false := beq_eq_false_iff_ne.2 h1
      clear hz h1
      go_wp2_with fail
      go_meet
      case rel => exact ⟨rfl, rfl⟩
  case rest =>
    obtain ⟨rfl, hw⟩ := hcut
    rw [hw]
    clear hw hz
    go_wp2_with fail
    refine (validDate_any y m d _ (by omega) (by omega)).mono ?_
    rintro e w' ⟨⟨rfl, hV⟩ | ⟨rfl, hV⟩, hw⟩
    · rw [hw]
      clear hw
      go_wp2_with fail
      refine (newDate_any y m d _).mono ?_
      rintro e w1 ⟨rfl, b1⟩
      go_wp2_with fail
      refine (addDays_some y m d n _ hV (by omega) (by omega) (by omega) (by omega)).mono ?_
      rintro e w2 ⟨y', m', d', rfl, hR, b2⟩
      have bb2 : Below w.heap.size w w2 := b1.trans (b2.mono b1.size)
      go_wp2_with fail
      refine (fields_any y' m' d' _).mono ?_
      rintro e w3 ⟨rfl, b3⟩
      have hsz := bb2.size
      have bb3 : Below w.heap.size w w3 := by
        exact Below.trans (bel_alloc bb2 _) (b3.mono (by first | omega | (simp; done) | (simp; omega)))
      clear b3
      have hd31 : d ≤ 31 := by have := hV.out.2.2.2; have := dim_le y m; omega
      have hr := dnum_range hV.out.1 hV.out.2.1 hV.out.2.2.1 hd31 (by omega) (by omega : y ≤ 2000000000)
      go_wp2_with fail
      refine (daysFrom_any y m d _ hV.out.1 hV.out.2.1 hV.out.2.2.1 hd31 (by omega) (by omega)).mono ?_
      rintro e w4 ⟨rfl, hw⟩
      rw [hw]
      clear hw
      go_wp2_with fail
      refine (civ_at hR.out _ (by omega) (by omega)).mono ?_
      rintro e w4 ⟨rfl, hw⟩
      rw [hw]
      clear hw
      go_wp2_with fail
      go_ret
      exact ⟨rfl, bb3⟩
    · rw [hw]
      clear hw
      go_wp2_with fail
      go_ret
      exact ⟨rfl, Below.refl _ _⟩

theorem law3 (y m d n : Int) (w : World) :
    Calls Try.prog 3 #[.int .i64 y, .int .i64 m, .int .i64 d, .int .i64 n] w fun e w' => e = .returned (.bool true) ∧ Below w.heap.size w w' := by
  by_cases h1 : y < -1073741824 ∨ 1073741824 < y
  · exact law3_far y m d n w h1
  by_cases h2 : n < -65536 ∨ 65536 < n
  · exact law3_wide y m d n w (by omega) (by omega) h2
  by_cases h3 : y = 0 ∧ m = 0 ∧ d = 0
  · obtain ⟨rfl, rfl, rfl⟩ := h3
    exact law3_zero n w (by omega) (by omega)
  exact law3_some y m d n w (by omega) (by omega) (by omega) (by omega) h3

theorem own : ownKnob Try.prog.godebug = none := by kernel_rfl

set_option maxRecDepth 100000 in
theorem liftedA (os : Os) (started : os.Started) (H : Type) (enc : TypeId × Value → H) :
    ReturnsInHanded {} Try.checked os 3 .any (Rows.fnAddDaysMatchesDayNumberModelSpec.pre6 enc Try.prog Try.f3 Rows.fnAddDaysMatchesDayNumberModelRow.domain false) (Rows.fnAddDaysMatchesDayNumberModelSpec.post enc Try.prog Try.f3 false true false false) := by
  refine returnsInHanded_of_change (C := Try.checked) own started (by kernel_rfl) Try.func3
    (ChangeSpec.witness6 (enc := enc) (C := Try.checked) false ⟨#[], #[.int .i64 0, .int .i64 0, .int .i64 0, .int .i64 0], []⟩ 8 (by kernel_rfl) (by kernel_rfl) (by kernel_rfl) (by kernel_rfl)) ?_
  intro W base args ds gs before hval0 hW hcnd _
  have hval : ∀ (j : Nat) t v, Try.f3.params[j]? = some t → args[j]? = some v → Value.okWide Try.prog W .any base t v := hval0
  have hW' := hW
  obtain ⟨p, q, hA0, hV, rfl, hfz, hnd⟩ := hW
  have hA : DataW.TrodAll enc Try.prog W 0 (fun _ => true) true Try.f3.params.toList args.toList ds p := hA0
  rw [Try.params3] at hA hval
  obtain ⟨v0, vs0, d0, ds0, p0, q0, hargs, rfl, rfl, h0, r0⟩ := trodAll_cons hA
  obtain ⟨v1, vs1, d1, ds1, p1, q1, rfl, rfl, rfl, h1, r1⟩ := trodAll_cons r0
  obtain ⟨v2, vs2, d2, ds2, p2, q2, rfl, rfl, rfl, h2, r2⟩ := trodAll_cons r1
  obtain ⟨v3, vs3, d3, ds3, p3, q3, rfl, rfl, rfl, h3, r3⟩ := trodAll_cons r2
  obtain ⟨rfl, rfl, rfl⟩ := trodAll_nil r3
  obtain rfl : args = #[v0, v1, v2, v3] := by cases args; simp_all
  obtain ⟨rfl, rfl⟩ := trodVars_none hV
  obtain ⟨a0, rfl, rfl, rfl, w0⟩ := open_int Try.underlying3 (hval 0 3 v0 rfl rfl) h0
  obtain ⟨a1, rfl, rfl, rfl, w1⟩ := open_int Try.underlying3 (hval 1 3 v1 rfl rfl) h1
  obtain ⟨a2, rfl, rfl, rfl, w2⟩ := open_int Try.underlying3 (hval 2 3 v2 rfl rfl) h2
  obtain ⟨a3, rfl, rfl, rfl, w3⟩ := open_int Try.underlying3 (hval 3 3 v3 rfl rfl) h3
  clear hA0 hval0
  simp only [List.append_nil] at hW'
  refine (law3 a0 a1 a2 a3 W).mono fun e W' ⟨he, bel⟩ => ?_
  subst he
  exact ⟨_, rfl, _, _, _, [], [], [], hW', trodAll_mk1 (shut_bool Try.underlying4 _), (trodAll_cons_mk (shut_int Try.underlying3 w0) (trodAll_cons_mk (shut_int Try.underlying3 w1) (trodAll_cons_mk (shut_int Try.underlying3 w2) (trodAll_cons_mk (shut_int Try.underlying3 w3) trodAll_mk0)))), rfl, bel.frame _, fun h => by cases h⟩

theorem overA : Rows.fnAddDaysMatchesDayNumberModelRow.holds Try.pinned (OpenSpec.ofChange Rows.fnAddDaysMatchesDayNumberModelSpec) :=
  OpenClaim.holds_of_wide 3 Try.f3 rfl rfl rfl rfl rfl rfl rfl ⟨rfl, rfl, rfl, rfl, rfl⟩ rfl rfl rfl rfl rfl (by kernel_rfl) Try.func3 (by kernel_rfl)
    (of_decide_eq_true (by kernel_rfl)) (by unfold Func.isWrapper; first | (rw [if_pos (by decide +kernel)]; kernel_rfl) | (rw [if_neg (by decide +kernel)]; exact ⟨rfl, rfl⟩))
    (fun os started H enc _ => liftedA os started H enc)

/-- THE STATEMENT -/
theorem matches_proved : Rows.FnAddDaysMatchesDayNumberModelSaid :=
  overA
#print axioms matches_proved
end Go.Proofs.Qxb6628373a
