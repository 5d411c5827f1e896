/-
  THE WALKS of the law's own test of a date and of the small functions over a Date.
-/
import Derived.Test.Qxb6628373aCivil
import Derived.BigQuiet
namespace Go.Proofs.Qxb6628373a
open Go.RowKit
set_option linter.unusedVariables false

theorem dnum_range {y m d : Int} (h1 : 1 ≤ m) (h2 : m ≤ 12) (h3 : 1 ≤ d) (h4 : d ≤ 31) (hy1 : -2000000000 ≤ y) (hy2 : y ≤ 2000000000) :
    -900000000000 ≤ dnum y m d ∧ dnum y m d ≤ 900000000000 := by
  rw [dnum_eq]
  unfold ya mpOf
  split <;> split <;> omega

set_option maxRecDepth 100000 in
set_option maxHeartbeats 1000000 in
theorem validDate_any (y m d : Int) (w : World) (hy1 : -2000000000 ≤ y) (hy2 : y ≤ 2000000000) :
    Calls Try.prog 5 #[.int .i64 y, .int .i64 m, .int .i64 d] w fun e w' => ((e = .returned (.bool true) ∧ Hid (Valid y m d)) ∨ (e = .returned (.bool false) ∧ Hid (¬ Valid y m d))) ∧ w' = w := by
  have hno : (m < 1 ∨ 12 < m ∨ d < 1 ∨ 31 < d) → Hid (¬ Valid y m d) := fun h ⟨a, b, c, e⟩ => by have := dim_le y m; omega
  by_cases c1 : m < 1
  · have N := hno (by omega)
    clear hno
    go_enter Try.func5, Try.ntmps5
    go_wp2_with fail
    go_ret
    first | exact ⟨Or.inr ⟨rfl, N⟩, rfl⟩ | exact ⟨Or.inr rfl, rfl⟩
  by_cases c2 : 12 < m
  · have N := hno (by omega)
    clear hno
    go_enter Try.func5, Try.ntmps5
    go_wp2_with fail
    go_ret
    first | exact ⟨Or.inr ⟨rfl, N⟩, rfl⟩ | exact ⟨Or.inr rfl, rfl⟩
  by_cases c3 : d < 1
  · have N := hno (by omega)
    clear hno
    go_enter Try.func5, Try.ntmps5
    go_wp2_with fail
    go_ret
    first | exact ⟨Or.inr ⟨rfl, N⟩, rfl⟩ | exact ⟨Or.inr rfl, rfl⟩
  by_cases c4 : 31 < d
  · have N := hno (by omega)
    clear hno
    go_enter Try.func5, Try.ntmps5
    go_wp2_with fail
    go_ret
    first | exact ⟨Or.inr ⟨rfl, N⟩, rfl⟩ | exact ⟨Or.inr rfl, rfl⟩
  clear hno
  have k1 : 1 ≤ m := by omega
  have k2 : m ≤ 12 := by omega
  have k3 : 1 ≤ d := by omega
  have k4 : d ≤ 31 := by omega
  have hr := dnum_range k1 k2 k3 k4 hy1 hy2
  have hin : Hid (Valid y m d → civY (dnum y m d) = y ∧ civM (dnum y m d) = m ∧ civD (dnum y m d) = d) := civ_valid
  have hback : Hid (civM (dnum y m d) = m → Valid y m d) := fun e => valid_of_civ k1 k2 k3 k4 e
  have hdf := daysFrom_any y m d w k1 k2 k3 k4 hy1 hy2
  obtain ⟨z, hz⟩ : ∃ z, dnum y m d = z := ⟨_, rfl⟩
  rw [hz] at hr hdf hin hback
  clear hz
  have hcv := civil_any z w (by omega) (by omega)
  by_cases hV : Valid y m d
  · obtain ⟨e1, e2, e3⟩ := hin.out hV
    rw [e1, e2, e3] at hcv
    have V : Hid (Valid y m d) := hV
    clear hV e1 e2 e3 hin hback
    go_enter Try.func5, Try.ntmps5
    go_wp2_with fail
    refine hdf.mono ?_
    rintro e w1 ⟨rfl, hw⟩
    rw [hw]
    clear hw
    go_wp2_with fail
    refine hcv.mono ?_
    rintro e w1 ⟨rfl, hw⟩
    rw [hw]
    clear hw
    go_wp2_with fail
    go_ret
    exact ⟨Or.inl ⟨rfl, V⟩, rfl⟩
  · have hne : (civM z == m) = false := beq_eq_false_iff_ne.2 (fun e => hV (hback.out e))
    have V : Hid (¬ Valid y m d) := hV
    clear hV hin hback
    by_cases hy : civY z = y
    · have hyb : (civY z == y) = true := beq_iff_eq.2 hy
      clear hy
      go_enter Try.func5, Try.ntmps5
      go_wp2_with fail
      refine hdf.mono ?_
      rintro e w1 ⟨rfl, hw⟩
      rw [hw]
      clear hw
      go_wp2_with fail
      refine hcv.mono ?_
      rintro e w1 ⟨rfl, hw⟩
      rw [hw]
      clear hw
      go_wp2_with fail
      go_ret
      exact ⟨Or.inr ⟨rfl, V⟩, rfl⟩
    · have hyb : (civY z == y) = false := beq_eq_false_iff_ne.2 hy
      clear hy
      go_enter Try.func5, Try.ntmps5
      go_wp2_with fail
      refine hdf.mono ?_
      rintro e w1 ⟨rfl, hw⟩
      rw [hw]
      clear hw
      go_wp2_with fail
      refine hcv.mono ?_
      rintro e w1 ⟨rfl, hw⟩
      rw [hw]
      clear hw
      go_wp2_with fail
      go_ret
      exact ⟨Or.inr ⟨rfl, V⟩, rfl⟩

/-- a Date -/
abbrev dat (y m d : Int) : Value := .agg #[.int .i64 y, .int .i64 m, .int .i64 d]
theorem bel_alloc {a w : World} (h : Below a.heap.size a w) (o : Obj) : Below a.heap.size a (w.alloc o) := h.alloc h.size o

set_option maxHeartbeats 400000 in
theorem newDate_any (y m d : Int) (w : World) :
    Calls Try.prog 6 #[.int .i64 y, .int .i64 m, .int .i64 d] w fun e w' => e = .returned (dat y m d) ∧ Below w.heap.size w w' := by
  go_enter Try.func6, Try.ntmps6
  go_wp2_with fail
  refine bodyPost_ret (v := dat y m d) (by simp [results, Try.results6, go_sem]) rfl ⟨rfl, ?_⟩
  repeat (first | exact Below.refl _ _ | refine below_drewN ?_ _ | refine bel_alloc ?_ _ | refine Below.setCell ?_ (by simp; omega) _)

set_option maxHeartbeats 400000 in
theorem fields_any (y m d : Int) (w : World) :
    Calls Try.prog 8 #[dat y m d] w fun e w' => e = .returned (.tuple #[.int .i64 y, .int .i64 m, .int .i64 d]) ∧ Below w.heap.size w w' := by
  go_enter Try.func8, Try.ntmps8
  go_wp2_with (go_quiet (fail))
  go_ret3
  refine ⟨rfl, ?_⟩
  repeat (first | exact Below.refl _ _ | refine below_drewN ?_ _ | refine bel_alloc ?_ _ | refine Below.setCell ?_ (by simp; omega) _)

set_option maxHeartbeats 400000 in
theorem isZero_yes (w : World) :
    Calls Try.prog 11 #[dat 0 0 0] w fun e w' => e = .returned (.bool true) ∧ w' = w.alloc (.cells #[.int .i64 0, .int .i64 0, .int .i64 0] 25) := by
  go_enter Try.func11, Try.ntmps11
  go_wp2_with fail
  go_ret
  exact ⟨rfl, rfl⟩

set_option maxHeartbeats 400000 in
theorem isZero_no (y m d : Int) (w : World) (h : (m == 0) = false) :
    Calls Try.prog 11 #[dat y m d] w fun e w' => e = .returned (.bool false) ∧ w' = w.alloc (.cells #[.int .i64 y, .int .i64 m, .int .i64 d] 25) := by
  go_enter Try.func11, Try.ntmps11
  go_wp2_with fail
  go_ret
  exact ⟨rfl, rfl⟩
end Go.Proofs.Qxb6628373a
