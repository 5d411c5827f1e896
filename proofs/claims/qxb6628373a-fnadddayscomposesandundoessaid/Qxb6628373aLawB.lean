/-
  THE WALK of FnAddDaysComposesAndUndoes, and its row.
-/
import Derived.Test.Qxb6628373aAdd
import Derived.ProofKit
import Derived.OpenShut
import Derived.ShutString
namespace Go.Proofs.Qxb6628373a
open Go.ChangeShapes Go.WideShapes Go.ChangeAt Go.RowKit
open Go.ChangeMaps (open_string shut_string)
set_option linter.unusedVariables false
attribute [local go_sem] World.cell?_alloc_lt

/-- a Date lies in block k -/
def DatAt (w : World) (k : Nat) (y m d : Int) : Prop :=
  k < w.heap.size ∧ w.cell? ⟨k, 0, none⟩ = some (.int .i64 y) ∧ w.cell? ⟨k, 1, none⟩ = some (.int .i64 m) ∧ w.cell? ⟨k, 2, none⟩ = some (.int .i64 d)
theorem DatAt.below {w w' : World} {k : Nat} {y m d : Int} (h : DatAt w k y m d) (b : Below w.heap.size w w') : DatAt w' k y m d :=
  ⟨Nat.lt_of_lt_of_le h.1 b.size, (b.cell (p := ⟨k, 0, none⟩) h.1).trans h.2.1, (b.cell (p := ⟨k, 1, none⟩) h.1).trans h.2.2.1, (b.cell (p := ⟨k, 2, none⟩) h.1).trans h.2.2.2⟩
theorem DatAt.up {w w' : World} {o : Obj} {k : Nat} {y m d : Int} (h : DatAt w k y m d) (b : Below (w.alloc o).heap.size (w.alloc o) w') : DatAt w' k y m d :=
  DatAt.below (h.below ((Below.refl _ _).alloc (Nat.le_refl _) o)) b
theorem DatAt.fresh {w : World} {y m d : Int} : DatAt (w.alloc (.cells #[.int .i64 y, .int .i64 m, .int .i64 d] 25)) w.heap.size y m d :=
  ⟨by simp [go_sem], by simp [go_sem], by simp [go_sem], by simp [go_sem]⟩

theorem uniq {y m d y' m' d' : Int} (h : Valid y m d) (h' : Valid y' m' d') (e : dnum y' m' d' = dnum y m d) : y' = y ∧ m' = m ∧ d' = d := by
  obtain ⟨a1, a2, a3⟩ := civ_valid h
  obtain ⟨b1, b2, b3⟩ := civ_valid h'
  rw [e] at b1 b2 b3
  exact ⟨b1.symm.trans a1, b2.symm.trans a2, b3.symm.trans a3⟩

theorem bel_up {w0 w w' : World} {o : Obj} (b : Below w0.heap.size w0 w) (b' : Below (w.alloc o).heap.size (w.alloc o) w') : Below w0.heap.size w0 w' :=
  (bel_alloc b o).trans (b'.mono (bel_alloc b o).size)

set_option maxRecDepth 100000 in
set_option maxHeartbeats 1000000 in
theorem law4_far (y m d a b : Int) (w : World) (h : y < -1073741824 ∨ 1073741824 < y) :
    Calls Try.prog 4 #[.int .i64 y, .int .i64 m, .int .i64 d, .int .i64 a, .int .i64 b] w fun e w' => e = .returned (.bool true) ∧ Below w.heap.size w w' := by
  rcases h with h | h
  · go_enter Try.func4, Try.ntmps4
    go_wp2_with fail
    go_ret
    exact ⟨rfl, Below.refl _ _⟩
  · have h' : ¬ y < -1073741824 := by omega
    go_enter Try.func4, Try.ntmps4
    go_wp2_with fail
    go_ret
    exact ⟨rfl, Below.refl _ _⟩

set_option maxRecDepth 100000 in
set_option maxHeartbeats 1000000 in
theorem law4_wideA (y m d a b : Int) (w : World) (hy1 : -1073741824 ≤ y) (hy2 : y ≤ 1073741824) (h : a < -32768 ∨ 32768 < a) :
    Calls Try.prog 4 #[.int .i64 y, .int .i64 m, .int .i64 d, .int .i64 a, .int .i64 b] w fun e w' => e = .returned (.bool true) ∧ Below w.heap.size w w' := by
  rcases h with h | h
  · go_enter Try.func4, Try.ntmps4
    go_wp2_with fail
    go_ret
    exact ⟨rfl, Below.refl _ _⟩
  · have h' : ¬ a < -32768 := by omega
    go_enter Try.func4, Try.ntmps4
    go_wp2_with fail
    go_ret
    exact ⟨rfl, Below.refl _ _⟩

set_option maxRecDepth 100000 in
set_option maxHeartbeats 1000000 in
theorem law4_wideB (y m d a b : Int) (w : World) (hy1 : -1073741824 ≤ y) (hy2 : y ≤ 1073741824) (ha1 : -32768 ≤ a) (ha2 : a ≤ 32768) (h : b < -32768 ∨ 32768 < b) :
    Calls Try.prog 4 #[.int .i64 y, .int .i64 m, .int .i64 d, .int .i64 a, .int .i64 b] w fun e w' => e = .returned (.bool true) ∧ Below w.heap.size w w' := by
  rcases h with h | h
  · go_enter Try.func4, Try.ntmps4
    go_wp2_with fail
    go_ret
    exact ⟨rfl, Below.refl _ _⟩
  · have h' : ¬ b < -32768 := by omega
    go_enter Try.func4, Try.ntmps4
    go_wp2_with fail
    go_ret
    exact ⟨rfl, Below.refl _ _⟩

set_option maxRecDepth 100000 in
set_option maxHeartbeats 2000000 in
theorem law4_zero (a b : Int) (w : World) (ha1 : -32768 ≤ a) (ha2 : a ≤ 32768) (hb1 : -32768 ≤ b) (hb2 : b ≤ 32768) :
    Calls Try.prog 4 #[.int .i64 0, .int .i64 0, .int .i64 0, .int .i64 a, .int .i64 b] w fun e w' => e = .returned (.bool true) ∧ Below w.heap.size w w' := by
  go_enter Try.func4, Try.ntmps4
  go_wp2_with fail
  refine (newDate_any 0 0 0 _).mono ?_
  rintro e w1 ⟨rfl, b1⟩
  go_wp2_with fail
  refine (addDays_zero _ _).mono ?_
  rintro e w2 ⟨rfl, b2⟩
  have bb2 := bel_up b1 b2
  have D2 := DatAt.below DatAt.fresh b2
  clear b1 b2
  go_wp2_with fail
  refine (addDays_zero _ _).mono ?_
  rintro e w3 ⟨rfl, b3⟩
  have bb3 := bel_up bb2 b3
  have E3 := DatAt.below DatAt.fresh b3
  have D3 := D2.up b3
  clear b3 bb2 D2
  have D3' := D3
  obtain ⟨l3, c30, c31, c32⟩ := D3'
  go_wp2_with fail
  refine (addDays_zero _ _).mono ?_
  rintro e w4 ⟨rfl, b4⟩
  have bb4 := bel_up bb3 b4
  have F4 := DatAt.below DatAt.fresh b4
  have E4 := E3.up b4
  clear b4 bb3 D3 E3 l3 c30 c31 c32
  have E4' := E4
  obtain ⟨l4, c40, c41, c42⟩ := E4'
  go_wp2_with fail
  refine (addDays_zero _ _).mono ?_
  rintro e w5 ⟨rfl, b5⟩
  have bb5 := bel_up bb4 b5
  have G5 := DatAt.below DatAt.fresh b5
  have F5 := F4.up b5
  have E5 := E4.up b5
  clear b5 bb4 E4 F4 l4 c40 c41 c42
  have E5' := E5
  obtain ⟨l5, c50, c51, c52⟩ := E5'
  go_wp2_with fail
  refine (fields_any _ _ _ _).mono ?_
  rintro e w6 ⟨rfl, b6⟩
  have bb6 := bel_up bb5 b6
  have H6 := DatAt.below DatAt.fresh b6
  have G6 := G5.up b6
  have F6 := F5.up b6
  clear b6 bb5 E5 F5 G5 l5 c50 c51 c52
  obtain ⟨l6, c60, c61, c62⟩ := F6
  go_wp2_with fail
  refine (fields_any _ _ _ _).mono ?_
  rintro e w7 ⟨rfl, b7⟩
  have bb7 := bb6.trans (b7.mono bb6.size)
  have H7 := H6.below b7
  have G7 := G6.below b7
  clear b7 bb6 H6 G6 l6 c60 c61 c62
  obtain ⟨l7, c70, c71, c72⟩ := G7
  go_wp2_with fail
  refine (fields_any _ _ _ _).mono ?_
  rintro e w8 ⟨rfl, b8⟩
  have bb8 := bb7.trans (b8.mono bb7.size)
  have H8 := H7.below b8
  clear b8 bb7 H7 l7 c70 c71 c72
  obtain ⟨l8, c80, c81, c82⟩ := H8
  go_wp2_with fail
  refine (fields_any _ _ _ _).mono ?_
  rintro e w9 ⟨rfl, b9⟩
  have bb9 := bb8.trans (b9.mono bb8.size)
  clear b9 bb8 l8 c80 c81 c82
  go_wp2_with fail
  go_ret
  exact ⟨rfl, bb9⟩

set_option maxRecDepth 100000 in
set_option maxHeartbeats 2000000 in
theorem law4_some (y m d a b : Int) (w : World) (hy1 : -1073741824 ≤ y) (hy2 : y ≤ 1073741824) (ha1 : -32768 ≤ a) (ha2 : a ≤ 32768) (hb1 : -32768 ≤ b) (hb2 : b ≤ 32768) (hz : ¬ (y = 0 ∧ m = 0 ∧ d = 0)) :
    Calls Try.prog 4 #[.int .i64 y, .int .i64 m, .int .i64 d, .int .i64 a, .int .i64 b] w fun e w' => e = .returned (.bool true) ∧ Below w.heap.size w w' := by
  go_enter Try.func4, Try.ntmps4
  go_upto_region 7 with fail
  go_cut [11] (fun s wx => s = .bool false ∧ wx = w)
  case first =>
    by_cases h1 : y = 0
    · by_cases h2 : m = 0
      · have h3 : (d == 0) = false := beq_eq_false_iff_ne.2 (fun e => hz ⟨h1, h2, e⟩)
        subst h1
        subst h2
        clear hz
        go_wp2_with fail
        go_meet
        case rel => exact ⟨rfl, rfl⟩
      · have h3 : (m == 0) = false := beq_eq_false_iff_ne.2 h2
        subst h1
        clear hz h2
        go_wp2_with fail
        go_meet
        case rel => exact ⟨rfl, rfl⟩
    · have h3 : (y == 0) = false := beq_eq_false_iff_ne.2 h1
      clear hz h1
      go_wp2_with fail
      go_meet
      case rel => exact ⟨rfl, rfl⟩
  case rest =>
    obtain ⟨rfl, hw⟩ := hcut
    rw [hw]
    clear hw hz
    go_wp2_with fail
    refine (validDate_any y m d _ (by omega) (by omega)).mono ?_
    rintro e w' ⟨⟨rfl, hV⟩ | ⟨rfl, hV⟩, hw⟩
    · rw [hw]
      clear hw
      go_wp2_with fail
      refine (newDate_any y m d _).mono ?_
      rintro e w1 ⟨rfl, b1⟩
      go_wp2_with fail
      have BY : Hid (-1073741824 ≤ y ∧ y ≤ 1073741824) := ⟨hy1, hy2⟩
      refine (addDays_some y m d a _ hV (by have := BY.out; omega) (by have := BY.out; omega) (by omega) (by omega)).mono ?_
      rintro e w2 ⟨ey, em, ed, rfl, hE, b2⟩
      have bb2 := bel_up b1 b2
      have D2 := DatAt.below DatAt.fresh b2
      have EV : Hid (Valid ey em ed) := hE.out.1
      have BE : Hid (-1073743000 ≤ ey ∧ ey ≤ 1073743000) := by have q := hE.out.2.2; show -1073743000 ≤ ey ∧ ey ≤ 1073743000; omega
      clear b1 b2
      go_wp2_with fail
      refine (addDays_some ey em ed b _ EV (by have := BE.out; omega) (by have := BE.out; omega) (by omega) (by omega)).mono ?_
      rintro e w3 ⟨fy, fm, fd, rfl, hF, b3⟩
      have bb3 := bel_up bb2 b3
      have E3 := DatAt.below DatAt.fresh b3
      have D3 := D2.up b3
      clear b3 bb2 D2
      have D3' := D3
      obtain ⟨l3, c30, c31, c32⟩ := D3'
      go_wp2_with fail
      refine (addDays_some y m d (a + b) _ hV (by omega) (by omega) (by omega) (by omega)).mono ?_
      rintro e w4 ⟨gy, gm, gd, rfl, hG, b4⟩
      obtain ⟨rfl, rfl, rfl⟩ : gy = fy ∧ gm = fm ∧ gd = fd := uniq hF.out.1 hG.out.1 (by rw [hG.out.2.1, hF.out.2.1, hE.out.2.1]; omega)
      clear hF hG
      have bb4 := bel_up bb3 b4
      have F4 := DatAt.below DatAt.fresh b4
      have E4 := E3.up b4
      clear b4 bb3 D3 E3 l3 c30 c31 c32
      have E4' := E4
      obtain ⟨l4, c40, c41, c42⟩ := E4'
      go_wp2_with fail
      refine (addDays_some ey em ed (-a) _ EV (by have := BE.out; omega) (by have := BE.out; omega) (by omega) (by omega)).mono ?_
      rintro e w5 ⟨ky, km, kd, rfl, hH, b5⟩
      obtain ⟨q1, q2, q3⟩ : y = ky ∧ m = km ∧ d = kd := by have q := uniq hV.out hH.out.1 (by rw [hH.out.2.1, hE.out.2.1]; omega); exact ⟨q.1.symm, q.2.1.symm, q.2.2.symm⟩
      subst q1; subst q2; subst q3
      clear hH
      have bb5 := bel_up bb4 b5
      have G5 := DatAt.below DatAt.fresh b5
      have F5 := F4.up b5
      have E5 := E4.up b5
      clear b5 bb4 E4 F4 l4 c40 c41 c42
      have E5' := E5
      obtain ⟨l5, c50, c51, c52⟩ := E5'
      go_wp2_with fail
      refine (fields_any _ _ _ _).mono ?_
      rintro e w6 ⟨rfl, b6⟩
      have bb6 := bel_up bb5 b6
      have H6 := DatAt.below DatAt.fresh b6
      have G6 := G5.up b6
      have F6 := F5.up b6
      clear b6 bb5 E5 F5 G5 l5 c50 c51 c52
      obtain ⟨l6, c60, c61, c62⟩ := F6
      go_wp2_with fail
      refine (fields_any _ _ _ _).mono ?_
      rintro e w7 ⟨rfl, b7⟩
      have bb7 := bb6.trans (b7.mono bb6.size)
      have H7 := H6.below b7
      have G7 := G6.below b7
      clear b7 bb6 H6 G6 l6 c60 c61 c62
      obtain ⟨l7, c70, c71, c72⟩ := G7
      go_wp2_with fail
      refine (fields_any _ _ _ _).mono ?_
      rintro e w8 ⟨rfl, b8⟩
      have bb8 := bb7.trans (b8.mono bb7.size)
      have H8 := H7.below b8
      clear b8 bb7 H7 l7 c70 c71 c72
      obtain ⟨l8, c80, c81, c82⟩ := H8
      go_wp2_with fail
      refine (fields_any _ _ _ _).mono ?_
      rintro e w9 ⟨rfl, b9⟩
      have bb9 := bb8.trans (b9.mono bb8.size)
      clear b9 bb8 l8 c80 c81 c82
      go_wp2_with fail
      refine (validDate_any ey em ed _ (by have := BE.out; omega) (by have := BE.out; omega)).mono ?_
      rintro e w' ⟨⟨rfl, hV2⟩ | ⟨rfl, hV2⟩, hw⟩
      · rw [hw]
        clear hw hV2
        have hd31 : d ≤ 31 := by have := hV.out.2.2.2; have := dim_le y m; omega
        have he31 : ed ≤ 31 := by have := EV.out.2.2.2; have := dim_le ey em; omega
        have hr := dnum_range hV.out.1 hV.out.2.1 hV.out.2.2.1 hd31 (by omega) (by omega : y ≤ 2000000000)
        have c1 := fun w => daysFrom_any ey em ed w EV.out.1 EV.out.2.1 EV.out.2.2.1 he31 (by have := BE.out; omega) (by have := BE.out; omega)
        have c2 := fun w => daysFrom_any y m d w hV.out.1 hV.out.2.1 hV.out.2.2.1 hd31 (by omega) (by omega)
        rw [hE.out.2.1] at c1
        obtain ⟨z, hz⟩ : ∃ z, dnum y m d = z := ⟨_, rfl⟩
        rw [hz] at c1 c2 hr
        clear hz hE
        obtain ⟨hr1, hr2⟩ := hr
        have hs : (z + a - z == a) = true := beq_iff_eq.2 (by omega)
        go_wp2_with fail
        refine (c1 _).mono ?_
        rintro e w' ⟨rfl, hw⟩
        rw [hw]
        clear hw
        go_wp2_with fail
        refine (c2 _).mono ?_
        rintro e w' ⟨rfl, hw⟩
        rw [hw]
        clear hw
        go_wp2_with fail
        go_ret
        exact ⟨rfl, bb9⟩
      · exact absurd EV.out hV2
    · rw [hw]
      clear hw
      go_wp2_with fail
      go_ret
      exact ⟨rfl, Below.refl _ _⟩

theorem law4 (y m d a b : Int) (w : World) :
    Calls Try.prog 4 #[.int .i64 y, .int .i64 m, .int .i64 d, .int .i64 a, .int .i64 b] w fun e w' => e = .returned (.bool true) ∧ Below w.heap.size w w' := by
  by_cases h1 : y < -1073741824 ∨ 1073741824 < y
  · exact law4_far y m d a b w h1
  by_cases h2 : a < -32768 ∨ 32768 < a
  · exact law4_wideA y m d a b w (by omega) (by omega) h2
  by_cases h2' : b < -32768 ∨ 32768 < b
  · exact law4_wideB y m d a b w (by omega) (by omega) (by omega) (by omega) h2'
  by_cases h3 : y = 0 ∧ m = 0 ∧ d = 0
  · obtain ⟨rfl, rfl, rfl⟩ := h3
    exact law4_zero a b w (by omega) (by omega) (by omega) (by omega)
  exact law4_some y m d a b w (by omega) (by omega) (by omega) (by omega) (by omega) (by omega) h3

theorem ownB : ownKnob Try.prog.godebug = none := by kernel_rfl

set_option maxRecDepth 100000 in
theorem liftedB (os : Os) (started : os.Started) (H : Type) (enc : TypeId × Value → H) :
    ReturnsInHanded {} Try.checked os 4 .any (Rows.fnAddDaysComposesAndUndoesSpec.pre6 enc Try.prog Try.f4 Rows.fnAddDaysComposesAndUndoesRow.domain false) (Rows.fnAddDaysComposesAndUndoesSpec.post enc Try.prog Try.f4 false true false false) := by
  refine returnsInHanded_of_change (C := Try.checked) ownB started (by kernel_rfl) Try.func4
    (ChangeSpec.witness6 (enc := enc) (C := Try.checked) false ⟨#[], #[.int .i64 0, .int .i64 0, .int .i64 0, .int .i64 0, .int .i64 0], []⟩ 8 (by kernel_rfl) (by kernel_rfl) (by kernel_rfl) (by kernel_rfl)) ?_
  intro W base args ds gs before hval0 hW hcnd _
  have hval : ∀ (j : Nat) t v, Try.f4.params[j]? = some t → args[j]? = some v → Value.okWide Try.prog W .any base t v := hval0
  have hW' := hW
  obtain ⟨p, q, hA0, hV, rfl, hfz, hnd⟩ := hW
  have hA : DataW.TrodAll enc Try.prog W 0 (fun _ => true) true Try.f4.params.toList args.toList ds p := hA0
  rw [Try.params4] at hA hval
  obtain ⟨v0, vs0, d0, ds0, p0, q0, hargs, rfl, rfl, h0, r0⟩ := trodAll_cons hA
  obtain ⟨v1, vs1, d1, ds1, p1, q1, rfl, rfl, rfl, h1, r1⟩ := trodAll_cons r0
  obtain ⟨v2, vs2, d2, ds2, p2, q2, rfl, rfl, rfl, h2, r2⟩ := trodAll_cons r1
  obtain ⟨v3, vs3, d3, ds3, p3, q3, rfl, rfl, rfl, h3, r3⟩ := trodAll_cons r2
  obtain ⟨v4, vs4, d4, ds4, p4, q4, rfl, rfl, rfl, h4, r4⟩ := trodAll_cons r3
  obtain ⟨rfl, rfl, rfl⟩ := trodAll_nil r4
  obtain rfl : args = #[v0, v1, v2, v3, v4] := by cases args; simp_all
  obtain ⟨rfl, rfl⟩ := trodVars_none hV
  obtain ⟨a0, rfl, rfl, rfl, w0⟩ := open_int Try.underlying3 (hval 0 3 v0 rfl rfl) h0
  obtain ⟨a1, rfl, rfl, rfl, w1⟩ := open_int Try.underlying3 (hval 1 3 v1 rfl rfl) h1
  obtain ⟨a2, rfl, rfl, rfl, w2⟩ := open_int Try.underlying3 (hval 2 3 v2 rfl rfl) h2
  obtain ⟨a3, rfl, rfl, rfl, w3⟩ := open_int Try.underlying3 (hval 3 3 v3 rfl rfl) h3
  obtain ⟨a4, rfl, rfl, rfl, w4⟩ := open_int Try.underlying3 (hval 4 3 v4 rfl rfl) h4
  clear hA0 hval0
  simp only [List.append_nil] at hW'
  refine (law4 a0 a1 a2 a3 a4 W).mono fun e W' ⟨he, bel⟩ => ?_
  subst he
  exact ⟨_, rfl, _, _, _, [], [], [], hW', trodAll_mk1 (shut_bool Try.underlying4 _), (trodAll_cons_mk (shut_int Try.underlying3 w0) (trodAll_cons_mk (shut_int Try.underlying3 w1) (trodAll_cons_mk (shut_int Try.underlying3 w2) (trodAll_cons_mk (shut_int Try.underlying3 w3) (trodAll_cons_mk (shut_int Try.underlying3 w4) trodAll_mk0))))), rfl, bel.frame _, fun h => by cases h⟩

theorem overB : Rows.fnAddDaysComposesAndUndoesRow.holds Try.pinned (OpenSpec.ofChange Rows.fnAddDaysComposesAndUndoesSpec) :=
  OpenClaim.holds_of_wide 4 Try.f4 rfl rfl rfl rfl rfl rfl rfl ⟨rfl, rfl, rfl, rfl, rfl⟩ rfl rfl rfl rfl rfl (by kernel_rfl) Try.func4 (by kernel_rfl)
    (of_decide_eq_true (by kernel_rfl)) (by unfold Func.isWrapper; first | (rw [if_pos (by decide +kernel)]; kernel_rfl) | (rw [if_neg (by decide +kernel)]; exact ⟨rfl, rfl⟩))
    (fun os started H enc _ => liftedB os started H enc)

/-- THE STATEMENT -/
theorem composes_proved : Rows.FnAddDaysComposesAndUndoesSaid :=
  overB
#print axioms composes_proved
end Go.Proofs.Qxb6628373a
