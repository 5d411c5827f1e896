/-
  THE WALK of FnValidNameSplitsAtAnyCut, and its row.
-/
import Derived.Test.Qxb6628336aSan
import Derived.ProofKit
import Derived.OpenShut
import Derived.ShutString
import Derived.Deep.DeepCutAuto
namespace Go.Proofs.Qxb6628336a
open Go.ChangeShapes Go.WideShapes Go.ChangeAt Go.RowKit
open Go.ChangeMaps (open_string shut_string)
set_option linter.unusedVariables false

/-! ### the plain law -/
theorem byt_app (a b : ByteArray) (j : Nat) (h : j < a.size + b.size) : byt (a ++ b) j = if j < a.size then byt a j else byt b (j - a.size) := by
  have hs : (a ++ b).size = a.size + b.size := by simp [ByteArray.size_append]
  rw [byt_eq (a ++ b) j (by omega)]
  by_cases hj : j < a.size
  · rw [if_pos hj, byt_eq a j hj, ByteArray.getElem_append_left hj]
  · rw [if_neg hj, byt_eq b (j - a.size) (by omega), ByteArray.getElem_append_right (by omega)]
theorem size_app (a b : ByteArray) : (a ++ b).size = a.size + b.size := by simp [ByteArray.size_append]
theorem val_left (a b : ByteArray) (h : a.size = 0) : Val (a ++ b) ↔ Val b := by
  have e : ∀ j, j < b.size → byt (a ++ b) j = byt b j := fun j hj => by rw [byt_app a b j (by omega), if_neg (by omega), h, Nat.sub_zero]
  unfold Val OkAt
  rw [size_app, h, Nat.zero_add]
  constructor
  · rintro ⟨h1, h2⟩
    exact ⟨h1, fun j hj => by rw [← e j hj]; exact h2 j hj⟩
  · rintro ⟨h1, h2⟩
    exact ⟨h1, fun j hj => by rw [e j hj]; exact h2 j hj⟩
theorem val_right (a b : ByteArray) (h : b.size = 0) : Val (a ++ b) ↔ Val a := by
  have e : ∀ j, j < a.size → byt (a ++ b) j = byt a j := fun j hj => by rw [byt_app a b j (by omega), if_pos hj]
  unfold Val OkAt
  rw [size_app, h, Nat.add_zero]
  constructor
  · rintro ⟨h1, h2⟩
    exact ⟨h1, fun j hj => by rw [← e j hj]; exact h2 j hj⟩
  · rintro ⟨h1, h2⟩
    exact ⟨h1, fun j hj => by rw [e j hj]; exact h2 j hj⟩
theorem val_both (a b : ByteArray) (ha : 0 < a.size) (hb : 0 < b.size) : Val (a ++ b) ↔ Val a ∧ Val ((⟨#[95]⟩ : ByteArray) ++ b) := by
  have hu : (⟨#[95]⟩ : ByteArray).size = 1 := rfl
  have e1 : ∀ j, j < a.size → byt (a ++ b) j = byt a j := fun j hj => by rw [byt_app a b j (by omega), if_pos hj]
  have e2 : ∀ j, j < b.size → byt (a ++ b) (a.size + j) = byt b j := fun j hj => by rw [byt_app a b _ (by omega), if_neg (by omega), show a.size + j - a.size = j by omega]
  have e3 : byt ((⟨#[95]⟩ : ByteArray) ++ b) 0 = 95 := by rw [byt_app _ b 0 (by omega), if_pos (by omega)]; rfl
  have e4 : ∀ j, j < b.size → byt ((⟨#[95]⟩ : ByteArray) ++ b) (j + 1) = byt b j := fun j hj => by rw [byt_app _ b _ (by omega), if_neg (by omega), hu, show j + 1 - 1 = j by omega]
  unfold Val OkAt
  rw [size_app, size_app, hu]
  constructor
  · rintro ⟨h1, h2⟩
    refine ⟨⟨ha, fun j hj => by rw [← e1 j hj]; exact h2 j (by omega)⟩, by omega, fun j hj => ?_⟩
    by_cases h0 : j = 0
    · subst h0
      rw [e3]
      exact ⟨Or.inl rfl, fun _ => by unfold Dig; omega⟩
    · obtain ⟨i, rfl⟩ : ∃ i, j = i + 1 := ⟨j - 1, by omega⟩
      rw [e4 i (by omega), ← e2 i (by omega)]
      exact ⟨(h2 _ (by omega)).1, fun h => by omega⟩
  · rintro ⟨⟨_, h2⟩, _, h4⟩
    refine ⟨by omega, fun j hj => ?_⟩
    by_cases hj1 : j < a.size
    · rw [e1 j hj1]; exact h2 j hj1
    · obtain ⟨i, rfl⟩ : ∃ i, j = a.size + i := ⟨j - a.size, by omega⟩
      rw [e2 i (by omega), ← e4 i (by omega)]
      exact ⟨(h4 (i + 1) (by omega)).1, fun h => by omega⟩

/-! ### the walk -/
theorem hide {p : Prop} (h : p) : Hid p := h
set_option maxHeartbeats 400000 in
theorem bytes8_any (a b : ByteArray) (w : World) (ha : a.size ≤ maxLen) (hb : b.size ≤ maxLen) :
    Calls Try.prog 8 #[.string a, .string b] w fun e w' => (e = .returned (.bool false) ∨ (e = .returned (.bool true) ∧ a.size + b.size ≤ 1048576)) ∧ w' = w := by
  unfold maxLen at ha hb
  by_cases h1 : 1048576 < a.size
  · have h1' : (1048576 : Int) < (a.size : Int) := by omega
    go_enter Try.func8, Try.ntmps8
    go_wp2_with fail
    go_ret
    exact ⟨Or.inl rfl, rfl⟩
  have h1' : ¬ (1048576 : Int) < (a.size : Int) := by omega
  by_cases h2 : 1048576 < b.size
  · have h2' : (1048576 : Int) < (b.size : Int) := by omega
    go_enter Try.func8, Try.ntmps8
    go_wp2_with fail
    go_ret
    exact ⟨Or.inl rfl, rfl⟩
  have h2' : ¬ (1048576 : Int) < (b.size : Int) := by omega
  by_cases h3 : 1048576 < a.size + b.size
  · have h3' : (1048576 : Int) < (a.size : Int) + (b.size : Int) := by omega
    go_enter Try.func8, Try.ntmps8
    go_wp2_with fail
    go_ret
    exact ⟨Or.inl rfl, rfl⟩
  · have h3' : ¬ (1048576 : Int) < (a.size : Int) + (b.size : Int) := by omega
    go_enter Try.func8, Try.ntmps8
    go_wp2_with fail
    go_ret
    exact ⟨Or.inr ⟨rfl, by omega⟩, rfl⟩

/-- ValidName, as a Bool that the walk does not look into -/
theorem valid_bool (s : ByteArray) (w : World) (hs : s.size ≤ maxLen) :
    Calls Try.prog 6 #[.string s] w fun e w' => ∃ r : Bool, e = .returned (.bool r) ∧ Hid (r = true ↔ Val s) ∧ Below w.heap.size w w' := by
  refine (valid_any s w hs).mono ?_
  rintro e w' ⟨⟨rfl, h⟩ | ⟨rfl, h⟩, hb⟩
  · exact ⟨true, rfl, ⟨fun _ => h, fun _ => rfl⟩, hb⟩
  · exact ⟨false, rfl, ⟨fun h' => (by cases h'), fun h' => absurd h' h⟩, hb⟩

set_option maxHeartbeats 400000 in
theorem law4 (a b : ByteArray) (ha : a.size ≤ maxLen) (hb : b.size ≤ maxLen) (w : World) :
    Calls Try.prog 4 #[.string a, .string b] w fun e w' => e = .returned (.bool true) ∧ Below w.heap.size w w' := by
  go_enter Try.func4, Try.ntmps4
  go_wp2_with fail
  refine (bytes8_any a b _ ha hb).mono ?_
  rintro e w' ⟨rfl | ⟨rfl, hsz⟩, hw⟩
  · rw [hw]
    clear hw
    go_wp2_with fail
    go_ret
    exact ⟨rfl, Below.refl _ _⟩
  rw [hw]
  clear hw
  have hA : (a.size : Int) ≤ 1048576 := by omega
  have hAB : (a.size : Int) + (b.size : Int) ≤ 1048576 := by omega
  have hm : ∀ s : ByteArray, s.size ≤ 2000000 → s.size ≤ maxLen := fun s h => by unfold maxLen; omega
  go_wp2_with fail
  refine (valid_bool (a ++ b) _ (hm _ (by rw [size_app]; omega))).mono ?_
  rintro e w1 ⟨got, rfl, hgot, hb1⟩
  go_upto_if 27 with fail
  go_cut [6] (fun s wx => s = .bool got ∧ Below w.heap.size w wx)
  case first =>
    by_cases h0 : a.size = 0
    · have he := isE_yes a h0
      have H0 := hide h0
      clear h0
      rw [he]
      go_wp2_with fail
      refine (valid_bool b _ hb).mono ?_
      rintro e w2 ⟨r, rfl, hr, hb2⟩
      have hrg : r = got := by rw [Bool.eq_iff_iff, hr.out, hgot.out]; exact (val_left a b H0.out).symm
      subst hrg
      go_wp2_with fail
      go_meet
      case rel => exact ⟨rfl, hb1.trans (hb2.mono hb1.size)⟩
    · have he := isE_no a (by omega)
      rw [he]
      by_cases h1 : b.size = 0
      · have he1 := isE_yes b h1
        have H1 := hide h1
        clear h1 h0
        go_wp2_with fail
        refine (valid_bool a _ ha).mono ?_
        rintro e w2 ⟨r, rfl, hr, hb2⟩
        have hrg : r = got := by rw [Bool.eq_iff_iff, hr.out, hgot.out]; exact (val_right a b H1.out).symm
        subst hrg
        go_wp2_with fail
        go_meet
        case rel => exact ⟨rfl, hb1.trans (hb2.mono hb1.size)⟩
      · have he1 := isE_no b (by omega)
        have p0 : 0 < a.size := by omega
        have p1 : 0 < b.size := by omega
        clear h0 h1
        go_wp2_with fail
        refine (valid_bool a _ ha).mono ?_
        rintro e w2 ⟨r, rfl, hr, hb2⟩
        have hbb2 : Below w.heap.size w w2 := hb1.trans (hb2.mono hb1.size)
        have hvb := val_both a b p0 p1
        cases r with
        | false =>
          have hg0 : got = false := by
            cases got with
            | false => rfl
            | true =>
              have h1 := hvb.1 (hgot.out.1 rfl)
              have h2 := hr.out.2 h1.1
              cases h2
          subst hg0
          clear hvb
          go_wp2_with fail
          go_meet
          case rel => exact ⟨rfl, hbb2⟩
        | true =>
          have hva : Val a := hr.out.1 rfl
          have HVB : Hid (Val (a ++ b) ↔ Val a ∧ Val ((⟨#[95]⟩ : ByteArray) ++ b)) := hvb
          have HVA : Hid (Val a) := hva
          clear hvb hva
          go_wp2_with fail
          refine (valid_bool ((⟨#[95]⟩ : ByteArray) ++ b) _ (hm _ (by rw [size_app]; show 1 + _ ≤ _; omega))).mono ?_
          rintro e w3 ⟨r2, rfl, hr2, hb3⟩
          have hrg : r2 = got := by
            rw [Bool.eq_iff_iff, hr2.out, hgot.out, HVB.out]
            exact ⟨fun h => ⟨HVA.out, h⟩, fun h => h.2⟩
          subst hrg
          go_wp2_with fail
          go_meet
          case rel => exact ⟨rfl, hbb2.trans (hb3.mono hbb2.size)⟩
  case rest =>
    obtain ⟨rfl, hbx⟩ := hcut
    obtain ⟨wx, rfl⟩ : ∃ wx : World, wx = wc := ⟨_, rfl⟩
    have hne : (got != got) = false := by simp
    go_wp2_with fail
    refine (san_any a b wx hsz).mono ?_
    rintro e w2 ⟨out, rfl, hout, hb2⟩
    have hbb2 : Below w.heap.size w w2 := hbx.trans (hb2.mono hbx.size)
    go_wp2_with fail
    refine (valid_any out _ hout.out.2).mono ?_
    rintro e w3 ⟨⟨rfl, h⟩ | ⟨rfl, h⟩, hb3⟩
    · clear h
      go_wp2_with fail
      go_ret
      exact ⟨rfl, hbb2.trans (hb3.mono hbb2.size)⟩
    · exact absurd hout.out.1 h

theorem ownB : ownKnob Try.prog.godebug = none := by kernel_rfl

set_option maxRecDepth 100000 in
theorem liftedB (os : Os) (started : os.Started) (H : Type) (enc : TypeId × Value → H) :
    ReturnsInHanded {} Try.checked os 4 .any (Rows.fnValidNameSplitsAtAnyCutSpec.pre6 enc Try.prog Try.f4 Rows.fnValidNameSplitsAtAnyCutRow.domain false) (Rows.fnValidNameSplitsAtAnyCutSpec.post enc Try.prog Try.f4 false true false false) := by
  refine returnsInHanded_of_change (C := Try.checked) ownB started (by kernel_rfl) Try.func4
    (ChangeSpec.witness6 (enc := enc) (C := Try.checked) false ⟨#[], #[.string ByteArray.empty, .string ByteArray.empty], []⟩ 8 (by kernel_rfl) (by kernel_rfl) (by kernel_rfl) (by kernel_rfl)) ?_
  intro W base args ds gs before hval0 hW hcnd _
  have hval : ∀ (j : Nat) t v, Try.f4.params[j]? = some t → args[j]? = some v → Value.okWide Try.prog W .any base t v := hval0
  have hW' := hW
  obtain ⟨p, q, hA0, hV, rfl, hfz, hnd⟩ := hW
  have hA : DataW.TrodAll enc Try.prog W 0 (fun _ => true) true Try.f4.params.toList args.toList ds p := hA0
  rw [Try.params4] at hA hval
  obtain ⟨v0, vs0, d0, ds0, p0, q0, hargs, rfl, rfl, h0, r0⟩ := trodAll_cons hA
  obtain ⟨v1, vs1, d1, ds1, p1, q1, rfl, rfl, rfl, h1, r1⟩ := trodAll_cons r0
  obtain ⟨rfl, rfl, rfl⟩ := trodAll_nil r1
  obtain rfl : args = #[v0, v1] := by cases args; simp_all
  obtain ⟨rfl, rfl⟩ := trodVars_none hV
  obtain ⟨a0, rfl, rfl, rfl, w0⟩ := open_string Try.underlying9 (hval 0 9 v0 rfl rfl) h0
  obtain ⟨a1, rfl, rfl, rfl, w1⟩ := open_string Try.underlying9 (hval 1 9 v1 rfl rfl) h1
  clear hA0 hval0
  simp only [List.append_nil] at hW'
  refine (law4 a0 a1 w0 w1 W).mono fun e W' ⟨he, bel⟩ => ?_
  subst he
  exact ⟨_, rfl, _, _, _, [], [], [], hW', trodAll_mk1 (shut_bool Try.underlying4 _), (trodAll_cons_mk (shut_string Try.underlying9 w0) (trodAll_cons_mk (shut_string Try.underlying9 w1) trodAll_mk0)), rfl, bel.frame _, fun h => by cases h⟩

theorem overB : Rows.fnValidNameSplitsAtAnyCutRow.holds Try.pinned (OpenSpec.ofChange Rows.fnValidNameSplitsAtAnyCutSpec) :=
  OpenClaim.holds_of_wide 4 Try.f4 rfl rfl rfl rfl rfl rfl rfl ⟨rfl, rfl, rfl, rfl, rfl⟩ rfl rfl rfl rfl rfl (by kernel_rfl) Try.func4 (by kernel_rfl)
    (of_decide_eq_true (by kernel_rfl)) (by unfold Func.isWrapper; first | (rw [if_pos (by decide +kernel)]; kernel_rfl) | (rw [if_neg (by decide +kernel)]; exact ⟨rfl, rfl⟩))
    (fun os started H enc _ => liftedB os started H enc)

theorem splits_proved : Rows.FnValidNameSplitsAtAnyCutSaid := overB
#print axioms splits_proved
end Go.Proofs.Qxb6628336a
