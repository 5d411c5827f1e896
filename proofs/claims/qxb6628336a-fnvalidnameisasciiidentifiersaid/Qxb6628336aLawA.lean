/-
  THE WALK of FnValidNameIsAsciiIdentifier, and its row.
-/
import Derived.Test.Qxb6628336aWalks
import Derived.ProofKit
import Derived.OpenShut
import Derived.ShutString
namespace Go.Proofs.Qxb6628336a
open Go.ChangeShapes Go.WideShapes Go.ChangeAt Go.RowKit
open Go.ChangeMaps (open_string shut_string)
set_option linter.unusedVariables false

set_option maxRecDepth 100000 in
set_option maxHeartbeats 1000000 in
theorem identBytes_any (s : ByteArray) (w : World) (hs : s.size ≤ maxLen) :
    Calls Try.prog 7 #[.string s] w fun e w' => ((e = .returned (.bool true) ∧ Val s) ∨ (e = .returned (.bool false) ∧ ¬ Val s)) ∧ w' = w := by
  unfold maxLen at hs
  by_cases h0 : s.size = 0
  · have hV : ¬ Val s := fun h => by have := h.1; omega
    have hz : ((s.size : Int) == 0) = true := beq_iff_eq.2 (by omega)
    go_enter Try.func7, Try.ntmps7
    go_wp2_with fail
    go_ret
    exact ⟨Or.inr ⟨rfl, hV⟩, rfl⟩
  have hz : ((s.size : Int) == 0) = false := beq_eq_false_iff_ne.2 (by omega)
  have hp : 0 < s.size := by omega
  by_cases hd : Dig (byt s 0)
  · have hV : Hid (¬ Val s) := fun h => (h.2 0 hp).2 rfl hd
    rw [byt_eq s 0 hp] at hd
    go_enter Try.func7, Try.ntmps7
    go_wp2_with fail
    refine (digit_yes _ _ hd).mono ?_
    rintro e w' ⟨rfl, hw⟩
    rw [hw]
    clear hw
    go_wp2_with fail
    go_ret
    exact ⟨Or.inr ⟨rfl, hV.out⟩, rfl⟩
  have HD : Hid (¬ Dig (byt s 0)) := hd
  rw [byt_eq s 0 hp] at hd
  go_enter Try.func7, Try.ntmps7
  go_wp2_with fail
  refine (digit_no _ _ hd).mono ?_
  rintro e w' ⟨rfl, hw⟩
  rw [hw]
  clear hw hd
  go_wp2_with fail
  go_loop [3] (fun x => ∃ k : Nat, k ≤ s.size ∧ x = .int .i64 k ∧ Hid (∀ j, j < k → OkAt s j)) (fun x => s.size - (intOf x).toNat)
  case atStart => exact ⟨0, Nat.zero_le _, rfl, fun j hj => absurd hj (Nat.not_lt_zero _)⟩
  case round =>
    obtain ⟨k, hk, rfl, hok⟩ := hrel
    by_cases hlt : k < s.size
    · go_wp2_with fail
      refine (ident_any _ _).mono ?_
      rintro e w' ⟨⟨rfl, hI⟩ | ⟨rfl, hI⟩, hw⟩
      · rw [hw]
        clear hw
        rw [← byt_eq s k hlt] at hI
        have HI : Hid (Idt (byt s k)) := hI
        clear hI
        go_wp2_with fail
        go_round
        case rel => exact ⟨k + 1, by omega, by go_num, ok_succ hok.out ⟨HI.out, fun e => by subst e; exact HD.out⟩⟩
        case measure => simp [intOf]; omega
      · rw [hw]
        clear hw
        rw [← byt_eq s k hlt] at hI
        have HI : Hid (¬ Idt (byt s k)) := hI
        clear hI
        go_wp2_with fail
        go_ret
        exact ⟨Or.inr ⟨rfl, fun h => HI.out (h.2 k hlt).1⟩, rfl⟩
    · go_wp2_with fail
      go_ret
      exact ⟨Or.inl ⟨rfl, hp, fun j hj => hok.out j (by omega)⟩, rfl⟩

set_option maxHeartbeats 400000 in
theorem bytes5_any (s : ByteArray) (w : World) (hs : s.size ≤ maxLen) :
    Calls Try.prog 5 #[.string s] w fun e w' => (e = .returned (.bool false) ∨ (e = .returned (.bool true) ∧ s.size ≤ 1048576)) ∧ w' = w := by
  unfold maxLen at hs
  by_cases h : 1048576 < s.size
  · have h' : (1048576 : Int) < (s.size : Int) := by omega
    go_enter Try.func5, Try.ntmps5
    go_wp2_with fail
    go_ret
    exact ⟨Or.inl rfl, rfl⟩
  · have h' : ¬ (1048576 : Int) < (s.size : Int) := by omega
    go_enter Try.func5, Try.ntmps5
    go_wp2_with fail
    go_ret
    exact ⟨Or.inr ⟨rfl, by omega⟩, rfl⟩

set_option maxHeartbeats 400000 in
theorem law3 (s : ByteArray) (hs : s.size ≤ maxLen) (w : World) :
    Calls Try.prog 3 #[.string s] w fun e w' => e = .returned (.bool true) ∧ Below w.heap.size w w' := by
  go_enter Try.func3, Try.ntmps3
  go_wp2_with fail
  refine (bytes5_any s _ hs).mono ?_
  rintro e w' ⟨rfl | ⟨rfl, hsz⟩, hw⟩
  · rw [hw]
    clear hw
    go_wp2_with fail
    go_ret
    exact ⟨rfl, Below.refl _ _⟩
  rw [hw]
  clear hw
  have hsz' : (s.size : Int) ≤ 1048576 := by omega
  go_wp2_with fail
  refine (valid_any s _ hs).mono ?_
  rintro e w1 ⟨⟨rfl, hV⟩ | ⟨rfl, hV⟩, hb⟩
  · have HV : Hid (Val s) := hV
    clear hV
    go_wp2_with fail
    refine (identBytes_any s _ hs).mono ?_
    rintro e w' ⟨⟨rfl, hV2⟩ | ⟨rfl, hV2⟩, hw⟩
    · rw [hw]
      clear hw
      go_wp2_with fail
      go_ret
      exact ⟨rfl, hb⟩
    · exact absurd HV.out hV2
  · have HV : Hid (¬ Val s) := hV
    clear hV
    go_wp2_with fail
    refine (identBytes_any s _ hs).mono ?_
    rintro e w' ⟨⟨rfl, hV2⟩ | ⟨rfl, hV2⟩, hw⟩
    · exact absurd hV2 HV.out
    · rw [hw]
      clear hw hV2
      go_wp2_with fail
      go_ret
      exact ⟨rfl, hb⟩

theorem own : ownKnob Try.prog.godebug = none := by kernel_rfl

set_option maxRecDepth 100000 in
theorem liftedA (os : Os) (started : os.Started) (H : Type) (enc : TypeId × Value → H) :
    ReturnsInHanded {} Try.checked os 3 .any (Rows.fnValidNameIsAsciiIdentifierSpec.pre6 enc Try.prog Try.f3 Rows.fnValidNameIsAsciiIdentifierRow.domain false) (Rows.fnValidNameIsAsciiIdentifierSpec.post enc Try.prog Try.f3 false true false false) := by
  refine returnsInHanded_of_change (C := Try.checked) own started (by kernel_rfl) Try.func3
    (ChangeSpec.witness6 (enc := enc) (C := Try.checked) false ⟨#[], #[.string ByteArray.empty], []⟩ 8 (by kernel_rfl) (by kernel_rfl) (by kernel_rfl) (by kernel_rfl)) ?_
  intro W base args ds gs before hval0 hW hcnd _
  have hval : ∀ (j : Nat) t v, Try.f3.params[j]? = some t → args[j]? = some v → Value.okWide Try.prog W .any base t v := hval0
  have hW' := hW
  obtain ⟨p, q, hA0, hV, rfl, hfz, hnd⟩ := hW
  have hA : DataW.TrodAll enc Try.prog W 0 (fun _ => true) true Try.f3.params.toList args.toList ds p := hA0
  rw [Try.params3] at hA hval
  obtain ⟨v0, vs0, d0, ds0, p0, q0, hargs, rfl, rfl, h0, r0⟩ := trodAll_cons hA
  obtain ⟨rfl, rfl, rfl⟩ := trodAll_nil r0
  obtain rfl : args = #[v0] := by cases args; simp_all
  obtain ⟨rfl, rfl⟩ := trodVars_none hV
  obtain ⟨a0, rfl, rfl, rfl, w0⟩ := open_string Try.underlying9 (hval 0 9 v0 rfl rfl) h0
  clear hA0 hval0
  simp only [List.append_nil] at hW'
  refine (law3 a0 w0 W).mono fun e W' ⟨he, bel⟩ => ?_
  subst he
  exact ⟨_, rfl, _, _, _, [], [], [], hW', trodAll_mk1 (shut_bool Try.underlying4 _), (trodAll_cons_mk (shut_string Try.underlying9 w0) trodAll_mk0), rfl, bel.frame _, fun h => by cases h⟩

theorem overA : Rows.fnValidNameIsAsciiIdentifierRow.holds Try.pinned (OpenSpec.ofChange Rows.fnValidNameIsAsciiIdentifierSpec) :=
  OpenClaim.holds_of_wide 3 Try.f3 rfl rfl rfl rfl rfl rfl rfl ⟨rfl, rfl, rfl, rfl, rfl⟩ rfl rfl rfl rfl rfl (by kernel_rfl) Try.func3 (by kernel_rfl)
    (of_decide_eq_true (by kernel_rfl)) (by unfold Func.isWrapper; first | (rw [if_pos (by decide +kernel)]; kernel_rfl) | (rw [if_neg (by decide +kernel)]; exact ⟨rfl, rfl⟩))
    (fun os started H enc _ => liftedA os started H enc)

theorem ascii_proved : Rows.FnValidNameIsAsciiIdentifierSaid := overA
#print axioms ascii_proved
end Go.Proofs.Qxb6628336a
