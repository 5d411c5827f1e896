/-
  THE WALKS of ValidName and of the law's own byte-wise test.
-/
import Derived.Test.Qxb6628336aRows
import Derived.WalkKit
import Derived.WalkSpells
import Derived.WalkLawsBesides
import Derived.Laws.RangeAny
namespace Go.Proofs.Qxb6628336a
open Go.RowKit
set_option linter.unusedVariables false

/-- a digit -/
def Dig (c : Int) : Prop := 48 ≤ c ∧ c ≤ 57
/-- a byte of an identifier -/
def Idt (c : Int) : Prop := c = 95 ∨ (97 ≤ c ∧ c ≤ 122) ∨ (65 ≤ c ∧ c ≤ 90) ∨ (48 ≤ c ∧ c ≤ 57)
/-- the byte at j -/
def byt (s : ByteArray) (j : Nat) : Int := ((s.get! j).toNat : Int)
/-- byte j may stand there -/
def OkAt (s : ByteArray) (j : Nat) : Prop := Idt (byt s j) ∧ (j = 0 → ¬ Dig (byt s j))
/-- a valid name, told over bytes -/
def Val (s : ByteArray) : Prop := 0 < s.size ∧ ∀ j, j < s.size → OkAt s j

theorem byt_eq (s : ByteArray) (j : Nat) (h : j < s.size) : byt s j = ((s[j]'h).toNat : Int) := by
  unfold byt
  have : s.get! j = s[j]'h := by
    simp [ByteArray.get!, getElem!_pos, h]
    rfl
  rw [this]
theorem byt_range (s : ByteArray) (j : Nat) : 0 ≤ byt s j ∧ byt s j ≤ 255 := by
  unfold byt
  have := (s.get! j).toNat_lt
  omega

set_option maxHeartbeats 400000 in
theorem digit_yes (c : Int) (w : World) (h : Dig c) : Calls Try.prog 10 #[.int .u8 c] w fun e w' => e = .returned (.bool true) ∧ w' = w := by
  obtain ⟨h1, h2⟩ := h
  go_enter Try.func10, Try.ntmps10
  go_wp2
  go_ret
  exact ⟨rfl, rfl⟩

set_option maxHeartbeats 400000 in
theorem digit_no (c : Int) (w : World) (h : ¬ Dig c) : Calls Try.prog 10 #[.int .u8 c] w fun e w' => e = .returned (.bool false) ∧ w' = w := by
  unfold Dig at h
  by_cases h1 : 48 ≤ c
  · have h2 : decide (c ≤ 57) = false := by simp; omega
    go_enter Try.func10, Try.ntmps10
    go_wp2
    go_ret
    exact ⟨rfl, rfl⟩
  · have h2 : decide (48 ≤ c) = false := by simp; omega
    go_enter Try.func10, Try.ntmps10
    go_wp2
    go_ret
    exact ⟨rfl, rfl⟩

set_option maxHeartbeats 400000 in
theorem ident_any (c : Int) (w : World) : Calls Try.prog 11 #[.int .u8 c] w fun e w' => ((e = .returned (.bool true) ∧ Idt c) ∨ (e = .returned (.bool false) ∧ ¬ Idt c)) ∧ w' = w := by
  by_cases h1 : c = 95
  · have e1 : (c == 95) = true := by simp [h1]
    have hI : Idt c := Or.inl h1
    clear h1
    go_enter Try.func11, Try.ntmps11
    go_wp2_with fail
    go_ret
    exact ⟨Or.inl ⟨rfl, hI⟩, rfl⟩
  have e1 : (c == 95) = false := by simp [h1]
  by_cases h2 : 97 ≤ c ∧ c ≤ 122
  · have hI : Idt c := Or.inr (Or.inl h2)
    obtain ⟨h2, h3⟩ := h2
    go_enter Try.func11, Try.ntmps11
    go_wp2_with fail
    go_ret
    exact ⟨Or.inl ⟨rfl, hI⟩, rfl⟩
  by_cases hd : Dig c
  · have hI : Idt c := Or.inr (Or.inr (Or.inr hd))
    obtain ⟨d1, d2⟩ := hd
    go_enter Try.func11, Try.ntmps11
    go_wp2_with fail
    refine (digit_yes c _ ⟨d1, d2⟩).mono ?_
    rintro e w' ⟨rfl, hw⟩
    rw [hw]
    clear hw
    go_wp2_with fail
    go_ret
    exact ⟨Or.inl ⟨rfl, hI⟩, rfl⟩
  go_enter Try.func11, Try.ntmps11
  go_wp2_with fail
  all_goals first
    | (refine (digit_no c _ hd).mono ?_
       rintro e w' ⟨rfl, hw⟩
       rw [hw]
       clear hw
       go_wp2_with fail
       go_ret
       exact ⟨Or.inr ⟨rfl, by unfold Idt; unfold Dig at hd; omega⟩, rfl⟩)
    | (go_ret
       exact ⟨Or.inl ⟨rfl, by unfold Idt; omega⟩, rfl⟩)

theorem next_ascii (w : World) (s : ByteArray) (k : Nat) (h : k < s.size) (ha : byt s k < 128) (ty : TypeId) :
    (Instr.next (.pointer (some ⟨w.heap.size, 0, none⟩)) true ty).run Try.prog (w.iter s k) = .ok (.tuple #[.bool true, .int .i64 k, .int .i32 (byt s k)]) (w.iter s (k + 1)) := by
  rw [byt_eq s k h] at *
  exact run_next_ascii w s k ty h (by omega)
theorem next_high (w : World) (s : ByteArray) (k : Nat) (h : k < s.size) (ha : ¬ byt s k < 128) : ∃ (r : Int) (d : Nat), 128 ≤ r ∧ ∀ ty : TypeId,
    (Instr.next (.pointer (some ⟨w.heap.size, 0, none⟩)) true ty).run Try.prog (w.iter s k) = .ok (.tuple #[.bool true, .int .i64 k, .int .i32 r]) (w.iter s (k + d)) := by
  rw [byt_eq s k h] at ha
  exact ⟨_, _, by have := (decode_high s k h (by omega)).1; omega, fun ty => run_next_any w s k ty h⟩
theorem bel_iter (w : World) (s : ByteArray) (k : Nat) : Below w.heap.size w (w.iter s k) := (Below.refl _ _).alloc (Nat.le_refl _) _

theorem isE_no (s : ByteArray) (h : 0 < s.size) : s.toList.isEmpty = false := by
  rw [ByteArray.toList_eq]
  have : s.data.toList.length = s.size := by simp
  cases hl : s.data.toList with
  | nil => rw [hl] at this; simp at this; omega
  | cons a l => rfl
theorem isE_yes (s : ByteArray) (h : s.size = 0) : s.toList.isEmpty = true := by
  rw [ByteArray.toList_eq]
  have : s.data.toList.length = s.size := by simp
  cases hl : s.data.toList with
  | nil => rfl
  | cons a l => rw [hl] at this; simp at this; omega

theorem ok_succ {s : ByteArray} {k : Nat} (h : ∀ j, j < k → OkAt s j) (hk : OkAt s k) : ∀ j, j < k + 1 → OkAt s j := fun j hj => by
  by_cases e : j = k
  · rw [e]; exact hk
  · exact h j (by omega)
theorem ok_95 {c : Int} {k : Nat} (h : (c == 95) = true) : Idt c ∧ (k = 0 → ¬ Dig c) := by
  rw [beq_iff_eq] at h; unfold Idt Dig; omega
theorem ok_no {c : Int} {k : Nat} (t : (c == 95) = false) (h : Idt c ∧ (k = 0 → ¬ Dig c)) (hn : ¬ (97 ≤ c ∧ c ≤ 122) ∧ ¬ (65 ≤ c ∧ c ≤ 90) ∧ ¬ (48 ≤ c ∧ c ≤ 57 ∧ 0 < k)) : False := by
  rw [beq_eq_false_iff_ne] at t
  unfold Idt Dig at h
  omega

set_option maxRecDepth 100000 in
set_option maxHeartbeats 1000000 in
theorem valid_any (s : ByteArray) (w : World) (hs : s.size ≤ maxLen) :
    Calls Try.prog 6 #[.string s] w fun e w' => ((e = .returned (.bool true) ∧ Val s) ∨ (e = .returned (.bool false) ∧ ¬ Val s)) ∧ Below w.heap.size w w' := by
  unfold maxLen at hs
  by_cases h0 : s.size = 0
  · have hV : ¬ Val s := fun h => by have := h.1; omega
    have hne := isE_yes s h0
    go_enter Try.func6, Try.ntmps6
    go_wp2_with fail
    go_ret
    exact ⟨Or.inr ⟨rfl, hV⟩, Below.refl _ _⟩
  have hne := isE_no s (by omega)
  go_enter Try.func6, Try.ntmps6
  go_wp2_with fail
  go_loopw [3, 4] (fun _ _ wr => ∃ k : Nat, k ≤ s.size ∧ wr = w.iter s k ∧ ∀ j, j < k → OkAt s j) (fun _ _ wr => s.size - wr.iterPos w.heap.size)
  case atStart => exact ⟨0, Nat.zero_le _, rfl, fun j hj => absurd hj (Nat.not_lt_zero _)⟩
  case round =>
    obtain ⟨k, hk, rfl, hok⟩ := hrel
    have HO : Hid (∀ j, j < k → OkAt s j) := hok
    clear hok
    by_cases hlt : k < s.size
    · by_cases ha : byt s k < 128
      · have hnx := next_ascii w s k hlt ha
        have hkO : Hid (OkAt s k ↔ (Idt (byt s k) ∧ (k = 0 → ¬ Dig (byt s k)))) := Iff.rfl
        have hkV : Hid (¬ OkAt s k → ¬ Val s) := fun h h' => h (h'.2 k hlt)
        generalize byt s k = c at *
        go_wp2_with fail
        all_goals first
          | (have t : (c == 95) = true := by assumption
             go_roundw
             case rel => exact ⟨k + 1, by omega, rfl, ok_succ HO.out (hkO.out.2 (ok_95 t))⟩
             case measure => simp; omega)
          | (have t : (c == 95) = false := by assumption
             go_roundw
             case rel => exact ⟨k + 1, by omega, rfl, ok_succ HO.out (hkO.out.2 (by unfold Idt Dig; omega))⟩
             case measure => simp; omega)
          | (have t : (c == 95) = false := by assumption
             go_ret
             exact ⟨Or.inr ⟨rfl, hkV.out (fun h => ok_no t (hkO.out.1 h) (by omega))⟩, bel_iter _ _ _⟩)
      · obtain ⟨r, d, hr, hnx⟩ := next_high w s k hlt ha
        have hV : Hid (¬ Val s) := fun h => by
          have := (h.2 k hlt).1
          unfold Idt at this
          omega
        go_wp2_with fail
        go_ret
        exact ⟨Or.inr ⟨rfl, hV.out⟩, bel_iter _ _ _⟩
    · have hnx := fun ty => run_next_end (P := Try.prog) w s k ty hlt
      go_wp2_with fail
      go_ret
      exact ⟨Or.inl ⟨rfl, by omega, fun j hj => HO.out j (by omega)⟩, bel_iter _ _ _⟩

end Go.Proofs.Qxb6628336a
