/-
  CONTRACT of History.Append: the empty history, and a newest link without a jump.
-/
import Derived.Test.Qxb6628307aTally
import Derived.Deep.RegionHeld3
import Derived.Deep.DrawnRows
import Derived.Deep.QuietTactic
import Derived.BigQuiet
namespace Go.Proofs.Qxb6628307a
open Go.RowKit
attribute [local go_sem ↓] Go.wp_at_zero Go.wp_at_succ
attribute [local go_sem] World.cell?_alloc_lt

theorem bel_alloc {a w : World} (h : Below a.heap.size a w) (o : Obj) : Below a.heap.size a (w.alloc o) := h.alloc h.size o
theorem up1 {a n : Nat} (h : a < n) : a < n + 1 := by omega

/-- what a call of 'set' on the old tally may be taken to do -/
def SetK (q : Option Addr) (m n : Int) (R : World → Option Addr → Prop) (W0 : World) : Prop :=
  q.isSome = true → ∀ W, Below W0.heap.size W0 W → W0.heap.size + 6 ≤ W.heap.size → Calls Try.prog 19 #[.pointer q, .int .i64 m, .int .i64 n] W fun e w' => ∃ k', e = .returned (.pointer k') ∧ Below W.heap.size W w' ∧ R w' k'

/-- what Append leaves of the tally -/
def TallyPost (q : Option Addr) (R : World → Option Addr → Prop) (H : Nat) (w' : World) (q' : Option Addr) : Prop :=
  (q.isSome = false → q' = none) ∧ (q.isSome = true → ∃ w1, R w1 q' ∧ ∀ b o, b < H ∨ H + 6 ≤ b → w'.cell? ⟨b, o, none⟩ = w1.cell? ⟨b, o, none⟩)

theorem bcell {W w1 : World} (hb : Below W.heap.size W w1) : (∀ b o, b < W.heap.size → w1.cell? ⟨b, o, none⟩ = W.cell? ⟨b, o, none⟩) ∧ (∀ b o, b < W.heap.size → w1.frozen? ⟨b, o, none⟩ = W.frozen? ⟨b, o, none⟩) :=
  ⟨fun b o h => hb.cell (p := ⟨b, o, none⟩) h, fun b o h => hb.frozen (p := ⟨b, o, none⟩) h⟩

theorem three_sets (H : Nat) (w1 : World) (v1 v2 v3 : Value) (b o : Nat) (h : b < H ∨ H + 6 ≤ b) : (((w1.setCell ⟨H + 1 + 1 + 1 + 1 + 1, 1, none⟩ v1).setCell ⟨H + 1 + 1, 0, none⟩ v2).setCell ⟨H + 1 + 1, 1, none⟩ v3).cell? ⟨b, o, none⟩ = w1.cell? ⟨b, o, none⟩ := by
  have e : ∀ (W : World) (k o' : Nat) (v : Value), k = H + 2 ∨ k = H + 5 → (W.setCell ⟨k, o', none⟩ v).cell? ⟨b, o, none⟩ = W.cell? ⟨b, o, none⟩ := fun W k o' v hk => World.cell?_setCell_far _ _ _ _ (by show k ≠ b; omega)
  rw [e _ _ _ _ (by omega), e _ _ _ _ (by omega), e _ _ _ _ (by omega)]

set_option maxHeartbeats 1000000 in
theorem append_A (m n : Int) (s : ByteArray) (q : Option Addr) (R : World → Option Addr → Prop) (w : World) (hset : SetK q m n R w) :
    Calls Try.prog 7 #[.agg #[.pointer none, .pointer q], .agg #[.int .i64 m, .int .i64 n, .string s]] w fun e w' => ∃ b q', e = .returned (.agg #[.pointer (some ⟨b, 0, none⟩), .pointer q']) ∧ w.heap.size ≤ b ∧ Below w.heap.size w w' ∧ LinkAt w' b m n s none none 1 ∧ TallyPost q R w.heap.size w' q' := by
  go_enter Try.func7, Try.ntmps7
  go_wp2_with fail
  go_region_held3 (fun w' => w'.cell? ⟨w.heap.size, 0, none⟩ = some (.pointer none) ∧ w'.cell? ⟨w.heap.size, 1, none⟩ = some (.pointer q) ∧ w'.cell? ⟨w.heap.size + 1, 0, none⟩ = some (.int .i64 m) ∧ w'.cell? ⟨w.heap.size + 1, 1, none⟩ = some (.int .i64 n) ∧ w'.cell? ⟨w.heap.size + 1, 2, none⟩ = some (.string s)) (refine ⟨?_, ?_, ?_, ?_, ?_⟩ <;> go_simp)
    (first | (go_at_call 17; refine (len_nil _ _).mono ?_; rintro e w' ⟨rfl, rfl⟩))
  go_wp2_with fail
  go_quiet (fail)
  go_wp2_with fail
  · have hq : q.isSome = true := by assumption
    refine (hset hq _ ?_ ?_).mono ?_
    · repeat (first | exact Below.refl _ _ | refine below_drewN ?_ _ | refine bel_alloc ?_ _ | refine Below.setCell ?_ (by simp; omega) _)
    · simp
    rintro e w1 ⟨k', rfl, hb, hR⟩
    obtain ⟨hc, hf⟩ := bcell hb
    go_wp2_with fail
    refine bodyPost_ret (v := .agg #[.pointer (some ⟨w.heap.size + 1 + 1 + 1 + 1, 0, none⟩), .pointer k']) (by simp [results, Try.results7, go_sem, hc]) rfl ⟨w.heap.size + 1 + 1 + 1 + 1, k', rfl, by omega, ?_, ?_, fun h => (by rw [hq] at h; cases h), fun _ => ⟨w1, hR, three_sets _ _ _ _ _⟩⟩
    · refine ((Below.trans ?_ (hb.mono (by simp; omega))).setCell (by simp; omega) _ |>.setCell (by simp; omega) _).setCell (by simp; omega) _
      repeat (first | exact Below.refl _ _ | refine below_drewN ?_ _ | refine bel_alloc ?_ _ | refine Below.setCell ?_ (by simp; omega) _)
    · clear hset hR hf
      constructor <;> go_simp
  · have hq : q.isSome = false := by assumption
    refine bodyPost_ret (v := .agg #[.pointer (some ⟨w.heap.size + 1 + 1 + 1 + 1, 0, none⟩), .pointer none]) (by simp [results, Try.results7, go_sem]) rfl ⟨w.heap.size + 1 + 1 + 1 + 1, none, rfl, by omega, ?_, ?_, fun _ => rfl, fun h => by rw [hq] at h; cases h⟩
    · repeat (first | exact Below.refl _ _ | refine below_drewN ?_ _ | refine bel_alloc ?_ _ | refine Below.setCell ?_ (by simp; omega) _)
    · constructor <;> go_simp

set_option maxHeartbeats 1000000 in
theorem append_B (m n : Int) (s : ByteArray) (q : Option Addr) (R : World → Option Addr → Prop) (w : World) (hset : SetK q m n R w) (b0 : Nat) (L : Int) (hb0 : b0 < w.heap.size) (h4 : w.cell? ⟨b0, 4, none⟩ = some (.pointer none)) (h5 : w.cell? ⟨b0, 5, none⟩ = some (.int .i64 L)) (hL : 0 ≤ L) (hL' : L ≤ 1000000) :
    Calls Try.prog 7 #[.agg #[.pointer (some ⟨b0, 0, none⟩), .pointer q], .agg #[.int .i64 m, .int .i64 n, .string s]] w fun e w' => ∃ b q', e = .returned (.agg #[.pointer (some ⟨b, 0, none⟩), .pointer q']) ∧ w.heap.size ≤ b ∧ Below w.heap.size w w' ∧ LinkAt w' b m n s (some ⟨b0, 0, none⟩) (some ⟨b0, 0, none⟩) (L + 1) ∧ TallyPost q R w.heap.size w' q' := by
  have q1 := up1 hb0
  have q2 := up1 q1
  have q3 := up1 q2
  have q4 := up1 q3
  have q5 := up1 q4
  go_enter Try.func7, Try.ntmps7
  go_wp2_with fail
  go_region_held3 (fun w' => w'.cell? ⟨w.heap.size, 0, none⟩ = some (.pointer (some ⟨b0, 0, none⟩)) ∧ w'.cell? ⟨w.heap.size, 1, none⟩ = some (.pointer q) ∧ w'.cell? ⟨w.heap.size + 1, 0, none⟩ = some (.int .i64 m) ∧ w'.cell? ⟨w.heap.size + 1, 1, none⟩ = some (.int .i64 n) ∧ w'.cell? ⟨w.heap.size + 1, 2, none⟩ = some (.string s)) (refine ⟨?_, ?_, ?_, ?_, ?_⟩ <;> go_simp)
    (first | (go_at_call 17; refine (len_some b0 L _ _ ?_ ?_).mono ?_; (go_simp); (go_simp); rintro e w' ⟨rfl, rfl⟩))
  go_wp2_with fail
  go_quiet (fail)
  go_wp2_with fail
  · have hq : q.isSome = true := by assumption
    refine (hset hq _ ?_ ?_).mono ?_
    · repeat (first | exact Below.refl _ _ | refine below_drewN ?_ _ | refine bel_alloc ?_ _ | refine Below.setCell ?_ (by simp; omega) _)
    · simp
    rintro e w1 ⟨k', rfl, hb, hR⟩
    obtain ⟨hc, hf⟩ := bcell hb
    go_wp2_with fail
    refine bodyPost_ret (v := .agg #[.pointer (some ⟨w.heap.size + 1 + 1 + 1 + 1, 0, none⟩), .pointer k']) (by simp [results, Try.results7, go_sem, hc]) rfl ⟨w.heap.size + 1 + 1 + 1 + 1, k', rfl, by omega, ?_, ?_, fun h => (by rw [hq] at h; cases h), fun _ => ⟨w1, hR, three_sets _ _ _ _ _⟩⟩
    · refine ((Below.trans ?_ (hb.mono (by simp; omega))).setCell (by simp; omega) _ |>.setCell (by simp; omega) _).setCell (by simp; omega) _
      repeat (first | exact Below.refl _ _ | refine below_drewN ?_ _ | refine bel_alloc ?_ _ | refine Below.setCell ?_ (by simp; omega) _)
    · clear hset hR hf
      constructor <;> go_simp
  · have hq : q.isSome = false := by assumption
    refine bodyPost_ret (v := .agg #[.pointer (some ⟨w.heap.size + 1 + 1 + 1 + 1, 0, none⟩), .pointer none]) (by simp [results, Try.results7, go_sem]) rfl ⟨w.heap.size + 1 + 1 + 1 + 1, none, rfl, by omega, ?_, ?_, fun _ => rfl, fun h => by rw [hq] at h; cases h⟩
    · repeat (first | exact Below.refl _ _ | refine below_drewN ?_ _ | refine bel_alloc ?_ _ | refine Below.setCell ?_ (by simp; omega) _)
    · constructor <;> go_simp


end Go.Proofs.Qxb6628307a
