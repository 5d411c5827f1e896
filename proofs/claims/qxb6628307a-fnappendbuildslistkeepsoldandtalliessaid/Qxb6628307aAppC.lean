/-
  CONTRACT of History.Append: a newest link with a jump (whose jump has none).
-/
import Derived.Test.Qxb6628307aApp
namespace Go.Proofs.Qxb6628307a
open Go.RowKit
attribute [local go_sem ↓] Go.wp_at_zero Go.wp_at_succ
attribute [local go_sem] World.cell?_alloc_lt

set_option maxHeartbeats 1000000 in
theorem append_C0t (m n : Int) (s : ByteArray) (q : Option Addr) (R : World → Option Addr → Prop) (w : World) (hset : SetK q m n R w) (b0 j0 : Nat) (L Lj : Int) (hb0 : b0 < w.heap.size) (h4 : w.cell? ⟨b0, 4, none⟩ = some (.pointer (some ⟨j0, 0, none⟩))) (h5 : w.cell? ⟨b0, 5, none⟩ = some (.int .i64 L)) (hL : 0 ≤ L) (hL' : L ≤ 1000000) (hj0 : j0 < w.heap.size) (k5 : w.cell? ⟨j0, 5, none⟩ = some (.int .i64 Lj)) (hk : 0 ≤ Lj) (hk' : Lj ≤ 1000000) (k4 : w.cell? ⟨j0, 4, none⟩ = some (.pointer none)) (hc0 : (L - Lj == Lj) = true) :
    Calls Try.prog 7 #[.agg #[.pointer (some ⟨b0, 0, none⟩), .pointer q], .agg #[.int .i64 m, .int .i64 n, .string s]] w fun e w' => ∃ b q', e = .returned (.agg #[.pointer (some ⟨b, 0, none⟩), .pointer q']) ∧ w.heap.size ≤ b ∧ Below w.heap.size w w' ∧ LinkAt w' b m n s (some ⟨b0, 0, none⟩) none (L + 1) ∧ TallyPost q R w.heap.size w' q' := by
  have q1 := up1 hb0
  have q2 := up1 q1
  have q3 := up1 q2
  have q4 := up1 q3
  have q5 := up1 q4
  have r1 := up1 hj0
  have r2 := up1 r1
  have r3 := up1 r2
  have r4 := up1 r3
  have r5 := up1 r4
  go_enter Try.func7, Try.ntmps7
  go_wp2_with fail
  go_region_held3 (fun w' => w'.cell? ⟨w.heap.size, 0, none⟩ = some (.pointer (some ⟨b0, 0, none⟩)) ∧ w'.cell? ⟨w.heap.size, 1, none⟩ = some (.pointer q) ∧ w'.cell? ⟨w.heap.size + 1, 0, none⟩ = some (.int .i64 m) ∧ w'.cell? ⟨w.heap.size + 1, 1, none⟩ = some (.int .i64 n) ∧ w'.cell? ⟨w.heap.size + 1, 2, none⟩ = some (.string s)) (refine ⟨?_, ?_, ?_, ?_, ?_⟩ <;> go_simp)
    (first | (go_at_call 17; refine (len_some b0 L _ _ ?_ ?_).mono ?_; (go_simp); (go_simp); rintro e w' ⟨rfl, rfl⟩))
  go_wp2_with fail
  go_quiet ((go_at_call 18; exact (length_nil _).mono fun _ _ h => ⟨h.1, _, h.2⟩))
  go_wp2_with fail
  · have hq : q.isSome = true := by assumption
    refine (hset hq _ ?_ ?_).mono ?_
    · repeat (first | exact Below.refl _ _ | refine below_drewN ?_ _ | refine bel_alloc ?_ _ | refine Below.setCell ?_ (by simp; omega) _)
    · simp
    rintro e w1 ⟨k', rfl, hb, hR⟩
    obtain ⟨hc, hf⟩ := bcell hb
    go_wp2_with fail
    refine bodyPost_ret (v := .agg #[.pointer (some ⟨w.heap.size + 1 + 1 + 1 + 1, 0, none⟩), .pointer k']) (by simp [results, Try.results7, go_sem, hc]) rfl ⟨w.heap.size + 1 + 1 + 1 + 1, k', rfl, by omega, ?_, ?_, fun h => (by rw [hq] at h; cases h), fun _ => ⟨w1, hR, three_sets _ _ _ _ _⟩⟩
    · refine ((Below.trans ?_ (hb.mono (by simp; omega))).setCell (by simp; omega) _ |>.setCell (by simp; omega) _).setCell (by simp; omega) _
      repeat (first | exact Below.refl _ _ | refine below_drewN ?_ _ | refine bel_alloc ?_ _ | refine Below.setCell ?_ (by simp; omega) _)
    · clear hset hR hf
      constructor <;> go_simp
  · have hq : q.isSome = false := by assumption
    refine bodyPost_ret (v := .agg #[.pointer (some ⟨w.heap.size + 1 + 1 + 1 + 1, 0, none⟩), .pointer none]) (by simp [results, Try.results7, go_sem]) rfl ⟨w.heap.size + 1 + 1 + 1 + 1, none, rfl, by omega, ?_, ?_, fun _ => rfl, fun h => by rw [hq] at h; cases h⟩
    · repeat (first | exact Below.refl _ _ | refine below_drewN ?_ _ | refine bel_alloc ?_ _ | refine Below.setCell ?_ (by simp; omega) _)
    · constructor <;> go_simp

set_option maxHeartbeats 1000000 in
theorem append_C0f (m n : Int) (s : ByteArray) (q : Option Addr) (R : World → Option Addr → Prop) (w : World) (hset : SetK q m n R w) (b0 j0 : Nat) (L Lj : Int) (hb0 : b0 < w.heap.size) (h4 : w.cell? ⟨b0, 4, none⟩ = some (.pointer (some ⟨j0, 0, none⟩))) (h5 : w.cell? ⟨b0, 5, none⟩ = some (.int .i64 L)) (hL : 0 ≤ L) (hL' : L ≤ 1000000) (hj0 : j0 < w.heap.size) (k5 : w.cell? ⟨j0, 5, none⟩ = some (.int .i64 Lj)) (hk : 0 ≤ Lj) (hk' : Lj ≤ 1000000) (k4 : w.cell? ⟨j0, 4, none⟩ = some (.pointer none)) (hc0 : (L - Lj == Lj) = false) :
    Calls Try.prog 7 #[.agg #[.pointer (some ⟨b0, 0, none⟩), .pointer q], .agg #[.int .i64 m, .int .i64 n, .string s]] w fun e w' => ∃ b q', e = .returned (.agg #[.pointer (some ⟨b, 0, none⟩), .pointer q']) ∧ w.heap.size ≤ b ∧ Below w.heap.size w w' ∧ LinkAt w' b m n s (some ⟨b0, 0, none⟩) (some ⟨b0, 0, none⟩) (L + 1) ∧ TallyPost q R w.heap.size w' q' := by
  have q1 := up1 hb0
  have q2 := up1 q1
  have q3 := up1 q2
  have q4 := up1 q3
  have q5 := up1 q4
  have r1 := up1 hj0
  have r2 := up1 r1
  have r3 := up1 r2
  have r4 := up1 r3
  have r5 := up1 r4
  go_enter Try.func7, Try.ntmps7
  go_wp2_with fail
  go_region_held3 (fun w' => w'.cell? ⟨w.heap.size, 0, none⟩ = some (.pointer (some ⟨b0, 0, none⟩)) ∧ w'.cell? ⟨w.heap.size, 1, none⟩ = some (.pointer q) ∧ w'.cell? ⟨w.heap.size + 1, 0, none⟩ = some (.int .i64 m) ∧ w'.cell? ⟨w.heap.size + 1, 1, none⟩ = some (.int .i64 n) ∧ w'.cell? ⟨w.heap.size + 1, 2, none⟩ = some (.string s)) (refine ⟨?_, ?_, ?_, ?_, ?_⟩ <;> go_simp)
    (first | (go_at_call 17; refine (len_some b0 L _ _ ?_ ?_).mono ?_; (go_simp); (go_simp); rintro e w' ⟨rfl, rfl⟩))
  go_wp2_with fail
  go_quiet ((go_at_call 18; exact (length_nil _).mono fun _ _ h => ⟨h.1, _, h.2⟩))
  go_wp2_with fail
  · have hq : q.isSome = true := by assumption
    refine (hset hq _ ?_ ?_).mono ?_
    · repeat (first | exact Below.refl _ _ | refine below_drewN ?_ _ | refine bel_alloc ?_ _ | refine Below.setCell ?_ (by simp; omega) _)
    · simp
    rintro e w1 ⟨k', rfl, hb, hR⟩
    obtain ⟨hc, hf⟩ := bcell hb
    go_wp2_with fail
    refine bodyPost_ret (v := .agg #[.pointer (some ⟨w.heap.size + 1 + 1 + 1 + 1, 0, none⟩), .pointer k']) (by simp [results, Try.results7, go_sem, hc]) rfl ⟨w.heap.size + 1 + 1 + 1 + 1, k', rfl, by omega, ?_, ?_, fun h => (by rw [hq] at h; cases h), fun _ => ⟨w1, hR, three_sets _ _ _ _ _⟩⟩
    · refine ((Below.trans ?_ (hb.mono (by simp; omega))).setCell (by simp; omega) _ |>.setCell (by simp; omega) _).setCell (by simp; omega) _
      repeat (first | exact Below.refl _ _ | refine below_drewN ?_ _ | refine bel_alloc ?_ _ | refine Below.setCell ?_ (by simp; omega) _)
    · clear hset hR hf
      constructor <;> go_simp
  · have hq : q.isSome = false := by assumption
    refine bodyPost_ret (v := .agg #[.pointer (some ⟨w.heap.size + 1 + 1 + 1 + 1, 0, none⟩), .pointer none]) (by simp [results, Try.results7, go_sem]) rfl ⟨w.heap.size + 1 + 1 + 1 + 1, none, rfl, by omega, ?_, ?_, fun _ => rfl, fun h => by rw [hq] at h; cases h⟩
    · repeat (first | exact Below.refl _ _ | refine below_drewN ?_ _ | refine bel_alloc ?_ _ | refine Below.setCell ?_ (by simp; omega) _)
    · constructor <;> go_simp


end Go.Proofs.Qxb6628307a
