/-
  A slice of entries, opened off its reading.
-/
import Derived.Test.Qxb6628307aBytes
import Derived.ProofKit
import Derived.OpenShut
import Derived.ShutString
import Derived.ChangeOld
import Derived.Below
import Derived.Deep.Slices
import Derived.Deep.Strs
namespace Go.Proofs.Qxb6628307a
open Go.ChangeShapes Go.WideShapes Go.ChangeAt Go.RowKit
open Go.Deep
set_option linter.unusedVariables false

theorem own : ownKnob Try.prog.godebug = none := by kernel_rfl
theorem laidOut : laidOutB Try.prog = true := by kernel_rfl
theorem Try.cells24 : Try.prog.cellsOf 24 = 3 := by kernel_rfl
theorem Try.cells3 : Try.prog.cellsOf 3 = 1 := by kernel_rfl
theorem Try.cells9 : Try.prog.cellsOf 9 = 1 := by kernel_rfl

theorem open_ent {H : Type} {enc : TypeId × Value → H} {w : World} {base : Nat} {sp : Nat → Bool} {hd : Bool} {fuel : Nat} {cs : List Value} {x : DataW H × List MemPlace} (h : DataW.trod enc Try.prog w base sp hd fuel 24 cs = some x) :
    ∃ (m n : Int) (s : ByteArray), cs = [.int .i64 m, .int .i64 n, .string s] ∧ (Lit.int .i64 m).wf = true ∧ (Lit.int .i64 n).wf = true ∧ s.size ≤ maxLen := by
  obtain ⟨y0, y1, y2, n, _, hl, t0, t1, t2⟩ := trod_struct3 Try.underlying24 h
  rw [Try.cells24] at hl
  match cs, hl with
  | [v0, v1, v2], _ =>
    simp [Try.cells3] at t0 t1
    simp [Try.cells9] at t2
    obtain ⟨m, e0, _, wm⟩ := DataW.trod_int Try.underlying3 t0
    obtain ⟨k, e1, _, wk⟩ := DataW.trod_int Try.underlying3 t1
    obtain ⟨s, e2, _, ws⟩ := DataW.trod_string Try.underlying9 t2
    simp at e0 e1 e2
    subst e0 e1 e2
    exact ⟨m, k, s, rfl, wm, wk, ws⟩

theorem open_es {H : Type} {enc : TypeId × Value → H} {w : World} {a : Option Addr} {len cap : Nat} {d : DataW H} {p : List MemPlace}
    (h : DataW.Trod enc Try.prog w 0 (fun _ => true) true 22 (.slice a len cap) d p) :
    len ≤ maxLen ∧ ∃ E : Nat → Ent, EsAt w a len E ∧ ∀ i, (E i).s.size ≤ maxLen ∧ (Lit.int .i64 (E i).m).wf = true ∧ (Lit.int .i64 (E i).n).wf = true := by
  obtain ⟨fuel, hf⟩ := h
  rcases open_slice Try.underlying22 hf with ⟨hcs, _⟩ | ⟨x, l, c, m, n, D, Pl, hcs, _, hl, hm, hmm, _, hx⟩
  · simp [Value.cells] at hcs
    obtain ⟨rfl, rfl, rfl⟩ := hcs
    exact ⟨by unfold maxLen; omega, fun _ => ⟨0, 0, ByteArray.empty⟩, fun h => absurd h (Nat.lt_irrefl _), fun i => ⟨by simp [maxLen], by show (Lit.int .i64 0).wf = true; decide, by show (Lit.int .i64 0).wf = true; decide⟩⟩
  · simp [Value.cells] at hcs
    obtain ⟨rfl, rfl, rfl⟩ := hcs
    simp at hmm
    subst hmm
    rw [Try.cells24] at hx
    have each : ∀ i, i < len → ∃ q : Int × Int × ByteArray, (w.cell? (x.add (i * 3)) = some (.int .i64 q.1) ∧ w.cell? (x.add (i * 3 + 1)) = some (.int .i64 q.2.1) ∧ w.cell? (x.add (i * 3 + 2)) = some (.string q.2.2)) ∧ q.2.2.size ≤ maxLen ∧ (Lit.int .i64 q.1).wf = true ∧ (Lit.int .i64 q.2.1).wf = true := by
      intro i hi
      obtain ⟨cs', h1, h2⟩ := hx i (by omega)
      obtain ⟨_, hlen, hcell⟩ := World.cells?_some h1
      obtain ⟨m, k, s, rfl, wm, wk, ws⟩ := open_ent h2
      have e0 := hcell 0 (by omega)
      have e1 := hcell 1 (by omega)
      have e2 := hcell 2 (by omega)
      rw [add_add] at e0 e1 e2
      exact ⟨(m, k, s), ⟨by simpa using e0, by simpa using e1, by simpa using e2⟩, ws, wm, wk⟩
    obtain ⟨q, hq⟩ := choose_lt each
    refine ⟨by omega, fun i => if i < len then ⟨(q i).1, (q i).2.1, (q i).2.2⟩ else ⟨0, 0, ByteArray.empty⟩, fun h0 => ?_, fun i => ?_⟩
    · obtain ⟨b, off, spot⟩ := x
      have hspot : spot = none := by simpa [Addr.add] using World.cell?_spot (hq 0 h0).1.1
      subst hspot
      refine ⟨b, off, rfl, fun i hi => ?_⟩
      simp only []
      rw [if_pos hi]
      obtain ⟨⟨g0, g1, g2⟩, _⟩ := hq i hi
      rw [add_plain] at g0 g1 g2
      exact ⟨g0, g1, g2⟩
    · by_cases hi : i < len
      · simp only []
        rw [if_pos hi]
        exact (hq i hi).2
      · simp only []
        rw [if_neg hi]
        exact ⟨by simp [maxLen], by decide, by decide⟩

end Go.Proofs.Qxb6628307a
