/-
  'Rows.FnAppendBuildsListKeepsOldAndTalliesSaid', proved: the two walks (LawB, LawC) lifted to the row.
-/
import Derived.Test.Qxb6628307aLawB
import Derived.Test.Qxb6628307aLawC
import Derived.Test.Qxb6628307aOpen
import Derived.Lib.SmallJoins
namespace Go.Proofs.Qxb6628307a
open Go.ChangeShapes Go.WideShapes Go.ChangeAt Go.RowKit
open Go.Joins (open_agg3)
set_option linter.unusedVariables false

theorem i64_le {n : Int} (h : (Lit.int .i64 n).wf = true) : n ≤ 9223372036854775807 := by
  have := bounds_i64 h
  omega

theorem open_e {H : Type} {enc : TypeId × Value → H} {w : World} {b0 : Nat} {v : Value} {d : DataW H} {p : List MemPlace} (hv : Value.okWide Try.prog w .any b0 24 v) (h : DataW.Trod enc Try.prog w 0 (fun _ => true) true 24 v d p) :
    ∃ e : Ent, v = .agg #[.int .i64 e.m, .int .i64 e.n, .string e.s] ∧ e.s.size ≤ maxLen ∧ e.m ≤ 9223372036854775807 := by
  obtain ⟨c0, c1, c2, y0, y1, y2, n, rfl, _, _, t0, t1, t2⟩ := open_agg3 Try.underlying24 (by kernel_rfl) Try.cells24 hv h
  obtain ⟨m, e0, _, wm⟩ := DataW.trod_int Try.underlying3 t0
  obtain ⟨k, e1, _, wk⟩ := DataW.trod_int Try.underlying3 t1
  obtain ⟨s, e2, _, ws⟩ := DataW.trod_string Try.underlying9 t2
  simp at e0 e1 e2
  subst e0 e1 e2
  exact ⟨⟨m, k, s⟩, rfl, ws, i64_le wm⟩

theorem law3 (a : Option Addr) (len cap : Nat) (E : Nat → Ent) (e1 e2 : Ent) (tal : Bool) (q : Int) (w : World) (hE : EsAt w a len E) (hs : ∀ i, (E i).s.size ≤ maxLen) (h1s : e1.s.size ≤ maxLen) (h2s : e2.s.size ≤ maxLen) (hl : len ≤ maxLen) (hEm : ∀ i, (E i).m ≤ 9223372036854775807) (h1m : e1.m ≤ 9223372036854775807) (h2m : e2.m ≤ 9223372036854775807) (hq2 : q ≤ 9223372036854775807) :
    Calls Try.prog 3 #[.slice a len cap, .agg #[.int .i64 e1.m, .int .i64 e1.n, .string e1.s], .agg #[.int .i64 e2.m, .int .i64 e2.n, .string e2.s], .bool tal, .int .i64 q] w fun e w' => e = .returned (.bool true) ∧ Below w.heap.size w w' := by
  cases tal with
  | false => exact law3_un a len cap E e1 e2 q w hE hs h1s h2s hl
  | true => exact law3_ta a len cap E e1 e2 q w hE hs h1s h2s hl hEm h1m h2m hq2

set_option maxRecDepth 100000 in
theorem liftedB (os : Os) (started : os.Started) (H : Type) (enc : TypeId × Value → H) :
    ReturnsInHanded {} Try.checked os 3 .any (Rows.fnAppendBuildsListKeepsOldAndTalliesSpec.pre6 enc Try.prog Try.f3 Rows.fnAppendBuildsListKeepsOldAndTalliesRow.domain false) (Rows.fnAppendBuildsListKeepsOldAndTalliesSpec.post enc Try.prog Try.f3 false true false false) := by
  refine returnsInHanded_of_change (C := Try.checked) own started (by kernel_rfl) Try.func3
    (ChangeSpec.witness6 (enc := enc) (C := Try.checked) false ⟨#[], #[.slice none 0 0, .agg #[.int .i64 0, .int .i64 0, .string ByteArray.empty], .agg #[.int .i64 0, .int .i64 0, .string ByteArray.empty], .bool false, .int .i64 0], []⟩ 8 (by kernel_rfl) (by kernel_rfl) (by kernel_rfl) (by kernel_rfl)) ?_
  intro W base args ds gs before hval0 hW hcnd _
  have hval : ∀ (j : Nat) t v, Try.f3.params[j]? = some t → args[j]? = some v → Value.okWide Try.prog W .any base t v := hval0
  have hW' := hW
  obtain ⟨p, q, hA0, hV, rfl, hfz, hnd⟩ := hW
  have hA : DataW.TrodAll enc Try.prog W 0 (fun _ => true) true Try.f3.params.toList args.toList ds p := hA0
  rw [Try.params3] at hA hval
  obtain ⟨v0, vs0, d0, ds0, p0, q0, hargs, rfl, rfl, h0, r0⟩ := trodAll_cons hA
  obtain ⟨v1, vs1, d1, ds1, p1, q1, rfl, rfl, rfl, h1, r1⟩ := trodAll_cons r0
  obtain ⟨v2, vs2, d2, ds2, p2, q2, rfl, rfl, rfl, h2, r2⟩ := trodAll_cons r1
  obtain ⟨v3, vs3, d3, ds3, p3, q3, rfl, rfl, rfl, h3, r3⟩ := trodAll_cons r2
  obtain ⟨v4, vs4, d4, ds4, p4, q4, rfl, rfl, rfl, h4, r4⟩ := trodAll_cons r3
  obtain ⟨rfl, rfl, rfl⟩ := trodAll_nil r4
  obtain rfl : args = #[v0, v1, v2, v3, v4] := by cases args; simp_all
  obtain ⟨rfl, rfl⟩ := trodVars_none hV
  obtain ⟨a0, len0, cap0, rfl⟩ := okWide_slice Try.underlying22 (hval 0 22 v0 rfl rfl)
  have lt0 : ∀ x ∈ p0, x.block < W.heap.size := by obtain ⟨m, hm⟩ := h0; exact DataW.trod_lt m _ _ _ hm
  have lt1 : ∀ x ∈ p1, x.block < W.heap.size := by obtain ⟨m, hm⟩ := h1; exact DataW.trod_lt m _ _ _ hm
  have lt2 : ∀ x ∈ p2, x.block < W.heap.size := by obtain ⟨m, hm⟩ := h2; exact DataW.trod_lt m _ _ _ hm
  obtain ⟨hl, E, hE, hs⟩ := open_es h0
  obtain ⟨e1, rfl, s1, m1⟩ := open_e (hval 1 24 v1 rfl rfl) h1
  obtain ⟨e2, rfl, s2, m2⟩ := open_e (hval 2 24 v2 rfl rfl) h2
  obtain ⟨tal, rfl, rfl, rfl⟩ := open_bool Try.underlying4 (hval 3 4 v3 rfl rfl) h3
  obtain ⟨x4, rfl, rfl, rfl, w4⟩ := open_int Try.underlying3 (hval 4 3 v4 rfl rfl) h4
  clear hA0 hval0
  refine (law3 a0 len0 cap0 E e1 e2 tal x4 W hE (fun i => (hs i).1) s1 s2 hl (fun i => i64_le (hs i).2.1) m1 m2 (i64_le w4)).mono fun e W' ⟨he, bel⟩ => ?_
  subst he
  exact ⟨_, rfl, _, _, _, [], _, [], hW', trodAll_mk1 (shut_bool Try.underlying4 _), (trodAll_cons_mk (Below.trod laidOut (by kernel_rfl) (of_decide_eq_true (by kernel_rfl)) h0 bel lt0) (trodAll_cons_mk (Below.trod laidOut (by kernel_rfl) (of_decide_eq_true (by kernel_rfl)) h1 bel lt1) (trodAll_cons_mk (Below.trod laidOut (by kernel_rfl) (of_decide_eq_true (by kernel_rfl)) h2 bel lt2) (trodAll_cons_mk (shut_bool Try.underlying4 _) (trodAll_cons_mk (shut_int Try.underlying3 w4) trodAll_mk0))))), rfl, bel.frame _, fun h => by cases h⟩

theorem overB : Rows.fnAppendBuildsListKeepsOldAndTalliesRow.holds Try.pinned (OpenSpec.ofChange Rows.fnAppendBuildsListKeepsOldAndTalliesSpec) :=
  OpenClaim.holds_of_wide 3 Try.f3 rfl rfl rfl rfl rfl rfl rfl ⟨rfl, rfl, rfl, rfl, rfl⟩ rfl rfl rfl rfl rfl (by kernel_rfl) Try.func3 (by kernel_rfl)
    (of_decide_eq_true (by kernel_rfl)) (by unfold Func.isWrapper; first | (rw [if_pos (by decide +kernel)]; kernel_rfl) | (rw [if_neg (by decide +kernel)]; exact ⟨rfl, rfl⟩))
    (fun os started H enc _ => liftedB os started H enc)

theorem builds_proved : Rows.FnAppendBuildsListKeepsOldAndTalliesSaid := overB
#print axioms builds_proved
end Go.Proofs.Qxb6628307a
