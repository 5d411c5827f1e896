/-
  The guard 'zzBytes_FnAppendBuilds..'; a row of entries that the law makes.
-/
import Derived.Test.Qxb6628307aMade
namespace Go.Proofs.Qxb6628307a
open Go.RowKit
set_option linter.unusedVariables false

set_option maxHeartbeats 1000000 in
theorem bytes5_any (a : Option Addr) (len cap : Nat) (E : Nat → Ent) (e1 e2 : Ent) (tal : Bool) (q : Int) (w : World) (hE : EsAt w a len E) (hs : ∀ i, (E i).s.size ≤ maxLen) (h1s : e1.s.size ≤ maxLen) (h2s : e2.s.size ≤ maxLen) (hl : len ≤ maxLen) :
    Calls Try.prog 5 #[.slice a len cap, .agg #[.int .i64 e1.m, .int .i64 e1.n, .string e1.s], .agg #[.int .i64 e2.m, .int .i64 e2.n, .string e2.s], .bool tal, .int .i64 q] w fun e w' => (e = .returned (.bool false) ∨ (e = .returned (.bool true) ∧ SmallE E len ∧ e1.s.size ≤ 1048576 ∧ e2.s.size ≤ 1048576)) ∧ Below w.heap.size w w' := by
  unfold maxLen at hs hl h1s h2s
  have hb2 : ∀ o o', Below w.heap.size w ((w.alloc o).alloc o') := fun o o' => bel_alloc (bel_alloc (Below.refl _ _) _) _
  have HB2 := hide hb2
  by_cases h1 : 1048576 < len
  · have h1' : (1048576 : Int) < (len : Int) := by omega
    go_enter Try.func5, Try.ntmps5
    go_wp2_with fail
    go_ret
    exact ⟨Or.inl rfl, hb2 _ _⟩
  · have h1' : ¬ (1048576 : Int) < (len : Int) := by omega
    have HE : Hid (∀ o o', EsAt ((w.alloc o).alloc o') a len E) := fun o o' => hE.below (hb2 o o')
    clear hb2 hE
    go_enter Try.func5, Try.ntmps5
    go_wp2_with fail
    go_loop [11, 12] (fun z i => ∃ (k : Nat) (zz : Int), k ≤ len ∧ i = .int .i64 k ∧ z = .int .i64 zz ∧ 0 ≤ zz ∧ zz ≤ 1048576 ∧ SmallE E k) (fun _ i => len - (intOf i).toNat)
    case atStart => exact ⟨0, len, Nat.zero_le _, rfl, rfl, by omega, by omega, fun i hi => absurd hi (Nat.not_lt_zero _)⟩
    case round =>
      obtain ⟨k, zz, hk, rfl, rfl, hz, hz', hsm⟩ := hrel
      by_cases hlt : k < len
      · obtain ⟨b, off, rfl, hcell⟩ := HE.out (.cells #[.int .i64 e1.m, .int .i64 e1.n, .string e1.s] 24) (.cells #[.int .i64 e2.m, .int .i64 e2.n, .string e2.s] 24) (by omega)
        obtain ⟨c0, c1, c2⟩ := hcell k hlt
        clear hcell
        have hsk := hs k
        go_wp2_with fail
        · go_ret
          exact ⟨Or.inl rfl, HB2.out _ _⟩
        · go_ret
          exact ⟨Or.inl rfl, HB2.out _ _⟩
        · go_round
          case rel => exact ⟨k + 1, _, by omega, by go_num, rfl, by omega, by omega, smallE_succ hsm (by omega)⟩
          case measure => simp [intOf]; omega
      · go_wp2_with fail
        all_goals first
          | (go_ret; exact ⟨Or.inl rfl, HB2.out _ _⟩)
          | (go_ret; exact ⟨Or.inr ⟨rfl, fun i hi => hsm i (by omega), by omega, by omega⟩, HB2.out _ _⟩)

/-- cell j of a row of entries -/
def entCell (E : Nat → Ent) (j : Nat) : Value := if j % 3 = 0 then .int .i64 (E (j / 3)).m else if j % 3 = 1 then .int .i64 (E (j / 3)).n else .string (E (j / 3)).s

/-- a made row of n entries whose first k are E's -/
def RowE (w : World) (b n : Nat) (E : Nat → Ent) (k : Nat) : Prop := ∃ f : Nat → Value, w.rowIs b 24 (n * 3) f ∧ ∀ j, j < k * 3 → f j = entCell E j

theorem rowE_made (w : World) (z : Array Value) (n : Nat) (E : Nat → Ent) : RowE (w.alloc (.cells (madeCells z (n * 3)) 24)) w.heap.size n E 0 := by
  refine ⟨fun j => ((madeCells z (n * 3))[j]?).getD undef, ?_, fun j hj => by omega⟩
  have := World.rowIs_alloc w (madeCells z (n * 3)) 24 (fun j => ((madeCells z (n * 3))[j]?).getD undef) (fun i hi => by
    rw [Array.getElem?_eq_getElem hi]; rfl)
  rwa [size_madeCells] at this
theorem RowE.alloc {w : World} {b n k : Nat} {E : Nat → Ent} (h : RowE w b n E k) (o : Obj) : RowE (w.alloc o) b n E k := by
  obtain ⟨f, h1, h2⟩ := h
  exact ⟨f, h1.alloc o, h2⟩
theorem RowE.lt {w : World} {b n k : Nat} {E : Nat → Ent} (h : RowE w b n E k) : b < w.heap.size := by
  obtain ⟨f, h1, _⟩ := h
  exact h1.lt
theorem RowE.below {w w' : World} {b n k : Nat} {E : Nat → Ent} (h : RowE w b n E k) (hb : Below w.heap.size w w') : RowE w' b n E k := by
  obtain ⟨f, h1, h2⟩ := h
  exact ⟨f, h1.of_block (hb.block b h1.lt), h2⟩
theorem RowE.congr {w : World} {b n k : Nat} {E E' : Nat → Ent} (h : RowE w b n E k) (e : ∀ i, i < k → E' i = E i) : RowE w b n E' k := by
  obtain ⟨f, h1, h2⟩ := h
  exact ⟨f, h1, fun j hj => by rw [h2 j hj]; unfold entCell; rw [e (j / 3) (by omega)]⟩
theorem RowE.other {w : World} {b n k : Nat} {E : Nat → Ent} (h : RowE w b n E k) {c : Nat} (hc : b ≠ c) (i : Nat) (v0 v1 v2 : Value) :
    RowE (((w.setCell ⟨c, i * 3, none⟩ v0).setCell ⟨c, i * 3 + 1, none⟩ v1).setCell ⟨c, i * 3 + 2, none⟩ v2) b n E k := by
  obtain ⟨f, h1, h2⟩ := h
  exact ⟨f, ((h1.setOther (a := ⟨c, i * 3, none⟩) hc v0).setOther (a := ⟨c, i * 3 + 1, none⟩) hc v1).setOther (a := ⟨c, i * 3 + 2, none⟩) hc v2, h2⟩
theorem RowE.set {w : World} {b n k : Nat} {E : Nat → Ent} (h : RowE w b n E k) :
    RowE (((w.setCell ⟨b, k * 3, none⟩ (.int .i64 (E k).m)).setCell ⟨b, k * 3 + 1, none⟩ (.int .i64 (E k).n)).setCell ⟨b, k * 3 + 2, none⟩ (.string (E k).s)) b n E (k + 1) := by
  obtain ⟨f, h1, h2⟩ := h
  refine ⟨_, ((h1.set (k * 3) (.int .i64 (E k).m)).set (k * 3 + 1) (.int .i64 (E k).n)).set (k * 3 + 2) (.string (E k).s), fun j hj => ?_⟩
  by_cases e2 : j = k * 3 + 2
  · rw [if_pos e2]; unfold entCell; rw [if_neg (by omega), if_neg (by omega), show j / 3 = k by omega]
  · rw [if_neg e2]
    by_cases e1 : j = k * 3 + 1
    · rw [if_pos e1]; unfold entCell; rw [if_neg (by omega), if_pos (by omega), show j / 3 = k by omega]
    · rw [if_neg e1]
      by_cases e0 : j = k * 3
      · rw [if_pos e0]; unfold entCell; rw [if_pos (by omega), show j / 3 = k by omega]
      · rw [if_neg e0]; exact h2 j (by omega)
theorem RowE.cells {w : World} {b n k : Nat} {E : Nat → Ent} (h : RowE w b n E k) {i : Nat} (hi : i < n) : (∃ v, w.cell? ⟨b, i * 3, none⟩ = some v) ∧ (∃ v, w.cell? ⟨b, i * 3 + 1, none⟩ = some v) ∧ (∃ v, w.cell? ⟨b, i * 3 + 2, none⟩ = some v) ∧ ∀ o, w.frozen? ⟨b, o, none⟩ = false := by
  obtain ⟨f, h1, _⟩ := h
  exact ⟨⟨_, h1.cell (i := i * 3) (by omega)⟩, ⟨_, h1.cell (i := i * 3 + 1) (by omega)⟩, ⟨_, h1.cell (i := i * 3 + 2) (by omega)⟩, h1.frozen⟩
theorem RowE.es {w : World} {b n : Nat} {E : Nat → Ent} (h : RowE w b n E n) : EsAt w (some ⟨b, 0, none⟩) n E := by
  obtain ⟨f, h1, h2⟩ := h
  intro _
  refine ⟨b, 0, rfl, fun i hi => ?_⟩
  simp only [Nat.zero_add]
  refine ⟨?_, ?_, ?_⟩
  · rw [h1.cell (by omega), h2 _ (by omega)]; unfold entCell; rw [if_pos (by omega), show i * 3 / 3 = i by omega]
  · rw [h1.cell (by omega), h2 _ (by omega)]; unfold entCell; rw [if_neg (by omega), if_pos (by omega), show (i * 3 + 1) / 3 = i by omega]
  · rw [h1.cell (by omega), h2 _ (by omega)]; unfold entCell; rw [if_neg (by omega), if_neg (by omega), show (i * 3 + 2) / 3 = i by omega]

/-- entry i of the row at block b is set to e -/
def put3 (w : World) (b i : Nat) (e : Ent) : World := ((w.setCell ⟨b, i * 3, none⟩ (.int .i64 e.m)).setCell ⟨b, i * 3 + 1, none⟩ (.int .i64 e.n)).setCell ⟨b, i * 3 + 2, none⟩ (.string e.s)
theorem put3_below {w0 w : World} {B b : Nat} (h : Below B w0 w) (hb : B ≤ b) (i : Nat) (e : Ent) : Below B w0 (put3 w b i e) := ((h.setCell (p := ⟨b, i * 3, none⟩) hb _).setCell (p := ⟨b, i * 3 + 1, none⟩) hb _).setCell (p := ⟨b, i * 3 + 2, none⟩) hb _
theorem put3_set {w : World} {b n k : Nat} {E : Nat → Ent} {e : Ent} (h : RowE w b n E k) (he : E k = e) : RowE (put3 w b k e) b n E (k + 1) := by subst he; exact h.set
theorem put3_other {w : World} {b n k c : Nat} {E : Nat → Ent} (h : RowE w b n E k) (hc : b ≠ c) (i : Nat) (e : Ent) : RowE (put3 w c i e) b n E k := h.other hc i _ _ _
theorem put3_snoc {w : World} {b n k : Nat} {E : Nat → Ent} {e : Ent} (h : RowE w b n E k) : RowE (put3 w b k e) b n (snoc E k e) (k + 1) := put3_set (h.congr (fun i hi => snoc_lt hi)) snoc_at

theorem neq_pos (B : Nat → Nat) (k : Nat) (w : World) : (binOp .neq 26 (.pointer (pos B k)) (.pointer (pos B k))).run Try.prog w = .ok (.bool false) w := by
  by_cases h : k = 0
  · subst h
    rw [pos_zero]
    have hu : Try.prog.underlying 26 = some (.pointer (Try.prog.pointee 26)) := by kernel_rfl
    simpa using run_neq_pointer_nil (P := Try.prog) (w := w) 26 none hu
  · rw [pos_pos B (show 1 ≤ k by omega)]
    exact neq_same _ _

/-- the cells of a zero entry -/
def z24 : Array Value := (Value.agg #[.int .i64 0, .int .i64 0, .string ByteArray.empty]).cells
theorem Try.info24 : (Try.prog.info? 24).map (fun i => (i.zero, i.size, i.bytes)) = some (some (.agg #[.int .i64 0, .int .i64 0, .string ByteArray.empty]), 3, 32) := by kernel_rfl
theorem make24 (n : Nat) (hn : n ≤ 100000) (w : World) : (Instr.makeSlice 22 (.int .i64 ((n : Int) + 1)) (.int .i64 ((n : Int) + 1))).run Try.prog w = .ok (.slice (some ⟨w.heap.size, 0, none⟩) (n + 1) (n + 1)) (w.alloc (.cells (madeCells z24 ((n + 1) * 3)) 24)) := by
  obtain ⟨j, hj, hzz⟩ := Option.map_eq_some_iff.1 Try.info24
  simp only [Prod.mk.injEq] at hzz
  obtain ⟨hz, hs, hb⟩ := hzz
  have := run_make (P := Try.prog) w 22 24 j _ Try.underlying22 hj hz .i64 .i64 ((n : Int) + 1) ((n : Int) + 1) (by omega) (Int.le_refl _) (by rw [hb]; omega) (by omega)
  rw [this, hs, show ((n : Int) + 1).toNat = n + 1 by omega]
  rfl

end Go.Proofs.Qxb6628307a
