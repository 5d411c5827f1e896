/-
  A slice of entries that came in; the guard 'zzBytes_FnAppendJumps..'; smallestSkewTerm.
-/
import Derived.Test.Qxb6628307aSmall
namespace Go.Proofs.Qxb6628307a
open Go.RowKit
set_option linter.unusedVariables false

/-- the entries E 0 .. E (len-1) lie behind the slice's address -/
def EsAt (w : World) (a : Option Addr) (len : Nat) (E : Nat → Ent) : Prop :=
  0 < len → ∃ b off, a = some ⟨b, off, none⟩ ∧ ∀ i, i < len → w.cell? ⟨b, off + i * 3, none⟩ = some (.int .i64 (E i).m) ∧ w.cell? ⟨b, off + i * 3 + 1, none⟩ = some (.int .i64 (E i).n) ∧ w.cell? ⟨b, off + i * 3 + 2, none⟩ = some (.string (E i).s)

/-- each of the first k data is short -/
def SmallE (E : Nat → Ent) (k : Nat) : Prop := ∀ i, i < k → (E i).s.size ≤ 1048576
theorem smallE_succ {E : Nat → Ent} {k : Nat} (h : SmallE E k) (hk : ((E k).s.size : Int) ≤ 1048576) : SmallE E (k + 1) := by
  intro i hi
  by_cases e : i = k
  · subst e; omega
  · exact h i (by omega)

set_option maxHeartbeats 400000 in
theorem bytes4_any (a : Option Addr) (len cap : Nat) (E : Nat → Ent) (w : World) (hE : EsAt w a len E) (hs : ∀ i, (E i).s.size ≤ maxLen) (hl : len ≤ maxLen) :
    Calls Try.prog 14 #[.slice a len cap] w fun e w' => (e = .returned (.bool false) ∨ (e = .returned (.bool true) ∧ SmallE E len)) ∧ w' = w := by
  unfold maxLen at hs hl
  by_cases h1 : 1048576 < len
  · have h1' : (1048576 : Int) < (len : Int) := by omega
    go_enter Try.func14, Try.ntmps14
    go_wp2
    go_ret
    exact ⟨Or.inl rfl, rfl⟩
  · have h1' : ¬ (1048576 : Int) < (len : Int) := by omega
    go_enter Try.func14, Try.ntmps14
    go_wp2
    go_loop [3, 4] (fun z i => ∃ (k : Nat) (zz : Int), k ≤ len ∧ i = .int .i64 k ∧ z = .int .i64 zz ∧ 0 ≤ zz ∧ zz ≤ 1048576 ∧ SmallE E k) (fun _ i => len - (intOf i).toNat)
    case atStart => exact ⟨0, len, Nat.zero_le _, rfl, rfl, by omega, by omega, fun i hi => absurd hi (Nat.not_lt_zero _)⟩
    case round =>
      obtain ⟨k, zz, hk, rfl, rfl, hz, hz', hsm⟩ := hrel
      by_cases hlt : k < len
      · obtain ⟨b, off, rfl, hcell⟩ := hE (by omega)
        obtain ⟨c0, c1, c2⟩ := hcell k hlt
        have hsk := hs k
        go_wp2
        · go_ret
          exact ⟨Or.inl rfl, rfl⟩
        · go_ret
          exact ⟨Or.inl rfl, rfl⟩
        · go_round
          case rel => exact ⟨k + 1, _, by omega, by go_num, rfl, by omega, by omega, smallE_succ hsm (by omega)⟩
          case measure => simp [intOf]; omega
      · go_wp2
        go_ret
        exact ⟨Or.inr ⟨rfl, fun i hi => hsm i (by omega)⟩, rfl⟩


theorem ret_int {k : IntKind} {a b : Int} (h : a = b) : Ending.returned (.int k a) = .returned (.int k b) := by rw [h]
theorem fin_end {m' w' x : Nat} (h : m' = 0) (hf : Skew.fin m' w' = x) : (w' : Int) = (x : Nat) := by
  subst h; rw [← hf]; simp [Skew.fin]

set_option maxHeartbeats 400000 in
theorem skew_any (m : Nat) (w : World) (hm : m ≤ 1000000) :
    Calls Try.prog 15 #[.int .i64 m] w fun e w' => e = .returned (.int .i64 (Skew.fin m 0 : Nat)) ∧ w' = w := by
  go_enter Try.func15, Try.ntmps15
  go_wp2
  go_loop [0, 3, 4] (fun x y _ => ∃ m' w' : Nat, m' ≤ m ∧ x = .int .i64 m' ∧ y = .int .i64 w' ∧ Hid (Skew.fin m' w' = Skew.fin m 0)) (fun x _ _ => (intOf x).toNat)
  case atStart => exact ⟨m, 0, Nat.le_refl _, rfl, rfl, rfl⟩
  case round =>
    obtain ⟨m', w', hm', rfl, rfl, hf⟩ := hrel
    by_cases h0 : 0 < m'
    · go_wp2
      go_loop [4] (fun t => ∃ t' : Nat, 1 ≤ t' ∧ t' ≤ m' ∧ Skew.Ones t' ∧ t = .int .i64 t') (fun t => m' - (intOf t).toNat)
      case atStart => exact ⟨1, by omega, by omega, Skew.Ones.one, rfl⟩
      case round =>
        obtain ⟨t', h1, h2, h3, rfl⟩ := hrel
        by_cases hlt : 2 * t' + 1 ≤ m'
        · go_wp2
          go_round
          case rel => exact ⟨2 * t' + 1, by omega, by omega, h3.step, by go_num⟩
          case measure => simp [intOf]; omega
        · go_wp2
          go_round
          case rel => exact ⟨m' - t', t', by omega, by go_num, rfl, (Skew.fin_step (w := w') ⟨h3, h1, h2, by omega⟩).trans hf⟩
          case measure => simp [intOf]; omega
    · go_wp2
      go_ret
      exact ⟨ret_int (fin_end (by omega) hf.out), rfl⟩

end Go.Proofs.Qxb6628307a
