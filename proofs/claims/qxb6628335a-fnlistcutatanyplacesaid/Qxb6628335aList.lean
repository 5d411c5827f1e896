/-
  CONTRACT of input.List.
-/
import Derived.Test.Qxb6628335aBuild
import Derived.Test.Qxb6628335aPlain
namespace Go.Proofs.Qxb6628335a
open Go.RowKit
set_option linter.unusedVariables false

/-- the strings S 0 .. S (n-1) lie behind the slice's address -/
def StrsAt (w : World) (a : Option Addr) (n : Nat) (S : Nat → ByteArray) : Prop :=
  0 < n → ∃ b off, a = some ⟨b, off, none⟩ ∧ ∀ i, i < n → w.cell? ⟨b, off + i, none⟩ = some (.string (S i))
theorem StrsAt.below {w w' : World} {a : Option Addr} {n : Nat} {S : Nat → ByteArray} (h : StrsAt w a n S) (hb : Below w.heap.size w w') : StrsAt w' a n S := by
  intro h0
  obtain ⟨b, off, rfl, hc⟩ := h h0
  have hlt : b < w.heap.size := World.block_lt_of_cell? _ _ (hc 0 h0)
  exact ⟨b, off, rfl, fun i hi => (hb.cell (p := ⟨b, off + i, none⟩) hlt).trans (hc i hi)⟩

theorem hide {p : Prop} (h : p) : Hid p := h
/-- the bytes of name i -/
def fB (S : Nat → ByteArray) : Nat → List UInt8 := fun i => (S i).data.toList

theorem bytes_step (S : Nat → ByteArray) (n k : Nat) (p : ByteArray) (hp : p.data.toList = Names.sep n k) : Lib.byteCells (Names.acc (fB S) n (k + 1)) = (Lib.byteCells (Names.acc (fB S) n k) ++ Lib.strCells p) ++ Lib.strCells (S k) := by
  rw [Lib.strCells_eq, Lib.strCells_eq, hp]
  simp [Names.acc, fB, Lib.byteCells]
theorem bytes_step0 (S : Nat → ByteArray) (n : Nat) : Lib.byteCells (Names.acc (fB S) n (0 + 1)) = Lib.byteCells (Names.acc (fB S) n 0) ++ Lib.strCells (S 0) := by
  rw [Lib.strCells_eq]
  simp [Names.acc, Names.sep, fB, Lib.byteCells]

set_option maxHeartbeats 1000000 in
set_option maxRecDepth 100000 in
theorem list_any (a : Option Addr) (n cap : Nat) (S : Nat → ByteArray) (w : World) (hS : StrsAt w a n S) (hn : n ≤ 1000000) (ht : Names.tot (fB S) n ≤ 10000000) :
    Calls Try.prog 5 #[.slice a n cap] w fun e w' => e = .returned (.string ⟨(Names.list (fB S) n).toArray⟩) ∧ Below w.heap.size w w' := by
  have HS : Hid (StrsAt w a n S) := hS
  have HL : Hid (∀ k, k ≤ n → (Names.acc (fB S) n k).length ≤ 15000000) := fun k hk => by
    have h1 := Names.acc_len (fB S) n k
    have h2 := Names.tot_mono (fB S) hk
    omega
  have HZ : Hid (∀ k, k < n → (S k).size ≤ 10000000) := fun k hk => by
    have h2 := Names.tot_mono (fB S) (show k + 1 ≤ n by omega)
    have h3 : (fB S k).length = (S k).size := by simp [fB]
    simp only [Names.tot] at h2
    omega
  clear hS ht
  go_enter Try.func5, Try.ntmps5
  go_wp2_with fail
  go_loopw [8] (fun x wr => ∃ k : Nat, k ≤ n ∧ x = .int .i64 k ∧ Hid (Lib.IsBuilder 28 5 w.heap.size w.heap.size (Lib.byteCells (Names.acc (fB S) n k)) wr) ∧ Below w.heap.size w wr) (fun x _ => n - (intOf x).toNat)
  case atStart => exact ⟨0, Nat.zero_le _, rfl, Lib.fresh_isBuilder 28 5 w, (Below.refl _ _).alloc (Nat.le_refl _) _⟩
  case round =>
    obtain ⟨k, hk, rfl, hbu, hbr⟩ := hrel
    by_cases hlt : k < n
    · obtain ⟨b, off, rfl, hcell⟩ := (HS.out.below hbr) (by omega)
      have c := hcell k hlt
      have hlk := HL.out k hk
      have hzk := HZ.out k hlt
      clear hcell
      by_cases h0 : k = 0
      · subst h0
        rw [show ((0 : Nat) : Int) = 0 from rfl]
        rw [Nat.add_zero] at c
        go_wp2_with fail
        refine (write_any w.heap.size w.heap.size _ (S 0) wr hbu.out (by rw [Lib.byteCells_length]; omega) hbr.size).mono ?_
        rintro e w1 ⟨rfl, hb1, hbl1⟩
        have HB1 : Hid (Lib.BuilderAt 28 5 w.heap.size w.heap.size (.pointer (some ⟨w.heap.size, 0, none⟩)) (Lib.byteCells (Names.acc (fB S) n 0) ++ Lib.strCells (S 0)) w1) := hb1
        clear hb1
        go_wp2_with fail
        go_roundw
        case rel => exact ⟨0 + 1, by omega, by go_num, by rw [bytes_step0]; exact Or.inr HB1.out, hbr.trans hbl1⟩
        case measure => simp [intOf]; omega
      · have hkp : (0 : Int) < (k : Int) := by omega
        by_cases hl : k = n - 1
        · have hbq : ((k : Int) == (n : Int) - 1) = true := beq_iff_eq.2 (by omega)
          have hsep : (⟨#[32, 97, 110, 100, 32]⟩ : ByteArray).data.toList = Names.sep n k := by unfold Names.sep; rw [if_neg h0, if_pos (by omega)]; rfl
          have HSEP := hide hsep
          clear hsep hl
          go_wp2_with fail
          refine (write_any w.heap.size w.heap.size _ ⟨#[32, 97, 110, 100, 32]⟩ wr hbu.out (by rw [Lib.byteCells_length]; show _ + 5 ≤ _; omega) hbr.size).mono ?_
          rintro e w1 ⟨rfl, hb1, hbl1⟩
          have HB1 : Hid (Lib.BuilderAt 28 5 w.heap.size w.heap.size (.pointer (some ⟨w.heap.size, 0, none⟩)) (Lib.byteCells (Names.acc (fB S) n k) ++ Lib.strCells ⟨#[32, 97, 110, 100, 32]⟩) w1) := hb1
          have hbr1 : Below w.heap.size w w1 := hbr.trans hbl1
          clear hb1 hbl1 c
          go_wp2_with fail
          refine (write_any w.heap.size w.heap.size _ (S k) w1 (Or.inr HB1.out) (by rw [List.length_append, Lib.byteCells_length, Lib.strCells_length]; show _ + 5 + _ ≤ _; omega) hbr1.size).mono ?_
          rintro e w2 ⟨rfl, hb2, hbl2⟩
          have HB2 : Hid (Lib.BuilderAt 28 5 w.heap.size w.heap.size (.pointer (some ⟨w.heap.size, 0, none⟩)) ((Lib.byteCells (Names.acc (fB S) n k) ++ Lib.strCells ⟨#[32, 97, 110, 100, 32]⟩) ++ Lib.strCells (S k)) w2) := hb2
          clear hb2
          go_wp2_with fail
          go_roundw
          case rel => exact ⟨k + 1, by omega, by go_num, by rw [bytes_step S n k ⟨#[32, 97, 110, 100, 32]⟩ HSEP.out]; exact Or.inr HB2.out, hbr1.trans hbl2⟩
          case measure => simp [intOf]; omega
        · have hbq : ((k : Int) == (n : Int) - 1) = false := beq_eq_false_iff_ne.2 (by omega)
          have hsep : (⟨#[44, 32]⟩ : ByteArray).data.toList = Names.sep n k := by unfold Names.sep; rw [if_neg h0, if_neg (by omega)]; rfl
          have HSEP := hide hsep
          clear hsep hl
          go_wp2_with fail
          refine (write_any w.heap.size w.heap.size _ ⟨#[44, 32]⟩ wr hbu.out (by rw [Lib.byteCells_length]; show _ + 2 ≤ _; omega) hbr.size).mono ?_
          rintro e w1 ⟨rfl, hb1, hbl1⟩
          have HB1 : Hid (Lib.BuilderAt 28 5 w.heap.size w.heap.size (.pointer (some ⟨w.heap.size, 0, none⟩)) (Lib.byteCells (Names.acc (fB S) n k) ++ Lib.strCells ⟨#[44, 32]⟩) w1) := hb1
          have hbr1 : Below w.heap.size w w1 := hbr.trans hbl1
          clear hb1 hbl1 c
          go_wp2_with fail
          refine (write_any w.heap.size w.heap.size _ (S k) w1 (Or.inr HB1.out) (by rw [List.length_append, Lib.byteCells_length, Lib.strCells_length]; show _ + 2 + _ ≤ _; omega) hbr1.size).mono ?_
          rintro e w2 ⟨rfl, hb2, hbl2⟩
          have HB2 : Hid (Lib.BuilderAt 28 5 w.heap.size w.heap.size (.pointer (some ⟨w.heap.size, 0, none⟩)) ((Lib.byteCells (Names.acc (fB S) n k) ++ Lib.strCells ⟨#[44, 32]⟩) ++ Lib.strCells (S k)) w2) := hb2
          clear hb2
          go_wp2_with fail
          go_roundw
          case rel => exact ⟨k + 1, by omega, by go_num, by rw [bytes_step S n k ⟨#[44, 32]⟩ HSEP.out]; exact Or.inr HB2.out, hbr1.trans hbl2⟩
          case measure => simp [intOf]; omega
    · go_wp2_with fail
      obtain rfl : k = n := by omega
      refine (Try.Builder_String_any w.heap.size w.heap.size (Names.acc (fB S) k k) wr hbu.out hbr.size).mono ?_
      rintro e w1 ⟨rfl, hb1⟩
      go_wp2_with fail
      go_ret
      exact ⟨rfl, hbr.trans hb1⟩

end Go.Proofs.Qxb6628335a
