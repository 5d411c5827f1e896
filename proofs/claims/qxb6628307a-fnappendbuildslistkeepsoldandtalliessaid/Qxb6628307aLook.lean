/-
  READING A TALLY: lookup, lastNumberOf, tallyAgrees.
-/
import Derived.Test.Qxb6628307aHolds
import Derived.Deep.LoopGhost
namespace Go.Proofs.Qxb6628307a
open Go.RowKit
open Go.Deep (BT)
set_option linter.unusedVariables false

set_option maxHeartbeats 400000 in
theorem newTallied_any (w : World) :
    Calls Try.prog 6 #[] w fun e w' => e = .returned (.agg #[.pointer none, .pointer (some ⟨w.heap.size + 1, 0, none⟩)]) ∧ w' = (w.alloc (.cells #[.pointer none, .pointer (some ⟨w.heap.size + 1, 0, none⟩)] 29)).alloc (.cells #[.int .i64 0, .pointer none, .pointer none] 44) := by
  go_enter Try.func6, Try.ntmps6
  go_wp2_with fail
  exact bodyPost_ret (v := .agg #[.pointer none, .pointer (some ⟨w.heap.size + 1, 0, none⟩)]) (by simp [results, Try.results6, go_sem]) rfl ⟨rfl, rfl⟩

set_option maxHeartbeats 400000 in
theorem tallyNumber_any (b : Nat) (a : Int) (w : World) (h : w.cell? ⟨b, 0, none⟩ = some (.int .i64 a)) :
    Calls Try.prog 25 #[.pointer (some ⟨b, 0, none⟩)] w fun e w' => e = .returned (.int .i64 a) ∧ w' = w := by
  go_enter Try.func25, Try.ntmps25
  go_wp2_with fail
  go_ret
  exact ⟨rfl, rfl⟩

set_option maxHeartbeats 400000 in
theorem tallyKids_any (b : Nat) (l r : Option Addr) (w : World) (hb : b < w.heap.size) (h1 : w.cell? ⟨b, 1, none⟩ = some (.pointer l)) (h2 : w.cell? ⟨b, 2, none⟩ = some (.pointer r)) :
    Calls Try.prog 26 #[.pointer (some ⟨b, 0, none⟩)] w fun e w' => e = .returned (.agg #[.pointer l, .pointer r]) ∧ w' = w.alloc (.cells #[.pointer l, .pointer r] 42) := by
  have h1' : ∀ o, (w.alloc o).cell? ⟨b, 1, none⟩ = some (.pointer l) := fun o => by rw [World.cell?_alloc_lt _ _ _ hb]; exact h1
  have h2' : ∀ o, (w.alloc o).cell? ⟨b, 2, none⟩ = some (.pointer r) := fun o => by rw [World.cell?_alloc_lt _ _ _ hb]; exact h2
  go_enter Try.func26, Try.ntmps26
  go_wp2_with fail
  exact bodyPost_ret (v := .agg #[.pointer l, .pointer r]) (by simp [results, Try.results26, go_sem]) rfl ⟨rfl, rfl⟩

theorem hide {p : Prop} (h : p) : Hid p := h
theorem unhide {p : Prop} (h : Hid p) : p := h

/-- how deep a tree is -/
def deep : BT Int → Nat
  | .nil => 0
  | .node _ _ _ l r => deep l + deep r + 1

set_option maxHeartbeats 1000000 in
theorem lookup_any (T : BT Int) (p : Nat) (ok : Nat → Prop) (w : World) (hp : p ≤ 9223372036854775807) (hT : InT ok w T) :
    Calls Try.prog 23 #[.pointer (addr T), .int .i64 p] w fun e w' => e = .returned (.int .i64 (get T p)) ∧ Below w.heap.size w w' := by
  have HT : Hid (InT ok w T) := hT
  clear hT
  go_enter Try.func23, Try.ntmps23
  go_wp2_with fail
  go_loopg [0, 1] (deep T) (fun g t x wr => ∃ (S : BT Int) (y : Nat), deep S ≤ g ∧ t = .pointer (addr S) ∧ x = .int .i64 y ∧ y ≤ 9223372036854775807 ∧ Hid (InT ok w S) ∧ Hid (get S y = get T p) ∧ Below w.heap.size w wr)
  case atStart => exact ⟨T, p, Nat.le_refl _, rfl, rfl, hp, HT, rfl, Below.refl _ _⟩
  case round =>
    obtain ⟨S, y, hg, rfl, rfl, hy, hin, hget, hbr⟩ := hrel
    match S, hin, hget, hg with
    | .nil, hin, hget, hg =>
      simp only [addr]
      go_wp2_with fail
      go_ret
      exact ⟨ret_int (by rw [← hget.out]; rfl), hbr⟩
    | .node b o a l r, hin, hget, hg =>
      obtain ⟨h0, c0, c1, c2, hl, hr⟩ := hin.out
      simp only [addr]
      have hblt : b < w.heap.size := World.block_lt_of_cell? _ _ c0
      have e : ∀ o, wr.cell? ⟨b, o, none⟩ = w.cell? ⟨b, o, none⟩ := fun o => hbr.cell (p := ⟨b, o, none⟩) hblt
      have d0 := (e 0).trans c0
      have d1 := (e 1).trans c1
      have d2 := (e 2).trans c2
      have hblt' : b < wr.heap.size := Nat.lt_of_lt_of_le hblt hbr.size
      clear e c0 c1 c2
      by_cases hy0 : y = 0
      · subst hy0
        have hv : Hid (a = get T p) := by have := hget.out; simp only [get, if_true] at this; exact this
        rw [show ((0 : Nat) : Int) = 0 from rfl]
        go_wp2_with fail
        refine (tallyNumber_any b a _ d0).mono ?_
        rintro e w1 ⟨rfl, hw⟩
        rw [hw]
        clear hw
        go_wp2_with fail
        go_ret
        exact ⟨ret_int hv.out, hbr⟩
      · have hyn : ((y : Int) == 0) = false := beq_eq_false_iff_ne.2 (by omega)
        simp only [deep] at hg
        by_cases he : y % 2 = 0
        · have hand : bits BinOp.and IntKind.i64 (y : Int) 1 = 0 := by rw [and_one_i64]; omega
          have hv : Hid (get l (y / 2) = get T p) := by have := hget.out; simp only [get] at this; rw [if_neg hy0, if_pos he] at this; exact this
          clear he hget hin
          go_wp2_with fail
          refine (tallyKids_any b _ _ _ hblt' d1 d2).mono ?_
          rintro e w1 ⟨rfl, hw⟩
          have hb1 : Below wr.heap.size wr w1 := by rw [hw]; exact bel_alloc (Below.refl _ _) _
          clear hw
          go_wp2_with fail
          go_roundg (gk - 1)
          case measure => omega
          case rel =>
            refine ⟨l, y / 2, by omega, rfl, by go_num, by omega, hl, hv, ?_⟩
            exact (hbr.trans (hb1.mono hbr.size)).alloc (Nat.le_trans hbr.size hb1.size) _
        · have hand : bits BinOp.and IntKind.i64 (y : Int) 1 = 1 := by rw [and_one_i64]; omega
          have hv : Hid (get r (y / 2) = get T p) := by have := hget.out; simp only [get] at this; rw [if_neg hy0, if_neg he] at this; exact this
          clear he hget hin
          go_wp2_with fail
          refine (tallyKids_any b _ _ _ hblt' d1 d2).mono ?_
          rintro e w1 ⟨rfl, hw⟩
          have hb1 : Below wr.heap.size wr w1 := by rw [hw]; exact bel_alloc (Below.refl _ _) _
          clear hw
          go_wp2_with fail
          go_roundg (gk - 1)
          case measure => omega
          case rel =>
            refine ⟨r, y / 2, by omega, rfl, by go_num, by omega, hr, hv, ?_⟩
            exact (hbr.trans (hb1.mono hbr.size)).alloc (Nat.le_trans hbr.size hb1.size) _

/-- the number of p's newest entry among the first k; 0 where it has none -/
def lastN (E : Nat → Ent) : Nat → Int → Int
  | 0, _ => 0
  | k + 1, p => if (E k).m = p then (E k).n else lastN E k p

set_option maxHeartbeats 1000000 in
theorem lastNumber_any (a : Option Addr) (len cap : Nat) (E : Nat → Ent) (p : Int) (w : World) (hl : len ≤ 100000) (hE : EsAt w a len E) :
    Calls Try.prog 24 #[.slice a len cap, .int .i64 p] w fun e w' => e = .returned (.int .i64 (lastN E len p)) ∧ w' = w := by
  have HE : Hid (EsAt w a len E) := hE
  clear hE
  go_enter Try.func24, Try.ntmps24
  go_wp2_with fail
  go_loop [5] (fun x => ∃ k : Nat, k ≤ len ∧ x = .int .i64 ((k : Int) - 1) ∧ Hid (lastN E k p = lastN E len p)) (fun x => (intOf x + 1).toNat)
  case atStart => exact ⟨len, Nat.le_refl _, rfl, rfl⟩
  case round =>
    obtain ⟨k, hk, rfl, hv⟩ := hrel
    by_cases h0 : k = 0
    · subst h0
      rw [show (((0 : Nat) : Int) - 1) = -1 from rfl]
      go_wp2_with fail
      go_ret
      exact ⟨ret_int (by rw [← hv.out]; rfl), rfl⟩
    · obtain ⟨i, rfl⟩ : ∃ i, k = i + 1 := ⟨k - 1, by omega⟩
      obtain ⟨b, off, rfl, hcell⟩ := HE.out (by omega)
      obtain ⟨c0, c1, c2⟩ := hcell i (by omega)
      clear hcell
      rw [show (((i + 1 : Nat) : Int) - 1) = (i : Int) by omega]
      have hv' := hv.out
      simp only [lastN] at hv'
      by_cases hm : (E i).m = p
      · rw [if_pos hm] at hv'
        have HV : Hid ((E i).n = lastN E len p) := hv'
        have hmb : ((E i).m == p) = true := beq_iff_eq.2 hm
        clear hv' hm hv
        go_wp2_with fail
        go_ret
        exact ⟨ret_int HV.out, rfl⟩
      · rw [if_neg hm] at hv'
        have HV : Hid (lastN E i p = lastN E len p) := hv'
        have hmb : ((E i).m == p) = false := beq_eq_false_iff_ne.2 hm
        clear hv' hm hv
        go_wp2_with fail
        go_round
        case rel => exact ⟨i, by omega, rfl, HV⟩
        case measure => simp [intOf] <;> omega

set_option maxHeartbeats 1000000 in
theorem agrees_any (T : BT Int) (ok : Nat → Prop) (a : Option Addr) (len cap : Nat) (E : Nat → Ent) (q : Int) (w : World) (hl : len ≤ 100000) (hE : EsAt w a len E) (hT : InT ok w T) (hn : T ≠ .nil)
    (hm : ∀ i, i < len → 0 ≤ (E i).m ∧ (E i).m ≤ 9223372036854775807) (hq : 0 ≤ q) (hq' : q ≤ 9223372036854775807) (hg : ∀ p : Nat, get T p = lastN E len p) :
    Calls Try.prog 13 #[.pointer (addr T), .slice a len cap, .int .i64 q] w fun e w' => e = .returned (.bool true) ∧ Below w.heap.size w w' := by
  obtain ⟨bt, hbt⟩ : ∃ bt, addr T = some ⟨bt, 0, none⟩ := by
    cases T with
    | nil => exact absurd rfl hn
    | node b o x l r => exact ⟨b, rfl⟩
  have look : ∀ (p : Int) (W : World), Below w.heap.size w W → 0 ≤ p → p ≤ 9223372036854775807 → Calls Try.prog 23 #[.pointer (some ⟨bt, 0, none⟩), .int .i64 p] W fun e w' => e = .returned (.int .i64 (lastN E len p)) ∧ Below W.heap.size W w' := by
    intro p W hW h1 h2
    obtain ⟨n, rfl⟩ := Int.eq_ofNat_of_zero_le h1
    have := lookup_any T n ok W (by omega) (hT.below (fun _ h => h) hW)
    rw [hbt, hg] at this
    exact this
  have LK := hide look
  have HE : Hid (EsAt w a len E) := hE
  have HM : Hid (∀ i, i < len → 0 ≤ (E i).m ∧ (E i).m ≤ 9223372036854775807) := hm
  rw [hbt]
  clear look hE hT hn hg hm hbt
  go_enter Try.func13, Try.ntmps13
  go_wp2_with fail
  go_loopw [7] (fun x wr => ∃ k : Nat, k ≤ len ∧ x = .int .i64 k ∧ Below w.heap.size w wr) (fun x _ => len - (intOf x).toNat)
  case atStart => exact ⟨0, Nat.zero_le _, rfl, Below.refl _ _⟩
  case round =>
    obtain ⟨k, hk, rfl, hbr⟩ := hrel
    by_cases hlt : k < len
    · obtain ⟨b, off, rfl, hcell⟩ := (HE.out.below hbr) (by omega)
      obtain ⟨c0, c1, c2⟩ := hcell k hlt
      obtain ⟨m1, m2⟩ := HM.out k hlt
      clear hcell
      go_wp2_with fail
      refine (unhide LK _ wr hbr m1 m2).mono ?_
      rintro e w1 ⟨rfl, hb1⟩
      have hbw : Below w.heap.size w w1 := hbr.trans (hb1.mono hbr.size)
      go_wp2_with fail
      refine (lastNumber_any _ len cap E (E k).m w1 hl (HE.out.below hbw)).mono ?_
      rintro e w2 ⟨rfl, hw⟩
      rw [hw]
      clear hw
      have hne : (lastN E len (E k).m != lastN E len (E k).m) = false := by simp
      go_wp2_with fail
      go_roundw
      case rel => exact ⟨k + 1, by omega, by go_num, hbw⟩
      case measure => simp [intOf]; omega
    · go_wp2_with fail
      refine (unhide LK _ wr hbr hq hq').mono ?_
      rintro e w1 ⟨rfl, hb1⟩
      have hbw : Below w.heap.size w w1 := hbr.trans (hb1.mono hbr.size)
      go_wp2_with fail
      refine (lastNumber_any _ len cap E q w1 hl (HE.out.below hbw)).mono ?_
      rintro e w2 ⟨rfl, hw⟩
      rw [hw]
      clear hw
      go_wp2_with fail
      go_ret
      exact ⟨by simp, hbw⟩

end Go.Proofs.Qxb6628307a
