/-
  THE WALK of FnListCutAtAnyPlace.
-/
import Derived.Test.Qxb6628335aList
import Derived.Laws.CopyOwn
import Derived.Laws.IdiomStrings
import Derived.Laws.BytesArg
import Derived.Deep.OwnRows
import Derived.Deep.DeepCutAuto
import Derived.Deep.RegionHeld3
import Derived.Deep.DrawnRows
import Derived.Deep.QuietTactic
import Derived.BigQuiet
namespace Go.Proofs.Qxb6628335a
open Go.RowKit
set_option linter.unusedVariables false
attribute [local go_sem ↓] Go.wp_at_zero Go.wp_at_succ

set_option maxHeartbeats 400000 in
theorem bytes4_any (a : Option Addr) (n cap : Nat) (k : Int) (S : Nat → ByteArray) (w : World) (hS : StrsAt w a n S) (hs : ∀ i, (S i).size ≤ maxLen) (hl : n ≤ maxLen) :
    Calls Try.prog 4 #[.slice a n cap, .int .i64 k] w fun e w' => (e = .returned (.bool false) ∨ (e = .returned (.bool true) ∧ n + Names.tot (fB S) n ≤ 1048576)) ∧ w' = w := by
  unfold maxLen at hs hl
  have HS : Hid (StrsAt w a n S) := hS
  clear hS
  by_cases h1 : 1048576 < n
  · have h1' : (1048576 : Int) < (n : Int) := by omega
    go_enter Try.func4, Try.ntmps4
    go_wp2
    go_ret
    exact ⟨Or.inl rfl, rfl⟩
  · have h1' : ¬ (1048576 : Int) < (n : Int) := by omega
    go_enter Try.func4, Try.ntmps4
    go_wp2
    go_loop [5, 6] (fun z i => ∃ (j : Nat) (t : Nat), j ≤ n ∧ i = .int .i64 j ∧ z = .int .i64 t ∧ t ≤ 1048576 ∧ Hid (t = n + Names.tot (fB S) j)) (fun _ i => n - (intOf i).toNat)
    case atStart => exact ⟨0, n, Nat.zero_le _, rfl, rfl, by omega, rfl⟩
    case round =>
      obtain ⟨j, t, hj, rfl, rfl, ht, hst⟩ := hrel
      by_cases hlt : j < n
      · obtain ⟨b, off, rfl, hcell⟩ := HS.out (by omega)
        have c := hcell j hlt
        clear hcell
        have hsk := hs j
        go_wp2
        · go_ret
          exact ⟨Or.inl rfl, rfl⟩
        · go_ret
          exact ⟨Or.inl rfl, rfl⟩
        · go_round
          case rel =>
            refine ⟨j + 1, t + (S j).size, by omega, by go_num, by go_num, by omega, ?_⟩
            have h3 : (fB S j).length = (S j).size := by simp [fB]
            have := hst.out
            show _ = n + (Names.tot (fB S) j + (fB S j).length)
            omega
          case measure => simp [intOf]; omega
      · go_wp2
        go_ret
        refine ⟨Or.inr ⟨rfl, ?_⟩, rfl⟩
        obtain rfl : j = n := by omega
        have := hst.out
        omega

theorem conv_own {base : Nat} {v : Value} {l : List UInt8} {w : World} (h : w.ownsRow base 5 1 v l.length (Lib.byteCells l)) : (convert 25 9 v).run Try.prog w = .ok (.string ⟨l.toArray⟩) w := by
  rcases h.2 with ⟨rfl, h0⟩ | ⟨g, cap, cur, rfl, _, hh, hn, _, _, ht⟩
  · obtain rfl : l = [] := List.eq_nil_of_length_eq_zero h0
    exact run_convert_bytes_nil w 25 5 Try.underlying25 Try.underlying5 0 0 9 Try.underlying9
  · refine run_convert_bytes_back w 25 9 5 ⟨g, 0, none⟩ cap l Try.underlying25 Try.underlying5 Try.underlying9 (fun j hj => ?_)
    have e1 : (cur.toList.take (l.length * 1))[j]? = (Lib.byteCells l)[j]? := by rw [ht]
    rw [List.getElem?_take, if_pos (by omega)] at e1
    have e2 : (Lib.byteCells l)[j]? = some (.int .u8 (l[j].toNat : Int)) := by
      unfold Lib.byteCells; rw [List.getElem?_map, List.getElem?_eq_getElem hj]; rfl
    rw [e2] at e1
    have e3 : cur[j]? = some (.int .u8 (l[j].toNat : Int)) := by simpa using e1
    have ha : ((⟨g, 0, none⟩ : Addr).add j) = ⟨g, j, none⟩ := by
      unfold Addr.add
      by_cases hj0 : j = 0 <;> simp [hj0]
    rw [ha]
    simp [World.cell?, hh, e3]

theorem Try.info9 : (Try.prog.info? 9).map (fun i => (i.zero, i.size, i.bytes)) = some (some (.string ByteArray.empty), 1, 16) := by kernel_rfl
theorem size9 : (Try.prog.info? 9).map (·.size) = some 1 := by kernel_rfl

theorem list_one_any (a : Option Addr) (cap : Nat) (S : Nat → ByteArray) (w : World) (hS : StrsAt w a 1 S) (hz : (S 0).size ≤ 1048576) :
    Calls Try.prog 5 #[.slice a ((1 : Nat)) cap] w fun e w' => e = .returned (.string (S 0)) ∧ Below w.heap.size w w' := by
  have := list_any a 1 cap S w hS (by omega) (by simp [Names.tot, fB]; omega)
  rw [Names.list_one] at this
  exact this

theorem strs_shift {w : World} {b off n p : Nat} {S : Nat → ByteArray} (h : StrsAt w (some ⟨b, off, none⟩) n S) (hp : p ≤ n) : StrsAt w (some ⟨b, off + p, none⟩) (n - p) (fun i => S (p + i)) := by
  intro h0
  obtain ⟨b', off', he, hc⟩ := h (by omega)
  cases he
  refine ⟨b, off + p, rfl, fun i hi => ?_⟩
  have := hc (p + i) (by omega)
  rw [← Nat.add_assoc] at this
  exact this

theorem list_letter (a : Option Addr) (n cap : Nat) (S : Nat → ByteArray) (w : World) (hS : StrsAt w a n S) (hn : n ≤ 1000000) (ht : Names.tot (fB S) n ≤ 10000000) :
    Calls Try.prog 5 #[.slice a n cap] w fun e w' => ∃ s, e = .returned (.string s) ∧ Hid (s.data.toList = Names.list (fB S) n) ∧ Below w.heap.size w w' := by
  refine (list_any a n cap S w hS hn ht).mono ?_
  rintro e w' ⟨rfl, hb⟩
  exact ⟨_, rfl, by show _ = _; simp, hb⟩

theorem own_pre {w : World} {B : Nat} {v : Value} {S : Nat → ByteArray} {i : Nat} (h : w.ownsRow B 5 1 v ((Names.pre (fB S) i).length + (S i).size + (⟨#[44, 32]⟩ : ByteArray).size) ((Lib.byteCells (Names.pre (fB S) i) ++ Lib.strCells (S i)) ++ Lib.strCells ⟨#[44, 32]⟩)) :
    w.ownsRow B 5 1 v (Names.pre (fB S) (i + 1)).length (Lib.byteCells (Names.pre (fB S) (i + 1))) := by
  have e1 : (Names.pre (fB S) (i + 1)).length = (Names.pre (fB S) i).length + (S i).size + (⟨#[44, 32]⟩ : ByteArray).size := by
    have h3 : (fB S i).length = (S i).size := by simp [fB]
    have h4 : (⟨#[44, 32]⟩ : ByteArray).size = 2 := rfl
    simp only [Names.pre, List.length_append]
    rw [h3, h4]
    rfl
  have e2 : Lib.byteCells (Names.pre (fB S) (i + 1)) = (Lib.byteCells (Names.pre (fB S) i) ++ Lib.strCells (S i)) ++ Lib.strCells ⟨#[44, 32]⟩ := by
    rw [Lib.strCells_eq, Lib.strCells_eq]
    simp [Names.pre, Names.comma, fB, Lib.byteCells]
  rw [e1, e2]
  exact h

theorem strs_of_row {w : World} {g n : Nat} {cur : List Value} {S : Nat → ByteArray} (hc : cur.length = n) (h : w.heap[g]? = some (.cells (splice cur 0 ((List.range n).map fun i => Value.string (S i))).toArray 9 (0, 0))) : StrsAt w (some ⟨g, 0, none⟩) n S := by
  intro _
  refine ⟨g, 0, rfl, fun i hi => ?_⟩
  have e : (List.map (fun i => Value.string (S i)) (List.range n) ++ List.drop n cur)[i]? = some (Value.string (S i)) := by
    rw [List.getElem?_append_left (by simpa using hi), List.getElem?_map, List.getElem?_range hi]; rfl
  simpa [World.cell?, h, splice] using e

set_option maxHeartbeats 2000000 in
set_option maxRecDepth 100000 in
theorem law3 (a : Option Addr) (n cap : Nat) (k : Int) (S : Nat → ByteArray) (w : World) (hS : StrsAt w a n S) (hs : ∀ i, (S i).size ≤ maxLen) (hl : n ≤ maxLen) (hnil : a = none → n = 0 ∧ cap = 0) (hk1 : -9223372036854775808 ≤ k) (hk2 : k ≤ 9223372036854775807) :
    Calls Try.prog 3 #[.slice a n cap, .int .i64 k] w fun e w' => e = .returned (.bool true) ∧ Below w.heap.size w w' := by
  have HS : Hid (StrsAt w a n S) := hS
  go_enter Try.func3, Try.ntmps3
  go_wp2_with fail
  refine (bytes4_any a n cap k S w hS hs hl).mono ?_
  rintro e w' ⟨rfl | ⟨rfl, htot⟩, hw⟩
  · rw [hw]
    clear hw
    go_wp2_with fail
    go_ret
    exact ⟨rfl, Below.refl _ _⟩
  rw [hw]
  clear hw hS hs hl
  by_cases hbig : 65536 < n
  · have hbig' : (65536 : Int) < (n : Int) := by omega
    go_wp2_with fail
    go_ret
    exact ⟨rfl, Below.refl _ _⟩
  have hsm : ¬ (65536 : Int) < (n : Int) := by omega
  have hnn := fun wx => run_neq_slice_nil_any (P := Try.prog) wx 22 9 a n cap 0 0 Try.underlying22
  have hmk := run_make_row' (P := Try.prog) 22 9 (.string ByteArray.empty) 16 Try.underlying22 Try.info9 rfl .i64 .i64 n (by omega) (by omega)
  go_upto_if 22 with fail
  go_cut [0] (fun s0 wx => ∃ a' c', s0 = .slice a' n c' ∧ n ≤ c' ∧ Hid (StrsAt wx a' n S) ∧ Hid (Below w.heap.size w wx))
  case first =>
    cases a with
    | none =>
      obtain ⟨rfl, rfl⟩ := hnil rfl
      clear hnil
      go_wp2_with fail
      go_meet
      case rel => exact ⟨none, 0, rfl, Nat.le_refl _, HS, Below.refl _ _⟩
    | some x =>
      obtain ⟨X, hX⟩ : ∃ X : List Value, X = (List.range n).map fun i => Value.string (S i) := ⟨_, rfl⟩
      have hXl : X.length = n := by rw [hX]; simp
      have HX := hide hX
      have hX1 : Hid (∀ v ∈ X, v.oneCell' = true) := fun v hv => by
        rw [hX] at hv
        obtain ⟨i, _, rfl⟩ := List.mem_map.1 hv
        rfl
      have hsrc : Hid (∀ (o : Obj), 0 < X.length → (some (⟨w.heap.size, 0, none⟩ : Addr) = some ⟨w.heap.size, 0, none⟩ ∧ ∃ ad, some x = some ad ∧ ∀ j v, X[j]? = some v → (w.alloc o).cell? (ad.add j) = some v)) := by
        intro o hp
        refine ⟨rfl, x, rfl, fun j v hj => ?_⟩
        obtain ⟨b, off, hx, hc⟩ := HS.out (by omega)
        cases hx
        have hjn : j < n := by have := (List.getElem?_eq_some_iff.1 hj).1; omega
        rw [hX, List.getElem?_map, List.getElem?_range hjn] at hj
        have hv : Value.string (S j) = v := Option.some.inj hj
        have ha : ((⟨b, off, none⟩ : Addr).add j) = ⟨b, off + j, none⟩ := by
          unfold Addr.add
          by_cases hj0 : j = 0 <;> simp [hj0]
        rw [ha, World.cell?_alloc_lt _ _ _ (World.block_lt_of_cell? _ _ (hc j hjn)), hc j hjn, hv]
      have hXL := hide hXl
      have hg0 : Hid ((w.alloc (.cells (madeCells #[.string ByteArray.empty] n) 9)).heap[w.heap.size]? = some (.cells (madeCells #[.string ByteArray.empty] n).toList.toArray 9 (0, 0))) := by
        rw [Array.toArray_toList]; exact Deep.blk_alloc_new _ _
      clear hX hXl hnil
      go_wp2_with (refine wpList_copy_splice rfl (.tmp 26) (.tmp 27) 22 22 rfl 9 Try.underlying22 size9 (some ⟨w.heap.size, 0, none⟩) (some x) n n n cap rfl rfl w.heap.size 0 (madeCells #[.string ByteArray.empty] n).toList 9 hg0.out X (by rw [hXL.out]; simp) (hsrc.out _) (by rw [hXL.out]; simp [size_madeCells]) hX1.out w.heap.size w ((Below.refl _ _).alloc (Nat.le_refl _) _) (Nat.le_refl _) ?_; intro w2 hg2 hb2)
      go_wp2_with fail
      go_meet
      case rel => exact ⟨some ⟨w.heap.size, 0, none⟩, n, rfl, Nat.le_refl _, strs_of_row (cur := (madeCells #[.string ByteArray.empty] n).toList) (by simp [size_madeCells]) (by rw [← HX.out]; exact hg2.out), hb2⟩
  case rest =>
    obtain ⟨a', c', rfl, hc', HS', HB⟩ := hcut
    obtain ⟨wx, rfl⟩ : ∃ wx : World, wx = wc := ⟨_, rfl⟩
    have HT : Hid (n + Names.tot (fB S) n ≤ 1048576) := htot
    have HZ : Hid (∀ j, j < n → (S j).size ≤ 1048576) := fun j hj => by
      have h2 := Names.tot_mono (fB S) (show j + 1 ≤ n by omega)
      have h3 : (fB S j).length = (S j).size := by simp [fB]
      simp only [Names.tot] at h2
      omega
    clear hnn hmk htot hnil HS
    have hn16 : (16 : Int) * (n : Int) ≤ 1048576 := by omega
    go_wp2_with fail
    go_loop [6, 7] (fun z i => ∃ (j : Nat) (t : Int), j ≤ n ∧ i = .int .i64 j ∧ z = .int .i64 t ∧ 0 ≤ t ∧ t ≤ 1048576) (fun _ i => n - (intOf i).toNat)
    case atStart => exact ⟨0, _, Nat.zero_le _, rfl, rfl, by omega, by omega⟩
    case round =>
      obtain ⟨j, t, hj, rfl, rfl, ht, ht'⟩ := hrel
      by_cases hlt : j < n
      · obtain ⟨b, off, rfl, hcell⟩ := HS'.out (by omega)
        have c := hcell j hlt
        clear hcell
        have hsk := HZ.out j hlt
        go_wp2_with fail
        · go_ret
          exact ⟨rfl, HB.out⟩
        · go_round
          case rel => exact ⟨j + 1, _, by omega, by go_num, rfl, by omega, by omega⟩
          case measure => simp [intOf]; omega
      · by_cases h0 : n = 0
        · subst h0
          have hz : (((0 : Nat) : Int) == 0) = true := rfl
          go_wp2_with fail
          refine (list_any a' 0 c' S wx HS'.out (by omega) (by simp [Names.tot])).mono ?_
          rintro e w1 ⟨rfl, hb1⟩
          go_wp2_with fail
          go_ret
          exact ⟨rfl, HB.out.trans (hb1.mono HB.out.size)⟩
        have hz : ((n : Int) == 0) = false := beq_eq_false_iff_ne.2 (by omega)
        by_cases h1 : n = 1
        · subst h1
          have hz1 : (((1 : Nat) : Int) == 1) = true := rfl
          obtain ⟨b, off, rfl, hcell⟩ := HS'.out (by omega)
          have c := hcell 0 (by omega)
          rw [Nat.add_zero] at c
          clear hcell
          go_wp2_with fail
          go_region_held3 (fun w' => w'.cell? ⟨b, off, none⟩ = some (.string (S 0))) (first | assumption | go_simp)
            (first | (go_at_call 5; refine (list_one_any _ c' S _ ?_ (HZ.out 0 (by omega))).mono ?_; (first | exact HS'.out | exact HS'.out.below (Below.drew (Below.refl _ _))); rintro e w1 ⟨rfl, hb1⟩; have hcc := (hb1.cell (p := ⟨b, off, none⟩) (World.block_lt_of_cell? _ _ c)).trans c))
          go_wp2_with fail
          go_ret
          exact ⟨rfl, HB.out.drew.trans (hb1.mono HB.out.size)⟩
        have hz1 : ((n : Int) == 1) = false := beq_eq_false_iff_ne.2 (by omega)
        by_cases hk : 0 ≤ k ∧ k ≤ (n : Int) - 2
        · obtain ⟨hk0, hk3⟩ := hk
          obtain ⟨q, rfl⟩ := Int.eq_ofNat_of_zero_le hk0
          clear hk0
          have hq : q + 2 ≤ n := by omega
          obtain ⟨b, off, rfl, hcell⟩ := HS'.out (by omega)
          go_wp2_with fail
          refine (list_letter _ n c' S wx HS'.out (by omega) (by have := HT.out; omega)).mono ?_
          rintro e w1 ⟨whole, rfl, hwhole, hb1⟩
          have HW1 : Hid (StrsAt w1 (some ⟨b, off, none⟩) n S) := HS'.out.below hb1
          have HB1 : Hid (Below w.heap.size w w1) := HB.out.trans (hb1.mono HB.out.size)
          clear hb1 hcell HB HS'
          have HTQ : Hid (∀ p, p ≤ n → Names.tot (fB (fun i => S (p + i))) (n - p) ≤ 10000000) := fun p hp => by
            have h1 := Names.tot_shift (fB S) p (n - p)
            rw [show p + (n - p) = n by omega] at h1
            have := HT.out
            show Names.tot (fun i => fB S (p + i)) (n - p) ≤ 10000000
            omega
          go_wp2_with fail
          refine (list_letter _ (n - q) (c' - q) (fun i => S (q + i)) w1 (strs_shift HW1.out (by omega)) (by omega) (HTQ.out q (by omega))).mono ?_
          rintro e w2 ⟨tail, rfl, htail, hb2⟩
          have HW2 : Hid (StrsAt w2 (some ⟨b, off, none⟩) n S) := HW1.out.below hb2
          have HB2 : Hid (Below w.heap.size w w2) := HB1.out.trans (hb2.mono HB1.out.size)
          clear hb2 HW1 HB1
          go_wp2_with fail
          refine (list_letter _ (n - (n - 2)) (c' - (n - 2)) (fun i => S (n - 2 + i)) w2 (strs_shift HW2.out (by omega)) (by omega) (HTQ.out (n - 2) (by omega))).mono ?_
          rintro e w3 ⟨last2, rfl, hlast, hb3⟩
          have HW3 : Hid (StrsAt w3 (some ⟨b, off, none⟩) n S) := HW2.out.below hb3
          have HB3 : Hid (Below w.heap.size w w3) := HB2.out.trans (hb3.mono HB2.out.size)
          have HP : Hid (∀ i, i ≤ q → (Names.pre (fB S) i).length ≤ 3000000) := fun i hi => by
            have h1 := Names.pre_len (fB S) i
            have h2 := Names.tot_mono (fB S) (show i ≤ n by omega)
            have := HT.out
            omega
          clear hb3 HW2 HB2 HTQ
          obtain ⟨i0, hi0, hz0, hz1', hz2⟩ := info_parts Try.info5
          go_wp2_with fail
          go_loopw [12, 13] (fun v x wr => ∃ (i : Nat) (vv : Value), v = vv ∧ i ≤ q ∧ x = .int .i64 i ∧ Hid (wr.ownsRow w3.heap.size 5 1 vv (Names.pre (fB S) i).length (Lib.byteCells (Names.pre (fB S) i))) ∧ Below w3.heap.size w3 wr) (fun _ x _ => q - (intOf x).toNat)
          case atStart => exact ⟨0, _, rfl, Nat.zero_le _, rfl, World.ownsRow_nil _ _ _ _, Below.refl _ _⟩
          case round =>
            obtain ⟨i, vv, hvv, hi, rfl, hown, hbr⟩ := hrel
            have hvv' := hvv.symm
            clear hvv
            subst hvv'
            by_cases hilt : i < q
            · obtain ⟨b', off', he', hcell⟩ := (HW3.out.below hbr) (by omega)
              cases he'
              have c := hcell i (by omega)
              have hsk := HZ.out i (by omega)
              have hpl := HP.out i hi
              have hsz := hbr.size
              clear hcell
              go_wp2_with (first
                | (at_builtin; refine Lib.wpList_append_own_string _ rfl (.tmp 89) (.tmp 93) 25 9 rfl w3.heap.size 5 i0 Try.underlying25 Try.underlying9 hi0 hz0 hz1' hz2 _ _ _ rfl hown.out (S i) rfl (by unfold maxLen; omega) (by omega) (by omega) ?_; intro v1 w4 hown1 hg1 hn1)
                | (at_builtin; refine Lib.wpList_append_own_string _ rfl (.tmp 95) (.const (.string ⟨#[44, 32]⟩)) 25 9 rfl w3.heap.size 5 i0 Try.underlying25 Try.underlying9 hi0 hz0 hz1' hz2 _ _ _ rfl hown1 ⟨#[44, 32]⟩ rfl (by unfold maxLen; show _ + 2 ≤ _; omega) (by show _ + 2 ≤ _; omega) (by have := hg1.size; omega) ?_; intro v2 w5 hown2 hg2 hn2))
              go_roundw
              case rel =>
                refine ⟨i + 1, _, rfl, by omega, by go_num, own_pre hown2, ?_⟩
                exact (hbr.grown hg1 hsz (fun k hk => (hown.out.lt k hk).1)).grown hg2 (by have := hg1.size; omega) (fun k hk => (hown1.lt k hk).1)
              case measure => simp [intOf]; omega
            · obtain rfl : i = q := by omega
              obtain ⟨b', off', he', hcell⟩ := (HW3.out.below hbr) (by omega)
              cases he'
              have c2 := hcell (n - 2) (by omega)
              have c1 := hcell (n - 1) (by omega)
              have z2 := HZ.out (n - 2) (by omega)
              have z1 := HZ.out (n - 1) (by omega)
              obtain ⟨pS, hpS⟩ : ∃ pS : ByteArray, pS = ⟨(Names.pre (fB S) i).toArray⟩ := ⟨_, rfl⟩
              have hconv : ∀ nq, (convert 25 9 vv).run Try.prog (wr.drewN nq) = .ok (.string pS) (wr.drewN nq) := fun nq => by rw [hpS]; exact conv_own (w := wr.drewN nq) hown.out
              have zp : pS.size ≤ 3000000 := by
                have := HP.out i hi
                rw [hpS]; simpa [ByteArray.size] using this
              have zt : tail.size ≤ 30000000 := by
                have e : tail.data.toList.length = tail.size := by simp
                rw [htail.out] at e
                have h1 := Names.acc_len (fB fun j => S (i + j)) (n - i) (n - i)
                have h2 := Names.tot_shift (fB S) i (n - i)
                rw [show i + (n - i) = n by omega] at h2
                have h3 := HT.out
                have h4 : Names.tot (fB fun j => S (i + j)) (n - i) = Names.tot (fun j => fB S (i + j)) (n - i) := rfl
                unfold Names.list at e
                omega
              have ew : whole = pS ++ tail := by
                apply ByteArray.ext
                apply Array.ext'
                rw [hwhole.out, Names.list_cut (fB S) n i (by omega) (by omega)]
                simp [hpS, ByteArray.data_append, htail.out]
                rfl
              have el : last2 = S (n - 2) ++ ⟨#[32, 97, 110, 100, 32]⟩ ++ S (n - 1) := by
                apply ByteArray.ext
                apply Array.ext'
                rw [hlast.out]
                have h2 : n - (n - 2) = 2 := by omega
                rw [h2]
                have := Names.list_two (fB S) n (by omega)
                show Names.list (fun j => fB S (n - 2 + j)) 2 = _
                rw [this]
                simp [fB, Names.andB, ByteArray.data_append]
              clear hpS hwhole htail hlast
              subst ew el
              clear hcell
              go_upto_region 34 with fail
              go_quiet (fail)
              go_wp2_with fail
              go_ret
              exact ⟨rfl, below_drewN (HB3.out.trans (hbr.mono HB3.out.size)) _⟩
        · go_wp2_with fail
          all_goals (go_ret; exact ⟨rfl, HB.out⟩)

end Go.Proofs.Qxb6628335a
