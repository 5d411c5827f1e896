/-
  THE WALK of FnAppendBuildsListKeepsOldAndTallies, the history kept with its tally.
-/
import Derived.Test.Qxb6628307aBytesB
import Derived.Deep.DeepCutAuto
namespace Go.Proofs.Qxb6628307a
open Go.RowKit
open Go.Deep (BT)
set_option linter.unusedVariables false
attribute [local go_sem ↓] Go.wp_at_zero Go.wp_at_succ
attribute [local go_sem] World.cell?_alloc_lt

def MOK (tal : Bool) (m : Int) : Prop := tal = true → 0 ≤ m ∧ m ≤ 9223372036854775807
theorem MOK.get {tal : Bool} {m : Int} (h : MOK tal m) : tal = true → 0 ≤ m ∧ m ≤ 9223372036854775807 := h

theorem start_ta (w0 : World) (E : Nat → Ent) :
    Built w0 w0.heap.size (((w0.alloc (.cells #[.pointer none, .pointer (some ⟨w0.heap.size + 1 + 1, 0, none⟩)] 29)).alloc (.cells #[.pointer none, .pointer (some ⟨w0.heap.size + 1 + 1, 0, none⟩)] 29)).alloc (.cells #[.int .i64 0, .pointer none, .pointer none] 44)) (fun _ => 0) E 0 (some ⟨w0.heap.size + 1 + 1, 0, none⟩) ∧
    TI true (((w0.alloc (.cells #[.pointer none, .pointer (some ⟨w0.heap.size + 1 + 1, 0, none⟩)] 29)).alloc (.cells #[.pointer none, .pointer (some ⟨w0.heap.size + 1 + 1, 0, none⟩)] 29)).alloc (.cells #[.int .i64 0, .pointer none, .pointer none] 44)) (fun b => b ≠ w0.heap.size) (.node (w0.heap.size + 1 + 1) 0 0 .nil .nil) E 0 := by
  refine ⟨⟨bel_alloc (bel_alloc (bel_alloc (Below.refl _ _) _) _) _, Nat.le_refl _, by simp; omega, by rw [pos_zero]; go_simp, by go_simp, by go_simp, by go_simp, fun k h1 h2 => by omega, fun k h1 h2 => by omega⟩, Or.inr ⟨rfl, by simp, ⟨⟨by simp, by omega⟩, by go_simp, by simp only [addr]; go_simp, by simp only [addr]; go_simp, trivial, trivial⟩, fun p => by simp [get, lastN]⟩⟩

theorem agree_ti {T : BT Int} {P : Nat → Prop} {a : Option Addr} {len cap : Nat} {E : Nat → Ent} {q : Int} {wz : World} (hT : TI true wz P T E len) (hE : EsAt wz a len E) (hl : len ≤ 100000) (hm : ∀ i, i < len → 0 ≤ (E i).m ∧ (E i).m ≤ 9223372036854775807) (hq : 0 ≤ q) (hq' : q ≤ 9223372036854775807) (W : World) (hW : Below wz.heap.size wz W) :
    Calls Try.prog 13 #[.pointer (addr T), .slice a len cap, .int .i64 q] W fun e w' => e = .returned (.bool true) ∧ Below W.heap.size W w' := by
  rcases hT with ⟨h, _⟩ | ⟨_, hn, hin, hg⟩
  · cases h
  · exact agrees_any T (fun b => b < wz.heap.size ∧ P b) a len cap E q W hl (hE.below hW) (hin.below (fun _ h => h) hW) hn hm hq hq' hg

theorem snoc_all {E : Nat → Ent} {j : Nat} {e : Ent} {Q : Ent → Prop} (h : ∀ i, i < j → Q (E i)) (he : Q e) : ∀ i, i < j + 1 → Q (snoc E j e i) := by
  intro i hi
  by_cases h' : i = j
  · rw [h', snoc_at]; exact he
  · rw [snoc_lt (by omega)]; exact h i (by omega)

set_option maxRecDepth 100000 in
set_option maxHeartbeats 4000000 in
theorem law3_ta (a : Option Addr) (len cap : Nat) (E : Nat → Ent) (e1 e2 : Ent) (q : Int) (w : World) (hE : EsAt w a len E) (hs : ∀ i, (E i).s.size ≤ maxLen) (h1s : e1.s.size ≤ maxLen) (h2s : e2.s.size ≤ maxLen) (hl : len ≤ maxLen) (hEm : ∀ i, (E i).m ≤ 9223372036854775807) (h1m : e1.m ≤ 9223372036854775807) (h2m : e2.m ≤ 9223372036854775807) (hq2 : q ≤ 9223372036854775807) :
    Calls Try.prog 3 #[.slice a len cap, .agg #[.int .i64 e1.m, .int .i64 e1.n, .string e1.s], .agg #[.int .i64 e2.m, .int .i64 e2.n, .string e2.s], .bool true, .int .i64 q] w fun e w' => e = .returned (.bool true) ∧ Below w.heap.size w w' := by
  have hb2 : ∀ o o', Below w.heap.size w ((w.alloc o).alloc o') := fun o o' => bel_alloc (bel_alloc (Below.refl _ _) _) _
  go_enter Try.func3, Try.ntmps3
  go_wp2_with fail
  refine (bytes5_any a len cap E e1 e2 true q _ (hE.below (hb2 _ _)) hs h1s h2s hl).mono ?_
  rintro e w0 ⟨rfl | ⟨rfl, hsmall, hs1, hs2⟩, hbw0⟩
  · go_wp2_with fail
    go_ret
    exact ⟨rfl, (hb2 _ _).trans (hbw0.mono (by simp <;> omega))⟩
  have hBel : Below w.heap.size w w0 := (hb2 _ _).trans (hbw0.mono (by simp <;> omega))
  have sz0 : w.heap.size + 1 < w0.heap.size := by have := hbw0.size; simp at this; omega
  have box : ∀ o, (w0.cell? ⟨w.heap.size, o, none⟩ = _) ∧ (w0.cell? ⟨w.heap.size + 1, o, none⟩ = _) := fun o => ⟨hbw0.cell (p := ⟨w.heap.size, o, none⟩) (by simp <;> omega), hbw0.cell (p := ⟨w.heap.size + 1, o, none⟩) (by simp)⟩
  have x0 : w0.cell? ⟨w.heap.size, 0, none⟩ = some (.int .i64 e1.m) := by rw [(box 0).1]; go_simp
  have x1 : w0.cell? ⟨w.heap.size, 1, none⟩ = some (.int .i64 e1.n) := by rw [(box 1).1]; go_simp
  have x2 : w0.cell? ⟨w.heap.size, 2, none⟩ = some (.string e1.s) := by rw [(box 2).1]; go_simp
  have y0 : w0.cell? ⟨w.heap.size + 1, 0, none⟩ = some (.int .i64 e2.m) := by rw [(box 0).2]; go_simp
  have y1 : w0.cell? ⟨w.heap.size + 1, 1, none⟩ = some (.int .i64 e2.n) := by rw [(box 1).2]; go_simp
  have y2 : w0.cell? ⟨w.heap.size + 1, 2, none⟩ = some (.string e2.s) := by rw [(box 2).2]; go_simp
  have HE : Hid (EsAt w0 a len E) := hE.below hBel
  have HB : Hid (Below w.heap.size w w0) := hBel
  have HS : Hid (SmallE E len) := hsmall
  have hs1' : (e1.s.size : Int) ≤ 1048576 := by omega
  have hs2' : (e2.s.size : Int) ≤ 1048576 := by omega
  unfold maxLen at hs hl h1s h2s
  have HEu : Hid (∀ i, (E i).m ≤ 9223372036854775807) := hEm
  clear box hbw0 hBel hb2 hE hsmall hs hEm
  go_wp2_with fail
  · go_ret
    exact ⟨rfl, HB.out⟩
  · go_ret
    exact ⟨rfl, HB.out⟩
  go_loop [11, 12] (fun z i => ∃ (k : Nat) (zz : Int), k ≤ len ∧ i = .int .i64 k ∧ z = .int .i64 zz ∧ 0 ≤ zz ∧ zz ≤ 1048576) (fun _ i => len - (intOf i).toNat)
  case atStart => exact ⟨0, _, Nat.zero_le _, rfl, rfl, by omega, by omega⟩
  case round =>
    obtain ⟨k, zz, hk, rfl, rfl, hz, hz'⟩ := hrel
    by_cases hlt : k < len
    · obtain ⟨b, off, rfl, hcell⟩ := HE.out (by omega)
      obtain ⟨c0, c1, c2⟩ := hcell k hlt
      clear hcell
      have hsk := HS.out k hlt
      go_wp2_with fail
      · go_ret
        exact ⟨rfl, HB.out⟩
      · go_round
        case rel => exact ⟨k + 1, _, by omega, by go_num, rfl, by omega, by omega⟩
        case measure => simp [intOf]; omega
    · go_wp2_with fail
      all_goals first
        | (go_ret
           exact ⟨rfl, HB.out⟩)
        | skip
      clear hz hz'
      have hqn : 0 ≤ q := by omega
      have h1n : 0 ≤ e1.m := by omega
      have h2n : 0 ≤ e2.m := by omega
      go_loop [13] (fun x => ∃ k2 : Nat, k2 ≤ len ∧ x = .int .i64 k2 ∧ Hid (∀ j, j < k2 → 0 ≤ (E j).m)) (fun x => len - (intOf x).toNat)
      case atStart => exact ⟨0, Nat.zero_le _, rfl, fun j hj => absurd hj (Nat.not_lt_zero _)⟩
      case round =>
      obtain ⟨k2, hk2, rfl, hpos⟩ := hrel
      by_cases hlt2 : k2 < len
      · obtain ⟨b, off, rfl, hcell⟩ := HE.out (by omega)
        obtain ⟨c0, c1, c2⟩ := hcell k2 hlt2
        clear hcell
        go_wp2_with fail
        · go_ret
          exact ⟨rfl, HB.out⟩
        · go_round
          case rel => exact ⟨k2 + 1, by omega, by go_num, fun j hj => by
            by_cases e : j = k2
            · rw [e]; omega
            · exact hpos.out j (by omega)⟩
          case measure => simp [intOf]; omega
      have HEm : Hid (∀ j, j < len → 0 ≤ (E j).m) := fun j hj => hpos.out j (by omega)
      clear hpos
      go_wp2_with fail
      refine (newTallied_any _).mono ?_
      rintro e wt ⟨rfl, rfl⟩
      go_wp2_with fail
      go_loopw [15] (fun x wr => ∃ (i : Nat) (B : Nat → Nat) (T : BT Int), i ≤ len ∧ x = .int .i64 i ∧ Built w0 w0.heap.size wr B E i (addr T) ∧ TI true wr (fun b => b ≠ w0.heap.size) T E i) (fun x _ => len - (intOf x).toNat)
      case atStart => exact ⟨0, fun _ => 0, .node (w0.heap.size + 1 + 1) 0 0 .nil .nil, Nat.zero_le _, rfl, (start_ta w0 E).1, (start_ta w0 E).2⟩
      case round =>
        obtain ⟨i, B, T, hi, rfl, hB, hT⟩ := hrel
        by_cases hilt : i < len
        · obtain ⟨b, off, rfl, hcell⟩ := (HE.out.below hB.bel) (by omega)
          obtain ⟨c0, c1, c2⟩ := hcell i hilt
          have hblt : b < wr.heap.size := World.block_lt_of_cell? _ _ c0
          have q1 := up1 hblt
          have q2 := up1 q1
          have HBu : Hid (Built w0 w0.heap.size wr B E i (addr T)) := hB
          have HT : Hid (TI true wr (fun b => b ≠ w0.heap.size) T E i) := hT
          have HM : MOK true (E i).m := fun _ => ⟨HEm.out i hilt, HEu.out i⟩
          obtain ⟨_, _, hlt0, e0, e1', f0, f1, _, _⟩ := hB
          have r1 := up1 hlt0
          have r2 := up1 r1
          clear hcell hT x0 x1 x2 y0 y1 y2
          go_wp2_with fail
          go_region_with (first | (go_at_call 8; refine (toEntry_any _ _ _ _).mono ?_; rintro e w' ⟨rfl, rfl⟩) | (go_at_call 7; refine (append_ti HBu.out.hist HT.out (by omega) HM.get _ ?_).mono ?_; (repeat (first | exact Below.refl _ _ | refine Below.drew ?_ | refine bel_alloc ?_ _)); rintro e w2 ⟨B', q', rfl, hB', hn', hb', hH', ht⟩; obtain ⟨hc, hf⟩ := bcell hb'))
          all_goals
            go_wp2_with fail
            go_roundw
            case rel =>
              obtain ⟨T', g1, g2⟩ := loop_step HBu.out HT.out (by repeat (first | exact Below.refl _ _ | refine Below.drew ?_ | refine bel_alloc ?_ _)) hb' hH' hB' hn' ht (fun h => (HM.get h).1)
              exact ⟨i + 1, B', T', by omega, by go_num, g1, g2⟩
            case measure => simp [intOf]; omega
        · obtain rfl : i = len := by omega
          have HBu : Hid (Built w0 w0.heap.size wr B E i (addr T)) := hB
          have HT : Hid (TI true wr (fun _ => True) T E i) := hT.below (Below.refl _ _) (fun _ _ => trivial)
          have HM1 : MOK true e1.m := fun _ => ⟨h1n, h1m⟩
          have HM2 : MOK true e2.m := fun _ => ⟨h2n, h2m⟩
          have keep : ∀ b o v, b < w0.heap.size → w0.cell? ⟨b, o, none⟩ = some v → wr.cell? ⟨b, o, none⟩ = some v := fun b o v hb hv => (hB.bel.cell (p := ⟨b, o, none⟩) hb).trans hv
          have x0' := keep _ _ _ (by omega) x0
          have x1' := keep _ _ _ (by omega) x1
          have x2' := keep _ _ _ (by omega) x2
          have y0' := keep _ _ _ (by omega) y0
          have y1' := keep _ _ _ (by omega) y1
          have y2' := keep _ _ _ (by omega) y2
          have hszr := hB.bel.size
          obtain ⟨_, _, hlt0, e0, e1', f0, f1, _, _⟩ := hB
          have hx : w.heap.size < wr.heap.size := by omega
          have hy : w.heap.size + 1 < wr.heap.size := by omega
          clear keep x0 x1 x2 y0 y1 y2 hT
          go_upto_region 31 with fail
          go_cut [16] (fun s wx => ∃ (b1 : Nat) (B1 : Nat → Nat) (T1 : BT Int), s = .pointer (some ⟨b1, 0, none⟩) ∧ Made wr b1 wx B1 (snoc E i e1) (i + 1) true T1 ∧ ∀ k, k ≤ i → B1 k = B k)
          case first =>
            have q1 := up1 hlt0
            have q2 := up1 q1
            have q3 := up1 q2
            have r1 := up1 hx
            have r2 := up1 r1
            have r3 := up1 r2
            go_region_held3 (fun w' => w'.cell? ⟨w0.heap.size, 0, none⟩ = some (.pointer (pos B i)) ∧ w'.cell? ⟨w0.heap.size, 1, none⟩ = some (.pointer (addr T)) ∧ w'.cell? ⟨w.heap.size, 0, none⟩ = some (.int .i64 e1.m) ∧ w'.cell? ⟨w.heap.size, 1, none⟩ = some (.int .i64 e1.n) ∧ w'.cell? ⟨w.heap.size, 2, none⟩ = some (.string e1.s)) (refine ⟨?_, ?_, ?_, ?_, ?_⟩ <;> go_simp)
              (first | (go_at_call 8; refine (toEntry_any _ _ _ _).mono ?_; rintro e w' ⟨rfl, rfl⟩) | (go_at_call 7; refine (append_one e1 HBu.out.hist HT.out (by omega) HM1.get _ ?_).mono ?_; (repeat (first | exact Below.refl _ _ | refine Below.drew ?_ | refine bel_alloc ?_ _)); rintro e w2 ⟨B', q', rfl, hA⟩; obtain ⟨hc, hf⟩ := bcell hA.bel; have z1 : w0.heap.size < w2.heap.size := Nat.lt_of_lt_of_le (by simp; omega) hA.bel.size; have z2 : w.heap.size < w2.heap.size := Nat.lt_of_lt_of_le (by simp; omega) hA.bel.size))
            all_goals go_wp2_with fail
            all_goals
              go_meet
              case rel =>
                first
                  | (obtain ⟨T', hmd⟩ := one_set (o := .pointer none) (o' := .pointer none) (b := wr.heap.size) HT.out HBu.out.hist (by repeat (first | exact Below.refl _ _ | refine Below.drew ?_ | refine bel_alloc ?_ _)) hA (fun h => (HM1.get h).1) (by omega) (by simp; omega) (by go_simp) (by go_simp)
                     exact ⟨_, B', T', rfl, hmd, hA.same⟩)
                  | (obtain ⟨T', hmd⟩ := one_set (o := .pointer none) (o' := .pointer none) (b := wr.heap.size + 1 + 1) HT.out HBu.out.hist (by repeat (first | exact Below.refl _ _ | refine Below.drew ?_ | refine bel_alloc ?_ _)) hA (fun h => (HM1.get h).1) (by omega) (by simp) (by go_simp) (by go_simp)
                     exact ⟨_, B', T', rfl, hmd, hA.same⟩)
                  | (obtain ⟨T', hmd⟩ := one_alloc HT.out (by repeat (first | exact Below.refl _ _ | refine Below.drew ?_ | refine bel_alloc ?_ _)) hA (fun h => (HM1.get h).1)
                     exact ⟨_, B', T', rfl, hmd, hA.same⟩)
          case rest =>
            obtain ⟨b1, B1, T1, rfl, hM1, hB1⟩ := hcut
            obtain ⟨wM, rfl⟩ : ∃ wM : World, wM = wc := ⟨_, rfl⟩
            have HM1' : Hid (Made wr b1 wM B1 (snoc E i e1) (i + 1) true T1) := hM1
            have HB1 : Hid (∀ k, k ≤ i → B1 k = B k) := hB1
            have bM : Below wr.heap.size wr wM := hM1.bel
            have HHM : Hid (Hist wM B E i) := HBu.out.hist.below bM
            have HTM : Hid (TI true wM (fun _ => True) T E i) := HT.out.below bM (fun _ h => h)
            have keep : ∀ b o v, b < wr.heap.size → wr.cell? ⟨b, o, none⟩ = some v → wM.cell? ⟨b, o, none⟩ = some v := fun b o v hb hv => (bM.cell (p := ⟨b, o, none⟩) hb).trans hv
            have g0 := keep _ _ _ hlt0 e0
            have g1 := keep _ _ _ hlt0 e1'
            have x0 := keep _ _ _ hx x0'
            have x1 := keep _ _ _ hx x1'
            have x2 := keep _ _ _ hx x2'
            have y0 := keep _ _ _ hy y0'
            have y1 := keep _ _ _ hy y1'
            have y2 := keep _ _ _ hy y2'
            have HEM : Hid (EsAt wM a i E) := (HE.out.below HBu.out.bel).below bM
            have HBM : Hid (Below w.heap.size w wM) := (HB.out.trans (HBu.out.bel.mono HB.out.size)).trans (bM.mono (Nat.le_trans HB.out.size HBu.out.bel.size))
            have lt0 : w0.heap.size < wM.heap.size := Nat.lt_of_lt_of_le hlt0 bM.size
            have hxM : w.heap.size < wM.heap.size := Nat.lt_of_lt_of_le hx bM.size
            have hyM : w.heap.size + 1 < wM.heap.size := Nat.lt_of_lt_of_le hy bM.size
            clear keep hM1 hB1 bM e0 e1' x0' x1' x2' y0' y1' y2' f0 f1 HBu HT HE hlt0 hx hy hszr HB
            go_upto_region 32 with fail
            go_cut [17] (fun s wx => ∃ (b2 : Nat) (B2 : Nat → Nat) (T2 : BT Int), s = .pointer (some ⟨b2, 0, none⟩) ∧ Made wM b2 wx B2 (snoc E i e2) (i + 1) true T2 ∧ ∀ k, k ≤ i → B2 k = B k)
            case first =>
              have q1 := up1 lt0
              have q2 := up1 q1
              have q3 := up1 q2
              have r1 := up1 hyM
              have r2 := up1 r1
              have r3 := up1 r2
              go_region_held3 (fun w' => w'.cell? ⟨w0.heap.size, 0, none⟩ = some (.pointer (pos B i)) ∧ w'.cell? ⟨w0.heap.size, 1, none⟩ = some (.pointer (addr T)) ∧ w'.cell? ⟨w.heap.size + 1, 0, none⟩ = some (.int .i64 e2.m) ∧ w'.cell? ⟨w.heap.size + 1, 1, none⟩ = some (.int .i64 e2.n) ∧ w'.cell? ⟨w.heap.size + 1, 2, none⟩ = some (.string e2.s)) (refine ⟨?_, ?_, ?_, ?_, ?_⟩ <;> go_simp)
                (first | (go_at_call 8; refine (toEntry_any _ _ _ _).mono ?_; rintro e w' ⟨rfl, rfl⟩) | (go_at_call 7; refine (append_one e2 HHM.out HTM.out (by omega) HM2.get _ ?_).mono ?_; (repeat (first | exact Below.refl _ _ | refine Below.drew ?_ | refine bel_alloc ?_ _)); rintro e w2 ⟨B', q', rfl, hA⟩; obtain ⟨hc, hf⟩ := bcell hA.bel; have z1 : w0.heap.size < w2.heap.size := Nat.lt_of_lt_of_le (by simp; omega) hA.bel.size; have z2 : w.heap.size + 1 < w2.heap.size := Nat.lt_of_lt_of_le (by simp; omega) hA.bel.size))
              all_goals go_wp2_with fail
              all_goals
                go_meet
                case rel =>
                  first
                    | (obtain ⟨T', hmd⟩ := one_set (o := .pointer none) (o' := .pointer none) (b := wM.heap.size) HTM.out HHM.out (by repeat (first | exact Below.refl _ _ | refine Below.drew ?_ | refine bel_alloc ?_ _)) hA (fun h => (HM2.get h).1) (by omega) (by simp; omega) (by go_simp) (by go_simp)
                       exact ⟨_, B', T', rfl, hmd, hA.same⟩)
                    | (obtain ⟨T', hmd⟩ := one_set (o := .pointer none) (o' := .pointer none) (b := wM.heap.size + 1 + 1) HTM.out HHM.out (by repeat (first | exact Below.refl _ _ | refine Below.drew ?_ | refine bel_alloc ?_ _)) hA (fun h => (HM2.get h).1) (by omega) (by simp) (by go_simp) (by go_simp)
                       exact ⟨_, B', T', rfl, hmd, hA.same⟩)
                    | (obtain ⟨T', hmd⟩ := one_alloc HTM.out (by repeat (first | exact Below.refl _ _ | refine Below.drew ?_ | refine bel_alloc ?_ _)) hA (fun h => (HM2.get h).1)
                       exact ⟨_, B', T', rfl, hmd, hA.same⟩)
            case rest =>
              obtain ⟨b2, B2, T2, rfl, hM2, hB2⟩ := hcut
              obtain ⟨wN, rfl⟩ : ∃ wN : World, wN = wc := ⟨_, rfl⟩
              have bN : Below wM.heap.size wM wN := hM2.bel
              have HM2' : Hid (Made wM b2 wN B2 (snoc E i e2) (i + 1) true T2) := hM2
              have HM1'' : Hid (Made wr b1 wN B1 (snoc E i e1) (i + 1) true T1) := HM1'.out.below bN
              have HB2 : Hid (∀ k, k ≤ i → B2 k = B k) := hB2
              have HHN : Hid (Hist wN B E i) := HHM.out.below bN
              have HTN : Hid (TI true wN (fun _ => True) T E i) := HTM.out.below bN (fun _ h => h)
              have keep : ∀ b o v, b < wM.heap.size → wM.cell? ⟨b, o, none⟩ = some v → wN.cell? ⟨b, o, none⟩ = some v := fun b o v hb hv => (bN.cell (p := ⟨b, o, none⟩) hb).trans hv
              have G0 := keep _ _ _ lt0 g0
              have G1 := keep _ _ _ lt0 g1
              have X0 := keep _ _ _ hxM x0
              have X1 := keep _ _ _ hxM x1
              have X2 := keep _ _ _ hxM x2
              have Y0 := keep _ _ _ hyM y0
              have Y1 := keep _ _ _ hyM y1
              have Y2 := keep _ _ _ hyM y2
              have HEN : Hid (EsAt wN a i E) := HEM.out.below bN
              have HBN : Hid (Below w.heap.size w wN) := HBM.out.trans (bN.mono HBM.out.size)
              have lt0N : w0.heap.size < wN.heap.size := Nat.lt_of_lt_of_le lt0 bN.size
              have hxN : w.heap.size < wN.heap.size := Nat.lt_of_lt_of_le hxM bN.size
              have hyN : w.heap.size + 1 < wN.heap.size := Nat.lt_of_lt_of_le hyM bN.size
              clear keep hM2 hB2 bN g0 g1 x0 x1 x2 y0 y1 y2 HHM HTM HEM HBM HM1' lt0 hxM hyM HM1 HM2
              have hmk := make24 i (by omega)
              go_wp2_with fail
              clear hmk
              go_loopw [21] (fun x wv => ∃ k : Nat, k ≤ i ∧ x = .int .i64 k ∧ RowE wv wN.heap.size (i + 1) E k ∧ RowE wv (wN.heap.size + 1) (i + 1) E k ∧ Below wN.heap.size wN wv) (fun x _ => i - (intOf x).toNat)
              case atStart =>
                refine ⟨0, Nat.zero_le _, rfl, (rowE_made wN z24 (i + 1) E).alloc _, ?_, bel_alloc (bel_alloc (Below.refl _ _) _) _⟩
                have := rowE_made (wN.alloc (.cells (madeCells z24 ((i + 1) * 3)) 24)) z24 (i + 1) E
                rwa [World.size_alloc] at this
              case round =>
                obtain ⟨j, hj, rfl, hr1, hr2, hbv⟩ := hrel
                obtain ⟨wv, rfl⟩ : ∃ wv : World, wv = wr := ⟨_, rfl⟩
                have HR1 : Hid (RowE wv wN.heap.size (i + 1) E j) := hr1
                have HR2 : Hid (RowE wv (wN.heap.size + 1) (i + 1) E j) := hr2
                have hl1 := hr1.lt
                have hl2 := hr2.lt
                by_cases hjlt : j < i
                · obtain ⟨b, off, rfl, hcell⟩ := (HEN.out.below hbv) (by omega)
                  have hbN : b < wN.heap.size := by
                    obtain ⟨b', off', he, hc'⟩ := HEN.out (by omega)
                    cases he
                    exact World.block_lt_of_cell? _ _ (hc' j hjlt).1
                  obtain ⟨c0, c1, c2⟩ := hcell j hjlt
                  obtain ⟨⟨v0, k0⟩, ⟨v1, k1⟩, ⟨v2, k2⟩, kf⟩ := hr1.cells (i := j) (by omega)
                  obtain ⟨⟨u0, m0⟩, ⟨u1, m1⟩, ⟨u2, m2⟩, mf⟩ := hr2.cells (i := j) (by omega)
                  clear hcell hr1 hr2 G0 G1 X0 X1 X2 Y0 Y1 Y2
                  go_wp2_with fail
                  go_roundw
                  case rel =>
                    exact ⟨j + 1, by omega, by go_num, put3_other (put3_set HR1.out rfl) (by omega) _ _, put3_set (put3_other HR2.out (by omega) _ _) rfl, put3_below (put3_below hbv (Nat.le_refl _) j (E j)) (by omega) j (E j)⟩
                  case measure => simp [intOf]; omega
                · obtain rfl : j = i := by omega
                  obtain ⟨⟨v0, k0⟩, ⟨v1, k1⟩, ⟨v2, k2⟩, kf⟩ := hr1.cells (i := j) (by omega)
                  obtain ⟨⟨u0, m0⟩, ⟨u1, m1⟩, ⟨u2, m2⟩, mf⟩ := hr2.cells (i := j) (by omega)
                  have keep : ∀ b o v, b < wN.heap.size → wN.cell? ⟨b, o, none⟩ = some v → wv.cell? ⟨b, o, none⟩ = some v := fun b o v hb hv => (hbv.cell (p := ⟨b, o, none⟩) hb).trans hv
                  have G0' := keep _ _ _ lt0N G0
                  have G1' := keep _ _ _ lt0N G1
                  have X0' := keep _ _ _ hxN X0
                  have X1' := keep _ _ _ hxN X1
                  have X2' := keep _ _ _ hxN X2
                  have Y0' := keep _ _ _ hyN Y0
                  have Y1' := keep _ _ _ hyN Y1
                  have Y2' := keep _ _ _ hyN Y2
                  have HW6 : Hid (Below wN.heap.size wN (put3 (put3 wv wN.heap.size j e1) (wN.heap.size + 1) j e2)) := put3_below (put3_below hbv (Nat.le_refl _) j e1) (by omega) j e2
                  have HQ1 : Hid (RowE (put3 (put3 wv wN.heap.size j e1) (wN.heap.size + 1) j e2) wN.heap.size (j + 1) (snoc E j e1) (j + 1)) := put3_other (put3_snoc HR1.out) (by omega) _ _
                  have HQ2 : Hid (RowE (put3 (put3 wv wN.heap.size j e1) (wN.heap.size + 1) j e2) (wN.heap.size + 1) (j + 1) (snoc E j e2) (j + 1)) := put3_snoc (put3_other HR2.out (by omega) _ _)
                  have HG : Hid (wN.cell? ⟨w0.heap.size, 0, none⟩ = some (.pointer (pos B j)) ∧ wN.cell? ⟨w0.heap.size, 1, none⟩ = some (.pointer (addr T))) := ⟨G0, G1⟩
                  clear keep hr1 hr2 G0 G1 X0 X1 X2 Y0 Y1 Y2 HR1 HR2
                  go_wp2_with fail
                  refine (holds_any B E j (addr T) a cap _ (by omega) ?_ ?_).mono ?_
                  · exact HHN.out.below HW6.out
                  · exact HEN.out.below HW6.out
                  rintro e w3 ⟨rfl, hb3⟩
                  have bN3 : Hid (Below wN.heap.size wN w3) := HW6.out.trans (hb3.mono HW6.out.size)
                  have HQ1' : Hid (RowE w3 wN.heap.size (j + 1) (snoc E j e1) (j + 1)) := HQ1.out.below hb3
                  have HQ2' : Hid (RowE w3 (wN.heap.size + 1) (j + 1) (snoc E j e2) (j + 1)) := HQ2.out.below hb3
                  have M1 := HM1''.out.below bN3.out
                  have d0 := M1.c0
                  have d1 := M1.c1
                  clear M1 hb3 HW6 HQ1 HQ2 k0 k1 k2 kf m0 m1 m2 mf G0' G1' X0' X1' X2' Y0' Y1' Y2' hbv hl1 hl2
                  go_wp2_with fail
                  refine (holds_any B1 (snoc E j e1) (j + 1) (addr T1) (some ⟨wN.heap.size, 0, none⟩) (j + 1) w3 (by omega) ?_ ?_).mono ?_
                  · exact (HM1''.out.below bN3.out).hist
                  · exact HQ1'.out.es
                  rintro e w4 ⟨rfl, hb4⟩
                  have bN4 : Hid (Below wN.heap.size wN w4) := bN3.out.trans (hb4.mono bN3.out.size)
                  have HQ2'' : Hid (RowE w4 (wN.heap.size + 1) (j + 1) (snoc E j e2) (j + 1)) := HQ2'.out.below hb4
                  have HQ1'' : Hid (RowE w4 wN.heap.size (j + 1) (snoc E j e1) (j + 1)) := HQ1'.out.below hb4
                  have M2 := HM2'.out.below bN4.out
                  have d0 := M2.c0
                  have d1 := M2.c1
                  clear M2 hb4 HQ1' HQ2'
                  go_wp2_with fail
                  refine (holds_any B2 (snoc E j e2) (j + 1) (addr T2) (some ⟨wN.heap.size + 1, 0, none⟩) (j + 1) w4 (by omega) ?_ ?_).mono ?_
                  · exact (HM2'.out.below bN4.out).hist
                  · exact HQ2''.out.es
                  rintro e w5 ⟨rfl, hb5⟩
                  have bN5 : Hid (Below wN.heap.size wN w5) := bN4.out.trans (hb5.mono bN4.out.size)
                  have R1 : Hid (RowE w5 wN.heap.size (j + 1) (snoc E j e1) (j + 1)) := HQ1''.out.below hb5
                  have R2 : Hid (RowE w5 (wN.heap.size + 1) (j + 1) (snoc E j e2) (j + 1)) := HQ2''.out.below hb5
                  clear hb5 HQ1'' HQ2'' bN3 bN4 d0 d1
                  have M1 := HM1''.out.below bN5.out
                  have M2 := HM2'.out.below bN5.out
                  have s0 := (bN5.out.cell (p := ⟨w0.heap.size, 0, none⟩) lt0N).trans HG.out.1
                  have s1 := (bN5.out.cell (p := ⟨w0.heap.size, 1, none⟩) lt0N).trans HG.out.2
                  have p0 := M1.c0
                  have p1 := M1.c1
                  have t0 := M2.c0
                  have t1 := M2.c1
                  rw [pos_pos _ (show 1 ≤ j + 1 by omega)] at p0 t0
                  have l1 := (M1.hist (j + 1) (by omega) (Nat.le_refl _)).c3
                  have l2 := (M2.hist (j + 1) (by omega) (Nat.le_refl _)).c3
                  have epos : ∀ B', (∀ k, k ≤ j → B' k = B k) → pos B' (j + 1 - 1) = pos B j := fun B' h => by
                    simp only [Nat.add_sub_cancel]; unfold pos; rw [h j (Nat.le_refl _)]
                  rw [epos _ HB1.out] at l1
                  rw [epos _ HB2.out] at l2
                  have n0 : w0.heap.size < w5.heap.size := Nat.lt_of_lt_of_le lt0N bN5.out.size
                  have n1 := M1.lt
                  have n2 := M2.lt
                  have n3 := M1.hist.lt (k := j + 1) (by omega) (Nat.le_refl _)
                  have n4 := M2.hist.lt (k := j + 1) (by omega) (Nat.le_refl _)
                  clear M1 M2 epos
                  have hnp := neq_pos B j
                  go_upto_region 45 with fail
                  go_cut [184] (fun s wx => s = .bool false ∧ Below w5.heap.size w5 wx)
                  case first =>
                    generalize B1 (j + 1) = c1 at *
                    generalize B2 (j + 1) = c2 at *
                    have n01 := up1 n0
                    have n02 := up1 n01
                    have n03 := up1 n02
                    have n04 := up1 n03
                    have n11 := up1 n1
                    have n12 := up1 n11
                    have n13 := up1 n12
                    have n14 := up1 n13
                    have n21 := up1 n2
                    have n22 := up1 n21
                    have n23 := up1 n22
                    have n24 := up1 n23
                    have n31 := up1 n3
                    have n32 := up1 n31
                    have n33 := up1 n32
                    have n34 := up1 n33
                    have n41 := up1 n4
                    have n42 := up1 n41
                    have n43 := up1 n42
                    have n44 := up1 n43
                    go_region_held3 (fun w' => w'.cell? ⟨w0.heap.size, 0, none⟩ = some (.pointer (pos B j)) ∧ w'.cell? ⟨w0.heap.size, 1, none⟩ = some (.pointer (addr T)) ∧ w'.cell? ⟨b1, 0, none⟩ = some (.pointer (some ⟨c1, 0, none⟩)) ∧ w'.cell? ⟨b1, 1, none⟩ = some (.pointer (addr T1)) ∧ w'.cell? ⟨b2, 0, none⟩ = some (.pointer (some ⟨c2, 0, none⟩)) ∧ w'.cell? ⟨b2, 1, none⟩ = some (.pointer (addr T2))) (refine ⟨?_, ?_, ?_, ?_, ?_, ?_⟩ <;> go_simp)
                      (first | (go_at_call 11; refine (zzlast_any _ _ _).mono ?_; rintro e w' ⟨rfl, rfl⟩) | (go_at_call_of 10 c1; refine (prev_any c1 (pos B j) _ ?_).mono ?_; (go_simp); rintro e w' ⟨rfl, hww⟩; rw [hww]; clear hww) | (go_at_call_of 10 c2; refine (prev_any c2 (pos B j) _ ?_).mono ?_; (go_simp); rintro e w' ⟨rfl, hww⟩; rw [hww]; clear hww))
                    all_goals go_wp2_with fail
                    go_meet
                    case rel =>
                      refine ⟨rfl, ?_⟩
                      repeat (first | exact Below.refl _ _ | refine Below.drew ?_ | refine bel_alloc ?_ _)
                  case rest =>
                    obtain ⟨rfl, hbz⟩ := hcut
                    obtain ⟨wz, rfl⟩ : ∃ wz : World, wz = wc := ⟨_, rfl⟩
                    have bz : Below wN.heap.size wN wz := bN5.out.trans (hbz.mono bN5.out.size)
                    have M1 := HM1''.out.below bz
                    have M2 := HM2'.out.below bz
                    have hfin : Hid (Below w.heap.size w wz) := HBN.out.trans (bz.mono HBN.out.size)
                    have S0 := (bz.cell (p := ⟨w0.heap.size, 0, none⟩) lt0N).trans HG.out.1
                    have S1 := (bz.cell (p := ⟨w0.heap.size, 1, none⟩) lt0N).trans HG.out.2
                    have P0 := M1.c0
                    have P1 := M1.c1
                    have Q0 := M2.c0
                    have Q1 := M2.c1
                    have N0 : w0.heap.size < wz.heap.size := Nat.lt_of_lt_of_le lt0N bz.size
                    have N1 := M1.lt
                    have N2 := M2.lt
                    have A0 : Hid (TI true wz (fun _ => True) T E j) := HTN.out.below bz (fun _ h => h)
                    have A1 : Hid (TI true wz (fun _ => True) T1 (snoc E j e1) (j + 1)) := M1.ti
                    have A2 : Hid (TI true wz (fun _ => True) T2 (snoc E j e2) (j + 1)) := M2.ti
                    have F0 : Hid (EsAt wz a j E) := HEN.out.below bz
                    have F1 : Hid (EsAt wz (some ⟨wN.heap.size, 0, none⟩) (j + 1) (snoc E j e1)) := (R1.out.below hbz).es
                    have F2 : Hid (EsAt wz (some ⟨wN.heap.size + 1, 0, none⟩) (j + 1) (snoc E j e2)) := (R2.out.below hbz).es
                    have K0 : Hid (∀ i, i < j → 0 ≤ (E i).m ∧ (E i).m ≤ 9223372036854775807) := fun i hi => ⟨HEm.out i hi, HEu.out i⟩
                    have K1 : Hid (∀ i, i < j + 1 → 0 ≤ (snoc E j e1 i).m ∧ (snoc E j e1 i).m ≤ 9223372036854775807) := snoc_all (Q := fun e => 0 ≤ e.m ∧ e.m ≤ 9223372036854775807) K0.out ⟨h1n, h1m⟩
                    have K2 : Hid (∀ i, i < j + 1 → 0 ≤ (snoc E j e2 i).m ∧ (snoc E j e2 i).m ≤ 9223372036854775807) := snoc_all (Q := fun e => 0 ≤ e.m ∧ e.m ≤ 9223372036854775807) K0.out ⟨h2n, h2m⟩
                    clear M1 M2 bz hbz s0 s1 p0 p1 t0 t1 l1 l2 n0 n1 n2 n3 n4 hnp bN5 R1 R2 HG HM1'' HM2' HB1 HB2 HHN HTN HEN HBN
                    go_wp2_with fail
                    refine (zzlasts_any _ _ _).mono ?_
                    rintro e w6 ⟨rfl, hw6⟩
                    have b6 : Below wz.heap.size wz w6 := by rw [hw6]; exact bel_alloc (Below.refl _ _) _
                    clear hw6
                    go_wp2_with fail
                    refine (agree_ti A0.out F0.out (by omega) K0.out hqn hq2 w6 b6).mono ?_
                    rintro e w7 ⟨rfl, hb7⟩
                    have b7 : Below wz.heap.size wz w7 := b6.trans (hb7.mono b6.size)
                    have P0' := (b7.cell (p := ⟨b1, 0, none⟩) N1).trans P0
                    have P1' := (b7.cell (p := ⟨b1, 1, none⟩) N1).trans P1
                    clear b6 hb7
                    go_wp2_with fail
                    refine (zzlasts_any _ _ _).mono ?_
                    rintro e w8 ⟨rfl, hw8⟩
                    have b8 : Below wz.heap.size wz w8 := by rw [hw8]; exact bel_alloc b7 _
                    clear hw8 P0' P1' b7
                    go_wp2_with fail
                    refine (agree_ti A1.out F1.out (by omega) K1.out hqn hq2 w8 b8).mono ?_
                    rintro e w9 ⟨rfl, hb9⟩
                    have b9 : Below wz.heap.size wz w9 := b8.trans (hb9.mono b8.size)
                    have Q0' := (b9.cell (p := ⟨b2, 0, none⟩) N2).trans Q0
                    have Q1' := (b9.cell (p := ⟨b2, 1, none⟩) N2).trans Q1
                    clear b8 hb9
                    go_wp2_with fail
                    refine (zzlasts_any _ _ _).mono ?_
                    rintro e wA ⟨rfl, hwA⟩
                    have bA : Below wz.heap.size wz wA := by rw [hwA]; exact bel_alloc b9 _
                    clear hwA Q0' Q1' b9
                    go_wp2_with fail
                    refine (agree_ti A2.out F2.out (by omega) K2.out hqn hq2 wA bA).mono ?_
                    rintro e wB ⟨rfl, hbB⟩
                    have bB : Below wz.heap.size wz wB := bA.trans (hbB.mono bA.size)
                    clear bA hbB
                    go_wp2_with fail
                    go_ret
                    exact ⟨rfl, hfin.out.trans (bB.mono hfin.out.size)⟩

end Go.Proofs.Qxb6628307a
