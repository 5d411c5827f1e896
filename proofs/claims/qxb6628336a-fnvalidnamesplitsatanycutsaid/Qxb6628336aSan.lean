/-
  CONTRACT of zzSanitize: what it builds is a valid name.
-/
import Derived.Test.Qxb6628336aWalks
import Derived.Laws.IdiomStrings
import Derived.Laws.BytesArg
import Derived.Laws.MakeOwn
namespace Go.Proofs.Qxb6628336a
open Go.RowKit
set_option linter.unusedVariables false

/-- bytes as cells -/
def cellsB (l : List UInt8) : List Value := l.map fun b => Value.int .u8 b.toNat
theorem cellsB_snoc (l : List UInt8) (c : UInt8) : cellsB (l ++ [c]) = cellsB l ++ [Value.int .u8 c.toNat] := by simp [cellsB]

/-- begun by an underscore, all of it bytes of an identifier -/
def GoodL (l : List UInt8) : Prop := l[0]? = some 95 ∧ ∀ c ∈ l, Idt (c.toNat : Int)
theorem GoodL.start : GoodL [95] := ⟨rfl, fun c hc => by
  have : c = 95 := by simpa using hc
  subst this
  exact Or.inl rfl⟩
theorem GoodL.snoc {l : List UInt8} (h : GoodL l) (c : UInt8) (hc : Idt (c.toNat : Int)) : GoodL (l ++ [c]) := by
  refine ⟨?_, fun x hx => ?_⟩
  · cases l with
    | nil => have := h.1; simp at this
    | cons a l => exact h.1
  · rcases List.mem_append.1 hx with hx | hx
    · exact h.2 x hx
    · have : x = c := by simpa using hx
      subst this; exact hc
theorem GoodL.val {l : List UInt8} (h : GoodL l) : Val ⟨l.toArray⟩ := by
  have hs : (⟨l.toArray⟩ : ByteArray).size = l.length := by simp [ByteArray.size]
  have hb : ∀ j (hj : j < l.length), byt ⟨l.toArray⟩ j = (l[j].toNat : Int) := fun j hj => by
    rw [byt_eq _ j (by rw [hs]; exact hj)]
    rfl
  have hp : 0 < l.length := by
    cases l with
    | nil => have := h.1; simp at this
    | cons a l => simp
  refine ⟨by rw [hs]; exact hp, fun j hj => ?_⟩
  rw [hs] at hj
  refine ⟨?_, fun e => ?_⟩
  · rw [hb j hj]
    exact h.2 _ (List.getElem_mem hj)
  · subst e
    rw [hb 0 hj]
    have e0 : l[0] = 95 := by
      have := h.1
      rw [List.getElem?_eq_getElem hj] at this
      exact Option.some.inj this
    rw [e0]
    unfold Dig
    decide

theorem conv_own {base : Nat} {v : Value} {l : List UInt8} {n : Nat} {w : World} (hn : l.length = n) (h : w.ownsRow base 5 1 v n (cellsB l)) : (convert 26 9 v).run Try.prog w = .ok (.string ⟨l.toArray⟩) w := by
  subst hn
  rcases h.2 with ⟨rfl, h0⟩ | ⟨g, cap, cur, rfl, _, hh, hn, _, _, ht⟩
  · obtain rfl : l = [] := List.eq_nil_of_length_eq_zero h0
    exact run_convert_bytes_nil w 26 5 Try.underlying26 Try.underlying5 0 0 9 Try.underlying9
  · refine run_convert_bytes_back w 26 9 5 ⟨g, 0, none⟩ cap l Try.underlying26 Try.underlying5 Try.underlying9 (fun j hj => ?_)
    have e1 : (cur.toList.take (l.length * 1))[j]? = (cellsB l)[j]? := by rw [ht]
    rw [List.getElem?_take, if_pos (by omega)] at e1
    have e2 : (cellsB l)[j]? = some (.int .u8 (l[j].toNat : Int)) := by
      unfold cellsB; rw [List.getElem?_map, List.getElem?_eq_getElem hj]; rfl
    rw [e2] at e1
    have e3 : cur[j]? = some (.int .u8 (l[j].toNat : Int)) := by simpa using e1
    have ha : ((⟨g, 0, none⟩ : Addr).add j) = ⟨g, j, none⟩ := by
      unfold Addr.add
      by_cases hj0 : j = 0 <;> simp [hj0]
    rw [ha]
    simp [World.cell?, hh, e3]

theorem Try.info5 : (Try.prog.info? 5).map (fun i => (i.zero, i.size, i.bytes)) = some (some (.int .u8 0), 1, 1) := by kernel_rfl

/-- what the call has built so far: n bytes, all good -/
def San (w wr : World) (v : Value) (n : Nat) : Prop := ∃ l : List UInt8, l.length = n ∧ GoodL l ∧ wr.ownsRow w.heap.size 5 1 v n (cellsB l)
theorem San.snoc {w wr wr' : World} {v v' : Value} {n : Nat} (h : San w wr v n) (c : UInt8) (hc : Idt (c.toNat : Int)) (hn : ∀ l, wr.ownsRow w.heap.size 5 1 v n (cellsB l) → l.length = n → wr'.ownsRow w.heap.size 5 1 v' (n + 1) (cellsB l ++ [Value.int .u8 c.toNat])) : San w wr' v' (n + 1) := by
  obtain ⟨l, h1, h2, h3⟩ := h
  exact ⟨l ++ [c], by simp [h1], h2.snoc c hc, by rw [cellsB_snoc]; exact hn l h3 h1⟩

theorem cell_new1 (W : World) (x : Value) (t : TypeId) {H : Nat} (h : H = W.heap.size) : ∀ j u, [x][j]? = some u → (W.alloc (.cells #[x] t)).cell? ((⟨H, 0, none⟩ : Addr).add j) = some u := by
  subst h
  intro j u hj
  match j, hj with
  | 0, hj => simp at hj; subst hj; simp [Addr.add]
theorem one_cell (n : Int) : ∀ u ∈ [Value.int .u8 n], u.oneCell' = true := by
  intro u hu
  simp at hu
  subst hu
  rfl

theorem make5 (c : Nat) (hc : c ≤ 2000000) (wx : World) : (Instr.makeSlice 26 (.int .i64 0) (.int .i64 (c : Int))).run Try.prog wx = .ok (.slice (some ⟨wx.heap.size, 0, none⟩) 0 c) (wx.alloc (.cells (madeCells #[.int .u8 0] c) 5)) := by
  obtain ⟨i0, hi0, hz0, hz1, hz2⟩ := info_parts Try.info5
  have := run_make (P := Try.prog) wx 26 5 i0 _ Try.underlying26 hi0 hz0 .i64 .i64 0 (c : Int) (by omega) (by omega) (by rw [hz2]; omega) (by omega)
  rw [hz1, Int.toNat_natCast, Nat.mul_one] at this
  exact this

theorem san_mk {w w3 : World} {v2 : Value} {l : List UInt8} {n : Nat} (hl : l.length = n) (hg : GoodL l) (c : UInt8) (hc : Idt (c.toNat : Int)) (h : w3.ownsRow w.heap.size 5 1 v2 (n + 1) (cellsB l ++ [Value.int .u8 (c.toNat : Int)])) : San w w3 v2 (n + 1) :=
  ⟨l ++ [c], by simp [hl], hg.snoc c hc, by rw [cellsB_snoc]; exact h⟩
theorem san_out {w wr : World} {v : Value} {n : Nat} (h : San w wr v n) : ∃ out : ByteArray, out.size = n ∧ Val out ∧ (convert 26 9 v).run Try.prog wr = .ok (.string out) wr := by
  obtain ⟨l, h1, h2, h3⟩ := h
  exact ⟨⟨l.toArray⟩, by simpa [ByteArray.size] using h1, h2.val, conv_own h1 h3⟩

set_option maxHeartbeats 2000000 in
set_option maxRecDepth 100000 in
theorem san_any (a b : ByteArray) (w : World) (hab : a.size + b.size ≤ 1048576) :
    Calls Try.prog 9 #[.string a, .string b] w fun e w' => ∃ out, e = .returned (.string out) ∧ Hid (Val out ∧ out.size ≤ maxLen) ∧ Below w.heap.size w w' := by
  obtain ⟨i0, hi0, hz0, hz1, hz2⟩ := info_parts Try.info5
  have hmk := make5 (a.size + b.size + 1) (by omega)
  rw [show ((a.size + b.size + 1 : Nat) : Int) = (a.size : Int) + (b.size : Int) + 1 by omega] at hmk
  have hown0 : Hid ((w.alloc (.cells (madeCells #[.int .u8 0] (a.size + b.size + 1)) 5)).ownsRow w.heap.size 5 1 (.slice (some ⟨w.heap.size, 0, none⟩) 0 (a.size + b.size + 1)) 0 []) :=
    World.ownsRow_made w _ _ (Nat.le_refl _) (by unfold maxLen; omega) (by rw [size_madeCells]; omega)
  go_enter Try.func9, Try.ntmps9
  go_wp2_with (at_builtin; refine wpList_append_own _ rfl (.tmp 17) (.tmp 18) 26 rfl w.heap.size 5 i0 (.int .u8 0) 1 1 Try.underlying26 hi0 hz0 hz1 hz2 rfl (by decide) _ _ _ rfl (hown0.out.alloc _) ⟨w.heap.size + 1, 0, none⟩ 1 1 [.int .u8 95] rfl rfl (cell_new1 _ _ _ (by simp)) (one_cell _) (by unfold maxLen; omega) (by omega) (by simp; omega) ?_; intro v1 w1 hown1 hg1 hn1)
  have hbel1 : Below w.heap.size w w1 := (((Below.refl _ _).alloc (Nat.le_refl _) _).alloc (by simp) _).grown hg1 (by simp; omega) (fun k hk => (hown0.out.lt k hk).1)
  have HS1 : Hid (San w w1 v1 (0 + 1)) := ⟨[95], rfl, GoodL.start, hown1⟩
  clear hown1 hg1 hn1 hown0 hmk
  go_wp2_with fail
  go_loopw [5, 6] (fun v x wr => ∃ (i : Nat) (vv : Value), v = vv ∧ i ≤ a.size ∧ x = .int .i64 i ∧ Hid (San w wr vv (i + 1)) ∧ Below w.heap.size w wr) (fun _ x _ => a.size - (intOf x).toNat)
  case atStart => exact ⟨0, _, rfl, Nat.zero_le _, rfl, HS1, hbel1⟩
  case round =>
    obtain ⟨i, vv, hvv, hi, rfl, hsan, hbr⟩ := hrel
    have hvv' := hvv.symm
    clear hvv
    subst hvv'
    by_cases hlt : i < a.size
    · obtain ⟨l, hl, hgood, hown⟩ := hsan.out
      have HG : Hid (GoodL l) := hgood
      have HL : Hid (l.length = i + 1) := hl
      have hsz := hbr.size
      clear hgood hl
      go_wp2_with fail
      refine (ident_any _ _).mono ?_
      rintro e w2 ⟨⟨rfl, hI⟩ | ⟨rfl, hI⟩, hw⟩
      · rw [hw]
        clear hw
        have HI : Hid (Idt (a[i].toNat : Int)) := hI
        clear hI
        go_wp2_with (at_builtin; refine wpList_append_own _ rfl (.tmp 32) (.tmp 34) 26 rfl w.heap.size 5 i0 (.int .u8 0) 1 1 Try.underlying26 hi0 hz0 hz1 hz2 rfl (by decide) _ _ _ rfl (hown.alloc _) ⟨wr.heap.size, 0, none⟩ 1 1 [.int .u8 (a[i].toNat : Int)] rfl rfl (cell_new1 _ _ _ rfl) (one_cell _) (by unfold maxLen; omega) (by omega) (by simp; omega) ?_; intro v2 w3 hown2 hg2 hn2)
        go_roundw
        case rel =>
          refine ⟨i + 1, _, rfl, by omega, by go_num, san_mk HL.out HG.out a[i] HI.out hown2, ?_⟩
          exact (hbr.alloc hbr.size _).grown hg2 (by simp; omega) (fun k hk => (hown.lt k hk).1)
        case measure => simp [intOf]; omega
      · rw [hw]
        clear hw hI
        go_wp2_with (at_builtin; refine wpList_append_own _ rfl (.tmp 32) (.tmp 34) 26 rfl w.heap.size 5 i0 (.int .u8 0) 1 1 Try.underlying26 hi0 hz0 hz1 hz2 rfl (by decide) _ _ _ rfl (hown.alloc _) ⟨wr.heap.size, 0, none⟩ 1 1 [.int .u8 95] rfl rfl (cell_new1 _ _ _ rfl) (one_cell _) (by unfold maxLen; omega) (by omega) (by simp; omega) ?_; intro v2 w3 hown2 hg2 hn2)
        go_roundw
        case rel =>
          refine ⟨i + 1, _, rfl, by omega, by go_num, san_mk HL.out HG.out 95 (Or.inl rfl) hown2, ?_⟩
          exact (hbr.alloc hbr.size _).grown hg2 (by simp; omega) (fun k hk => (hown.lt k hk).1)
        case measure => simp [intOf]; omega
    · have HS2 : Hid (San w wr vv (a.size + 1 + 0)) := by
        have := hsan.out
        rw [show i + 1 = a.size + 1 + 0 by omega] at this
        exact this
      have hbel2 := hbr
      obtain ⟨wq, rfl⟩ : ∃ wq : World, wq = wr := ⟨_, rfl⟩
      clear hsan hbr
      go_wp2_with fail
      go_loopw [5, 8] (fun v x wr => ∃ (i : Nat) (vv : Value), v = vv ∧ i ≤ b.size ∧ x = .int .i64 i ∧ Hid (San w wr vv (a.size + 1 + i)) ∧ Below w.heap.size w wr) (fun _ x _ => b.size - (intOf x).toNat)
      case atStart => exact ⟨0, _, rfl, Nat.zero_le _, rfl, HS2, hbel2⟩
      case round =>
        clear hlt hi HS2 hbel2
        obtain ⟨i, vv, hvv, hi, rfl, hsan, hbr⟩ := hrel
        have hvv' := hvv.symm
        clear hvv
        subst hvv'
        by_cases hlt : i < b.size
        · obtain ⟨l, hl, hgood, hown⟩ := hsan.out
          have HG : Hid (GoodL l) := hgood
          have HL : Hid (l.length = a.size + 1 + i) := hl
          have hsz := hbr.size
          clear hgood hl
          go_wp2_with fail
          refine (ident_any _ _).mono ?_
          rintro e w2 ⟨⟨rfl, hI⟩ | ⟨rfl, hI⟩, hw⟩
          · rw [hw]
            clear hw
            have HI : Hid (Idt (b[i].toNat : Int)) := hI
            clear hI
            go_wp2_with (at_builtin; refine wpList_append_own _ rfl (.tmp 48) (.tmp 50) 26 rfl w.heap.size 5 i0 (.int .u8 0) 1 1 Try.underlying26 hi0 hz0 hz1 hz2 rfl (by decide) _ _ _ rfl (hown.alloc _) ⟨wr.heap.size, 0, none⟩ 1 1 [.int .u8 (b[i].toNat : Int)] rfl rfl (cell_new1 _ _ _ rfl) (one_cell _) (by unfold maxLen; omega) (by omega) (by simp; omega) ?_; intro v2 w3 hown2 hg2 hn2)
            go_roundw
            case rel =>
              refine ⟨i + 1, _, rfl, by omega, by go_num, san_mk HL.out HG.out b[i] HI.out hown2, ?_⟩
              exact (hbr.alloc hbr.size _).grown hg2 (by simp; omega) (fun k hk => (hown.lt k hk).1)
            case measure => simp [intOf]; omega
          · rw [hw]
            clear hw hI
            go_wp2_with (at_builtin; refine wpList_append_own _ rfl (.tmp 48) (.tmp 50) 26 rfl w.heap.size 5 i0 (.int .u8 0) 1 1 Try.underlying26 hi0 hz0 hz1 hz2 rfl (by decide) _ _ _ rfl (hown.alloc _) ⟨wr.heap.size, 0, none⟩ 1 1 [.int .u8 95] rfl rfl (cell_new1 _ _ _ rfl) (one_cell _) (by unfold maxLen; omega) (by omega) (by simp; omega) ?_; intro v2 w3 hown2 hg2 hn2)
            go_roundw
            case rel =>
              refine ⟨i + 1, _, rfl, by omega, by go_num, san_mk HL.out HG.out 95 (Or.inl rfl) hown2, ?_⟩
              exact (hbr.alloc hbr.size _).grown hg2 (by simp; omega) (fun k hk => (hown.lt k hk).1)
            case measure => simp [intOf]; omega
        · obtain ⟨out, ho, hV, hconv⟩ := san_out hsan.out
          have HV : Hid (Val out ∧ out.size ≤ maxLen) := ⟨hV, by unfold maxLen; omega⟩
          clear hV ho
          go_wp2_with fail
          go_ret
          exact ⟨out, rfl, HV, hbr⟩

end Go.Proofs.Qxb6628336a
