/-
  WHAT AN APPEND LEAVES, in the second law's words: a history with or without its tally.
-/
import Derived.Test.Qxb6628307aLawA
import Derived.Test.Qxb6628307aLook
namespace Go.Proofs.Qxb6628307a
open Go.RowKit
open Go.Deep (BT)
set_option linter.unusedVariables false

/-- THE TALLY's INVARIANT: none, or a tree (at blocks that are P) that gives each member's newest number -/
def TI (tal : Bool) (wr : World) (P : Nat → Prop) (T : BT Int) (E : Nat → Ent) (i : Nat) : Prop :=
  (tal = false ∧ T = .nil) ∨ (tal = true ∧ T ≠ .nil ∧ InT (fun b => b < wr.heap.size ∧ P b) wr T ∧ ∀ p : Nat, get T p = lastN E i p)

/-- what 'set' is to leave of T at the append of E i, called from a world of size H -/
def RT (wr : World) (P : Nat → Prop) (T : BT Int) (E : Nat → Ent) (i H : Nat) (w1 : World) (k : Option Addr) : Prop :=
  SetTo (fun b => b < wr.heap.size ∧ P b) (H + 6) T (E i).m.toNat (E i).n w1 k

theorem setK_of {tal : Bool} {wr W : World} {P : Nat → Prop} {T : BT Int} {E : Nat → Ent} {i : Nat} (h : TI tal wr P T E i) (hW : Below wr.heap.size wr W) (hm : tal = true → 0 ≤ (E i).m ∧ (E i).m ≤ 9223372036854775807) :
    SetK (addr T) (E i).m (E i).n (RT wr P T E i W.heap.size) W := by
  rcases h with ⟨_, rfl⟩ | ⟨ht, hn, hin, hg⟩
  · intro h; cases h
  · intro _ W' hW' hsz
    obtain ⟨m0, m1⟩ := hm ht
    have hb : Below wr.heap.size wr W' := hW.trans (hW'.mono hW.size)
    have := set_any (E i).m.toNat (E i).m.toNat T (E i).n W' (fun b => b < wr.heap.size ∧ P b) (Nat.le_refl _) (by omega) (fun b h => Nat.lt_of_lt_of_le h.1 hb.size) (hin.below (fun _ h => h) hb)
    rw [Int.toNat_of_nonneg m0] at this
    refine this.mono ?_
    rintro e w' ⟨k, rfl, hb', T', rfl, h1, h2, h3⟩
    exact ⟨_, rfl, hb', T', rfl, h1, h2.keep (okup hsz) (fun _ _ _ _ h => h), h3⟩

/-- the tally behind an append, and behind whatever is done then to cells of other blocks -/
theorem TI.step {tal : Bool} {wr W w2 w3 : World} {P P' : Nat → Prop} {T : BT Int} {E : Nat → Ent} {i : Nat} {q' : Option Addr} (h : TI tal wr P T E i) (hW : Below wr.heap.size wr W) (h2 : Below W.heap.size W w2)
    (ht : TallyPost (addr T) (RT wr P T E i W.heap.size) W.heap.size w2 q') (hm : tal = true → 0 ≤ (E i).m)
    (hP : ∀ b, b < wr.heap.size ∧ P b → P' b) (hP2 : ∀ b, W.heap.size + 6 ≤ b → b < w2.heap.size → P' b)
    (hsz : w2.heap.size ≤ w3.heap.size) (h3 : ∀ b o v, b < w2.heap.size → P' b → w2.cell? ⟨b, o, none⟩ = some v → w3.cell? ⟨b, o, none⟩ = some v) :
    ∃ T', q' = addr T' ∧ TI tal w3 P' T' E (i + 1) := by
  rcases h with ⟨hf, rfl⟩ | ⟨htr, hn, hin, hg⟩
  · exact ⟨.nil, ht.1 rfl, Or.inl ⟨hf, rfl⟩⟩
  · have hs : (addr T).isSome = true := by
      cases T with
      | nil => exact absurd rfl hn
      | node b o x l r => rfl
    obtain ⟨w1, ⟨T', rfl, g1, g2, g3⟩, hc⟩ := ht.2 hs
    refine ⟨T', rfl, Or.inr ⟨htr, g1, ?_, ?_⟩⟩
    · have e1 : InT (fun b => (b < wr.heap.size ∧ P b) ∨ W.heap.size + 6 ≤ b) w2 T' := g2.keep (fun _ h => h) (fun b o v hb hv => by
        rw [hc b o ?_]; exact hv
        rcases hb with hb | hb
        · left; have := hW.size; omega
        · right; exact hb)
      have e2 : InT (fun b => ((b < wr.heap.size ∧ P b) ∨ W.heap.size + 6 ≤ b) ∧ b < w2.heap.size) w2 T' := InT_lt e1
      refine e2.keep (fun b hb => ?_) (fun b o v hb hv => h3 b o v hb.2 ?_ hv)
      · refine ⟨by omega, ?_⟩
        rcases hb.1 with hb1 | hb1
        · exact hP b hb1
        · exact hP2 b hb1 hb.2
      · rcases hb.1 with hb1 | hb1
        · exact hP b hb1
        · exact hP2 b hb1 hb.2
    · intro p
      rw [g3, hg]
      have m0 := hm htr
      show _ = if (E i).m = (p : Int) then (E i).n else lastN E i p
      by_cases e : p = (E i).m.toNat
      · rw [if_pos e, if_pos (by omega)]
      · rw [if_neg e, if_neg (by omega)]
where
  InT_lt : ∀ {ok : Nat → Prop} {w : World} {T : BT Int}, InT ok w T → InT (fun b => ok b ∧ b < w.heap.size) w T
  | _, _, .nil, _ => trivial
  | _, _, .node _ _ _ _ _, ⟨h0, h1, h2, h3, h4, h5⟩ => ⟨⟨h0, World.block_lt_of_cell? _ _ h1⟩, h1, h2, h3, InT_lt h4, InT_lt h5⟩

theorem TI.below {tal : Bool} {w w' : World} {P P' : Nat → Prop} {T : BT Int} {E : Nat → Ent} {i : Nat} (h : TI tal w P T E i) (hb : Below w.heap.size w w') (hP : ∀ b, P b → P' b) : TI tal w' P' T E i := by
  rcases h with h | ⟨h1, h2, h3, h4⟩
  · exact Or.inl h
  · exact Or.inr ⟨h1, h2, h3.below (fun b h => ⟨Nat.lt_of_lt_of_le h.1 hb.size, hP b h.2⟩) hb, h4⟩

theorem lastN_congr {E E' : Nat → Ent} : ∀ {n : Nat}, (∀ i, i < n → E' i = E i) → ∀ p, lastN E' n p = lastN E n p
  | 0, _, _ => rfl
  | n + 1, h, p => by
    simp only [lastN]
    rw [h n (Nat.lt_succ_self _), lastN_congr (fun i hi => h i (Nat.lt_succ_of_lt hi)) p]
theorem TI.congr {tal : Bool} {w : World} {P : Nat → Prop} {T : BT Int} {E E' : Nat → Ent} {i : Nat} (h : TI tal w P T E i) (hE : ∀ j, j < i → E' j = E j) : TI tal w P T E' i := by
  rcases h with h | ⟨h1, h2, h3, h4⟩
  · exact Or.inl h
  · exact Or.inr ⟨h1, h2, h3, fun p => (h4 p).trans (lastN_congr hE p).symm⟩

/-- a history in a variable of its own (block b), made since wL -/
structure Made (wL : World) (b : Nat) (wx : World) (B : Nat → Nat) (E : Nat → Ent) (n : Nat) (tal : Bool) (T : BT Int) : Prop where
  bel : Below wL.heap.size wL wx
  lt : b < wx.heap.size
  c0 : wx.cell? ⟨b, 0, none⟩ = some (.pointer (pos B n))
  c1 : wx.cell? ⟨b, 1, none⟩ = some (.pointer (addr T))
  hist : Hist wx B E n
  ti : TI tal wx (fun _ => True) T E n

theorem Made.below {wL wx wy : World} {b : Nat} {B : Nat → Nat} {E : Nat → Ent} {n : Nat} {tal : Bool} {T : BT Int} (h : Made wL b wx B E n tal T) (hb : Below wx.heap.size wx wy) : Made wL b wy B E n tal T :=
  ⟨h.bel.trans (hb.mono h.bel.size), Nat.lt_of_lt_of_le h.lt hb.size, (hb.cell (p := ⟨b, 0, none⟩) h.lt).trans h.c0, (hb.cell (p := ⟨b, 1, none⟩) h.lt).trans h.c1, h.hist.below hb, h.ti.below hb (fun _ h => h)⟩

/-- .. its variable laid ahead of the append -/
theorem made_set {wL W w2 : World} {b : Nat} {B B' : Nat → Nat} {E : Nat → Ent} {n : Nat} {tal : Bool} {T : BT Int} {q' : Option Addr} {o : Value} {o' : Value} (hT : TI tal wL (fun _ => True) T E n) (hH : Hist wL B E n)
    (hW : Below wL.heap.size wL W) (h2 : Below W.heap.size W w2) (hH2 : Hist w2 B' E (n + 1)) (hBB : ∀ k, k ≤ n → B' k = B k) (hn : W.heap.size ≤ B' (n + 1)) (ht : TallyPost (addr T) (RT wL (fun _ => True) T E n W.heap.size) W.heap.size w2 q') (hm : tal = true → 0 ≤ (E n).m)
    (hb1 : wL.heap.size ≤ b) (hb2 : b < W.heap.size) (ho : W.cell? ⟨b, 0, none⟩ = some o) (ho' : W.cell? ⟨b, 1, none⟩ = some o') :
    ∃ T', q' = addr T' ∧ Made wL b ((w2.setCell ⟨b, 0, none⟩ (.pointer (pos B' (n + 1)))).setCell ⟨b, 1, none⟩ (.pointer q')) B' E (n + 1) tal T' := by
  have hBne : ∀ k, 1 ≤ k → k ≤ n + 1 → b ≠ B' k := fun k k1 k2 => by
    by_cases e : k = n + 1
    · subst e; omega
    · rw [hBB k (by omega)]; have := hH.lt k1 (by omega); omega
  have far : ∀ (x : World) (k o : Nat) (p : Nat) (v : Value), k ≠ b → (x.setCell ⟨b, p, none⟩ v).cell? ⟨k, o, none⟩ = x.cell? ⟨k, o, none⟩ := fun x k o p v hk => World.cell?_setCell_far _ _ _ _ (by show b ≠ k; omega)
  have hb2' : b < w2.heap.size := Nat.lt_of_lt_of_le hb2 h2.size
  obtain ⟨T', rfl, hti⟩ := hT.step (P' := fun k => k ≠ b) (w3 := (w2.setCell ⟨b, 0, none⟩ (.pointer (pos B' (n + 1)))).setCell ⟨b, 1, none⟩ (.pointer q')) hW h2 ht hm (fun k hk => by omega) (fun k hk _ => by omega) (by simp [World.setCell]) (fun k o v hk hP hv => by
    rw [far _ _ _ _ _ hP, far _ _ _ _ _ hP]; exact hv)
  refine ⟨T', rfl, ?_, by simpa [World.setCell] using hb2', ?_, ?_, ?_, ?_⟩
  · exact (((hW.trans (h2.mono hW.size)).setCell hb1 _).setCell hb1 _)
  · rw [World.cell?_setCell_other _ _ _ _ (by simp)]
    exact World.cell?_setCell_same _ _ _ ((h2.cell (p := ⟨b, 0, none⟩) hb2).trans ho)
  · refine World.cell?_setCell_same _ _ _ (u := o') ?_
    rw [World.cell?_setCell_other _ _ _ _ (by simp)]
    exact (h2.cell (p := ⟨b, 1, none⟩) hb2).trans ho'
  · exact (hH2.setCell hBne _).setCell hBne _
  · rcases hti with h | ⟨h1, h2, h3, h4⟩
    · exact Or.inl h
    · exact Or.inr ⟨h1, h2, h3.keep (fun b h => ⟨h.1, trivial⟩) (fun _ _ _ _ h => h), h4⟩

/-- .. behind it -/
theorem made_alloc {wL W w2 : World} {B B' : Nat → Nat} {E : Nat → Ent} {n : Nat} {tal : Bool} {T : BT Int} {q' : Option Addr} (hT : TI tal wL (fun _ => True) T E n)
    (hW : Below wL.heap.size wL W) (h2 : Below W.heap.size W w2) (hH2 : Hist w2 B' E (n + 1)) (ht : TallyPost (addr T) (RT wL (fun _ => True) T E n W.heap.size) W.heap.size w2 q') (hm : tal = true → 0 ≤ (E n).m) :
    ∃ T', q' = addr T' ∧ Made wL w2.heap.size (w2.alloc (.cells #[.pointer (pos B' (n + 1)), .pointer q'] 29)) B' E (n + 1) tal T' := by
  obtain ⟨T', rfl, hti⟩ := hT.step (P' := fun _ => True) (w3 := w2) hW h2 ht hm (fun _ _ => trivial) (fun _ _ _ => trivial) (Nat.le_refl _) (fun _ _ _ _ _ h => h)
  have hb : Below w2.heap.size w2 (w2.alloc (.cells #[.pointer (pos B' (n + 1)), .pointer (addr T')] 29)) := bel_alloc (Below.refl _ _) _
  exact ⟨T', rfl, (hW.trans (h2.mono hW.size)).trans (hb.mono (Nat.le_trans hW.size h2.size)), by simp, by simp, by simp, hH2.below hb, hti.below hb (fun _ h => h)⟩

/-- APPEND, at a history whose tally is in order -/
theorem append_ti {tal : Bool} {wr : World} {P : Nat → Prop} {B : Nat → Nat} {E : Nat → Ent} {n : Nat} {T : BT Int} (hH : Hist wr B E n) (hT : TI tal wr P T E n) (hn : n ≤ 100000) (hm : tal = true → 0 ≤ (E n).m ∧ (E n).m ≤ 9223372036854775807) (W : World) (hW : Below wr.heap.size wr W) :
    Calls Try.prog 7 #[.agg #[.pointer (pos B n), .pointer (addr T)], .agg #[.int .i64 (E n).m, .int .i64 (E n).n, .string (E n).s]] W fun e w' => ∃ B' q', e = .returned (.agg #[.pointer (pos B' (n + 1)), .pointer q']) ∧ (∀ k, k ≤ n → B' k = B k) ∧ W.heap.size ≤ B' (n + 1) ∧ Below W.heap.size W w' ∧ Hist w' B' E (n + 1) ∧ TallyPost (addr T) (RT wr P T E n W.heap.size) W.heap.size w' q' :=
  append_hist B E n (addr T) (RT wr P T E n W.heap.size) W hn (hH.below hW) (setK_of hT hW hm)

/-- a round of the loop that appends -/
theorem loop_step {tal : Bool} {w0 wr W w2 : World} {hb : Nat} {B B' : Nat → Nat} {E : Nat → Ent} {i : Nat} {T : BT Int} {q' : Option Addr} (h : Built w0 hb wr B E i (addr T)) (hT : TI tal wr (fun b => b ≠ hb) T E i)
    (h1 : Below wr.heap.size wr W) (h2 : Below W.heap.size W w2) (hH : Hist w2 B' E (i + 1)) (hB : ∀ k, k ≤ i → B' k = B k) (hn : W.heap.size ≤ B' (i + 1)) (ht : TallyPost (addr T) (RT wr (fun b => b ≠ hb) T E i W.heap.size) W.heap.size w2 q') (hm : tal = true → 0 ≤ (E i).m) :
    ∃ T', Built w0 hb ((w2.setCell ⟨hb, 0, none⟩ (.pointer (pos B' (i + 1)))).setCell ⟨hb, 1, none⟩ (.pointer q')) B' E (i + 1) (addr T') ∧ TI tal ((w2.setCell ⟨hb, 0, none⟩ (.pointer (pos B' (i + 1)))).setCell ⟨hb, 1, none⟩ (.pointer q')) (fun b => b ≠ hb) T' E (i + 1) := by
  have far : ∀ (x : World) (k o : Nat) (p : Nat) (v : Value), k ≠ hb → (x.setCell ⟨hb, p, none⟩ v).cell? ⟨k, o, none⟩ = x.cell? ⟨k, o, none⟩ := fun x k o p v hk => World.cell?_setCell_far _ _ _ _ (by show hb ≠ k; omega)
  obtain ⟨T', rfl, hti⟩ := hT.step (P' := fun b => b ≠ hb) (w3 := (w2.setCell ⟨hb, 0, none⟩ (.pointer (pos B' (i + 1)))).setCell ⟨hb, 1, none⟩ (.pointer q')) h1 h2 ht hm (fun k hk => hk.2) (fun k hk _ => by have := h.lt; have := h1.size; omega) (by simp [World.setCell]) (fun k o v hk hP hv => by
    rw [far _ _ _ _ _ hP, far _ _ _ _ _ hP]; exact hv)
  exact ⟨T', h.step h1 h2 hH hB hn, hti⟩

/-- the list E with e behind its first n -/
def snoc (E : Nat → Ent) (n : Nat) (e : Ent) : Nat → Ent := fun j => if j = n then e else E j
theorem snoc_lt {E : Nat → Ent} {n : Nat} {e : Ent} {j : Nat} (h : j < n) : snoc E n e j = E j := if_neg (by omega)
theorem snoc_at {E : Nat → Ent} {n : Nat} {e : Ent} : snoc E n e n = e := if_pos rfl

/-- what an append of e to a history of n entries leaves -/
structure AppOne (wr : World) (e : Ent) (B : Nat → Nat) (E : Nat → Ent) (n : Nat) (tal : Bool) (T : BT Int) (W w' : World) (B' : Nat → Nat) (q' : Option Addr) : Prop where
  same : ∀ k, k ≤ n → B' k = B k
  up : W.heap.size ≤ B' (n + 1)
  bel : Below W.heap.size W w'
  hist : Hist w' B' (snoc E n e) (n + 1)
  tally : TallyPost (addr T) (RT wr (fun _ => True) T (snoc E n e) n W.heap.size) W.heap.size w' q'

theorem append_one {tal : Bool} {wr : World} {B : Nat → Nat} {E : Nat → Ent} {n : Nat} {T : BT Int} (e : Ent) (hH : Hist wr B E n) (hT : TI tal wr (fun _ => True) T E n) (hn : n ≤ 100000) (hm : tal = true → 0 ≤ e.m ∧ e.m ≤ 9223372036854775807) (W : World) (hW : Below wr.heap.size wr W) :
    Calls Try.prog 7 #[.agg #[.pointer (pos B n), .pointer (addr T)], .agg #[.int .i64 e.m, .int .i64 e.n, .string e.s]] W fun r w' => ∃ B' q', r = .returned (.agg #[.pointer (pos B' (n + 1)), .pointer q']) ∧ AppOne wr e B E n tal T W w' B' q' := by
  have := append_ti (E := snoc E n e) (hH.congr (fun _ _ => rfl) (fun j hj => snoc_lt hj)) (hT.congr (fun j hj => snoc_lt hj)) hn (by rw [snoc_at]; exact hm) W hW
  rw [snoc_at] at this
  refine this.mono ?_
  rintro r w' ⟨B', q', rfl, h1, h2, h3, h4, h5⟩
  exact ⟨B', q', rfl, h1, h2, h3, h4, h5⟩

theorem one_set {wL W w2 : World} {e : Ent} {b : Nat} {B B' : Nat → Nat} {E : Nat → Ent} {n : Nat} {tal : Bool} {T : BT Int} {q' : Option Addr} {o o' : Value} (hT : TI tal wL (fun _ => True) T E n) (hH : Hist wL B E n)
    (hW : Below wL.heap.size wL W) (h : AppOne wL e B E n tal T W w2 B' q') (hm : tal = true → 0 ≤ e.m) (hb1 : wL.heap.size ≤ b) (hb2 : b < W.heap.size) (ho : W.cell? ⟨b, 0, none⟩ = some o) (ho' : W.cell? ⟨b, 1, none⟩ = some o') :
    ∃ T', Made wL b ((w2.setCell ⟨b, 0, none⟩ (.pointer (pos B' (n + 1)))).setCell ⟨b, 1, none⟩ (.pointer q')) B' (snoc E n e) (n + 1) tal T' := by
  obtain ⟨T', _, hmd⟩ := made_set (E := snoc E n e) (hT.congr (fun j hj => snoc_lt hj)) (hH.congr (fun _ _ => rfl) (fun j hj => snoc_lt hj)) hW h.bel h.hist h.same h.up h.tally (by rw [snoc_at]; exact hm) hb1 hb2 ho ho'
  exact ⟨T', hmd⟩

theorem one_alloc {wL W w2 : World} {e : Ent} {B B' : Nat → Nat} {E : Nat → Ent} {n : Nat} {tal : Bool} {T : BT Int} {q' : Option Addr} (hT : TI tal wL (fun _ => True) T E n)
    (hW : Below wL.heap.size wL W) (h : AppOne wL e B E n tal T W w2 B' q') (hm : tal = true → 0 ≤ e.m) :
    ∃ T', Made wL w2.heap.size (w2.alloc (.cells #[.pointer (pos B' (n + 1)), .pointer q'] 29)) B' (snoc E n e) (n + 1) tal T' := by
  obtain ⟨T', _, hmd⟩ := made_alloc (B := B) (E := snoc E n e) (hT.congr (fun j hj => snoc_lt hj)) hW h.bel h.hist h.tally (by rw [snoc_at]; exact hm)
  exact ⟨T', hmd⟩

end Go.Proofs.Qxb6628307a
