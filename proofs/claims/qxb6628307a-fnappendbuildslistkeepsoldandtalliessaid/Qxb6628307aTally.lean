/-
  THE TALLY: a persistent binary trie. Its reading, and the contract of 'set'.
-/
import Derived.Test.Qxb6628307aSmall
import Derived.Deep.Trees
namespace Go.Proofs.Qxb6628307a
open Go.RowKit
open Go.Deep (BT)
set_option linter.unusedVariables false

def addr : BT Int → Option Addr
  | .nil => none
  | .node b _ _ _ _ => some ⟨b, 0, none⟩

def get : BT Int → Nat → Int
  | .nil, _ => 0
  | .node _ _ a l r, p => if p = 0 then a else if p % 2 = 0 then get l (p / 2) else get r (p / 2)

/-- the nodes lie in w, each at a block that is 'ok' -/
def InT (ok : Nat → Prop) (w : World) : BT Int → Prop
  | .nil => True
  | .node b _ a l r => ok b ∧ w.cell? ⟨b, 0, none⟩ = some (.int .i64 a) ∧ w.cell? ⟨b, 1, none⟩ = some (.pointer (addr l)) ∧ w.cell? ⟨b, 2, none⟩ = some (.pointer (addr r)) ∧ InT ok w l ∧ InT ok w r

theorem InT.keep {ok ok' : Nat → Prop} {w w' : World} : ∀ {T : BT Int}, InT ok w T → (∀ b, ok b → ok' b) → (∀ b o v, ok b → w.cell? ⟨b, o, none⟩ = some v → w'.cell? ⟨b, o, none⟩ = some v) → InT ok' w' T
  | .nil, _, _, _ => trivial
  | .node _ _ _ _ _, ⟨h0, h1, h2, h3, h4, h5⟩, hok, hc => ⟨hok _ h0, hc _ _ _ h0 h1, hc _ _ _ h0 h2, hc _ _ _ h0 h3, InT.keep h4 hok hc, InT.keep h5 hok hc⟩

theorem InT.below {ok ok' : Nat → Prop} {w w' : World} {T : BT Int} (h : InT ok w T) (hok : ∀ b, ok b → ok' b) (hb : Below w.heap.size w w') : InT ok' w' T :=
  h.keep hok fun b o _ _ hc => (hb.cell (p := ⟨b, o, none⟩) (World.block_lt_of_cell? _ _ hc)).trans hc

theorem InT.setCell {ok ok' : Nat → Prop} {w : World} {T : BT Int} (h : InT ok w T) (hok : ∀ b, ok b → ok' b) {a : Addr} (ha : ∀ b, ok b → b ≠ a.block) (u : Value) : InT ok' (w.setCell a u) T :=
  h.keep hok fun b o v hb hc => by rw [World.cell?_setCell_other _ _ _ _ (fun e => ha b hb (by rw [e]))]; exact hc

set_option maxHeartbeats 400000 in
theorem set_nil0 (num : Int) (w : World) :
    Calls Try.prog 19 #[.pointer none, .int .i64 0, .int .i64 num] w fun e w' => e = .returned (.pointer (some ⟨w.heap.size, 0, none⟩)) ∧ w' = w.alloc (.cells #[.int .i64 num, .pointer none, .pointer none] 44) := by
  go_enter Try.func19, Try.ntmps19
  go_wp2_with fail
  go_ret
  exact ⟨rfl, rfl⟩

set_option maxHeartbeats 400000 in
theorem set_node0 (b : Nat) (a num : Int) (l r : Option Addr) (w : World) (hb : b < w.heap.size) (h0 : w.cell? ⟨b, 0, none⟩ = some (.int .i64 a)) (h1 : w.cell? ⟨b, 1, none⟩ = some (.pointer l)) (h2 : w.cell? ⟨b, 2, none⟩ = some (.pointer r)) :
    Calls Try.prog 19 #[.pointer (some ⟨b, 0, none⟩), .int .i64 0, .int .i64 num] w fun e w' => e = .returned (.pointer (some ⟨w.heap.size, 0, none⟩)) ∧ w' = w.alloc (.cells #[.int .i64 num, .pointer l, .pointer r] 44) := by
  have h0' : ∀ o, (w.alloc o).cell? ⟨b, 0, none⟩ = some (.int .i64 a) := fun o => by rw [World.cell?_alloc_lt _ _ _ hb]; exact h0
  have h1' : ∀ o, (w.alloc o).cell? ⟨b, 1, none⟩ = some (.pointer l) := fun o => by rw [World.cell?_alloc_lt _ _ _ hb]; exact h1
  have h2' : ∀ o, (w.alloc o).cell? ⟨b, 2, none⟩ = some (.pointer r) := fun o => by rw [World.cell?_alloc_lt _ _ _ hb]; exact h2
  go_enter Try.func19, Try.ntmps19
  go_wp2_with fail
  go_ret
  exact ⟨rfl, rfl⟩

theorem and_one_i64 (n : Int) : bits .and .i64 n 1 = n % 2 := by
  have h1 : (BitVec.ofInt 64 1).toNat = 2 ^ 1 - 1 := by decide
  have key : (BitVec.ofInt 64 n &&& BitVec.ofInt 64 1).toNat = (n % ((2 ^ 64 : Nat) : Int)).toNat % 2 ^ 1 := by
    rw [BitVec.toNat_and, BitVec.toNat_ofInt, h1, Nat.and_two_pow_sub_one_eq_mod]
  show IntKind.i64.wrap ((BitVec.ofInt 64 n &&& BitVec.ofInt 64 1).toNat : Nat) = n % 2
  rw [key, IntKind.wrap_i64]
  omega

/-- what a call of 'set' on a kid may be taken to do -/
def Kid (kid : Option Addr) (p num : Int) (R : World → Option Addr → Prop) (W0 : World) : Prop :=
  ∀ W, Below W0.heap.size W0 W → W0.heap.size + 1 ≤ W.heap.size → Calls Try.prog 19 #[.pointer kid, .int .i64 p, .int .i64 num] W fun e w' => ∃ k', e = .returned (.pointer k') ∧ Below W.heap.size W w' ∧ R w' k'

set_option maxHeartbeats 400000 in
theorem set_nil_even (p : Int) (num : Int) (w : World) (hp : 0 < p) (hp' : p ≤ 9223372036854775807) (he : p % 2 = 0) (R : World → Option Addr → Prop) (hr : Kid none (p / 2) num R w) :
    Calls Try.prog 19 #[.pointer none, .int .i64 p, .int .i64 num] w fun e w' => ∃ k' w1, e = .returned (.pointer (some ⟨w.heap.size, 0, none⟩)) ∧ Below (w.heap.size + 1) (w.alloc (.cells #[.int .i64 0, .pointer none, .pointer none] 44)) w1 ∧ R w1 k' ∧ w' = w1.setCell ⟨w.heap.size, 1, none⟩ (.pointer k') := by
  have hne : (p == 0) = false := by simp; omega
  have hand : bits BinOp.and IntKind.i64 p 1 = 0 := by rw [and_one_i64]; exact he
  clear he
  go_enter Try.func19, Try.ntmps19
  go_wp2_with fail
  refine (hr _ ?_ ?_).mono ?_
  · exact (Below.refl _ _).alloc (Nat.le_refl _) _
  · simp
  rintro e w1 ⟨k', rfl, hb, hR⟩
  have hc : ∀ o, w1.cell? ⟨w.heap.size, o, none⟩ = (w.alloc (.cells #[.int .i64 0, .pointer none, .pointer none] 44)).cell? ⟨w.heap.size, o, none⟩ := fun o => hb.cell (p := ⟨w.heap.size, o, none⟩) (by simp)
  have hf : ∀ o, w1.frozen? ⟨w.heap.size, o, none⟩ = (w.alloc (.cells #[.int .i64 0, .pointer none, .pointer none] 44)).frozen? ⟨w.heap.size, o, none⟩ := fun o => hb.frozen (p := ⟨w.heap.size, o, none⟩) (by simp)
  go_wp2_with fail
  go_ret
  exact ⟨k', w1, rfl, by simpa using hb, hR, rfl⟩

set_option maxHeartbeats 400000 in
theorem set_nil_odd (p : Int) (num : Int) (w : World) (hp : 0 < p) (hp' : p ≤ 9223372036854775807) (he : p % 2 = 1) (R : World → Option Addr → Prop) (hr : Kid none (p / 2) num R w) :
    Calls Try.prog 19 #[.pointer none, .int .i64 p, .int .i64 num] w fun e w' => ∃ k' w1, e = .returned (.pointer (some ⟨w.heap.size, 0, none⟩)) ∧ Below (w.heap.size + 1) (w.alloc (.cells #[.int .i64 0, .pointer none, .pointer none] 44)) w1 ∧ R w1 k' ∧ w' = w1.setCell ⟨w.heap.size, 2, none⟩ (.pointer k') := by
  have hne : (p == 0) = false := by simp; omega
  have hand : bits BinOp.and IntKind.i64 p 1 = 1 := by rw [and_one_i64]; exact he
  clear he
  go_enter Try.func19, Try.ntmps19
  go_wp2_with fail
  refine (hr _ ?_ ?_).mono ?_
  · exact (Below.refl _ _).alloc (Nat.le_refl _) _
  · simp
  rintro e w1 ⟨k', rfl, hb, hR⟩
  have hc : ∀ o, w1.cell? ⟨w.heap.size, o, none⟩ = (w.alloc (.cells #[.int .i64 0, .pointer none, .pointer none] 44)).cell? ⟨w.heap.size, o, none⟩ := fun o => hb.cell (p := ⟨w.heap.size, o, none⟩) (by simp)
  have hf : ∀ o, w1.frozen? ⟨w.heap.size, o, none⟩ = (w.alloc (.cells #[.int .i64 0, .pointer none, .pointer none] 44)).frozen? ⟨w.heap.size, o, none⟩ := fun o => hb.frozen (p := ⟨w.heap.size, o, none⟩) (by simp)
  go_wp2_with fail
  go_ret
  exact ⟨k', w1, rfl, by simpa using hb, hR, rfl⟩

set_option maxHeartbeats 400000 in
theorem set_node_even (b : Nat) (a : Int) (l r : Option Addr) (p : Int) (num : Int) (w : World) (hb : b < w.heap.size) (h0 : w.cell? ⟨b, 0, none⟩ = some (.int .i64 a)) (h1 : w.cell? ⟨b, 1, none⟩ = some (.pointer l)) (h2 : w.cell? ⟨b, 2, none⟩ = some (.pointer r)) (hp : 0 < p) (hp' : p ≤ 9223372036854775807) (he : p % 2 = 0) (R : World → Option Addr → Prop) (hr : Kid l (p / 2) num R w) :
    Calls Try.prog 19 #[.pointer (some ⟨b, 0, none⟩), .int .i64 p, .int .i64 num] w fun e w' => ∃ k' w1, e = .returned (.pointer (some ⟨w.heap.size, 0, none⟩)) ∧ Below (w.heap.size + 1) (w.alloc (.cells #[.int .i64 a, .pointer l, .pointer r] 44)) w1 ∧ R w1 k' ∧ w' = w1.setCell ⟨w.heap.size, 1, none⟩ (.pointer k') := by
  have h0' : ∀ o, (w.alloc o).cell? ⟨b, 0, none⟩ = some (.int .i64 a) := fun o => by rw [World.cell?_alloc_lt _ _ _ hb]; exact h0
  have h1' : ∀ o, (w.alloc o).cell? ⟨b, 1, none⟩ = some (.pointer l) := fun o => by rw [World.cell?_alloc_lt _ _ _ hb]; exact h1
  have h2' : ∀ o, (w.alloc o).cell? ⟨b, 2, none⟩ = some (.pointer r) := fun o => by rw [World.cell?_alloc_lt _ _ _ hb]; exact h2
  have hne : (p == 0) = false := by simp; omega
  have hand : bits BinOp.and IntKind.i64 p 1 = 0 := by rw [and_one_i64]; exact he
  clear he
  go_enter Try.func19, Try.ntmps19
  go_wp2_with fail
  refine (hr _ ?_ ?_).mono ?_
  · exact (Below.refl _ _).alloc (Nat.le_refl _) _
  · simp
  rintro e w1 ⟨k', rfl, hb, hR⟩
  have hc : ∀ o, w1.cell? ⟨w.heap.size, o, none⟩ = (w.alloc (.cells #[.int .i64 a, .pointer l, .pointer r] 44)).cell? ⟨w.heap.size, o, none⟩ := fun o => hb.cell (p := ⟨w.heap.size, o, none⟩) (by simp)
  have hf : ∀ o, w1.frozen? ⟨w.heap.size, o, none⟩ = (w.alloc (.cells #[.int .i64 a, .pointer l, .pointer r] 44)).frozen? ⟨w.heap.size, o, none⟩ := fun o => hb.frozen (p := ⟨w.heap.size, o, none⟩) (by simp)
  go_wp2_with fail
  go_ret
  exact ⟨k', w1, rfl, by simpa using hb, hR, rfl⟩

set_option maxHeartbeats 400000 in
theorem set_node_odd (b : Nat) (a : Int) (l r : Option Addr) (p : Int) (num : Int) (w : World) (hb : b < w.heap.size) (h0 : w.cell? ⟨b, 0, none⟩ = some (.int .i64 a)) (h1 : w.cell? ⟨b, 1, none⟩ = some (.pointer l)) (h2 : w.cell? ⟨b, 2, none⟩ = some (.pointer r)) (hp : 0 < p) (hp' : p ≤ 9223372036854775807) (he : p % 2 = 1) (R : World → Option Addr → Prop) (hr : Kid r (p / 2) num R w) :
    Calls Try.prog 19 #[.pointer (some ⟨b, 0, none⟩), .int .i64 p, .int .i64 num] w fun e w' => ∃ k' w1, e = .returned (.pointer (some ⟨w.heap.size, 0, none⟩)) ∧ Below (w.heap.size + 1) (w.alloc (.cells #[.int .i64 a, .pointer l, .pointer r] 44)) w1 ∧ R w1 k' ∧ w' = w1.setCell ⟨w.heap.size, 2, none⟩ (.pointer k') := by
  have h0' : ∀ o, (w.alloc o).cell? ⟨b, 0, none⟩ = some (.int .i64 a) := fun o => by rw [World.cell?_alloc_lt _ _ _ hb]; exact h0
  have h1' : ∀ o, (w.alloc o).cell? ⟨b, 1, none⟩ = some (.pointer l) := fun o => by rw [World.cell?_alloc_lt _ _ _ hb]; exact h1
  have h2' : ∀ o, (w.alloc o).cell? ⟨b, 2, none⟩ = some (.pointer r) := fun o => by rw [World.cell?_alloc_lt _ _ _ hb]; exact h2
  have hne : (p == 0) = false := by simp; omega
  have hand : bits BinOp.and IntKind.i64 p 1 = 1 := by rw [and_one_i64]; exact he
  clear he
  go_enter Try.func19, Try.ntmps19
  go_wp2_with fail
  refine (hr _ ?_ ?_).mono ?_
  · exact (Below.refl _ _).alloc (Nat.le_refl _) _
  · simp
  rintro e w1 ⟨k', rfl, hb, hR⟩
  have hc : ∀ o, w1.cell? ⟨w.heap.size, o, none⟩ = (w.alloc (.cells #[.int .i64 a, .pointer l, .pointer r] 44)).cell? ⟨w.heap.size, o, none⟩ := fun o => hb.cell (p := ⟨w.heap.size, o, none⟩) (by simp)
  have hf : ∀ o, w1.frozen? ⟨w.heap.size, o, none⟩ = (w.alloc (.cells #[.int .i64 a, .pointer l, .pointer r] 44)).frozen? ⟨w.heap.size, o, none⟩ := fun o => hb.frozen (p := ⟨w.heap.size, o, none⟩) (by simp)
  go_wp2_with fail
  go_ret
  exact ⟨k', w1, rfl, by simpa using hb, hR, rfl⟩

/-- what 'set' leaves: a tree with the number at its place, all else as it was -/
def SetTo (ok : Nat → Prop) (H : Nat) (T : BT Int) (p : Nat) (num : Int) (w' : World) (k : Option Addr) : Prop :=
  ∃ T', k = addr T' ∧ T' ≠ .nil ∧ InT (fun b => ok b ∨ H ≤ b) w' T' ∧ ∀ q, get T' q = if q = p then num else get T q

theorem okup {ok : Nat → Prop} {H H' : Nat} (hH : H' ≤ H) : ∀ b, (ok b ∨ H ≤ b) → (ok b ∨ H' ≤ b) := by
  intro b h
  rcases h with h | h
  · exact Or.inl h
  · exact Or.inr (by omega)
theorem okne {ok : Nat → Prop} {H o : Nat} (hok : ∀ b, ok b → b < H) : ∀ b, (ok b ∨ H + 1 ≤ b) → b ≠ (⟨H, o, none⟩ : Addr).block := by
  intro b h
  rcases h with h | h
  · have := hok b h; simp; omega
  · simp; omega

/-- the join: a new root over one new kid -/
theorem join_left {ok : Nat → Prop} {w w1 : World} {a : Int} {l r : BT Int} {p : Nat} {num : Int} {k' : Option Addr} (hok : ∀ b, ok b → b < w.heap.size) (hr : InT ok w r) (hp : 0 < p) (he : p % 2 = 0)
    (hb : Below (w.heap.size + 1) (w.alloc (.cells #[.int .i64 a, .pointer (addr l), .pointer (addr r)] 44)) w1) (hR : SetTo ok (w.heap.size + 1) l (p / 2) num w1 k') (T : BT Int) (hT : ∀ q, get T q = if q = 0 then a else if q % 2 = 0 then get l (q / 2) else get r (q / 2)) :
    Below w.heap.size w (w1.setCell ⟨w.heap.size, 1, none⟩ (.pointer k')) ∧ SetTo ok w.heap.size T p num (w1.setCell ⟨w.heap.size, 1, none⟩ (.pointer k')) (some ⟨w.heap.size, 0, none⟩) := by
  have hbw : Below w.heap.size w w1 := ((Below.refl _ _).alloc (Nat.le_refl _) _).trans (hb.mono (Nat.le_succ _))
  refine ⟨hbw.setCell (Nat.le_refl _) _, ?_⟩
  obtain ⟨l', rfl, hl, hin, hg⟩ := hR
  have hc : ∀ o, w1.cell? ⟨w.heap.size, o, none⟩ = (w.alloc (.cells #[.int .i64 a, .pointer (addr l), .pointer (addr r)] 44)).cell? ⟨w.heap.size, o, none⟩ := fun o => hb.cell (p := ⟨w.heap.size, o, none⟩) (Nat.lt_succ_self _)
  have c0 : w1.cell? ⟨w.heap.size, 0, none⟩ = some (.int .i64 a) := by rw [hc]; simp
  have c1 : w1.cell? ⟨w.heap.size, 1, none⟩ = some (.pointer (addr l)) := by rw [hc]; simp
  have c2 : w1.cell? ⟨w.heap.size, 2, none⟩ = some (.pointer (addr r)) := by rw [hc]; simp
  refine ⟨.node w.heap.size 0 a l' r, rfl, by simp, ⟨Or.inr (Nat.le_refl _), ?_, ?_, ?_, ?_, ?_⟩, ?_⟩
  · rw [World.cell?_setCell_other _ _ _ _ (by simp)]; exact c0
  · exact World.cell?_setCell_same _ _ _ c1
  · rw [World.cell?_setCell_other _ _ _ _ (by simp)]; exact c2
  · exact hin.setCell (okup (by omega)) (okne hok) _
  · exact (hr.below (ok' := ok) (fun _ h => h) hbw).setCell (fun b h => Or.inl h) (fun b h => by have := hok b h; simp; omega) _
  · intro q
    rw [hT]
    simp only [get]
    by_cases q0 : q = 0
    · rw [if_pos q0, if_pos q0, if_neg (by omega)]
    · rw [if_neg q0, if_neg q0]
      by_cases q2 : q % 2 = 0
      · rw [if_pos q2, if_pos q2, hg]
        by_cases e : q = p
        · rw [if_pos (by omega), if_pos e]
        · rw [if_neg (by omega), if_neg e]
      · rw [if_neg q2, if_neg q2, if_neg (by omega)]

theorem join_right {ok : Nat → Prop} {w w1 : World} {a : Int} {l r : BT Int} {p : Nat} {num : Int} {k' : Option Addr} (hok : ∀ b, ok b → b < w.heap.size) (hl0 : InT ok w l) (hp : 0 < p) (he : p % 2 = 1)
    (hb : Below (w.heap.size + 1) (w.alloc (.cells #[.int .i64 a, .pointer (addr l), .pointer (addr r)] 44)) w1) (hR : SetTo ok (w.heap.size + 1) r (p / 2) num w1 k') (T : BT Int) (hT : ∀ q, get T q = if q = 0 then a else if q % 2 = 0 then get l (q / 2) else get r (q / 2)) :
    Below w.heap.size w (w1.setCell ⟨w.heap.size, 2, none⟩ (.pointer k')) ∧ SetTo ok w.heap.size T p num (w1.setCell ⟨w.heap.size, 2, none⟩ (.pointer k')) (some ⟨w.heap.size, 0, none⟩) := by
  have hbw : Below w.heap.size w w1 := ((Below.refl _ _).alloc (Nat.le_refl _) _).trans (hb.mono (Nat.le_succ _))
  refine ⟨hbw.setCell (Nat.le_refl _) _, ?_⟩
  obtain ⟨r', rfl, hl, hin, hg⟩ := hR
  have hc : ∀ o, w1.cell? ⟨w.heap.size, o, none⟩ = (w.alloc (.cells #[.int .i64 a, .pointer (addr l), .pointer (addr r)] 44)).cell? ⟨w.heap.size, o, none⟩ := fun o => hb.cell (p := ⟨w.heap.size, o, none⟩) (Nat.lt_succ_self _)
  have c0 : w1.cell? ⟨w.heap.size, 0, none⟩ = some (.int .i64 a) := by rw [hc]; simp
  have c1 : w1.cell? ⟨w.heap.size, 1, none⟩ = some (.pointer (addr l)) := by rw [hc]; simp
  have c2 : w1.cell? ⟨w.heap.size, 2, none⟩ = some (.pointer (addr r)) := by rw [hc]; simp
  refine ⟨.node w.heap.size 0 a l r', rfl, by simp, ⟨Or.inr (Nat.le_refl _), ?_, ?_, ?_, ?_, ?_⟩, ?_⟩
  · rw [World.cell?_setCell_other _ _ _ _ (by simp)]; exact c0
  · rw [World.cell?_setCell_other _ _ _ _ (by simp)]; exact c1
  · exact World.cell?_setCell_same _ _ _ c2
  · exact (hl0.below (ok' := ok) (fun _ h => h) hbw).setCell (fun b h => Or.inl h) (fun b h => by have := hok b h; simp; omega) _
  · exact hin.setCell (okup (by omega)) (okne hok) _
  · intro q
    rw [hT]
    simp only [get]
    by_cases q0 : q = 0
    · rw [if_pos q0, if_pos q0, if_neg (by omega)]
    · rw [if_neg q0, if_neg q0]
      by_cases q2 : q % 2 = 0
      · rw [if_pos q2, if_pos q2, if_neg (by omega)]
      · rw [if_neg q2, if_neg q2, hg]
        by_cases e : q = p
        · rw [if_pos (by omega), if_pos e]
        · rw [if_neg (by omega), if_neg e]

/-- a new root with the number itself -/
theorem join_root {ok : Nat → Prop} {w : World} {a num : Int} {l r : BT Int} (hl : InT ok w l) (hr : InT ok w r) (T : BT Int) (hT : ∀ q, get T q = if q = 0 then a else if q % 2 = 0 then get l (q / 2) else get r (q / 2)) :
    Below w.heap.size w (w.alloc (.cells #[.int .i64 num, .pointer (addr l), .pointer (addr r)] 44)) ∧ SetTo ok w.heap.size T 0 num (w.alloc (.cells #[.int .i64 num, .pointer (addr l), .pointer (addr r)] 44)) (some ⟨w.heap.size, 0, none⟩) := by
  have hbw : Below w.heap.size w (w.alloc (.cells #[.int .i64 num, .pointer (addr l), .pointer (addr r)] 44)) := (Below.refl _ _).alloc (Nat.le_refl _) _
  refine ⟨hbw, .node w.heap.size 0 num l r, rfl, by simp, ⟨Or.inr (Nat.le_refl _), by simp, by simp, by simp, hl.below (fun _ h => Or.inl h) hbw, hr.below (fun _ h => Or.inl h) hbw⟩, ?_⟩
  intro q
  rw [hT]
  simp only [get]
  by_cases q0 : q = 0
  · rw [if_pos q0, if_pos q0]
  · rw [if_neg q0, if_neg q0, if_neg q0]

/-- THE CONTRACT of set -/
theorem set_any (K : Nat) : ∀ (p : Nat) (T : BT Int) (num : Int) (w : World) (ok : Nat → Prop), p ≤ K → p ≤ 9223372036854775807 → (∀ b, ok b → b < w.heap.size) → InT ok w T →
    Calls Try.prog 19 #[.pointer (addr T), .int .i64 p, .int .i64 num] w fun e w' => ∃ k, e = .returned (.pointer k) ∧ Below w.heap.size w w' ∧ SetTo ok w.heap.size T p num w' k := by
  induction K with
  | zero =>
    intro p T num w ok hK hp hok hT
    obtain rfl : p = 0 := by omega
    match T, hT with
    | .nil, _ =>
      refine (set_nil0 num w).mono ?_
      rintro e w' ⟨rfl, rfl⟩
      have := join_root (ok := ok) (w := w) (a := 0) (num := num) (l := .nil) (r := .nil) trivial trivial .nil (fun q => by simp [get])
      exact ⟨_, rfl, this⟩
    | .node b o a l r, ⟨h0, h1, h2, h3, h4, h5⟩ =>
      refine (set_node0 b a num _ _ w (hok _ h0) h1 h2 h3).mono ?_
      rintro e w' ⟨rfl, rfl⟩
      have := join_root (ok := ok) (w := w) (a := a) (num := num) (l := l) (r := r) h4 h5 (.node b o a l r) (fun q => by simp [get])
      exact ⟨_, rfl, this⟩
  | succ K ih =>
    intro p T num w ok hK hp hok hT
    by_cases p0 : p = 0
    · subst p0
      exact ih 0 T num w ok (Nat.zero_le _) hp hok hT
    have hkid : ∀ t, InT ok w t → Kid (addr t) ((p : Int) / 2) num (fun w1 k => SetTo ok (w.heap.size + 1) t (p / 2) num w1 k) w := by
      intro t ht W hW hsz
      have := ih (p / 2) t num W ok (by omega) (by omega) (fun b h => Nat.lt_of_lt_of_le (hok b h) hW.size) (ht.below (fun _ h => h) hW)
      rw [show ((p / 2 : Nat) : Int) = (p : Int) / 2 by omega] at this
      refine this.mono ?_
      rintro e w' ⟨k, rfl, hb, T', rfl, h1, h2, h3⟩
      exact ⟨_, rfl, hb, T', rfl, h1, h2.keep (okup (by omega)) (fun _ _ _ _ h => h), h3⟩
    by_cases he : p % 2 = 0
    · match T, hT with
      | .nil, _ =>
        refine (set_nil_even p num w (by omega) (by omega) (by omega) _ (hkid .nil trivial)).mono ?_
        rintro e w' ⟨k', w1, rfl, hb, hR, rfl⟩
        exact ⟨_, rfl, join_left (r := .nil) hok trivial (by omega) he hb hR .nil (fun q => by simp [get])⟩
      | .node b o a l r, ⟨h0, h1, h2, h3, h4, h5⟩ =>
        refine (set_node_even b a _ _ p num w (hok _ h0) h1 h2 h3 (by omega) (by omega) (by omega) _ (hkid l h4)).mono ?_
        rintro e w' ⟨k', w1, rfl, hb, hR, rfl⟩
        exact ⟨_, rfl, join_left hok h5 (by omega) he hb hR (.node b o a l r) (fun q => by simp [get])⟩
    · match T, hT with
      | .nil, _ =>
        refine (set_nil_odd p num w (by omega) (by omega) (by omega) _ (hkid .nil trivial)).mono ?_
        rintro e w' ⟨k', w1, rfl, hb, hR, rfl⟩
        exact ⟨_, rfl, join_right (l := .nil) hok trivial (by omega) (by omega) hb hR .nil (fun q => by simp [get])⟩
      | .node b o a l r, ⟨h0, h1, h2, h3, h4, h5⟩ =>
        refine (set_node_odd b a _ _ p num w (hok _ h0) h1 h2 h3 (by omega) (by omega) (by omega) _ (hkid r h5)).mono ?_
        rintro e w' ⟨k', w1, rfl, hb, hR, rfl⟩
        exact ⟨_, rfl, join_right hok h4 (by omega) (by omega) hb hR (.node b o a l r) (fun q => by simp [get])⟩
end Go.Proofs.Qxb6628307a
