/-
  THE PLAIN LAW of the skew-binary jumps: no Go in sight.
-/
namespace Go.Proofs.Qxb6628307a.Skew

/-- t is 2^k - 1 -/
def Ones (t : Nat) : Prop := ∃ k, t + 1 = 2 ^ k

theorem Ones.one : Ones 1 := ⟨1, rfl⟩
theorem Ones.step {t : Nat} (h : Ones t) : Ones (2 * t + 1) := by
  obtain ⟨k, hk⟩ := h
  exact ⟨k + 1, by rw [Nat.pow_succ, ← hk]; omega⟩
theorem Ones.gap {a b : Nat} (ha : Ones a) (hb : Ones b) (h : a < b) : 2 * a + 1 ≤ b := by
  obtain ⟨i, hi⟩ := ha
  obtain ⟨j, hj⟩ := hb
  have hij : i < j := by
    rcases Nat.lt_or_ge i j with h' | h'
    · exact h'
    · have := Nat.pow_le_pow_right (show 0 < 2 by omega) h'
      omega
  have := Nat.pow_le_pow_right (show 0 < 2 by omega) (show i + 1 ≤ j by omega)
  rw [Nat.pow_succ] at this
  omega

/-- t is the greatest 2^k - 1 up to m -/
def IsTop (t m : Nat) : Prop := Ones t ∧ 1 ≤ t ∧ t ≤ m ∧ m < 2 * t + 1
theorem IsTop.uniq {a b m : Nat} (ha : IsTop a m) (hb : IsTop b m) : a = b := by
  obtain ⟨a1, a2, a3, a4⟩ := ha
  obtain ⟨b1, b2, b3, b4⟩ := hb
  rcases Nat.lt_trichotomy a b with h | h | h
  · have := a1.gap b1 h; omega
  · exact h
  · have := b1.gap a1 h; omega

def up : Nat → Nat → Nat → Nat
  | 0, t, _ => t
  | f + 1, t, m => if 2 * t + 1 ≤ m then up f (2 * t + 1) m else t
theorem up_top : ∀ (f t m : Nat), Ones t → 1 ≤ t → t ≤ m → m < t + f → IsTop (up f t m) m
  | 0, t, m, _, _, h1, h2 => by omega
  | f + 1, t, m, ho, hp, h1, h2 => by
    unfold up
    split
    · rename_i h
      exact up_top f (2 * t + 1) m ho.step (by omega) h (by omega)
    · exact ⟨ho, hp, h1, by omega⟩
def top (m : Nat) : Nat := up m 1 m
theorem top_is {m : Nat} (h : 1 ≤ m) : IsTop (top m) m := up_top m 1 m Ones.one (by omega) h (by omega)
theorem top_eq {t m : Nat} (h : IsTop t m) : top m = t := (top_is (by have := h.2.1; have := h.2.2.1; omega)).uniq h

/-- the smallest term, with fuel -/
def termF : Nat → Nat → Nat
  | 0, _ => 0
  | f + 1, m => if m = 0 then 0 else if m = top m then top m else termF f (m - top m)
theorem termF_fuel : ∀ (f g m : Nat), m ≤ f → m ≤ g → termF f m = termF g m
  | 0, 0, m, _, _ => rfl
  | 0, g + 1, m, h, _ => by
    have : m = 0 := by omega
    subst this; simp [termF]
  | f + 1, 0, m, _, h => by
    have : m = 0 := by omega
    subst this; simp [termF]
  | f + 1, g + 1, m, h1, h2 => by
    unfold termF
    by_cases h0 : m = 0
    · simp [h0]
    · have := top_is (m := m) (by omega)
      obtain ⟨_, t1, t2, _⟩ := this
      rw [termF_fuel f g (m - top m) (by omega) (by omega)]
def term (m : Nat) : Nat := termF m m
theorem term_zero : term 0 = 0 := rfl
theorem term_step {m : Nat} (h : 1 ≤ m) : term m = if m = top m then top m else term (m - top m) := by
  obtain ⟨_, t1, t2, _⟩ := top_is h
  obtain ⟨f, rfl⟩ : ∃ f, m = f + 1 := ⟨m - 1, by omega⟩
  show termF (f + 1) (f + 1) = _
  unfold termF
  rw [if_neg (by omega)]
  split
  · rfl
  · exact termF_fuel _ _ _ (by omega) (by omega)

/-- what the loop of smallestSkewTerm still comes to from (m, w) -/
def fin (m w : Nat) : Nat := if m = 0 then w else term m
theorem fin_step {m t w : Nat} (h : IsTop t m) : fin (m - t) t = fin m w := by
  have h1 : 1 ≤ m := by have := h.2.1; have := h.2.2.1; omega
  have ht := top_eq h
  have hl : t ≤ m := h.2.2.1
  unfold fin
  rw [if_neg (show ¬ m = 0 by omega), term_step h1, ht]
  by_cases e : m = t
  · rw [if_pos (by omega), if_pos e]
  · rw [if_neg (by omega), if_neg e]

theorem term_le : ∀ (n m : Nat), m ≤ n → term m ≤ m ∧ (1 ≤ m → 1 ≤ term m)
  | 0, m, h => by
    have : m = 0 := by omega
    subst this; simp [term_zero]
  | n + 1, m, h => by
    by_cases h0 : m = 0
    · subst h0; simp [term_zero]
    · obtain ⟨_, t1, t2, _⟩ := top_is (m := m) (by omega)
      rw [term_step (by omega)]
      split
      · exact ⟨t2, fun _ => t1⟩
      · have := term_le n (m - top m) (by omega)
        exact ⟨by omega, fun _ => this.2 (by omega)⟩

/-- the jump's position -/
def J (m : Nat) : Nat := m - term m
theorem J_zero : J 0 = 0 := rfl
theorem J_le (m : Nat) : J m ≤ m := Nat.sub_le _ _
theorem J_lt {m : Nat} (h : 1 ≤ m) : J m < m := by
  have := (term_le m m (Nat.le_refl _)).2 h
  unfold J; omega
theorem J_ones {t : Nat} (h : Ones t) (hp : 1 ≤ t) : J t = 0 := by
  have ht : top t = t := top_eq ⟨h, hp, Nat.le_refl _, by omega⟩
  unfold J
  rw [term_step hp, ht, if_pos rfl]; omega
theorem J_add {t x : Nat} (h : Ones t) (hp : 1 ≤ x) (hx : x ≤ t) : J (t + x) = t + J x := by
  have ht : top (t + x) = t := top_eq ⟨h, by omega, by omega, by omega⟩
  have hl := (term_le x x (Nat.le_refl _)).1
  unfold J
  rw [term_step (by omega), ht, if_neg (by omega), show t + x - t = x by omega]
  omega

/-- APPEND's RULE for the jump -/
theorem J_succ : ∀ (b n : Nat), n ≤ b → J (n + 1) = if 1 ≤ n ∧ J n ≠ 0 ∧ n - J n = J n - J (J n) then J (J n) else n
  | 0, n, h => by
    have : n = 0 := by omega
    subst this
    exact J_ones Ones.one (by omega)
  | b + 1, n, h => by
    by_cases h0 : n = 0
    · subst h0
      exact J_ones Ones.one (by omega)
    obtain ⟨ho, t1, t2, t3⟩ := top_is (m := n) (by omega)
    generalize top n = t at *
    by_cases he : n = t
    · subst he
      rw [J_ones ho t1, if_neg (by simp), J_add ho (by omega) t1, J_ones Ones.one (by omega)]
      omega
    obtain ⟨r, rfl⟩ : ∃ r, n = t + r := ⟨n - t, by omega⟩
    by_cases hr : r = t
    · subst hr
      rw [J_add ho t1 (by omega), J_ones ho t1]
      simp only [Nat.add_zero]
      rw [J_ones ho t1, if_pos ⟨by omega, by omega, by omega⟩]
      have := J_ones ho.step (by omega)
      rw [show r + r + 1 = 2 * r + 1 by omega]
      exact this
    · have ih := J_succ b r (by omega)
      have hJr := J_lt (m := r) (by omega)
      rw [show t + r + 1 = t + (r + 1) by omega, J_add ho (by omega) (by omega), ih, J_add ho (by omega) (by omega)]
      by_cases hz : J r = 0
      · rw [hz, J_zero, Nat.add_zero, J_ones ho t1, if_neg (by simp), if_neg (by omega)]
      · have hJJ := J_le (J r)
        rw [J_add ho (x := J r) (by omega) (by omega)]
        by_cases hc : r - J r = J r - J (J r)
        · rw [if_pos ⟨by omega, hz, hc⟩, if_pos ⟨by omega, by omega, by omega⟩]
        · rw [if_neg (by omega), if_neg (by omega)]

end Go.Proofs.Qxb6628307a.Skew
