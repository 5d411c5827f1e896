/-
  THE PLAIN LAW of a list of names: no Go in sight.
-/
namespace Go.Proofs.Qxb6628335a.Names

abbrev Bytes := List UInt8
def comma : Bytes := [44, 32]
def andB : Bytes := [32, 97, 110, 100, 32]

/-- what stands ahead of name i of n -/
def sep (n i : Nat) : Bytes := if i = 0 then [] else if i = n - 1 then andB else comma
/-- the text of the first k of n names -/
def acc (f : Nat → Bytes) (n : Nat) : Nat → Bytes
  | 0 => []
  | k + 1 => acc f n k ++ sep n k ++ f k
def list (f : Nat → Bytes) (n : Nat) : Bytes := acc f n n
/-- each of the first k names, a comma behind it -/
def pre (f : Nat → Bytes) : Nat → Bytes
  | 0 => []
  | k + 1 => pre f k ++ f k ++ comma

theorem acc_comma (f : Nat → Bytes) (n : Nat) : ∀ k, 1 ≤ k → k ≤ n - 1 → acc f n k ++ comma = pre f k
  | 0, h, _ => absurd h (by omega)
  | 1, _, _ => by simp [acc, pre, sep]
  | k + 2, _, h2 => by
    have ih := acc_comma f n (k + 1) (by omega) (by omega)
    show acc f n (k + 1) ++ sep n (k + 1) ++ f (k + 1) ++ comma = pre f (k + 1) ++ f (k + 1) ++ comma
    rw [← ih]
    have : sep n (k + 1) = comma := by unfold sep; rw [if_neg (by omega), if_neg (by omega)]
    rw [this]

theorem acc_cut (f : Nat → Bytes) (n k : Nat) (h1 : 1 ≤ k) (h2 : k ≤ n - 2) (hn : 2 ≤ n) : ∀ m, 1 ≤ m → acc f n (k + m) = pre f k ++ acc (fun i => f (k + i)) (n - k) m
  | 0, h => absurd h (by omega)
  | 1, _ => by
    show acc f n k ++ sep n k ++ f k = pre f k ++ ([] ++ sep (n - k) 0 ++ f (k + 0))
    have e : sep n k = comma := by unfold sep; rw [if_neg (by omega), if_neg (by omega)]
    have e0 : sep (n - k) 0 = [] := rfl
    rw [e, e0, acc_comma f n k h1 (by omega)]
    simp
  | m + 2, _ => by
    have ih := acc_cut f n k h1 h2 hn (m + 1) (by omega)
    show acc f n (k + (m + 1)) ++ sep n (k + (m + 1)) ++ f (k + (m + 1)) = pre f k ++ (acc (fun i => f (k + i)) (n - k) (m + 1) ++ sep (n - k) (m + 1) ++ f (k + (m + 1)))
    have e : sep n (k + (m + 1)) = sep (n - k) (m + 1) := by
      unfold sep
      rw [if_neg (show ¬ k + (m + 1) = 0 by omega), if_neg (show ¬ m + 1 = 0 by omega)]
      by_cases h : k + (m + 1) = n - 1
      · rw [if_pos h, if_pos (by omega)]
      · rw [if_neg h, if_neg (by omega)]
    rw [ih, e]
    simp only [List.append_assoc]

theorem list_cut (f : Nat → Bytes) (n k : Nat) (hn : 2 ≤ n) (hk : k ≤ n - 2) : list f n = pre f k ++ list (fun i => f (k + i)) (n - k) := by
  by_cases h : k = 0
  · subst h
    have e : (fun i => f (0 + i)) = f := by funext i; rw [Nat.zero_add]
    rw [e]
    simp [pre]
  · have := acc_cut f n k (by omega) hk hn (n - k) (by omega)
    rw [show k + (n - k) = n by omega] at this
    exact this

theorem list_two (f : Nat → Bytes) (n : Nat) (hn : 2 ≤ n) : list (fun i => f (n - 2 + i)) 2 = f (n - 2) ++ andB ++ f (n - 1) := by
  show ([] ++ sep 2 0 ++ f (n - 2 + 0)) ++ sep 2 1 ++ f (n - 2 + 1) = _
  have e1 : sep 2 1 = andB := rfl
  have e0 : sep 2 0 = [] := rfl
  rw [e0, e1, show n - 2 + 1 = n - 1 by omega]
  simp
theorem list_zero (f : Nat → Bytes) : list f 0 = [] := rfl
theorem list_one (f : Nat → Bytes) : list f 1 = f 0 := by simp [list, acc, sep]

/-- lengths -/
def tot (f : Nat → Bytes) : Nat → Nat
  | 0 => 0
  | k + 1 => tot f k + (f k).length
theorem acc_len (f : Nat → Bytes) (n : Nat) : ∀ k, (acc f n k).length ≤ tot f k + 5 * k
  | 0 => by simp [acc, tot]
  | k + 1 => by
    have ih := acc_len f n k
    have hs : (sep n k).length ≤ 5 := by unfold sep; split; · simp
                                         split <;> simp [andB, comma]
    simp only [acc, tot, List.length_append]
    omega
theorem pre_len (f : Nat → Bytes) : ∀ k, (pre f k).length = tot f k + 2 * k
  | 0 => by simp [pre, tot]
  | k + 1 => by
    have ih := pre_len f k
    simp only [pre, tot, List.length_append, comma, List.length_cons, List.length_nil]
    omega
theorem tot_mono (f : Nat → Bytes) {j k : Nat} (h : j ≤ k) : tot f j ≤ tot f k := by
  induction k with
  | zero => have : j = 0 := by omega
            subst this; exact Nat.le_refl _
  | succ k ih =>
    by_cases e : j = k + 1
    · subst e; exact Nat.le_refl _
    · have := ih (by omega); simp only [tot]; omega
theorem tot_shift (f : Nat → Bytes) (j : Nat) : ∀ k, tot (fun i => f (j + i)) k + tot f j = tot f (j + k)
  | 0 => by simp [tot]
  | k + 1 => by
    have ih := tot_shift f j k
    show tot (fun i => f (j + i)) k + (f (j + k)).length + tot f j = tot f (j + k) + (f (j + k)).length
    omega

end Go.Proofs.Qxb6628335a.Names
