/-
  Luhn's check digit on plain numbers: no Go here.
-/
namespace Go.Proofs.Qxb6000387a

/-- What the digit d at place i from the right adds to the sum. -/
def lv (i : Nat) (d : Int) : Int := if i % 2 = 0 then (if 9 < 2*d then 2*d - 9 else 2*d) else d
/-- The sum over the last k of the n bytes f 0 .. f (n-1). -/
def ls (f : Nat → Int) (n : Nat) : Nat → Int | 0 => 0 | k+1 => ls f n k + lv k (f (n-1-k) - 48)
/-- The check digit, as a byte. -/
def chk (f : Nat → Int) (n : Nat) : Int := 48 + (10 - ls f n n % 10) % 10

theorem lv_bd (i : Nat) (d : Int) (h0 : 0 ≤ d) (h1 : d ≤ 9) : 0 ≤ lv i d ∧ lv i d ≤ 9 := by
  unfold lv; split <;> (try split) <;> omega

theorem ls_bd (f : Nat → Int) (n : Nat) (hf : ∀ i, i < n → 48 ≤ f i ∧ f i ≤ 57) : ∀ k, k ≤ n → 0 ≤ ls f n k ∧ ls f n k ≤ 9 * k
  | 0, _ => by simp [ls]
  | k+1, hk => by
    have ih := ls_bd f n hf k (by omega)
    have := hf (n-1-k) (by omega)
    have := lv_bd k (f (n-1-k) - 48) (by omega) (by omega)
    simp only [ls]; omega

theorem chk_bd (f : Nat → Int) (n : Nat) : 48 ≤ chk f n ∧ chk f n ≤ 57 := by unfold chk; omega

/-- Two different digits add different amounts, modulo 10. -/
theorem lv_inj (i : Nat) (d e : Int) (h0 : 0 ≤ d) (h1 : d ≤ 9) (g0 : 0 ≤ e) (g1 : e ≤ 9) (h : d ≠ e) : (lv i d - lv i e) % 10 ≠ 0 := by
  unfold lv; split
  · split <;> split <;> omega
  · omega

/-- One byte changed at p: the sum turns by what that byte adds. -/
theorem ls_turn (f g : Nat → Int) (n p : Nat) (hp : p < n) (hg : ∀ i, i ≠ p → g i = f i) :
    ∀ k, k ≤ n → ls g n k = ls f n k + (if n - 1 - p < k then lv (n - 1 - p) (g p - 48) - lv (n - 1 - p) (f p - 48) else 0)
  | 0, _ => by simp [ls]
  | k+1, hk => by
    have ih := ls_turn f g n p hp hg k (by omega)
    simp only [ls]
    rw [ih]
    by_cases h : k = n - 1 - p
    · have e : n - 1 - k = p := by omega
      rw [if_neg (by omega), if_pos (by omega), e, h]; omega
    · rw [hg (n - 1 - k) (by omega)]
      by_cases h2 : n - 1 - p < k
      · rw [if_pos h2, if_pos (by omega)]; omega
      · rw [if_neg h2, if_neg (by omega)]; omega

/-- THE PLAIN LAW: one digit changed, the check digit turns. -/
theorem chk_turn (f g : Nat → Int) (n p : Nat) (hp : p < n) (hg : ∀ i, i ≠ p → g i = f i) (hf0 : 48 ≤ f p ∧ f p ≤ 57) (hg0 : 48 ≤ g p ∧ g p ≤ 57) (hne : g p ≠ f p) : chk g n ≠ chk f n := by
  have h1 := ls_turn f g n p hp hg n (Nat.le_refl _)
  rw [if_pos (by omega)] at h1
  have h2 := lv_inj (n - 1 - p) (g p - 48) (f p - 48) (by omega) (by omega) (by omega) (by omega) (by omega)
  unfold chk
  omega

/-- Are the first n bytes all digits? -/
def dg (f : Nat → Int) : Nat → Bool | 0 => true | k+1 => dg f k && decide (48 ≤ f k ∧ f k ≤ 57)
theorem dg_all (f : Nat → Int) : ∀ n, dg f n = true → ∀ i, i < n → 48 ≤ f i ∧ f i ≤ 57
  | 0, _, i, h => by omega
  | k+1, h, i, hi => by
    simp only [dg, Bool.and_eq_true, decide_eq_true_eq] at h
    by_cases e : i = k
    · subst e; exact h.2
    · exact dg_all f k h.1 i (by omega)
theorem dg_no (f : Nat → Int) (k : Nat) (hk : ¬ (48 ≤ f k ∧ f k ≤ 57)) : ∀ n, k < n → dg f n = false
  | 0, h => by omega
  | n+1, h => by
    simp only [dg, Bool.and_eq_false_iff, decide_eq_false_iff_not]
    by_cases e : k = n
    · subst e; exact .inr hk
    · exact .inl (dg_no f k hk n (by omega))
theorem dg_step (f : Nat → Int) (k : Nat) (h : dg f k = true) (h1 : 48 ≤ f k) (h2 : f k ≤ 57) : dg f (k + 1) = true := by
  simp only [dg, h, Bool.true_and, decide_eq_true_eq]; exact ⟨h1, h2⟩

end Go.Proofs.Qxb6000387a
