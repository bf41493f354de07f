/-
  The plain functions behind FnAllowsDomainMatchesOnlyWhole, and the plain law: no Go here.
-/
namespace Go.Proofs.Qxb6000489a

/-- Byte i of s, as a number. -/
def ch (s : ByteArray) (i : Nat) : Int := ((s.data.toList.getD i 0).toNat : Int)
theorem ch_eq (s : ByteArray) (i : Nat) (h : i < s.size) : (s[i].toNat : Int) = ch s i := by
  unfold ch
  have : s.data.toList.getD i 0 = s[i] := by
    rw [List.getD_eq_getElem?_getD, List.getElem?_eq_getElem (by simpa using h)]; rfl
  rw [this]
theorem ch_bd (s : ByteArray) (i : Nat) : 0 ≤ ch s i ∧ ch s i ≤ 255 := by
  unfold ch; have := (s.data.toList.getD i 0).toNat_lt; omega

def upB (x : Int) : Bool := decide (65 ≤ x ∧ x ≤ 90)
def letB (x : Int) : Bool := decide ((97 ≤ x ∧ x ≤ 122) ∨ (65 ≤ x ∧ x ≤ 90))
def lowc (x : Int) : Int := if 65 ≤ x ∧ x ≤ 90 then x + 32 else x
theorem lowc_bd (x : Int) (h : 0 ≤ x ∧ x ≤ 255) : 0 ≤ lowc x ∧ lowc x ≤ 255 := by unfold lowc; split <;> omega

/-- The string of the bytes f 0 .. f (n-1). -/
def strOf (f : Nat → Int) (n : Nat) : ByteArray := ⟨((List.range n).map (fun i => UInt8.ofNat (f i).toNat)).toArray⟩
theorem strOf_size (f : Nat → Int) (n : Nat) : (strOf f n).size = n := by simp [strOf, ByteArray.size]
theorem strOf_ch (f : Nat → Int) (n i : Nat) (hi : i < n) (h : 0 ≤ f i ∧ f i ≤ 255) : ch (strOf f n) i = f i := by
  unfold ch strOf
  rw [List.getD_eq_getElem?_getD]
  simp [hi]
  omega
def low (s : ByteArray) : ByteArray := strOf (fun i => lowc (ch s i)) s.size
theorem low_size (s : ByteArray) : (low s).size = s.size := strOf_size _ _
theorem low_ch (s : ByteArray) (i : Nat) (h : i < s.size) : ch (low s) i = lowc (ch s i) := strOf_ch _ _ _ h (lowc_bd _ (ch_bd s i))

/-- The last place below k that holds '@', or -1. -/
def lastAt (f : Nat → Int) : Nat → Int | 0 => -1 | k+1 => if f k = 64 then k else lastAt f k
theorem lastAt_bd (f : Nat → Int) : ∀ k, -1 ≤ lastAt f k ∧ lastAt f k < k
  | 0 => by simp [lastAt]
  | k+1 => by have := lastAt_bd f k; unfold lastAt; split <;> omega
theorem lastAt_is (f : Nat → Int) (p : Nat) (hp : f p = 64) : ∀ k, p < k → (∀ i, p < i → i < k → f i ≠ 64) → lastAt f k = p
  | 0, h, _ => by omega
  | k+1, h, hn => by
    unfold lastAt
    by_cases e : p = k
    · subst e; rw [if_pos hp]
    · rw [if_neg (hn k (by omega) (by omega))]; exact lastAt_is f p hp k (by omega) (fun i h1 h2 => hn i h1 (by omega))
theorem lastAt_at (f : Nat → Int) : ∀ k (p : Nat), lastAt f k = p → f p = 64 ∧ ∀ i, p < i → i < k → f i ≠ 64
  | 0, p, h => by simp [lastAt] at h
  | k+1, p, h => by
    unfold lastAt at h
    by_cases e : f k = 64
    · rw [if_pos e] at h; obtain rfl : k = p := by omega
      exact ⟨e, fun i h1 h2 => by omega⟩
    · rw [if_neg e] at h
      obtain ⟨h1, h2⟩ := lastAt_at f k p h
      refine ⟨h1, fun i h3 h4 => ?_⟩
      by_cases e2 : i = k
      · subst e2; exact e
      · exact h2 i h3 (by omega)

/-- Two strings are the same just if they have the same size and the same bytes. -/
def eqB (a b : ByteArray) : Bool := a.data.toList == b.data.toList
theorem ba_eq (a b : ByteArray) : eqB a b = true ↔ a.size = b.size ∧ ∀ i, i < a.size → ch a i = ch b i := by
  unfold eqB
  rw [beq_iff_eq]
  constructor
  · intro h; exact ⟨by have := congrArg List.length h; simpa using this, fun i _ => by unfold ch; rw [h]⟩
  · rintro ⟨h1, h2⟩
    obtain ⟨⟨la⟩⟩ := a
    obtain ⟨⟨lb⟩⟩ := b
    show la = lb
    simp only [ByteArray.size, List.size_toArray] at h1 h2
    apply List.ext_getElem h1
    intro i hi hj
    have := h2 i hi
    simp only [ch, List.getD_eq_getElem?_getD, List.getElem?_eq_getElem hi, List.getElem?_eq_getElem hj, Option.getD_some] at this
    exact UInt8.toNat_inj.1 (by omega)

theorem ch_extract (s : ByteArray) (a i : Nat) (h : a + i < s.size) : ch (s.extract a s.size) i = ch s (a + i) := by
  have hsz : (s.extract a s.size).size = s.size - a := by simp [ByteArray.size_extract]
  rw [← ch_eq _ _ (by omega), ← ch_eq _ _ h]
  rw [ByteArray.getElem_extract]

/-- What 'allows' answers: one domain entry, nothing else. -/
def allowsB (email domain : ByteArray) : Bool :=
  if 0 ≤ lastAt (ch (low email)) email.size then eqB ((low email).extract (lastAt (ch (low email)) email.size + 1).toNat email.size) domain else false

/-- No '@' and no capital among the first k bytes. -/
def okDom (f : Nat → Int) : Nat → Bool | 0 => true | k+1 => okDom f k && !decide (f k = 64 ∨ (65 ≤ f k ∧ f k ≤ 90))
theorem okDom_all (f : Nat → Int) : ∀ n, okDom f n = true ↔ ∀ i, i < n → f i ≠ 64 ∧ ¬ (65 ≤ f i ∧ f i ≤ 90)
  | 0 => by simp [okDom]
  | k+1 => by
    unfold okDom
    rw [Bool.and_eq_true, okDom_all f k]
    simp only [Bool.not_eq_true', decide_eq_false_iff_not]
    constructor
    · rintro ⟨h1, h2⟩ i hi
      by_cases e : i = k
      · subst e; omega
      · exact h1 i (by omega)
    · intro h
      exact ⟨fun i hi => h i (by omega), by have := h k (by omega); omega⟩
theorem okDom_no (f : Nat → Int) (k n : Nat) (hk : k < n) (h : f k = 64 ∨ (65 ≤ f k ∧ f k ≤ 90)) : okDom f n = false := by
  rw [← Bool.not_eq_true, okDom_all]
  intro g; have := g k hk; omega

/-- Byte by byte equal up to ASCII case. -/
def feq (x y : Int) : Bool := decide (x = y ∨ (letB x = true ∧ letB y = true ∧ lowc x = lowc y))
def foldEq (f g : Nat → Int) : Nat → Bool | 0 => true | k+1 => foldEq f g k && feq (f k) (g k)
theorem foldEq_all (f g : Nat → Int) : ∀ n, foldEq f g n = true ↔ ∀ i, i < n → feq (f i) (g i) = true
  | 0 => by simp [foldEq]
  | k+1 => by
    unfold foldEq
    rw [Bool.and_eq_true, foldEq_all f g k]
    constructor
    · rintro ⟨h1, h2⟩ i hi
      by_cases e : i = k
      · subst e; exact h2
      · exact h1 i (by omega)
    · intro h; exact ⟨fun i hi => h i (by omega), h k (by omega)⟩
theorem foldEq_no (f g : Nat → Int) (k n : Nat) (hk : k < n) (h : feq (f k) (g k) = false) : foldEq f g n = false := by
  rw [← Bool.not_eq_true, foldEq_all]
  intro e; have := e k hk; rw [h] at this; cases this

def modelB (email domain : ByteArray) : Bool :=
  okDom (ch domain) domain.size && decide (domain.size + 1 ≤ email.size) && decide (ch email (email.size - domain.size - 1) = 64) && foldEq (fun i => ch email (email.size - domain.size + i)) (ch domain) domain.size

theorem feq_low (x y : Int) (h : ¬ (65 ≤ y ∧ y ≤ 90)) : feq x y = true ↔ lowc x = y := by
  unfold feq letB lowc
  simp only [decide_eq_true_eq]
  by_cases hx : 65 ≤ x ∧ x ≤ 90
  · rw [if_pos hx, if_neg h]; omega
  · rw [if_neg hx, if_neg h]; omega

theorem lowc_at (x : Int) : lowc x = 64 ↔ x = 64 := by unfold lowc; split <;> omega
theorem lowc_noup (x : Int) : ¬ (65 ≤ lowc x ∧ lowc x ≤ 90) := by unfold lowc; split <;> omega

theorem lowAt (s : ByteArray) : ∀ k, k ≤ s.size → lastAt (ch (low s)) k = lastAt (ch s) k
  | 0, _ => rfl
  | k+1, h => by
    unfold lastAt
    rw [low_ch s k (by omega), lowAt s k (by omega)]
    by_cases e : ch s k = 64
    · rw [if_pos e, if_pos ((lowc_at _).2 e)]
    · rw [if_neg e, if_neg (fun h => e ((lowc_at _).1 h))]

/-- THE PLAIN LAW. -/
theorem plain_law (email domain : ByteArray) : allowsB email domain = modelB email domain := by
  rw [Bool.eq_iff_iff]
  unfold allowsB modelB
  rw [lowAt email email.size (Nat.le_refl _)]
  simp only [Bool.and_eq_true, decide_eq_true_eq, okDom_all, foldEq_all]
  have hls := low_size email
  have hbd := lastAt_bd (ch email) email.size
  constructor
  · intro h
    by_cases h0 : 0 ≤ lastAt (ch email) email.size
    · rw [if_pos h0] at h
      obtain ⟨p, hp⟩ : ∃ p : Nat, lastAt (ch email) email.size = p := ⟨(lastAt (ch email) email.size).toNat, by omega⟩
      obtain ⟨h64, hno⟩ := lastAt_at _ _ _ hp
      rw [hp] at h hbd
      rw [show ((p : Int) + 1).toNat = p + 1 from by omega] at h
      rw [← hls, ba_eq] at h
      have hsz : ((low email).extract (p + 1) (low email).size).size = email.size - (p + 1) := by simp [ByteArray.size_extract, hls]
      rw [hsz] at h
      obtain ⟨e1, e2⟩ := h
      have hd : ∀ i, i < domain.size → ch domain i = lowc (ch email (p + 1 + i)) := by
        intro i hi
        rw [← e2 i (by omega), ch_extract _ _ _ (by omega), low_ch _ _ (by omega)]
      refine ⟨⟨⟨?_, by omega⟩, ?_⟩, ?_⟩
      · intro i hi
        rw [hd i hi]
        exact ⟨fun e => hno (p + 1 + i) (by omega) (by omega) ((lowc_at _).1 e), lowc_noup _⟩
      · rw [show email.size - domain.size - 1 = p from by omega]; exact h64
      · intro i hi
        rw [feq_low _ _ (by rw [hd i hi]; exact lowc_noup _), hd i hi, show email.size - domain.size + i = p + 1 + i from by omega]
    · rw [if_neg h0] at h; cases h
  · rintro ⟨⟨⟨h1, h2⟩, h3⟩, h4⟩
    have hq : ∀ i, i < domain.size → lowc (ch email (email.size - domain.size + i)) = ch domain i := fun i hi => (feq_low _ _ (h1 i hi).2).1 (h4 i hi)
    have hp := lastAt_is (ch email) (email.size - domain.size - 1) h3 email.size (by omega) (fun i g1 g2 e => by
      have := hq (i - (email.size - domain.size)) (by omega)
      rw [show email.size - domain.size + (i - (email.size - domain.size)) = i from by omega, e] at this
      exact (h1 (i - (email.size - domain.size)) (by omega)).1 (by rw [← this]; rfl))
    rw [hp, if_pos (by omega), show (((email.size - domain.size - 1 : Nat) : Int) + 1).toNat = email.size - domain.size from by omega]
    rw [← hls, ba_eq]
    have hsz : ((low email).extract ((low email).size - domain.size) (low email).size).size = domain.size := by simp [ByteArray.size_extract, hls]; omega
    rw [hsz]
    refine ⟨rfl, fun i hi => ?_⟩
    rw [ch_extract _ _ _ (by omega), low_ch _ _ (by omega), hls]
    exact hq i hi

end Go.Proofs.Qxb6000489a
