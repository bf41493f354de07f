/-
  readPlain on plain numbers: a text is its n bytes f 0 .. f (n-1). No Go here.
-/
namespace Go.Proofs.Qxb6000782a

def ws (x : Int) : Bool := decide (x = 32 ∨ x = 9 ∨ x = 13 ∨ x = 10)
def dig (x : Int) : Bool := decide (48 ≤ x ∧ x ≤ 57)

/-- The first place at or after i that is n or holds a byte without p; k: fuel. -/
def scanF (p : Int → Bool) (f : Nat → Int) (n : Nat) : Nat → Nat → Nat
  | 0, i => i
  | k+1, i => if i < n ∧ p (f i) = true then scanF p f n k (i+1) else i
def scan (p : Int → Bool) (f : Nat → Int) (n i : Nat) : Nat := scanF p f n (n - i) i

theorem scan_step (p : Int → Bool) (f : Nat → Int) (n i : Nat) (h : i < n) (hp : p (f i) = true) : scan p f n i = scan p f n (i + 1) := by
  unfold scan
  obtain ⟨k, hk⟩ : ∃ k, n - i = k + 1 := ⟨n - i - 1, by omega⟩
  rw [hk, show n - (i + 1) = k from by omega]
  show (if i < n ∧ p (f i) = true then scanF p f n k (i + 1) else i) = _
  rw [if_pos ⟨h, hp⟩]
theorem scan_stop (p : Int → Bool) (f : Nat → Int) (n i : Nat) (h : ¬ (i < n ∧ p (f i) = true)) : scan p f n i = i := by
  unfold scan
  cases n - i with
  | zero => rfl
  | succ k => show (if i < n ∧ p (f i) = true then scanF p f n k (i + 1) else i) = i; rw [if_neg h]
theorem scan_bd (p : Int → Bool) (f : Nat → Int) (n : Nat) : ∀ k i, n - i ≤ k → i ≤ n → i ≤ scan p f n i ∧ scan p f n i ≤ n
  | 0, i, h, hi => by rw [scan_stop p f n i (by omega)]; omega
  | k+1, i, h, hi => by
    by_cases hc : i < n ∧ p (f i) = true
    · rw [scan_step p f n i hc.1 hc.2]
      have := scan_bd p f n k (i + 1) (by omega) (by omega)
      omega
    · rw [scan_stop p f n i hc]; omega
theorem scan_le (p : Int → Bool) (f : Nat → Int) (n i : Nat) (hi : i ≤ n) : i ≤ scan p f n i ∧ scan p f n i ≤ n := scan_bd p f n (n - i) i (Nat.le_refl _) hi

/-- A longer text with the same beginning: a scan that ends inside the first ends there in the second. -/
theorem scan_longer (p : Int → Bool) (f g : Nat → Int) (n m : Nat) (hnm : n ≤ m) (hfg : ∀ i, i < n → g i = f i) : ∀ k i, n - i ≤ k → i ≤ n → scan p f n i < n → scan p g m i = scan p f n i
  | 0, i, h, hi, hs => by have := scan_le p f n i hi; omega
  | k+1, i, h, hi, hs => by
    by_cases hc : i < n ∧ p (f i) = true
    · rw [scan_step p f n i hc.1 hc.2] at hs ⊢
      rw [scan_step p g m i (by omega) (by rw [hfg i hc.1]; exact hc.2)]
      exact scan_longer p f g n m hnm hfg k (i + 1) (by omega) (by omega) hs
    · rw [scan_stop p f n i hc] at hs ⊢
      rw [scan_stop p g m i (by rw [hfg i hs]; intro h; exact hc ⟨hs, h.2⟩)]

/-- The end of a string's token, scanned from j on; k: fuel. -/
def strF (f : Nat → Int) (n : Nat) : Nat → Nat → Option Nat
  | 0, _ => none
  | k+1, j => if j < n then (if f j = 34 then some (j + 1) else if f j < 32 ∨ 126 < f j ∨ f j = 92 then none else strF f n k (j + 1)) else none
def strEnd (f : Nat → Int) (n j : Nat) : Option Nat := strF f n (n - j) j

theorem strEnd_q (f : Nat → Int) (n j : Nat) (h : j < n) (hq : f j = 34) : strEnd f n j = some (j + 1) := by
  unfold strEnd
  obtain ⟨k, hk⟩ : ∃ k, n - j = k + 1 := ⟨n - j - 1, by omega⟩
  rw [hk]; simp [strF, h, hq]
theorem strEnd_bad (f : Nat → Int) (n j : Nat) (h : j < n) (hq : f j ≠ 34) (hb : f j < 32 ∨ 126 < f j ∨ f j = 92) : strEnd f n j = none := by
  unfold strEnd
  obtain ⟨k, hk⟩ : ∃ k, n - j = k + 1 := ⟨n - j - 1, by omega⟩
  rw [hk]; simp [strF, h, hq, hb]
theorem strEnd_on (f : Nat → Int) (n j : Nat) (h : j < n) (hq : f j ≠ 34) (hb : ¬ (f j < 32 ∨ 126 < f j ∨ f j = 92)) : strEnd f n j = strEnd f n (j + 1) := by
  unfold strEnd
  obtain ⟨k, hk⟩ : ∃ k, n - j = k + 1 := ⟨n - j - 1, by omega⟩
  rw [hk, show n - (j + 1) = k from by omega]
  show (if j < n then (if f j = 34 then some (j + 1) else if f j < 32 ∨ 126 < f j ∨ f j = 92 then none else strF f n k (j + 1)) else none) = _
  rw [if_pos h, if_neg hq, if_neg hb]
theorem strEnd_out (f : Nat → Int) (n j : Nat) (h : ¬ j < n) : strEnd f n j = none := by
  unfold strEnd; rw [show n - j = 0 from by omega]; rfl
theorem strEnd_bd (f : Nat → Int) (n e : Nat) : ∀ k j, n - j ≤ k → strEnd f n j = some e → j < e ∧ e ≤ n
  | 0, j, h, he => by rw [strEnd_out f n j (by omega)] at he; cases he
  | k+1, j, h, he => by
    by_cases hj : j < n
    · by_cases hq : f j = 34
      · rw [strEnd_q f n j hj hq] at he; cases he; omega
      · by_cases hb : f j < 32 ∨ 126 < f j ∨ f j = 92
        · rw [strEnd_bad f n j hj hq hb] at he; cases he
        · rw [strEnd_on f n j hj hq hb] at he
          have := strEnd_bd f n e k (j + 1) (by omega) he
          omega
    · rw [strEnd_out f n j hj] at he; cases he
theorem strEnd_longer (f g : Nat → Int) (n m e : Nat) (hnm : n ≤ m) (hfg : ∀ i, i < n → g i = f i) : ∀ k j, n - j ≤ k → strEnd f n j = some e → strEnd g m j = some e
  | 0, j, h, he => by rw [strEnd_out f n j (by omega)] at he; cases he
  | k+1, j, h, he => by
    by_cases hj : j < n
    · by_cases hq : f j = 34
      · rw [strEnd_q f n j hj hq] at he; rw [strEnd_q g m j (by omega) (by rw [hfg j hj]; exact hq)]; exact he
      · by_cases hb : f j < 32 ∨ 126 < f j ∨ f j = 92
        · rw [strEnd_bad f n j hj hq hb] at he; cases he
        · rw [strEnd_on f n j hj hq hb] at he
          rw [strEnd_on g m j (by omega) (by rw [hfg j hj]; exact hq) (by rw [hfg j hj]; exact hb)]
          exact strEnd_longer f g n m e hnm hfg k (j + 1) (by omega) he
    · rw [strEnd_out f n j hj] at he; cases he

/-- plainEnd. -/
def pend (f : Nat → Int) (n i : Nat) : Option Nat :=
  if i = n then none else if f i = 34 then strEnd f n (i + 1) else if f i = 48 then some (i + 1) else if dig (f i) = true then some (scan dig f n (i + 1)) else none

theorem pend_bd (f : Nat → Int) (n i e : Nat) (hi : i ≤ n) (h : pend f n i = some e) : i < n ∧ i < e ∧ e ≤ n ∧ (f i = 34 → i + 2 ≤ e) := by
  unfold pend at h
  by_cases h0 : i = n
  · rw [if_pos h0] at h; cases h
  rw [if_neg h0] at h
  by_cases h1 : f i = 34
  · rw [if_pos h1] at h
    have := strEnd_bd f n e _ (i + 1) (Nat.le_refl _) h
    omega
  rw [if_neg h1] at h
  by_cases h2 : f i = 48
  · rw [if_pos h2] at h; cases h; omega
  rw [if_neg h2] at h
  by_cases h3 : dig (f i) = true
  · rw [if_pos h3] at h; cases h
    have := scan_le dig f n (i + 1) (by omega)
    omega
  · rw [if_neg h3] at h; cases h

theorem pend_longer (f g : Nat → Int) (n m i e : Nat) (hnm : n ≤ m) (hfg : ∀ i, i < n → g i = f i) (hi : i ≤ n) (he : e < n) (h : pend f n i = some e) : pend g m i = some e := by
  have hb := pend_bd f n i e hi h
  unfold pend at h ⊢
  rw [if_neg (by omega)] at h
  rw [if_neg (by omega), hfg i hb.1]
  by_cases h1 : f i = 34
  · rw [if_pos h1] at h ⊢
    exact strEnd_longer f g n m e hnm hfg _ _ (Nat.le_refl _) h
  rw [if_neg h1] at h ⊢
  by_cases h2 : f i = 48
  · rw [if_pos h2] at h ⊢; exact h
  rw [if_neg h2] at h ⊢
  by_cases h3 : dig (f i) = true
  · rw [if_pos h3] at h ⊢
    have hs : scan dig f n (i + 1) = e := by cases h; rfl
    rw [scan_longer dig f g n m hnm hfg _ (i + 1) (Nat.le_refl _) (by omega) (by omega), hs]
  · rw [if_neg h3] at h; cases h

/-- The m bytes from a on. -/
def seg (f : Nat → Int) (a m : Nat) : List Int := (List.range m).map (fun t => f (a + t))
theorem seg_len (f : Nat → Int) (a m : Nat) : (seg f a m).length = m := by simp [seg]
theorem seg_at (f : Nat → Int) (a m t : Nat) (h : t < m) : (seg f a m)[t]? = some (f (a + t)) := by simp [seg, h]
theorem seg_congr (f g : Nat → Int) (a m : Nat) (h : ∀ t, t < m → g (a + t) = f (a + t)) : seg g a m = seg f a m := by
  unfold seg; apply List.map_congr_left; intro t ht; exact h t (by simpa using ht)

/-- The six names, as bytes. -/
def nmL : Nat → List Int
  | 0 => [116, 105, 109, 101]
  | 1 => [98, 108, 111, 99, 107]
  | 2 => [97, 99, 99, 111, 117, 110, 116]
  | 3 => [111, 112]
  | 4 => [97, 109, 111, 117, 110, 116]
  | _ => [108, 111, 99, 107, 117, 112]
def lowc (x : Int) : Int := if 65 ≤ x ∧ x ≤ 90 then x + 32 else x
/-- Are the first k bytes the same without regard to case? -/
def foldTo (K N : List Int) : Nat → Bool
  | 0 => true
  | k+1 => foldTo K N k && decide (lowc (K.getD k 0) = lowc (N.getD k 0))
def foldB (K N : List Int) : Bool := decide (K.length = N.length) && foldTo K N K.length
theorem foldTo_no (K N : List Int) (k : Nat) (h : lowc (K.getD k 0) ≠ lowc (N.getD k 0)) : ∀ m, k < m → foldTo K N m = false
  | 0, hm => by omega
  | m+1, hm => by
    show (foldTo K N m && decide (lowc (K.getD m 0) = lowc (N.getD m 0))) = false
    by_cases e : k = m
    · subst e; rw [decide_eq_false h]; simp
    · rw [foldTo_no K N k h m (by omega)]; rfl
theorem foldTo_step (K N : List Int) (k : Nat) (h : foldTo K N k = true) (h2 : lowc (K.getD k 0) = lowc (N.getD k 0)) : foldTo K N (k + 1) = true := by
  show (foldTo K N k && decide (lowc (K.getD k 0) = lowc (N.getD k 0))) = true
  rw [h, decide_eq_true h2]; rfl

/-- The first j at or after its start that p takes, k places looked at. -/
def srch (p : Nat → Bool) : Nat → Nat → Option Nat
  | 0, _ => none
  | k+1, j => if p j = true then some j else srch p k (j + 1)
theorem srch_yes (p : Nat → Bool) (k j : Nat) (h : p j = true) : srch p (k + 1) j = some j := if_pos h
theorem srch_no (p : Nat → Bool) (k j : Nat) (h : p j = false) : srch p (k + 1) j = srch p k (j + 1) := if_neg (by rw [h]; simp)
theorem srch_bd (p : Nat → Bool) : ∀ k j r, srch p k j = some r → r < j + k
  | 0, j, r, h => by cases h
  | k+1, j, r, h => by
    unfold srch at h
    by_cases hp : p j = true
    · rw [if_pos hp] at h; cases h; omega
    · rw [if_neg hp] at h; have := srch_bd p k (j + 1) r h; omega

def eqAt (K : List Int) : Option Nat := srch (fun j => decide (K = nmL j)) 6 0
def foldAt (K : List Int) : Option Nat := srch (fun j => foldB K (nmL j)) 6 0
/-- Which value the key names; and whether it names none without regard to case alone. -/
def valI (K : List Int) : Option Nat := eqAt K
def valOk (K : List Int) : Bool := (eqAt K).isSome || (foldAt K).isNone
theorem valI_bd (K : List Int) (j : Nat) (h : valI K = some j) : j < 6 := by unfold valI eqAt at h; have := srch_bd _ 6 0 j h; omega

/-- One value of the line. -/
structure JV where
  giv : Bool
  twi : Bool
  raw : List Int
/-- The line's six values. -/
def put (s : Nat → JV) (j : Nat) (v : JV) : Nat → JV := fun i => if i = j then v else s i
/-- set. -/
def setV (s : Nat → JV) (v : Option Nat) (r : List Int) : Nat → JV :=
  match v with
  | none => s
  | some j => put s j { giv := true, twi := (s j).giv, raw := r }
/-- reset. -/
def resetV (s : Nat → JV) : Nat → JV := fun j => { giv := false, twi := false, raw := (s j).raw }

/-- The loop of readPlain from place i on; k: fuel. -/
def rp (f : Nat → Int) (n : Nat) : Nat → Nat → (Nat → JV) → Bool × (Nat → JV)
  | 0, _, s => (false, s)
  | k+1, i, s =>
    match pend f n i with
    | none => (false, s)
    | some ke =>
      if f i ≠ 34 then (false, s) else
      if valOk (seg f (i + 1) (ke - 1 - (i + 1))) = false ∨ scan ws f n ke = n ∨ f (scan ws f n ke) ≠ 58 then (false, s) else
      match pend f n (scan ws f n (scan ws f n ke + 1)) with
      | none => (false, s)
      | some e =>
        if scan ws f n e = n then (false, setV s (valI (seg f (i + 1) (ke - 1 - (i + 1)))) (seg f (scan ws f n (scan ws f n ke + 1)) (e - scan ws f n (scan ws f n ke + 1)))) else
        if f (scan ws f n e) = 125 then (decide (scan ws f n e + 1 = n), setV s (valI (seg f (i + 1) (ke - 1 - (i + 1)))) (seg f (scan ws f n (scan ws f n ke + 1)) (e - scan ws f n (scan ws f n ke + 1)))) else
        if f (scan ws f n e) ≠ 44 then (false, setV s (valI (seg f (i + 1) (ke - 1 - (i + 1)))) (seg f (scan ws f n (scan ws f n ke + 1)) (e - scan ws f n (scan ws f n ke + 1)))) else
        rp f n k (scan ws f n (scan ws f n e + 1)) (setV s (valI (seg f (i + 1) (ke - 1 - (i + 1)))) (seg f (scan ws f n (scan ws f n ke + 1)) (e - scan ws f n (scan ws f n ke + 1))))

/-- readPlain, of a text that is not empty. -/
def readP (f : Nat → Int) (n : Nat) (s : Nat → JV) : Bool × (Nat → JV) :=
  if scan ws f n 1 < n ∧ f (scan ws f n 1) = 125 then (decide (scan ws f n 1 + 1 = n), resetV s) else rp f n (n + 1) (scan ws f n 1) (resetV s)

/-- THE PLAIN LAW OF THE TAIL, in the loop. -/
theorem rp_longer (f g : Nat → Int) (n m : Nat) (hnm : n < m) (hfg : ∀ i, i < n → g i = f i) : ∀ k i s, i ≤ n → (rp f n k i s).1 = true → ∀ k' s', (rp g m k' i s').1 = false
  | 0, i, s, hi, h => by cases h
  | k+1, i, s, hi, h => by
    intro k' s'
    cases k' with
    | zero => rfl
    | succ k' =>
      have hle : n ≤ m := by omega
      unfold rp at h ⊢
      cases hp : pend f n i with
      | none => rw [hp] at h; cases h
      | some ke =>
        have b1 := pend_bd f n i ke hi hp
        rw [hp] at h
        simp only at h
        by_cases hq : f i ≠ 34
        · rw [if_pos hq] at h; cases h
        rw [if_neg hq] at h
        by_cases hc : valOk (seg f (i + 1) (ke - 1 - (i + 1))) = false ∨ scan ws f n ke = n ∨ f (scan ws f n ke) ≠ 58
        · rw [if_pos hc] at h; cases h
        rw [if_neg hc] at h
        have s1 := scan_le ws f n ke b1.2.2.1
        have lt1 : scan ws f n ke < n := by omega
        have e1 : scan ws g m ke = scan ws f n ke := scan_longer ws f g n m hle hfg _ ke (Nat.le_refl _) (by omega) lt1
        have hpg : pend g m i = some ke := pend_longer f g n m i ke hle hfg hi (by omega) hp
        have ek : seg g (i + 1) (ke - 1 - (i + 1)) = seg f (i + 1) (ke - 1 - (i + 1)) := seg_congr f g _ _ (fun t ht => hfg _ (by omega))
        rw [hpg]
        simp only
        rw [hfg i b1.1, if_neg hq, ek, e1, hfg _ lt1, if_neg (by
          intro hh
          rcases hh with hh | hh | hh
          · exact hc (.inl hh)
          · omega
          · exact hc (.inr (.inr hh)))]
        have s2 := scan_le ws f n (scan ws f n ke + 1) (by omega)
        cases hp2 : pend f n (scan ws f n (scan ws f n ke + 1)) with
        | none => rw [hp2] at h; cases h
        | some e =>
          have b2 := pend_bd f n _ e s2.2 hp2
          rw [hp2] at h
          simp only at h
          by_cases h3 : scan ws f n e = n
          · rw [if_pos h3] at h; cases h
          rw [if_neg h3] at h
          have s3 := scan_le ws f n e b2.2.2.1
          have lt3 : scan ws f n e < n := by omega
          have e2 : scan ws g m (scan ws f n ke + 1) = scan ws f n (scan ws f n ke + 1) := scan_longer ws f g n m hle hfg _ _ (Nat.le_refl _) (by omega) (by omega)
          have hpg2 : pend g m (scan ws f n (scan ws f n ke + 1)) = some e := pend_longer f g n m _ e hle hfg s2.2 (by omega) hp2
          have e3 : scan ws g m e = scan ws f n e := scan_longer ws f g n m hle hfg _ e (Nat.le_refl _) (by omega) lt3
          rw [e2, hpg2]
          simp only
          rw [e3, if_neg (by omega), hfg _ lt3]
          by_cases h4 : f (scan ws f n e) = 125
          · rw [if_pos h4] at h ⊢
            simp only [decide_eq_true_eq] at h
            exact decide_eq_false (by omega)
          rw [if_neg h4] at h ⊢
          by_cases h5 : f (scan ws f n e) ≠ 44
          · rw [if_pos h5] at h; cases h
          rw [if_neg h5] at h ⊢
          have s4 := scan_le ws f n (scan ws f n e + 1) (by omega)
          have lt4 : scan ws f n (scan ws f n e + 1) < n := by
            cases k with
            | zero => cases h
            | succ k =>
              rcases Nat.lt_or_ge (scan ws f n (scan ws f n e + 1)) n with hlt | hge
              · exact hlt
              · have he : scan ws f n (scan ws f n e + 1) = n := by omega
                rw [he] at h
                unfold rp at h
                rw [show pend f n n = none from if_pos rfl] at h
                cases h
          rw [scan_longer ws f g n m hle hfg _ _ (Nat.le_refl _) (by omega) lt4]
          exact rp_longer f g n m hnm hfg k _ _ s4.2 h _ _

/-- THE PLAIN LAW OF THE TAIL: not both. -/
theorem readP_longer (f g : Nat → Int) (n m : Nat) (hn : 1 ≤ n) (hnm : n < m) (hfg : ∀ i, i < n → g i = f i) (s s' : Nat → JV) (h : (readP f n s).1 = true) : (readP g m s').1 = false := by
  have s1 := scan_le ws f n 1 hn
  have hle : n ≤ m := by omega
  unfold readP at h ⊢
  by_cases hc : scan ws f n 1 < n ∧ f (scan ws f n 1) = 125
  · rw [if_pos hc] at h
    have e1 : scan ws g m 1 = scan ws f n 1 := scan_longer ws f g n m hle hfg _ 1 (Nat.le_refl _) hn hc.1
    rw [e1, hfg _ hc.1, if_pos ⟨by omega, hc.2⟩]
    simp only [decide_eq_true_eq] at h
    exact decide_eq_false (by omega)
  · rw [if_neg hc] at h
    have lt1 : scan ws f n 1 < n := by
      rcases Nat.lt_or_ge (scan ws f n 1) n with hlt | hge
      · exact hlt
      · have he : scan ws f n 1 = n := by omega
        rw [he] at h
        unfold rp at h
        rw [show pend f n n = none from if_pos rfl] at h
        cases h
    have e1 : scan ws g m 1 = scan ws f n 1 := scan_longer ws f g n m hle hfg _ 1 (Nat.le_refl _) hn lt1
    rw [e1, hfg _ lt1, if_neg (fun h => hc ⟨lt1, h.2⟩)]
    exact rp_longer f g n m hnm hfg _ _ _ s1.2 h _ _

/-- What two states of a line share that a read leaves the same: the flags, and the raw text of every value that is given. -/
def Same (s t : Nat → JV) : Prop := ∀ j, (s j).giv = (t j).giv ∧ (s j).twi = (t j).twi ∧ ((s j).giv = true → (s j).raw = (t j).raw)
theorem same_reset (s t : Nat → JV) : Same (resetV s) (resetV t) := fun _ => ⟨rfl, rfl, fun h => by cases h⟩
theorem same_set (s t : Nat → JV) (h : Same s t) (v : Option Nat) (r : List Int) : Same (setV s v r) (setV t v r) := by
  cases v with
  | none => exact h
  | some j =>
    intro i
    show ((put s j _) i).giv = ((put t j _) i).giv ∧ _
    unfold setV put
    by_cases e : i = j
    · subst e; simp [(h i).1]
    · simp only [e, if_false]; exact h i
/-- THE PLAIN LAW OF REUSE, in the loop. -/
theorem rp_same (f : Nat → Int) (n : Nat) : ∀ k i s t, Same s t → (rp f n k i s).1 = (rp f n k i t).1 ∧ Same (rp f n k i s).2 (rp f n k i t).2
  | 0, i, s, t, h => ⟨rfl, h⟩
  | k+1, i, s, t, h => by
    unfold rp
    cases pend f n i with
    | none => exact ⟨rfl, h⟩
    | some ke =>
      simp only
      by_cases hq : f i ≠ 34
      · rw [if_pos hq, if_pos hq]; exact ⟨rfl, h⟩
      rw [if_neg hq, if_neg hq]
      by_cases hc : valOk (seg f (i + 1) (ke - 1 - (i + 1))) = false ∨ scan ws f n ke = n ∨ f (scan ws f n ke) ≠ 58
      · rw [if_pos hc, if_pos hc]; exact ⟨rfl, h⟩
      rw [if_neg hc, if_neg hc]
      cases pend f n (scan ws f n (scan ws f n ke + 1)) with
      | none => exact ⟨rfl, h⟩
      | some e =>
        simp only
        have hs := same_set s t h (valI (seg f (i + 1) (ke - 1 - (i + 1)))) (seg f (scan ws f n (scan ws f n ke + 1)) (e - scan ws f n (scan ws f n ke + 1)))
        by_cases h3 : scan ws f n e = n
        · rw [if_pos h3, if_pos h3]; exact ⟨rfl, hs⟩
        rw [if_neg h3, if_neg h3]
        by_cases h4 : f (scan ws f n e) = 125
        · rw [if_pos h4, if_pos h4]; exact ⟨rfl, hs⟩
        rw [if_neg h4, if_neg h4]
        by_cases h5 : f (scan ws f n e) ≠ 44
        · rw [if_pos h5, if_pos h5]; exact ⟨rfl, hs⟩
        rw [if_neg h5, if_neg h5]
        exact rp_same f n k _ _ _ hs
/-- THE PLAIN LAW OF REUSE. -/
theorem readP_same (f : Nat → Int) (n : Nat) (s t : Nat → JV) : (readP f n s).1 = (readP f n t).1 ∧ Same (readP f n s).2 (readP f n t).2 := by
  unfold readP
  by_cases hc : scan ws f n 1 < n ∧ f (scan ws f n 1) = 125
  · rw [if_pos hc, if_pos hc]; exact ⟨rfl, same_reset s t⟩
  · rw [if_neg hc, if_neg hc]; exact rp_same f n _ _ _ _ (same_reset s t)

end Go.Proofs.Qxb6000782a
