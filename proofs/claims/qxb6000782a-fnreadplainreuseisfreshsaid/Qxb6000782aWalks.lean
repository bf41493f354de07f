/-
  The walks of the functions that only read: isDigit, lowerASCII, skipSpace, plainEnd, the bounds.
-/
import Derived.Test.Qxb6000782aRows
import Derived.Test.Qxb6000782aKit
import Derived.Test.Qxb6000782aPlain
import Derived.Deep.QuietTactic
import Derived.BigQuiet
namespace Go.Proofs.Qxb6000782a
open Go.ChangeShapes Go.WideShapes Go.ChangeAt Go.RowKit
set_option linter.unusedVariables false

theorem digit_yes (x : Int) (w : World) (h1 : 48 ≤ x) (h2 : x ≤ 57) : Calls Try.prog 42 #[.int .u8 x] w fun e w' => e = .returned (.bool true) ∧ w = w' := by
  go_enter Try.func42, Try.ntmps42
  go_wp2
  go_ret
  exact ⟨rfl, rfl⟩
theorem digit_no (x : Int) (w : World) (h : ¬ (48 ≤ x ∧ x ≤ 57)) : Calls Try.prog 42 #[.int .u8 x] w fun e w' => e = .returned (.bool false) ∧ w = w' := by
  by_cases h1 : 48 ≤ x
  · have h2 : decide (x ≤ 57) = false := decide_eq_false (by omega)
    clear h
    go_enter Try.func42, Try.ntmps42
    go_wp2
    go_ret
    exact ⟨rfl, rfl⟩
  · go_enter Try.func42, Try.ntmps42
    go_wp2
    go_ret
    exact ⟨rfl, rfl⟩
theorem digit_any (x : Int) (w : World) : Calls Try.prog 42 #[.int .u8 x] w fun e w' => e = .returned (.bool (dig x)) ∧ w = w' := by
  by_cases h : 48 ≤ x ∧ x ≤ 57
  · rw [show dig x = true from decide_eq_true h]; exact digit_yes x w h.1 h.2
  · rw [show dig x = false from decide_eq_false h]; exact digit_no x w h

theorem lower_any (x : Int) (w : World) (hx : 0 ≤ x ∧ x ≤ 255) : Calls Try.prog 48 #[.int .u8 x] w fun e w' => e = .returned (.int .u8 (lowc x)) ∧ w = w' := by
  by_cases h : 65 ≤ x ∧ x ≤ 90
  · obtain ⟨h1, h2⟩ := h
    have e : x + 97 - 65 = lowc x := by unfold lowc; rw [if_pos ⟨h1, h2⟩]; omega
    have HE : Hid (x + 97 - 65 = lowc x) := e
    clear e
    go_enter Try.func48, Try.ntmps48
    go_wp2
    go_ret
    exact ⟨ret_int HE.out, rfl⟩
  · have HE : Hid (x = lowc x) := by show x = lowc x; unfold lowc; rw [if_neg h]
    by_cases h1 : 65 ≤ x
    all_goals
      go_enter Try.func48, Try.ntmps48
      go_wp2
      go_ret
      exact ⟨ret_int HE.out, rfl⟩

/-- skipSpace. -/
theorem skip_any (b off n c i : Nat) (f : Nat → Int) (w : World) (hn : n ≤ 1048576) (hi : i ≤ n)
    (hc : ∀ i, i < n → w.cell? ⟨b, off + i, none⟩ = some (.int .u8 (f i))) :
    Calls Try.prog 46 #[.slice (some ⟨b, off, none⟩) n c, .int .i64 i] w fun e w' => e = .returned (.int .i64 (scan ws f n i)) ∧ w = w' := by
  go_enter Try.func46, Try.ntmps46
  go_wp2
  go_loop [1] (fun t => ∃ k : Nat, i ≤ k ∧ k ≤ n ∧ t = .int .i64 k ∧ scan ws f n i = scan ws f n k) (fun t => n - (intOf t).toNat)
  case atStart => exact ⟨i, Nat.le_refl _, hi, rfl, rfl⟩
  case round =>
    obtain ⟨k, hk0, hk, rfl, hs⟩ := hrel
    have HS : Hid (scan ws f n i = scan ws f n k) := hs
    clear hs
    by_cases hlt : k < n
    · have hcc := hc k hlt
      by_cases hw : ws (f k) = true
      · have HE : Hid (scan ws f n i = scan ws f n (k + 1)) := HS.out.trans (scan_step ws f n k hlt hw)
        have hw' : f k = 32 ∨ f k = 9 ∨ f k = 13 ∨ f k = 10 := of_decide_eq_true hw
        clear hw
        rcases hw' with h | h | h | h
        all_goals
          rw [h] at hcc
          clear h hc
          go_wp2
          go_round
          case rel => exact ⟨k + 1, by omega, by omega, by go_num, HE.out⟩
          case measure => simp [intOf]; omega
      · have HE : Hid (scan ws f n i = k) := HS.out.trans (scan_stop ws f n k (fun h => hw h.2))
        have hw' : ¬ (f k = 32 ∨ f k = 9 ∨ f k = 13 ∨ f k = 10) := fun h => hw (decide_eq_true h)
        have h1 : (f k == 32) = false := by simp; omega
        have h2 : (f k == 9) = false := by simp; omega
        have h3 : (f k == 13) = false := by simp; omega
        have h4 : (f k == 10) = false := by simp; omega
        clear hw hw'
        go_wp2
        go_ret
        exact ⟨ret_int (by rw [HE.out]), rfl⟩
    · have HE : Hid (scan ws f n i = k) := HS.out.trans (scan_stop ws f n k (fun h => hlt h.1))
      go_wp2
      go_ret
      exact ⟨ret_int (by rw [HE.out]), rfl⟩

/-- plainEnd's two results. -/
def pendV (o : Option Nat) : Value := match o with | none => .tuple #[.int .i64 0, .bool false] | some e => .tuple #[.int .i64 e, .bool true]

/-- plainEnd at the text's end. -/
theorem pend_end (b off n c : Nat) (f : Nat → Int) (w : World) :
    Calls Try.prog 31 #[.slice (some ⟨b, off, none⟩) n c, .int .i64 n] w fun e w' => e = .returned (pendV (pend f n n)) ∧ w = w' := by
  have HP : Hid (pendV (pend f n n) = .tuple #[.int .i64 0, .bool false]) := by show pendV (pend f n n) = _; rw [show pend f n n = none from if_pos rfl]; rfl
  go_enter Try.func31, Try.ntmps31
  go_wp2
  go_ret2
  exact ⟨by rw [HP.out]; rfl, rfl⟩

/-- plainEnd at a quote. -/
theorem pend_str (b off n c i : Nat) (f : Nat → Int) (w : World) (hn : n ≤ 1048576) (hi : i < n)
    (hc : ∀ i, i < n → w.cell? ⟨b, off + i, none⟩ = some (.int .u8 (f i))) (hq : f i = 34) :
    Calls Try.prog 31 #[.slice (some ⟨b, off, none⟩) n c, .int .i64 i] w fun e w' => e = .returned (pendV (pend f n i)) ∧ w = w' := by
  have HP : Hid (pend f n i = strEnd f n (i + 1)) := by
    show pend f n i = _; unfold pend; rw [if_neg (by omega), if_pos hq]
  have hne : ((i : Int) == (n : Int)) = false := by simp; omega
  have hb : (f i == 34) = true := by simpa using hq
  clear hq
  go_enter Try.func31, Try.ntmps31
  go_wp2
  go_loop [6] (fun t => ∃ k : Nat, i + 1 ≤ k ∧ k ≤ n ∧ t = .int .i64 k ∧ strEnd f n (i + 1) = strEnd f n k) (fun t => n - (intOf t).toNat)
  case atStart => exact ⟨i + 1, Nat.le_refl _, hi, by go_num, rfl⟩
  case round =>
    obtain ⟨k, hk0, hk, rfl, hs⟩ := hrel
    have HS : Hid (strEnd f n (i + 1) = strEnd f n k) := hs
    clear hs
    by_cases hlt : k < n
    · by_cases h34 : f k = 34
      · have HE : Hid (pend f n i = some (k + 1)) := (HP.out.trans HS.out).trans (strEnd_q f n k hlt h34)
        have h1 : (f k == 34) = true := by simpa using h34
        have hck := hc k hlt
        clear h34
        go_wp2
        go_ret2
        exact ⟨by rw [HE.out]; rfl, rfl⟩
      · have h1 : (f k == 34) = false := by simpa using h34
        by_cases hbad : f k < 32 ∨ 126 < f k ∨ f k = 92
        · have HE : Hid (pend f n i = none) := (HP.out.trans HS.out).trans (strEnd_bad f n k hlt h34 hbad)
          by_cases h2 : f k < 32
          · go_wp2
            go_ret2
            exact ⟨by rw [HE.out]; rfl, rfl⟩
          · by_cases h3 : 126 < f k
            · go_wp2
              go_ret2
              exact ⟨by rw [HE.out]; rfl, rfl⟩
            · have h4 : (f k == 92) = true := by simp; omega
              clear hbad
              go_wp2
              go_ret2
              exact ⟨by rw [HE.out]; rfl, rfl⟩
        · have HE : Hid (strEnd f n (i + 1) = strEnd f n (k + 1)) := HS.out.trans (strEnd_on f n k hlt h34 hbad)
          have h2 : 32 ≤ f k := by omega
          have h3 : f k ≤ 126 := by omega
          have h4 : (f k == 92) = false := by simp; omega
          clear hbad h34
          go_wp2
          go_round
          case rel => exact ⟨k + 1, by omega, by omega, by go_num, HE.out⟩
          case measure => simp [intOf]; omega
    · have HE : Hid (pend f n i = none) := (HP.out.trans HS.out).trans (strEnd_out f n k hlt)
      go_wp2
      go_ret2
      exact ⟨by rw [HE.out]; rfl, rfl⟩

end Go.Proofs.Qxb6000782a
