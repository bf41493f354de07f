/-
  The walks of asciiEqualFold, values and value.
-/
import Derived.Test.Qxb6000782aWalks2
import Derived.RegionTactic
import Derived.BigRegion
import Derived.ChangeAlike
import Derived.Laws.ResultCell
import Derived.Laws.IdiomStrings
namespace Go.Proofs.Qxb6000782a
open Go.ChangeShapes Go.WideShapes Go.ChangeAt Go.RowKit
set_option linter.unusedVariables false

/-- foldTo, over functions. -/
def ff (f g : Nat → Int) : Nat → Bool | 0 => true | k+1 => ff f g k && decide (lowc (f k) = lowc (g k))
theorem ff_no (f g : Nat → Int) (k : Nat) (h : lowc (f k) ≠ lowc (g k)) : ∀ m, k < m → ff f g m = false
  | 0, hm => by omega
  | m+1, hm => by
    show (ff f g m && decide (lowc (f m) = lowc (g m))) = false
    by_cases e : k = m
    · subst e; rw [decide_eq_false h]; simp
    · rw [ff_no f g k h m (by omega)]; rfl
theorem ff_step (f g : Nat → Int) (k : Nat) (h : ff f g k = true) (h2 : lowc (f k) = lowc (g k)) : ff f g (k + 1) = true := by
  show (ff f g k && decide (lowc (f k) = lowc (g k))) = true
  rw [h, decide_eq_true h2]; rfl

theorem lower_q (x : Int) (w : World) (hx : 0 ≤ x ∧ x ≤ 255) : Calls Try.prog 48 #[.int .u8 x] w fun e w' => e = .returned (.int .u8 (lowc x)) ∧ w' = w :=
  (lower_any x w hx).mono (fun _ _ h => ⟨h.1, h.2.symm⟩)

theorem drewN_drewN (w : World) (a b : Nat) : (w.drewN a).drewN b = w.drewN (a + b) := by simp [World.drewN, Nat.add_assoc]

theorem fold_ne (ao : Option Addr) (m c : Nat) (s : ByteArray) (w : World) (hne : m ≠ s.size) :
    Calls Try.prog 43 #[.slice ao m c, .string s] w fun e w' => e = .returned (.bool false) ∧ w = w' := by
  have h : ((m : Int) != (s.size : Int)) = true := by simp; omega
  go_enter Try.func43, Try.ntmps43
  go_wp2
  go_ret
  exact ⟨rfl, rfl⟩

theorem fold_eq (b off m c : Nat) (f g : Nat → Int) (s : ByteArray) (w : World) (hm : m ≤ 1048576) (hms : m = s.size) (hf : ∀ i, i < m → 0 ≤ f i ∧ f i ≤ 255) (hg : ∀ i, i < m → 0 ≤ g i ∧ g i ≤ 255)
    (hc : ∀ i, i < m → w.cell? ⟨b, off + i, none⟩ = some (.int .u8 (f i))) (hs : ∀ i (h : i < s.size), (s[i].toNat : Int) = g i) :
    Calls Try.prog 43 #[.slice (some ⟨b, off, none⟩) m c, .string s] w fun e w' => e = .returned (.bool (ff f g m)) ∧ ∃ q, w' = w.drewN q := by
  have h : ((m : Int) != (s.size : Int)) = false := by simp; omega
  have hle : m ≤ s.size := by omega
  clear hms
  go_enter Try.func43, Try.ntmps43
  go_wp2
  go_loopw [13] (fun t wr => ∃ k : Nat, k ≤ m ∧ t = .int .i64 k ∧ ff f g k = true ∧ ∃ q, wr = w.drewN q) (fun t _ => m - (intOf t).toNat)
  case atStart => exact ⟨0, Nat.zero_le _, rfl, rfl, 0, rfl⟩
  case round =>
    obtain ⟨k, hk, rfl, hd, q, rfl⟩ := hrel
    have HD : Hid (ff f g k = true) := hd
    clear hd
    by_cases hlt : k < m
    · have hlts : k < s.size := by omega
      have hck : (w.drewN q).cell? ⟨b, off + k, none⟩ = some (.int .u8 (f k)) := hc k hlt
      have hsk := hs k hlts
      have hfk := hf k hlt
      have hgk := hg k hlt
      have hki : (k : Int) < (m : Int) := by omega
      have hks : (k : Int) < (s.size : Int) := by omega
      clear hc hs hf hg
      obtain ⟨w2, hw2⟩ : ∃ w2, w2 = w.drewN q := ⟨_, rfl⟩
      rw [← hw2] at hck ⊢
      have HW : Hid (w2 = w.drewN q) := hw2
      clear hw2
      by_cases he : lowc (f k) = lowc (g k)
      · have HE : Hid (ff f g (k + 1) = true) := ff_step f g k HD.out he
        have hb : (lowc (f k) != lowc (g k)) = false := by simpa using he
        clear he
        go_wp2
        go_quiet ((go_at_call 48; exact Calls.quiet_of_same (lower_q _ _ (by assumption))))
        go_wp2
        go_roundw
        case rel => exact ⟨k + 1, by omega, by go_num, HE.out, _, by rw [HW.out, drewN_drewN]⟩
        case measure => simp [intOf]; omega
      · have hb : (lowc (f k) != lowc (g k)) = true := by simpa using he
        have HE : Hid (ff f g m = false) := ff_no f g k he m hlt
        clear he
        go_wp2
        go_quiet ((go_at_call 48; exact Calls.quiet_of_same (lower_q _ _ (by assumption))))
        go_wp2
        go_ret
        exact ⟨ret_bool HE.out.symm, _, by rw [HW.out, drewN_drewN]⟩
    · obtain rfl : k = m := by omega
      go_wp2
      go_ret
      exact ⟨ret_bool HD.out.symm, q, rfl⟩
end Go.Proofs.Qxb6000782a
