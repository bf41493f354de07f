/-
  The walk of FnLuhnDetectsSingleDigitError itself, case by case.
-/
import Derived.Test.Qxb6000387aWalks
namespace Go.Proofs.Qxb6000387a.fnLuhnDetectsSingleDigitError
open Go.ChangeShapes Go.WideShapes Go.ChangeAt Go.RowKit
set_option linter.unusedVariables false

/-! ### STEP 1: THE WALK -/
theorem walk_long (a0 : Option Addr) (len0 cap0 : Nat) (a1 : Int) (a2 : Int) (w : World) (h : 65536 < len0) :
    Calls Try.prog 5 #[.slice a0 len0 cap0, .int .i64 a1, .int .u8 a2] w fun e w' => e = .returned (.bool true) ∧ Below w.heap.size w w' := by
  by_cases hb : 1048576 < len0
  · go_enter Try.func5, Try.ntmps5
    go_wp2_with (go_at_call 14; refine (bytes_no _ _ _ _ _ _ hb).mono ?_; rintro e w' ⟨rfl, rfl⟩)
    go_ret
    exact ⟨rfl, Below.refl _ _⟩
  · go_enter Try.func5, Try.ntmps5
    go_wp2_with (go_at_call 14; refine (bytes_yes _ _ _ _ _ _ (by omega)).mono ?_; rintro e w' ⟨rfl, rfl⟩)
    go_ret
    exact ⟨rfl, Below.refl _ _⟩

theorem walk_zero (a0 : Option Addr) (cap0 : Nat) (a1 : Int) (a2 : Int) (w : World) :
    Calls Try.prog 5 #[.slice a0 0 cap0, .int .i64 a1, .int .u8 a2] w fun e w' => e = .returned (.bool true) ∧ Below w.heap.size w w' := by
  by_cases hp : a1 < 0
  all_goals
    go_enter Try.func5, Try.ntmps5
    go_wp2_with (first | (go_at_call 14; refine (bytes_yes _ _ _ _ _ _ (by omega)).mono ?_; rintro e w' ⟨rfl, rfl⟩) | (go_at_call 9; refine (digits_zero _ _ _).mono ?_; rintro e w' ⟨rfl, rfl⟩))
    go_ret
    exact ⟨rfl, Below.refl _ _⟩

theorem walk_nodigits (b off n c : Nat) (f : Nat → Int) (a1 : Int) (a2 : Int) (w : World) (hn : n ≤ 65536) (hc : ∀ i, i < n → w.cell? ⟨b, off + i, none⟩ = some (.int .u8 (f i))) (hd : dg f n = false) :
    Calls Try.prog 5 #[.slice (some ⟨b, off, none⟩) n c, .int .i64 a1, .int .u8 a2] w fun e w' => e = .returned (.bool true) ∧ Below w.heap.size w w' := by
  go_enter Try.func5, Try.ntmps5
  go_wp2_with (first | (go_at_call 14; refine (bytes_yes _ _ _ _ _ _ (by omega)).mono ?_; rintro e w' ⟨rfl, rfl⟩) | (go_at_call 9; refine (digits_any b off n c f _ hn hc).mono ?_; rintro e w' ⟨rfl, rfl⟩))
  go_ret
  exact ⟨rfl, Below.refl _ _⟩

theorem walk_early (b off n c : Nat) (f : Nat → Int) (a1 : Int) (a2 : Int) (w : World) (hn : n ≤ 65536) (hc : ∀ i, i < n → w.cell? ⟨b, off + i, none⟩ = some (.int .u8 (f i))) (hd : dg f n = true)
    (h : a1 < 0 ∨ (n : Int) ≤ a1) :
    Calls Try.prog 5 #[.slice (some ⟨b, off, none⟩) n c, .int .i64 a1, .int .u8 a2] w fun e w' => e = .returned (.bool true) ∧ Below w.heap.size w w' := by
  by_cases h1 : a1 < 0
  all_goals
    go_enter Try.func5, Try.ntmps5
    go_wp2_with (first | (go_at_call 14; refine (bytes_yes _ _ _ _ _ _ (by omega)).mono ?_; rintro e w' ⟨rfl, rfl⟩) | (go_at_call 9; refine (digits_any b off n c f _ hn hc).mono ?_; rintro e w' ⟨rfl, rfl⟩))
    go_ret
    exact ⟨rfl, Below.refl _ _⟩

theorem walk_samedigit (b off n c : Nat) (f : Nat → Int) (p : Nat) (x : Int) (w : World) (hn : n ≤ 65536) (hc : ∀ i, i < n → w.cell? ⟨b, off + i, none⟩ = some (.int .u8 (f i))) (hd : dg f n = true)
    (hp : p < n) (h : x < 48 ∨ 57 < x ∨ x = f p) :
    Calls Try.prog 5 #[.slice (some ⟨b, off, none⟩) n c, .int .i64 p, .int .u8 x] w fun e w' => e = .returned (.bool true) ∧ Below w.heap.size w w' := by
  have hcp := hc p hp
  by_cases h1 : x < 48
  · go_enter Try.func5, Try.ntmps5
    go_wp2_with (first | (go_at_call 14; refine (bytes_yes _ _ _ _ _ _ (by omega)).mono ?_; rintro e w' ⟨rfl, rfl⟩) | (go_at_call 9; refine (digits_any b off n c f _ hn hc).mono ?_; rintro e w' ⟨rfl, rfl⟩))
    go_ret
    exact ⟨rfl, Below.refl _ _⟩
  · by_cases h2 : 57 < x
    · go_enter Try.func5, Try.ntmps5
      go_wp2_with (first | (go_at_call 14; refine (bytes_yes _ _ _ _ _ _ (by omega)).mono ?_; rintro e w' ⟨rfl, rfl⟩) | (go_at_call 9; refine (digits_any b off n c f _ hn hc).mono ?_; rintro e w' ⟨rfl, rfl⟩))
      go_ret
      exact ⟨rfl, Below.refl _ _⟩
    · obtain rfl : x = f p := by omega
      go_enter Try.func5, Try.ntmps5
      go_wp2_with (first | (go_at_call 14; refine (bytes_yes _ _ _ _ _ _ (by omega)).mono ?_; rintro e w' ⟨rfl, rfl⟩) | (go_at_call 9; refine (digits_any b off n c f _ hn hc).mono ?_; rintro e w' ⟨rfl, rfl⟩))
      go_ret
      exact ⟨rfl, Below.refl _ _⟩

theorem walk_main (b off n c : Nat) (f : Nat → Int) (p : Nat) (x : Int) (w : World) (hn : n ≤ 65536) (hbw : b < w.heap.size) (hc : ∀ i, i < n → w.cell? ⟨b, off + i, none⟩ = some (.int .u8 (f i))) (hd : dg f n = true)
    (hp : p < n) (h1 : 48 ≤ x) (h2 : x ≤ 57) (h3 : x ≠ f p) :
    Calls Try.prog 5 #[.slice (some ⟨b, off, none⟩) n c, .int .i64 p, .int .u8 x] w fun e w' => e = .returned (.bool true) ∧ Below w.heap.size w w' := by
  have hcp := hc p hp
  have hne : (x == f p) = false := by simpa using h3
  have hall := dg_all f n hd
  have hall2 : ∀ i, i < n → 48 ≤ upd f p x i ∧ upd f p x i ≤ 57 := fun i hi => by
    unfold upd; split
    · exact ⟨h1, h2⟩
    · exact hall i hi
  have hturn : (chk (upd f p x) n != chk f n) = true := by
    rw [bne_iff_ne]
    exact chk_turn f (upd f p x) n p hp (fun i hi => if_neg hi) (hall p hp) (hall2 p hp) (by simpa [upd] using h3)
  go_enter Try.func5, Try.ntmps5
  go_wp2_with (first | (go_at_call 14; refine (bytes_yes _ _ _ _ _ _ (by omega)).mono ?_; rintro e w' ⟨rfl, rfl⟩) | (go_at_call 9; refine (digits_any b off n c f _ hn hc).mono ?_; rintro e w' ⟨rfl, rfl⟩))
  refine (clone_any b off n c f _ hn hbw hc).mono ?_
  rintro e w1 ⟨rfl, hr1, hs1, hb1⟩
  have hlt1 : w.heap.size < w1.heap.size := by omega
  clear hs1
  go_wp2_with (at_make; refine wpList_make_row _ rfl _ _ 22 rfl 5 Try.underlying22 Try.info5 _ _ _ _ n rfl rfl rfl rfl (by omega) ?_; intro w2 hr2 hs2 hb2; have hlt2 : w1.heap.size < w2.heap.size := (by omega); clear hs2; obtain ⟨w3, hcpy, hr3, hs3, hb3, ho3⟩ := run_copy_bytes (P := Try.prog) w2 22 22 3 5 Try.underlying22 Try.size5 w1.heap.size n n n n (some ⟨w.heap.size, 0, none⟩) w.heap.size 0 f (fun _ => 0) (fun _ => rfl) (Nat.le_refl _) hr2 (fun i hi => (hb2.cell (p := ⟨w.heap.size, 0 + i, none⟩) hlt1).trans (hr1.cell0 i hi)); clear hs3; have hcell3 := hr3.cell p hp; have hfr3 := hr3.frozen p)
  have hr4 : Row 5 (w3.setCell ⟨w1.heap.size, p, none⟩ (.int .u8 x)) w1.heap.size n (upd f p x) := (hr3.congr (f' := f) (fun i hi => if_pos hi)).set p x
  have hr5 : Row 5 (w3.setCell ⟨w1.heap.size, p, none⟩ (.int .u8 x)) w.heap.size n f := ((hr1.below hb2 hlt1).below hb3 hlt1).other _ (Nat.ne_of_lt hlt1) _
  have hb5 : Below w.heap.size w (w3.setCell ⟨w1.heap.size, p, none⟩ (.int .u8 x)) := ((hb1.trans (hb2.mono (Nat.le_of_lt hlt1))).trans (hb3.mono (Nat.le_of_lt hlt1))).setCell (p := ⟨w1.heap.size, p, none⟩) (Nat.le_of_lt hlt1) _
  clear hr3 hcell3 hfr3 hcpy ho3 hb3 hr2 hb2 hr1 hb1
  generalize w3.setCell ⟨w1.heap.size, p, none⟩ (.int .u8 x) = w4 at hr4 hr5 hb5 ⊢
  refine (zzluhn_any w1.heap.size 0 n n (upd f p x) _ hn hall2 hr4.cell0).mono ?_
  rintro e w' ⟨rfl, rfl⟩
  go_wp2_with fail
  refine (zzluhn_any w.heap.size 0 n n f _ hn hall hr5.cell0).mono ?_
  rintro e w' ⟨rfl, rfl⟩
  go_wp2
  go_ret
  exact ⟨rfl, hb5⟩

end Go.Proofs.Qxb6000387a.fnLuhnDetectsSingleDigitError
