/-
  The walks of the functions that FnLuhnDetectsSingleDigitError calls: each computes its plain function.
-/
import Derived.Test.Qxb6000387aRows
import Derived.Test.Qxb6000387aKit
import Derived.Test.Qxb6000387aPlain
namespace Go.Proofs.Qxb6000387a
open Go.ChangeShapes Go.WideShapes Go.ChangeAt Go.RowKit
set_option linter.unusedVariables false

theorem ls_a (f : Nat → Int) (n k : Nat) (h : ((k : Int) % 2 == 0) = true) (h9 : 9 < (f (n - 1 - k) - 48) * 2) : Value.int IntKind.i64 (ls f n k + ((f (n - 1 - k) - 48) * 2 - 9)) = Value.int IntKind.i64 (ls f n (k+1)) := by
  simp only [beq_iff_eq] at h
  simp only [ls, lv]; rw [if_pos (by omega), if_pos (by omega)]; congr 1; omega
theorem ls_b (f : Nat → Int) (n k : Nat) (h : ((k : Int) % 2 == 0) = true) (h9 : (f (n - 1 - k) - 48) * 2 ≤ 9) : Value.int IntKind.i64 (ls f n k + (f (n - 1 - k) - 48) * 2) = Value.int IntKind.i64 (ls f n (k+1)) := by
  simp only [beq_iff_eq] at h
  simp only [ls, lv]; rw [if_pos (by omega), if_neg (by omega)]; congr 1; omega
theorem ls_c (f : Nat → Int) (n k : Nat) (h : ((k : Int) % 2 == 0) = false) : Value.int IntKind.i64 (ls f n k + (f (n - 1 - k) - 48)) = Value.int IntKind.i64 (ls f n (k+1)) := by
  simp only [beq_eq_false_iff_ne, ne_eq] at h
  simp only [ls, lv]; rw [if_neg (by omega)]

/-- luhn, over digits. -/
theorem luhn_any (b off n c : Nat) (f : Nat → Int) (w : World) (hn : n ≤ 65536) (hf : ∀ i, i < n → 48 ≤ f i ∧ f i ≤ 57)
    (hc : ∀ i, i < n → w.cell? ⟨b, off + i, none⟩ = some (.int .u8 (f i))) :
    Calls Try.prog 17 #[.slice (some ⟨b, off, none⟩) n c] w fun e w' => e = .returned (.int .u8 (chk f n)) ∧ w = w' := by
  go_enter Try.func17, Try.ntmps17
  go_wp2
  go_loop [3, 8] (fun s i => ∃ k : Nat, k ≤ n ∧ i = .int .i64 k ∧ s = .int .i64 (ls f n k)) (fun _ i => n - (intOf i).toNat)
  case atStart => exact ⟨0, Nat.zero_le _, rfl, rfl⟩
  case round =>
    obtain ⟨k, hk, rfl, rfl⟩ := hrel
    have hb := ls_bd f n hf k hk
    by_cases hlt : k < n
    · have hd := hf (n-1-k) (by omega)
      have hcc := hc (n-1-k) (by omega)
      go_wp2
      all_goals
        go_round
        case rel => exact ⟨k + 1, by omega, by go_num, by first | exact ls_a f n k ‹_› ‹_› | exact ls_b f n k ‹_› ‹_› | exact ls_c f n k ‹_›⟩
        case measure => simp [intOf]; omega
    · obtain rfl : k = n := by omega
      go_wp2
      go_ret
      exact ⟨ret_int (by unfold chk; omega), rfl⟩

theorem zzluhn_any (b off n c : Nat) (f : Nat → Int) (w : World) (hn : n ≤ 65536) (hf : ∀ i, i < n → 48 ≤ f i ∧ f i ≤ 57)
    (hc : ∀ i, i < n → w.cell? ⟨b, off + i, none⟩ = some (.int .u8 (f i))) :
    Calls Try.prog 11 #[.slice (some ⟨b, off, none⟩) n c] w fun e w' => e = .returned (.int .u8 (chk f n)) ∧ w = w' := by
  go_enter Try.func11, Try.ntmps11
  go_wp2_with (go_at_call 17; refine (luhn_any b off n c f _ hn hf hc).mono ?_; rintro e w' ⟨rfl, rfl⟩)
  go_ret
  exact ⟨rfl, rfl⟩

/-- allDigits. -/
theorem digits_any (b off n c : Nat) (f : Nat → Int) (w : World) (hn : n ≤ 65536) 
    (hc : ∀ i, i < n → w.cell? ⟨b, off + i, none⟩ = some (.int .u8 (f i))) :
    Calls Try.prog 9 #[.slice (some ⟨b, off, none⟩) n c] w fun e w' => e = .returned (.bool (dg f n)) ∧ w = w' := by
  go_enter Try.func9, Try.ntmps9
  go_wp2
  go_loop [3] (fun i => ∃ k : Nat, k ≤ n ∧ i = .int .i64 k ∧ dg f k = true) (fun i => n - (intOf i).toNat)
  case atStart => exact ⟨0, Nat.zero_le _, rfl, rfl⟩
  case round =>
    obtain ⟨k, hk, rfl, hdg⟩ := hrel
    have HD : Hid (dg f k = true) := hdg
    clear hdg
    by_cases hlt : k < n
    · have hcc := hc k hlt
      by_cases h1 : f k < 48
      · go_wp2
        go_ret
        exact ⟨ret_bool (dg_no f k (by omega) n hlt).symm, rfl⟩
      · by_cases h2 : 57 < f k
        · go_wp2
          go_ret
          exact ⟨ret_bool (dg_no f k (by omega) n hlt).symm, rfl⟩
        · go_wp2
          go_round
          case rel => exact ⟨k + 1, by omega, by go_num, dg_step f k HD.out (by omega) (by omega)⟩
          case measure => simp [intOf]; omega
    · obtain rfl : k = n := by omega
      go_wp2
      go_ret
      exact ⟨ret_bool HD.out.symm, rfl⟩

/-- allDigits of nothing, nil or not. -/
theorem digits_zero (a : Option Addr) (c : Nat) (w : World) :
    Calls Try.prog 9 #[.slice a 0 c] w fun e w' => e = .returned (.bool true) ∧ w = w' := by
  go_enter Try.func9, Try.ntmps9
  go_wp2
  refine wp_loop_rounds 1 ?_
  rw [rounds_succ]
  go_wp2
  go_ret
  exact ⟨rfl, rfl⟩

/-- The bound on the total length. -/
theorem bytes_yes (a : Option Addr) (n c : Nat) (p x : Int) (w : World) (hn : n ≤ 1048576) :
    Calls Try.prog 14 #[.slice a n c, .int .i64 p, .int .u8 x] w fun e w' => e = .returned (.bool true) ∧ w = w' := by
  go_enter Try.func14, Try.ntmps14
  go_wp2
  go_ret
  exact ⟨rfl, rfl⟩
theorem bytes_no (a : Option Addr) (n c : Nat) (p x : Int) (w : World) (hn : 1048576 < n) :
    Calls Try.prog 14 #[.slice a n c, .int .i64 p, .int .u8 x] w fun e w' => e = .returned (.bool false) ∧ w = w' := by
  go_enter Try.func14, Try.ntmps14
  go_wp2
  go_ret
  exact ⟨rfl, rfl⟩

theorem Try.info5 : (Try.prog.info? 5).map (fun i => (i.zero, i.size, i.bytes)) = some (some (.int .u8 0), 1, 1) := by kernel_rfl
theorem Try.size5 : (Try.prog.info? 5).map (·.size) = some 1 := by kernel_rfl

/-- cloneBytes, of a slice that is not nil. -/
theorem clone_any (b off n c : Nat) (f : Nat → Int) (w : World) (hn : n ≤ 65536) (hbw : b < w.heap.size)
    (hc : ∀ i, i < n → w.cell? ⟨b, off + i, none⟩ = some (.int .u8 (f i))) :
    Calls Try.prog 10 #[.slice (some ⟨b, off, none⟩) n c] w fun e w' => e = .returned (.slice (some ⟨w.heap.size, 0, none⟩) n n) ∧ Row 5 w' w.heap.size n f ∧ w'.heap.size = w.heap.size + 1 ∧ Below w.heap.size w w' := by
  have hnil := fun W => Lib.run_eql_slice_nil (P := Try.prog) W 22 5 (some ⟨b, off, none⟩) n c 0 0 Try.underlying22
  go_enter Try.func10, Try.ntmps10
  go_wp2_with (at_make; refine wpList_make_row _ rfl _ _ 22 rfl 5 Try.underlying22 Try.info5 _ _ _ _ n rfl rfl rfl rfl (by omega) ?_; intro w1 hr1 hs1 hb1; obtain ⟨w2, hcp, hr2, hs2, hb2, ho2⟩ := run_copy_bytes (P := Try.prog) w1 22 22 3 5 Try.underlying22 Try.size5 w.heap.size n n n c (some ⟨b, off, none⟩) b off f (fun _ => 0) (fun _ => rfl) (Nat.le_refl _) hr1 (fun i hi => (hb1.cell (p := ⟨b, off + i, none⟩) hbw).trans (hc i hi)))
  go_ret
  exact ⟨rfl, hr2.congr (fun i hi => if_pos hi), by omega, hb1.trans hb2⟩

end Go.Proofs.Qxb6000387a
