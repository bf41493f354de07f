/-
  The walks of plainEnd's other ways, of zzClone, zzEqualBytes, asciiEqualFold, the bounds.
-/
import Derived.Test.Qxb6000782aWalks
namespace Go.Proofs.Qxb6000782a
open Go.ChangeShapes Go.WideShapes Go.ChangeAt Go.RowKit
set_option linter.unusedVariables false

theorem pend_zero (b off n c i : Nat) (f : Nat → Int) (w : World) (hn : n ≤ 1048576) (hi : i < n)
    (hc : w.cell? ⟨b, off + i, none⟩ = some (.int .u8 48)) (hq : f i = 48) :
    Calls Try.prog 31 #[.slice (some ⟨b, off, none⟩) n c, .int .i64 i] w fun e w' => e = .returned (pendV (pend f n i)) ∧ w = w' := by
  have HP : Hid (pend f n i = some (i + 1)) := by
    show pend f n i = _; unfold pend; rw [if_neg (by omega), if_neg (by omega), if_pos hq]
  have hne : ((i : Int) == (n : Int)) = false := by simp; omega
  clear hq
  go_enter Try.func31, Try.ntmps31
  go_wp2
  go_ret2
  exact ⟨by rw [HP.out]; rfl, rfl⟩

theorem pend_other (b off n c i : Nat) (f : Nat → Int) (w : World) (hn : n ≤ 1048576) (hi : i < n)
    (hc : w.cell? ⟨b, off + i, none⟩ = some (.int .u8 (f i))) (h1 : f i ≠ 34) (h2 : f i ≠ 48) (h3 : dig (f i) = false) :
    Calls Try.prog 31 #[.slice (some ⟨b, off, none⟩) n c, .int .i64 i] w fun e w' => e = .returned (pendV (pend f n i)) ∧ w = w' := by
  have HP : Hid (pend f n i = none) := by
    show pend f n i = _; unfold pend; rw [if_neg (by omega), if_neg h1, if_neg h2, if_neg (by rw [h3]; simp)]
  have hne : ((i : Int) == (n : Int)) = false := by simp; omega
  have g1 : (f i == 34) = false := by simpa using h1
  have g2 : (f i == 48) = false := by simpa using h2
  clear h1 h2
  go_enter Try.func31, Try.ntmps31
  go_wp2_with (go_at_call 42; refine (digit_any _ _).mono ?_; rintro e w' ⟨rfl, rfl⟩)
  go_ret2
  exact ⟨by rw [HP.out]; rfl, rfl⟩

theorem pend_dig (b off n c i : Nat) (f : Nat → Int) (w : World) (hn : n ≤ 1048576) (hi : i < n)
    (hc : ∀ i, i < n → w.cell? ⟨b, off + i, none⟩ = some (.int .u8 (f i))) (h1 : f i ≠ 34) (h2 : f i ≠ 48) (h3 : dig (f i) = true) :
    Calls Try.prog 31 #[.slice (some ⟨b, off, none⟩) n c, .int .i64 i] w fun e w' => e = .returned (pendV (pend f n i)) ∧ w = w' := by
  have HP : Hid (pend f n i = some (scan dig f n (i + 1))) := by
    show pend f n i = _; unfold pend; rw [if_neg (by omega), if_neg h1, if_neg h2, if_pos h3]
  have hne : ((i : Int) == (n : Int)) = false := by simp; omega
  have g1 : (f i == 34) = false := by simpa using h1
  have g2 : (f i == 48) = false := by simpa using h2
  clear h1 h2
  go_enter Try.func31, Try.ntmps31
  go_wp2_with (go_at_call 42; refine (digit_any _ _).mono ?_; rintro e w' ⟨rfl, rfl⟩)
  go_loop [8] (fun t => ∃ k : Nat, i + 1 ≤ k ∧ k ≤ n ∧ t = .int .i64 k ∧ scan dig f n (i + 1) = scan dig f n k) (fun t => n - (intOf t).toNat)
  case atStart => exact ⟨i + 1, Nat.le_refl _, hi, by go_num, rfl⟩
  case round =>
    obtain ⟨k, hk0, hk, rfl, hs⟩ := hrel
    have HS : Hid (scan dig f n (i + 1) = scan dig f n k) := hs
    clear hs
    by_cases hlt : k < n
    · cases hd : dig (f k) with
      | true =>
        have HE : Hid (scan dig f n (i + 1) = scan dig f n (k + 1)) := HS.out.trans (scan_step dig f n k hlt hd)
        go_wp2_with (go_at_call 42; refine (digit_any _ _).mono ?_; rintro e w' ⟨rfl, rfl⟩)
        go_round
        case rel => exact ⟨k + 1, by omega, by omega, by go_num, HE.out⟩
        case measure => simp [intOf]; omega
      | false =>
        have HE : Hid (pend f n i = some k) := by
          show pend f n i = some k
          rw [HP.out, HS.out, scan_stop dig f n k (by rw [hd]; simp)]
        go_wp2_with (go_at_call 42; refine (digit_any _ _).mono ?_; rintro e w' ⟨rfl, rfl⟩)
        go_ret2
        exact ⟨by rw [HE.out]; rfl, rfl⟩
    · have HE : Hid (pend f n i = some k) := by
        show pend f n i = some k
        rw [HP.out, HS.out, scan_stop dig f n k (fun h => hlt h.1)]
      go_wp2
      go_ret2
      exact ⟨by rw [HE.out]; rfl, rfl⟩

/-- plainEnd. -/
theorem pend_any (b off n c i : Nat) (f : Nat → Int) (w : World) (hn : n ≤ 1048576) (hi : i ≤ n)
    (hc : ∀ i, i < n → w.cell? ⟨b, off + i, none⟩ = some (.int .u8 (f i))) :
    Calls Try.prog 31 #[.slice (some ⟨b, off, none⟩) n c, .int .i64 i] w fun e w' => e = .returned (pendV (pend f n i)) ∧ w = w' := by
  by_cases h0 : i = n
  · subst h0; exact pend_end b off i c f w
  · have hlt : i < n := by omega
    by_cases h1 : f i = 34
    · exact pend_str b off n c i f w hn hlt hc h1
    · by_cases h2 : f i = 48
      · exact pend_zero b off n c i f w hn hlt (by rw [← h2]; exact hc i hlt) h2
      · cases h3 : dig (f i) with
        | true => exact pend_dig b off n c i f w hn hlt hc h1 h2 h3
        | false => exact pend_other b off n c i f w hn hlt (hc i hlt) h1 h2 h3

theorem bytes28_yes (a b : Option Addr) (n c m d : Nat) (w : World) (h : n + m ≤ 1048576) :
    Calls Try.prog 28 #[.slice a n c, .slice b m d] w fun e w' => e = .returned (.bool true) ∧ w = w' := by
  have h1 : (n : Int) + (m : Int) ≤ 1048576 := by omega
  go_enter Try.func28, Try.ntmps28
  go_wp2
  go_ret
  exact ⟨rfl, rfl⟩
theorem bytes28_no (a b : Option Addr) (n c m d : Nat) (w : World) (hn : n ≤ maxLen) (hm : m ≤ maxLen) (h : 1048576 < n + m) :
    Calls Try.prog 28 #[.slice a n c, .slice b m d] w fun e w' => e = .returned (.bool false) ∧ w = w' := by
  unfold maxLen at hn hm
  by_cases h1 : 1048576 < n
  · go_enter Try.func28, Try.ntmps28
    go_wp2
    go_ret
    exact ⟨rfl, rfl⟩
  · by_cases h2 : 1048576 < m
    · go_enter Try.func28, Try.ntmps28
      go_wp2
      go_ret
      exact ⟨rfl, rfl⟩
    · have h3 : (1048576 : Int) < (n : Int) + (m : Int) := by omega
      go_enter Try.func28, Try.ntmps28
      go_wp2
      go_ret
      exact ⟨rfl, rfl⟩
theorem bytes29_yes (a b : Option Addr) (n c m d : Nat) (w : World) (h : n + m ≤ 1048576) :
    Calls Try.prog 29 #[.slice a n c, .slice b m d] w fun e w' => e = .returned (.bool true) ∧ w = w' := by
  have h1 : (n : Int) + (m : Int) ≤ 1048576 := by omega
  go_enter Try.func29, Try.ntmps29
  go_wp2
  go_ret
  exact ⟨rfl, rfl⟩
theorem bytes29_no (a b : Option Addr) (n c m d : Nat) (w : World) (hn : n ≤ maxLen) (hm : m ≤ maxLen) (h : 1048576 < n + m) :
    Calls Try.prog 29 #[.slice a n c, .slice b m d] w fun e w' => e = .returned (.bool false) ∧ w = w' := by
  unfold maxLen at hn hm
  by_cases h1 : 1048576 < n
  · go_enter Try.func29, Try.ntmps29
    go_wp2
    go_ret
    exact ⟨rfl, rfl⟩
  · by_cases h2 : 1048576 < m
    · go_enter Try.func29, Try.ntmps29
      go_wp2
      go_ret
      exact ⟨rfl, rfl⟩
    · have h3 : (1048576 : Int) < (n : Int) + (m : Int) := by omega
      go_enter Try.func29, Try.ntmps29
      go_wp2
      go_ret
      exact ⟨rfl, rfl⟩

theorem Try.info5 : (Try.prog.info? 5).map (fun i => (i.zero, i.size, i.bytes)) = some (some (.int .u8 0), 1, 1) := by kernel_rfl
theorem Try.size5 : (Try.prog.info? 5).map (·.size) = some 1 := by kernel_rfl

theorem clone_step (f : Nat → Int) (k i : Nat) : upd (fun i => if i < k then f i else 0) k (f k) i = if i < k + 1 then f i else 0 := by
  show (if i = k then f k else (if i < k then f i else 0)) = _
  by_cases e : i = k
  · subst e; rw [if_pos rfl, if_pos (by omega)]
  · rw [if_neg e]
    by_cases h : i < k
    · rw [if_pos h, if_pos (by omega)]
    · rw [if_neg h, if_neg (by omega)]

/-- zzClone, of a slice that is not nil. -/
theorem clone_any (b off n c : Nat) (f : Nat → Int) (w : World) (hn : n ≤ 1048576) (hbw : b < w.heap.size)
    (hc : ∀ i, i < n → w.cell? ⟨b, off + i, none⟩ = some (.int .u8 (f i))) :
    Calls Try.prog 10 #[.slice (some ⟨b, off, none⟩) n c] w fun e w' => e = .returned (.slice (some ⟨w.heap.size, 0, none⟩) n n) ∧ Row 5 w' w.heap.size n f ∧ Below w.heap.size w w' := by
  have hnil := fun W => Lib.run_eql_slice_nil (P := Try.prog) W 22 5 (some ⟨b, off, none⟩) n c 0 0 Try.underlying22
  go_enter Try.func10, Try.ntmps10
  go_wp2_with (at_make; refine wpList_make_row _ rfl _ _ 22 rfl 5 Try.underlying22 Try.info5 _ _ _ _ n rfl rfl rfl rfl (by omega) ?_; intro w1 hr1 hs1 hb1; clear hs1)
  go_loopw [4] (fun t wr => ∃ k : Nat, k ≤ n ∧ t = .int .i64 k ∧ Row 5 wr w.heap.size n (fun i => if i < k then f i else 0) ∧ Below w.heap.size w wr) (fun t _ => n - (intOf t).toNat)
  case atStart => exact ⟨0, Nat.zero_le _, rfl, hr1.congr (fun i _ => by simp), hb1⟩
  case round =>
    obtain ⟨k, hk, rfl, hr, hb⟩ := hrel
    by_cases hlt : k < n
    · have hck : wr.cell? ⟨b, off + k, none⟩ = some (.int .u8 (f k)) := (hb.cell (p := ⟨b, off + k, none⟩) hbw).trans (hc k hlt)
      have hcg := hr.cell k hlt
      have hfg := hr.frozen k
      have HR := hr.set k (f k)
      have HR2 : Row 5 (wr.setCell ⟨w.heap.size, k, none⟩ (.int .u8 (f k))) w.heap.size n (fun i => if i < k + 1 then f i else 0) := HR.congr (fun i _ => clone_step f k i)
      clear HR
      clear hc
      go_wp2
      go_roundw
      case rel => exact ⟨k + 1, by omega, by go_num, HR2, hb.setCell (p := ⟨w.heap.size, k, none⟩) (Nat.le_refl _) _⟩
      case measure => simp [intOf]; omega
    · obtain rfl : k = n := by omega
      go_wp2
      go_ret
      exact ⟨rfl, hr.congr (fun i hi => if_pos hi), hb⟩

end Go.Proofs.Qxb6000782a
