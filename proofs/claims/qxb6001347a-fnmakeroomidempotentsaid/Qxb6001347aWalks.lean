/-
  The walks of the functions that FnMakeRoomIdempotent calls: the bound, cloneBytes, sameBytes, the window's length.
-/
import Derived.Test.Qxb6001347aRows
import Derived.Test.Qxb6001347aKit
import Derived.Deep.QuietTactic
import Derived.BigQuiet
import Derived.RegionTactic
import Derived.BigRegion
import Derived.ChangeAlike
namespace Go.Proofs.Qxb6001347a
open Go.ChangeShapes Go.WideShapes Go.ChangeAt Go.RowKit
set_option linter.unusedVariables false

theorem drewN_drewN (w : World) (a b : Nat) : (w.drewN a).drewN b = w.drewN (a + b) := by simp [World.drewN, Nat.add_assoc]

theorem bytes_yes (a : Option Addr) (n c : Nat) (p r s o : Int) (w : World) (hn : n ≤ 1048576) :
    Calls Try.prog 14 #[.slice a n c, .int .i64 p, .int .i64 r, .int .i64 s, .int .i64 o] w fun e w' => e = .returned (.bool true) ∧ w = w' := by
  go_enter Try.func14, Try.ntmps14
  go_wp2
  go_ret
  exact ⟨rfl, rfl⟩
theorem bytes_no (a : Option Addr) (n c : Nat) (p r s o : Int) (w : World) (hn : 1048576 < n) :
    Calls Try.prog 14 #[.slice a n c, .int .i64 p, .int .i64 r, .int .i64 s, .int .i64 o] w fun e w' => e = .returned (.bool false) ∧ w = w' := by
  go_enter Try.func14, Try.ntmps14
  go_wp2
  go_ret
  exact ⟨rfl, rfl⟩

theorem Try.info5 : (Try.prog.info? 5).map (fun i => (i.zero, i.size, i.bytes)) = some (some (.int .u8 0), 1, 1) := by kernel_rfl
theorem Try.size5 : (Try.prog.info? 5).map (·.size) = some 1 := by kernel_rfl

theorem clone_step (f : Nat → Int) (k i : Nat) : upd (fun i => if i < k then f i else 0) k (f k) i = if i < k + 1 then f i else 0 := by
  show (if i = k then f k else (if i < k then f i else 0)) = _
  by_cases e : i = k
  · subst e; rw [if_pos rfl, if_pos (by omega)]
  · rw [if_neg e]
    by_cases h : i < k
    · rw [if_pos h, if_pos (by omega)]
    · rw [if_neg h, if_neg (by omega)]

theorem clone_nil (w : World) : Calls Try.prog 12 #[.slice none 0 0] w fun e w' => e = .returned (.slice none 0 0) ∧ w = w' := by
  have hnil := fun W => Lib.run_eql_slice_nil (P := Try.prog) W 22 5 none 0 0 0 0 Try.underlying22
  go_enter Try.func12, Try.ntmps12
  go_wp2
  go_ret
  exact ⟨rfl, rfl⟩

/-- cloneBytes, of a slice that is not nil. -/
theorem clone_any (a : Addr) (b off n c : Nat) (f : Nat → Int) (w : World) (hn : n ≤ 1048576) (hbw : 0 < n → b < w.heap.size) (ha : 0 < n → a = ⟨b, off, none⟩)
    (hc : ∀ i, i < n → w.cell? ⟨b, off + i, none⟩ = some (.int .u8 (f i))) :
    Calls Try.prog 12 #[.slice (some a) n c] w fun e w' => e = .returned (.slice (some ⟨w.heap.size, 0, none⟩) n n) ∧ Row 5 w' w.heap.size n f ∧ Below w.heap.size w w' := by
  have hnil := fun W => Lib.run_eql_slice_nil (P := Try.prog) W 22 5 (some a) n c 0 0 Try.underlying22
  go_enter Try.func12, Try.ntmps12
  go_wp2_with (at_make; refine wpList_make_row _ rfl _ _ 22 rfl 5 Try.underlying22 Try.info5 _ _ _ _ n rfl rfl rfl rfl (by omega) ?_; intro w1 hr1 hs1 hb1; clear hs1)
  go_loopw [4] (fun t wr => ∃ k : Nat, k ≤ n ∧ t = .int .i64 k ∧ Row 5 wr w.heap.size n (fun i => if i < k then f i else 0) ∧ Below w.heap.size w wr) (fun t _ => n - (intOf t).toNat)
  case atStart => exact ⟨0, Nat.zero_le _, rfl, hr1.congr (fun i _ => by simp), hb1⟩
  case round =>
    obtain ⟨k, hk, rfl, hr, hb⟩ := hrel
    by_cases hlt : k < n
    · obtain rfl := ha (by omega)
      have hck : wr.cell? ⟨b, off + k, none⟩ = some (.int .u8 (f k)) := (hb.cell (p := ⟨b, off + k, none⟩) (hbw (by omega))).trans (hc k hlt)
      have hcg := hr.cell k hlt
      have hfg := hr.frozen k
      have HR := hr.set k (f k)
      have HR2 : Row 5 (wr.setCell ⟨w.heap.size, k, none⟩ (.int .u8 (f k))) w.heap.size n (fun i => if i < k + 1 then f i else 0) := HR.congr (fun i _ => clone_step f k i)
      clear HR
      clear hc
      go_wp2
      go_roundw
      case rel => exact ⟨k + 1, by omega, by go_num, HR2, hb.setCell (p := ⟨w.heap.size, k, none⟩) (Nat.le_refl _) _⟩
      case measure => simp [intOf]; omega
    · obtain rfl : k = n := by omega
      go_wp2
      go_ret
      exact ⟨rfl, hr.congr (fun i hi => if_pos hi), hb⟩

/-- sameBytes of two rows of the same bytes. -/
theorem same_any (ga gb n ca cb : Nat) (h : Nat → Int) (w : World) (hn : n ≤ 1048576)
    (hca : ∀ i, i < n → w.cell? ⟨ga, i, none⟩ = some (.int .u8 (h i))) (hcb : ∀ i, i < n → w.cell? ⟨gb, i, none⟩ = some (.int .u8 (h i))) :
    Calls Try.prog 15 #[.slice (some ⟨ga, 0, none⟩) n ca, .slice (some ⟨gb, 0, none⟩) n cb] w fun e w' => e = .returned (.bool true) ∧ ∃ q, w' = w.drewN q := by
  go_enter Try.func15, Try.ntmps15
  go_wp2
  go_loopw [5] (fun t wr => ∃ k : Nat, k ≤ n ∧ t = .int .i64 k ∧ ∃ q, wr = w.drewN q) (fun t _ => n - (intOf t).toNat)
  case atStart => exact ⟨0, Nat.zero_le _, rfl, 0, rfl⟩
  case round =>
    obtain ⟨k, hk, rfl, q, rfl⟩ := hrel
    by_cases hlt : k < n
    · have hck : (w.drewN q).cell? ⟨ga, k, none⟩ = some (.int .u8 (h k)) := hca k hlt
      have hck' : (w.drewN q).cell? ⟨gb, k, none⟩ = some (.int .u8 (h k)) := hcb k hlt
      have hki : (k : Int) < (n : Int) := by omega
      clear hca hcb
      obtain ⟨w2, hw2⟩ : ∃ w2, w2 = w.drewN q := ⟨_, rfl⟩
      rw [← hw2] at hck hck' ⊢
      have HW : Hid (w2 = w.drewN q) := hw2
      clear hw2
      have hne : (h k != h k) = false := by simp
      go_wp2
      go_quiet (fail)
      go_wp2
      go_roundw
      case rel => exact ⟨k + 1, by omega, by go_num, _, by rw [HW.out, drewN_drewN]⟩
      case measure => simp [intOf]; omega
    · go_wp2
      go_ret
      exact ⟨rfl, q, rfl⟩

/-- The window's full length, for a dictionary of at most 2^16 bytes. -/
theorem length_any (W : Nat) (s : Int) (w : World) (h0 : 0 ≤ s) (h1 : s ≤ 65536) (hc : w.cell? ⟨W, 3, none⟩ = some (.int .i64 s)) :
    Calls Try.prog 30 #[.pointer (some ⟨W, 0, none⟩)] w fun e w' => e = .returned (.int .i64 (s + 262144)) ∧ w' = w.drew := by
  go_enter Try.func30, Try.ntmps30
  go_wp2
  go_region
  go_wp2
  go_ret
  exact ⟨rfl, rfl⟩

end Go.Proofs.Qxb6001347a
