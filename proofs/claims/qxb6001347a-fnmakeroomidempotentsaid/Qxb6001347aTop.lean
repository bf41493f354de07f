/-
  The walk of FnMakeRoomIdempotent itself, case by case.
-/
import Derived.Test.Qxb6001347aZz
namespace Go.Proofs.Qxb6001347a
open Go.ChangeShapes Go.WideShapes Go.ChangeAt Go.RowKit
set_option linter.unusedVariables false

theorem walk_long (a : Option Addr) (n c : Nat) (p r s o : Int) (w : World) (hn : 1048576 < n) :
    Calls Try.prog 4 #[.slice a n c, .int .i64 p, .int .i64 r, .int .i64 s, .int .i64 o] w fun e w' => e = .returned (.bool true) ∧ Below w.heap.size w w' := by
  go_enter Try.func4, Try.ntmps4
  go_wp2_with (go_at_call 14; refine (bytes_no _ _ _ _ _ _ _ _ hn).mono ?_; rintro e w' ⟨rfl, rfl⟩)
  go_ret
  exact ⟨rfl, Below.refl _ _⟩

theorem walk_size (a : Option Addr) (n c : Nat) (p r s o : Int) (w : World) (hn : n ≤ 1048576) (h : s < 0 ∨ 65536 < s) :
    Calls Try.prog 4 #[.slice a n c, .int .i64 p, .int .i64 r, .int .i64 s, .int .i64 o] w fun e w' => e = .returned (.bool true) ∧ Below w.heap.size w w' := by
  by_cases h1 : s < 0
  all_goals
    go_enter Try.func4, Try.ntmps4
    go_wp2_with (go_at_call 14; refine (bytes_yes _ _ _ _ _ _ _ _ hn).mono ?_; rintro e w' ⟨rfl, rfl⟩)
    go_ret
    exact ⟨rfl, Below.refl _ _⟩

theorem walk_pos (a : Option Addr) (n c : Nat) (p r s o : Int) (w : World) (hn : n ≤ 1048576) (h0 : 0 ≤ s) (h1 : s ≤ 65536) (h : r < 0 ∨ p < r ∨ (n : Int) < p) :
    Calls Try.prog 4 #[.slice a n c, .int .i64 p, .int .i64 r, .int .i64 s, .int .i64 o] w fun e w' => e = .returned (.bool true) ∧ Below w.heap.size w w' := by
  by_cases g1 : r < 0
  · go_enter Try.func4, Try.ntmps4
    go_wp2_with (go_at_call 14; refine (bytes_yes _ _ _ _ _ _ _ _ hn).mono ?_; rintro e w' ⟨rfl, rfl⟩)
    go_ret
    exact ⟨rfl, Below.refl _ _⟩
  · by_cases g2 : p < r
    all_goals
      go_enter Try.func4, Try.ntmps4
      go_wp2_with (go_at_call 14; refine (bytes_yes _ _ _ _ _ _ _ _ hn).mono ?_; rintro e w' ⟨rfl, rfl⟩)
      go_ret
      exact ⟨rfl, Below.refl _ _⟩

/-- There is room from the first. -/
theorem walk_room (b off n c : Nat) (f : Nat → Int) (p r s o : Int) (w : World) (hn : n ≤ 1048576) (h0 : 0 ≤ s) (h1 : s ≤ 65536) (g0 : 0 ≤ r) (g1 : r ≤ p) (g2 : p < n) (hbw : b < w.heap.size)
    (hc : ∀ i, i < n → w.cell? ⟨b, off + i, none⟩ = some (.int .u8 (f i))) :
    Calls Try.prog 4 #[.slice (some ⟨b, off, none⟩) n c, .int .i64 p, .int .i64 r, .int .i64 s, .int .i64 o] w fun e w' => e = .returned (.bool true) ∧ Below w.heap.size w w' := by
  have HC : Hid (∀ i, i < n → w.cell? ⟨b, off + i, none⟩ = some (.int .u8 (f i))) := hc
  have hp0 : 0 ≤ p := by omega
  have q1 : (p != p) = false := by simp
  have q2 : (r != r) = false := by simp
  have q3 : (s != s) = false := by simp
  have q4 : (o != o) = false := by simp
  clear hc
  go_enter Try.func4, Try.ntmps4
  go_wp2_with (go_at_call 14; refine (bytes_yes _ _ _ _ _ _ _ _ hn).mono ?_; rintro e w' ⟨rfl, rfl⟩)
  refine (clone_any ⟨b, off, none⟩ b off n c f _ hn (fun _ => hbw) (fun _ => rfl) HC.out).mono ?_
  rintro e w1 ⟨rfl, hr1, hb1⟩
  have hs1 := hr1.lt
  go_wp2_with fail
  refine (clone_any ⟨w.heap.size, 0, none⟩ w.heap.size 0 n n f _ hn (fun _ => hs1) (fun _ => rfl) hr1.cell0).mono ?_
  rintro e w2 ⟨rfl, hr2, hb2⟩
  have hs2 := hr2.lt
  have hr12 := hr1.below hb2 hs1
  have hbw2 : Below w.heap.size w w2 := hb1.trans (hb2.mono (by omega))
  go_wp2_with fail
  refine (zz_noop _ n n p r s o _ hp0 g2).mono ?_
  rintro e w3 ⟨rfl, hb3⟩
  have hr13 := hr12.below hb3 (by omega)
  have hr23 := hr2.below hb3 hs2
  have hs3 := hb3.size
  have hbw3 : Below w.heap.size w w3 := hbw2.trans (hb3.mono (by omega))
  go_wp2_with fail
  refine (same_any w.heap.size w1.heap.size n n n f _ hn hr13.cell hr23.cell).mono ?_
  rintro e w4 ⟨rfl, q, hw4⟩
  have hr14 : Row 5 w4 w.heap.size n f := by rw [hw4]; exact hr13
  have hs4 : w3.heap.size = w4.heap.size := by rw [hw4]; rfl
  have hbw4 : Below w.heap.size w w4 := by rw [hw4]; exact below_drewN hbw3 q
  clear hw4
  go_wp2_with fail
  refine (clone_any ⟨w.heap.size, 0, none⟩ w.heap.size 0 n n f _ hn (fun _ => hr14.lt) (fun _ => rfl) hr14.cell0).mono ?_
  rintro e w5 ⟨rfl, hr5, hb5⟩
  have hs5 := hr5.lt
  have hr15 := hr14.below hb5 hr14.lt
  have hbw5 : Below w.heap.size w w5 := hbw4.trans (hb5.mono (by omega))
  go_wp2_with fail
  refine (zz_noop _ n n p r s o _ hp0 g2).mono ?_
  rintro e w6 ⟨rfl, hb6⟩
  have hr16 := hr15.below hb6 hr15.lt
  have hr56 := hr5.below hb6 hs5
  have hbw6 : Below w.heap.size w w6 := hbw5.trans (hb6.mono (by omega))
  go_wp2_with fail
  refine (same_any w.heap.size w4.heap.size n n n f _ hn hr16.cell hr56.cell).mono ?_
  rintro e w7 ⟨rfl, q, hw7⟩
  have hbw7 : Below w.heap.size w w7 := by rw [hw7]; exact below_drewN hbw6 q
  clear hw7
  go_wp2_with fail
  go_ret
  exact ⟨rfl, hbw7⟩

/-- No room, a short buffer, nil. -/
theorem walk_nil (r s o : Int) (w : World) (h0 : 0 ≤ s) (h1 : s ≤ 65536) (g0 : 0 ≤ r) (g1 : r ≤ 0) :
    Calls Try.prog 4 #[.slice none 0 0, .int .i64 0, .int .i64 r, .int .i64 s, .int .i64 o] w fun e w' => e = .returned (.bool true) ∧ Below w.heap.size w w' := by
  have q1 : ((0 : Int) != 0) = false := by simp
  have q2 : (r != r) = false := by simp
  have q3 : (s != s) = false := by simp
  have q4 : (o != o) = false := by simp
  go_enter Try.func4, Try.ntmps4
  go_wp2_with (go_at_call 14; refine (bytes_yes _ _ _ _ _ _ _ _ (Nat.zero_le _)).mono ?_; rintro e w' ⟨rfl, rfl⟩)
  refine (clone_nil _).mono ?_
  rintro e w1 ⟨rfl, rfl⟩
  go_wp2_with fail
  refine (clone_nil _).mono ?_
  rintro e w2 ⟨rfl, rfl⟩
  go_wp2_with fail
  refine (zz_grow none (w.heap.size + 1) 0 (fun _ => 0) r s o w (by omega) h0 h1 (by omega) (fun _ => rfl) (by omega) (by omega) (by intro i hi; omega)).mono ?_
  rintro e w3 ⟨G, N, h, hN, hG, rfl, hr3, hb3⟩
  have hN1 : N ≤ 1048576 := by omega
  have hN0 : ((0 : Nat) : Int) < N := by omega
  have hG3 := hr3.lt
  clear hN
  go_wp2_with fail
  refine (clone_any ⟨G, 0, none⟩ G 0 N N h _ hN1 (fun _ => hG3) (fun _ => rfl) hr3.cell0).mono ?_
  rintro e w5 ⟨rfl, hr5, hb5⟩
  have hs5 := hr5.lt
  have hr15 := hr3.below hb5 hG3
  have hbw5 : Below w.heap.size w w5 := hb3.trans (hb5.mono (by omega))
  go_wp2_with fail
  refine (zz_noop _ N N _ r s o _ (Int.le_refl _) hN0).mono ?_
  rintro e w6 ⟨rfl, hb6⟩
  have hr16 := hr15.below hb6 hr15.lt
  have hr56 := hr5.below hb6 hs5
  have hbw6 : Below w.heap.size w w6 := hbw5.trans (hb6.mono (by omega))
  go_wp2_with fail
  refine (same_any G w3.heap.size N N N h _ hN1 hr16.cell hr56.cell).mono ?_
  rintro e w7 ⟨rfl, q, hw7⟩
  have hbw7 : Below w.heap.size w w7 := by rw [hw7]; exact below_drewN hbw6 q
  clear hw7
  go_wp2_with fail
  go_ret
  exact ⟨rfl, hbw7⟩

/-- No room, a short buffer. -/
theorem walk_grow (a : Addr) (b off n c : Nat) (f : Nat → Int) (r s o : Int) (w : World) (hn : n ≤ 1048576) (h0 : 0 ≤ s) (h1 : s ≤ 65536) (g0 : 0 ≤ r) (g1 : r ≤ (n : Int)) (hns : (n : Int) < s + 262144)
    (hbw : 0 < n → b < w.heap.size) (ha : 0 < n → a = ⟨b, off, none⟩)
    (hc : ∀ i, i < n → w.cell? ⟨b, off + i, none⟩ = some (.int .u8 (f i))) :
    Calls Try.prog 4 #[.slice (some a) n c, .int .i64 n, .int .i64 r, .int .i64 s, .int .i64 o] w fun e w' => e = .returned (.bool true) ∧ Below w.heap.size w w' := by
  have HC : Hid (∀ i, i < n → w.cell? ⟨b, off + i, none⟩ = some (.int .u8 (f i))) := hc
  have HA : Hid (0 < n → a = ⟨b, off, none⟩) := ha
  have HB : Hid (0 < n → b < w.heap.size) := hbw
  have HS : Hid ((n : Int) < s + 262144) := hns
  have q1 : ((n : Int) != n) = false := by simp
  have q2 : (r != r) = false := by simp
  have q3 : (s != s) = false := by simp
  have q4 : (o != o) = false := by simp
  clear hc ha hbw hns
  go_enter Try.func4, Try.ntmps4
  go_wp2_with (go_at_call 14; refine (bytes_yes _ _ _ _ _ _ _ _ hn).mono ?_; rintro e w' ⟨rfl, rfl⟩)
  refine (clone_any a b off n c f _ hn HB.out HA.out HC.out).mono ?_
  rintro e w1 ⟨rfl, hr1, hb1⟩
  have hs1 := hr1.lt
  go_wp2_with fail
  refine (clone_any ⟨w.heap.size, 0, none⟩ w.heap.size 0 n n f _ hn (fun _ => hs1) (fun _ => rfl) hr1.cell0).mono ?_
  rintro e w2 ⟨rfl, hr2, hb2⟩
  have hs2 := hr2.lt
  have hr12 := hr1.below hb2 hs1
  have hbw2 : Below w.heap.size w w2 := hb1.trans (hb2.mono (by omega))
  go_wp2_with fail
  refine (zz_grow (some ⟨w.heap.size, 0, none⟩) w.heap.size n f r s o w2 HS.out h0 h1 (fun _ => rfl) (fun e => by cases e) (by omega) (fun _ => by omega) hr12.cell0).mono ?_
  rintro e w3 ⟨G, N, h, hN, hG, rfl, hr3, hb3⟩
  have hN1 : N ≤ 1048576 := by omega
  have hN0 : (n : Int) < N := by have := HS.out; omega
  have hnn : (0 : Int) ≤ n := by omega
  have hG3 := hr3.lt
  have hbw3 : Below w.heap.size w w3 := hbw2.trans (hb3.mono (by omega))
  clear hN
  go_wp2_with fail
  refine (clone_any ⟨G, 0, none⟩ G 0 N N h _ hN1 (fun _ => hG3) (fun _ => rfl) hr3.cell0).mono ?_
  rintro e w5 ⟨rfl, hr5, hb5⟩
  have hs5 := hr5.lt
  have hr15 := hr3.below hb5 hG3
  have hbw5 : Below w.heap.size w w5 := hbw3.trans (hb5.mono (by omega))
  go_wp2_with fail
  refine (zz_noop _ N N _ r s o _ hnn hN0).mono ?_
  rintro e w6 ⟨rfl, hb6⟩
  have hr16 := hr15.below hb6 hr15.lt
  have hr56 := hr5.below hb6 hs5
  have hbw6 : Below w.heap.size w w6 := hbw5.trans (hb6.mono (by omega))
  go_wp2_with fail
  refine (same_any G w3.heap.size N N N h _ hN1 hr16.cell hr56.cell).mono ?_
  rintro e w7 ⟨rfl, q, hw7⟩
  have hbw7 : Below w.heap.size w w7 := by rw [hw7]; exact below_drewN hbw6 q
  clear hw7
  go_wp2_with fail
  go_ret
  exact ⟨rfl, hbw7⟩

/-- No room, a long buffer: the last bytes go to its head. -/
theorem walk_move (b off n c : Nat) (f : Nat → Int) (r s o : Int) (w : World) (hn : n ≤ 1048576) (h0 : 0 ≤ s) (h1 : s ≤ 65536) (g0 : 0 ≤ r) (g1 : r ≤ (n : Int)) (hns : s + 262144 ≤ (n : Int)) (hbw : b < w.heap.size)
    (hc : ∀ i, i < n → w.cell? ⟨b, off + i, none⟩ = some (.int .u8 (f i))) :
    Calls Try.prog 4 #[.slice (some ⟨b, off, none⟩) n c, .int .i64 n, .int .i64 r, .int .i64 s, .int .i64 o] w fun e w' => e = .returned (.bool true) ∧ Below w.heap.size w w' := by
  have HC : Hid (∀ i, i < n → w.cell? ⟨b, off + i, none⟩ = some (.int .u8 (f i))) := hc
  have HS : Hid (s + 262144 ≤ (n : Int)) := hns
  have hsn : s < (n : Int) := by omega
  have q3 : (s != s) = false := by simp
  clear hc hns
  go_enter Try.func4, Try.ntmps4
  go_wp2_with (go_at_call 14; refine (bytes_yes _ _ _ _ _ _ _ _ hn).mono ?_; rintro e w' ⟨rfl, rfl⟩)
  refine (clone_any ⟨b, off, none⟩ b off n c f _ hn (fun _ => hbw) (fun _ => rfl) HC.out).mono ?_
  rintro e w1 ⟨rfl, hr1, hb1⟩
  have hs1 := hr1.lt
  go_wp2_with fail
  refine (clone_any ⟨w.heap.size, 0, none⟩ w.heap.size 0 n n f _ hn (fun _ => hs1) (fun _ => rfl) hr1.cell0).mono ?_
  rintro e w2 ⟨rfl, hr2, hb2⟩
  have hs2 := hr2.lt
  have hr12 := hr1.below hb2 hs1
  have hbw2 : Below w.heap.size w w2 := hb1.trans (hb2.mono (by omega))
  go_wp2_with fail
  refine (zz_move w.heap.size n f r s o w2 hn h0 h1 HS.out hr12).mono ?_
  rintro e w3 ⟨h, o', rfl, hr3, hs3, ho3, hb3⟩
  have hG3 := hr3.lt
  have q4 : (o' != o') = false := by simp
  have hbw3 : Below w.heap.size w w3 := hbw2.trans ⟨hb3.os, hb3.tape, hb3.output, hb3.size, fun k hk => ho3 k (by omega) (by omega)⟩
  clear ho3
  go_wp2_with fail
  refine (clone_any ⟨w.heap.size, 0, none⟩ w.heap.size 0 n n h _ hn (fun _ => hG3) (fun _ => rfl) hr3.cell0).mono ?_
  rintro e w5 ⟨rfl, hr5, hb5⟩
  have hs5 := hr5.lt
  have hr15 := hr3.below hb5 hG3
  have hbw5 : Below w.heap.size w w5 := hbw3.trans (hb5.mono (by omega))
  go_wp2_with fail
  refine (zz_noop _ n n s s s o' _ h0 hsn).mono ?_
  rintro e w6 ⟨rfl, hb6⟩
  have hr16 := hr15.below hb6 hr15.lt
  have hr56 := hr5.below hb6 hs5
  have hbw6 : Below w.heap.size w w6 := hbw5.trans (hb6.mono (by omega))
  go_wp2_with fail
  refine (same_any w.heap.size w3.heap.size n n n h _ hn hr16.cell hr56.cell).mono ?_
  rintro e w7 ⟨rfl, q, hw7⟩
  have hbw7 : Below w.heap.size w w7 := by rw [hw7]; exact below_drewN hbw6 q
  clear hw7
  go_wp2_with fail
  go_ret
  exact ⟨rfl, hbw7⟩

end Go.Proofs.Qxb6001347a
