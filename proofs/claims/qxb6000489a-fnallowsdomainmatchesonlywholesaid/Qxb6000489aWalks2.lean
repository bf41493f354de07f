/-
  The walks of zzFoldEqB1 and zzDomainModelB1.
-/
import Derived.Test.Qxb6000489aWalks
namespace Go.Proofs.Qxb6000489a
open Go.ChangeShapes Go.WideShapes Go.ChangeAt Go.RowKit
set_option linter.unusedVariables false

theorem or32_fin : ∀ n : Fin 256, letB (n.val : Int) = true → bits BinOp.or IntKind.u8 (n.val : Int) 32 = lowc (n.val : Int) := by decide +kernel
theorem or32 (x : Int) (h0 : 0 ≤ x ∧ x ≤ 255) (h : letB x = true) : bits BinOp.or IntKind.u8 x 32 = lowc x := by
  obtain ⟨n, rfl⟩ : ∃ n : Nat, x = n := ⟨x.toNat, by omega⟩
  exact or32_fin ⟨n, by omega⟩ h

theorem fold_any (a b : ByteArray) (w : World) (ha : a.size ≤ 1048576) (hab : a.size = b.size) :
    Calls Try.prog 12 #[.string a, .string b] w fun e w' => e = .returned (.bool (foldEq (ch a) (ch b) a.size)) ∧ w = w' := by
  have hne : ((a.size : Int) != (b.size : Int)) = false := by simp [hab]
  have HAB : Hid (a.size = b.size) := hab
  have hle : a.size ≤ b.size := by omega
  clear hab
  go_enter Try.func12, Try.ntmps12
  go_wp2
  go_loop [5] (fun i => ∃ k : Nat, k ≤ a.size ∧ i = .int .i64 k ∧ foldEq (ch a) (ch b) k = true) (fun i => a.size - (intOf i).toNat)
  case atStart => exact ⟨0, Nat.zero_le _, rfl, rfl⟩
  case round =>
    obtain ⟨k, hk, rfl, hd⟩ := hrel
    have HD : Hid (foldEq (ch a) (ch b) k = true) := hd
    clear hd
    by_cases hlt : k < a.size
    · have hltb : k < b.size := by omega
      have hca := ch_eq a k hlt
      have hcb := ch_eq b k hltb
      by_cases heq : ch a k = ch b k
      · have hb : (ch a k == ch b k) = true := by simpa using heq
        have HE : Hid (foldEq (ch a) (ch b) (k + 1) = true) := by
          show (foldEq (ch a) (ch b) k && feq (ch a k) (ch b k)) = true
          rw [HD.out, heq]; simp [feq]
        clear heq
        go_wp2
        go_round
        case rel => exact ⟨k + 1, by omega, by go_num, HE.out⟩
        case measure => simp [intOf]; omega
      · have hb : (ch a k == ch b k) = false := by simpa using heq
        cases hla : letB (ch a k) with
        | false =>
          go_wp2_with (go_at_call 15; refine (let_any _ _).mono ?_; rintro e w' ⟨rfl, rfl⟩)
          go_ret
          exact ⟨ret_bool (foldEq_no _ _ k _ hlt (by simp [feq, hla, heq])).symm, rfl⟩
        | true =>
          cases hlb : letB (ch b k) with
          | false =>
            go_wp2_with (go_at_call 15; refine (let_any _ _).mono ?_; rintro e w' ⟨rfl, rfl⟩)
            go_ret
            exact ⟨ret_bool (foldEq_no _ _ k _ hlt (by simp [feq, hlb, heq])).symm, rfl⟩
          | true =>
            have hoa := or32 (ch a k) (ch_bd a k) hla
            have hob := or32 (ch b k) (ch_bd b k) hlb
            by_cases hlw : lowc (ch a k) = lowc (ch b k)
            · have hlw2 : (lowc (ch a k) == lowc (ch b k)) = true := by simpa using hlw
              have HE : Hid (foldEq (ch a) (ch b) (k + 1) = true) := by
                show (foldEq (ch a) (ch b) k && feq (ch a k) (ch b k)) = true
                rw [HD.out]; simp [feq, hla, hlb, hlw]
              clear hlw
              go_wp2_with (go_at_call 15; refine (let_any _ _).mono ?_; rintro e w' ⟨rfl, rfl⟩)
              go_round
              case rel => exact ⟨k + 1, by omega, by go_num, HE.out⟩
              case measure => simp [intOf]; omega
            · have hlw2 : (lowc (ch a k) == lowc (ch b k)) = false := by simpa using hlw
              go_wp2_with (go_at_call 15; refine (let_any _ _).mono ?_; rintro e w' ⟨rfl, rfl⟩)
              go_ret
              exact ⟨ret_bool (foldEq_no _ _ k _ hlt (by simp [feq, hlw, heq])).symm, rfl⟩
    · obtain rfl : k = a.size := by omega
      go_wp2
      go_ret
      exact ⟨ret_bool HD.out.symm, rfl⟩

theorem foldEq_congr (f f' g g' : Nat → Int) : ∀ n, (∀ i, i < n → f i = f' i ∧ g i = g' i) → foldEq f g n = foldEq f' g' n
  | 0, _ => rfl
  | k+1, h => by
    show (foldEq f g k && feq (f k) (g k)) = (foldEq f' g' k && feq (f' k) (g' k))
    rw [foldEq_congr f f' g g' k (fun i hi => h i (by omega)), (h k (by omega)).1, (h k (by omega)).2]

theorem okDom_step (f : Nat → Int) (k : Nat) (h : okDom f k = true) (h1 : f k ≠ 64) (h2 : ¬ (65 ≤ f k ∧ f k ≤ 90)) : okDom f (k + 1) = true := by
  show (okDom f k && !decide (f k = 64 ∨ (65 ≤ f k ∧ f k ≤ 90))) = true
  rw [h, decide_eq_false (by omega)]; rfl

/-- zzDomainModelB1. -/
theorem model_any (e d : ByteArray) (w : World) (he : e.size ≤ 1048576) (hd : d.size ≤ 1048576) :
    Calls Try.prog 24 #[.string e, .string d] w fun r w' => r = .returned (.bool (modelB e d)) ∧ w = w' := by
  go_enter Try.func24, Try.ntmps24
  go_wp2
  go_loop [5] (fun i => ∃ k : Nat, k ≤ d.size ∧ i = .int .i64 k ∧ okDom (ch d) k = true) (fun i => d.size - (intOf i).toNat)
  case atStart => exact ⟨0, Nat.zero_le _, rfl, rfl⟩
  case round =>
    obtain ⟨k, hk, rfl, hdm⟩ := hrel
    have HD : Hid (okDom (ch d) k = true) := hdm
    clear hdm
    by_cases hlt : k < d.size
    · have hcd := ch_eq d k hlt
      by_cases h64 : ch d k = 64
      · have hb : (ch d k == 64) = true := by simpa using h64
        clear h64
        go_wp2
        go_ret
        exact ⟨ret_bool (by unfold modelB; rw [okDom_no _ k _ hlt (.inl (by simpa using hb))]; rfl), rfl⟩
      · have hb : (ch d k == 64) = false := by simpa using h64
        by_cases hup : 65 ≤ ch d k ∧ ch d k ≤ 90
        · go_wp2_with (go_at_call 14; refine (up_yes _ _ hup.1 hup.2).mono ?_; rintro r w' ⟨rfl, rfl⟩)
          go_ret
          exact ⟨ret_bool (by unfold modelB; rw [okDom_no _ k _ hlt (.inr hup)]; rfl), rfl⟩
        · go_wp2_with (go_at_call 14; refine (up_no _ _ hup).mono ?_; rintro r w' ⟨rfl, rfl⟩)
          go_round
          case rel => exact ⟨k + 1, by omega, by go_num, okDom_step _ k HD.out h64 hup⟩
          case measure => simp [intOf]; omega
    · obtain rfl : k = d.size := by omega
      by_cases hsz : e.size < d.size + 1
      · have hz : (e.size : Int) < (d.size : Int) + 1 := by omega
        go_wp2
        go_ret
        exact ⟨ret_bool (by unfold modelB; rw [decide_eq_false (p := d.size + 1 ≤ e.size) (by omega)]; simp), rfl⟩
      · have hz : (d.size : Int) + 1 ≤ (e.size : Int) := by omega
        have hlt2 : e.size - d.size - 1 < e.size := by omega
        have hce := ch_eq e (e.size - d.size - 1) hlt2
        by_cases h64 : ch e (e.size - d.size - 1) = 64
        · have hb : (ch e (e.size - d.size - 1) != 64) = false := by simpa using h64
          go_wp2_with fail
          have hxs : (e.extract (e.size - d.size) e.size).size = d.size := by rw [ByteArray.size_extract]; omega
          refine (fold_any (e.extract (e.size - d.size) e.size) d _ (by omega) hxs).mono ?_
          rintro r w' ⟨rfl, rfl⟩
          have hfin : foldEq (ch (e.extract (e.size - d.size) e.size)) (ch d) (e.extract (e.size - d.size) e.size).size = modelB e d := by
            unfold modelB
            rw [HD.out, decide_eq_true (p := d.size + 1 ≤ e.size) (by omega), decide_eq_true h64, hxs]
            simp only [Bool.true_and]
            exact foldEq_congr _ _ _ _ d.size (fun i hi => ⟨ch_extract e (e.size - d.size) i (by omega), rfl⟩)
          have HF : Hid (foldEq (ch (e.extract (e.size - d.size) e.size)) (ch d) (e.extract (e.size - d.size) e.size).size = modelB e d) := hfin
          clear hfin hxs
          generalize foldEq (ch (e.extract (e.size - d.size) e.size)) (ch d) (e.extract (e.size - d.size) e.size).size = fe at HF ⊢
          go_wp2
          go_ret
          exact ⟨ret_bool HF.out, rfl⟩
        · have hb : (ch e (e.size - d.size - 1) != 64) = true := by simpa using h64
          go_wp2
          go_ret
          exact ⟨ret_bool (by unfold modelB; rw [decide_eq_false h64]; simp), rfl⟩

end Go.Proofs.Qxb6000489a
