/-
  The walks of ZZAllows and of FnAllowsDomainMatchesOnlyWhole itself.
-/
import Derived.Test.Qxb6000489aAllows
namespace Go.Proofs.Qxb6000489a
open Go.ChangeShapes Go.WideShapes Go.ChangeAt Go.RowKit
set_option linter.unusedVariables false

theorem zz_any (s d : ByteArray) (r1 r2 r3 : Nat) (w : World) (hs : s.size ≤ 1048576) (h1 : NoEntry w r1) (h2 : OneEntry w r2 d) (l1 : r1 < w.heap.size) (l2 : r2 < w.heap.size) :
    Calls Try.prog 20 #[.bool false, .map (some r1), .map (some r2), .map (some r3), .string s, .slice none 0 0] w fun e w' => e = .returned (.bool (allowsB s d)) ∧ Below w.heap.size w w' := by
  go_enter Try.func20, Try.ntmps20
  go_wp2_with fail
  refine (allows_any s d ⟨#[]⟩ r1 r2 r3 _ hs h1 h2 l1 l2).mono ?_
  rintro e w1 ⟨rfl, hb⟩
  go_wp2
  go_ret
  exact ⟨rfl, hb⟩

theorem walk_long (a0 a1 : ByteArray) (w0 : a0.size ≤ maxLen) (w1 : a1.size ≤ maxLen) (w : World) (h : 1048576 < a0.size + a1.size) :
    Calls Try.prog 8 #[.string a0, .string a1] w fun e w' => e = .returned (.bool true) ∧ Below w.heap.size w w' := by
  go_enter Try.func8, Try.ntmps8
  go_wp2_with (go_at_call 23; refine (bytes_no _ _ _ w0 w1 h).mono ?_; rintro r w' ⟨rfl, rfl⟩)
  go_ret
  exact ⟨rfl, Below.refl _ _⟩

theorem walk_short (a0 a1 : ByteArray) (w : World) (h0 : a0.size + a1.size ≤ 1048576) :
    Calls Try.prog 8 #[.string a0, .string a1] w fun e w' => e = .returned (.bool true) ∧ Below w.heap.size w w' := by
  have hmm := @run_makeMap Try.prog
  have h1 : (a0.size : Int) + (a1.size : Int) ≤ 1048576 := by omega
  have ha0 : a0.size ≤ 1048576 := by omega
  have ha1 : a1.size ≤ 1048576 := by omega
  obtain ⟨w2, hins, hn, ho, hsz, hb2⟩ := insert_one w a1
  have hlt : w.heap.size + 1 < w2.heap.size := by omega
  clear hsz
  have HP : Hid (allowsB a0 a1 = modelB a0 a1) := plain_law a0 a1
  go_enter Try.func8, Try.ntmps8
  go_wp2_with (go_at_call 23; refine (bytes_yes _ _ _ h0).mono ?_; rintro r w' ⟨rfl, rfl⟩)
  have hba : Below w2.heap.size w2 (w2.alloc (.map #[] 0)) := (Below.refl _ _).alloc (Nat.le_refl _) _
  have hn3 : NoEntry (w2.alloc (.map #[] 0)) w.heap.size := hn.below hba (by omega)
  have ho3 : OneEntry (w2.alloc (.map #[] 0)) (w.heap.size + 1) a1 := ho.below hba (by omega)
  have hs3 : (w2.alloc (.map #[] 0)).heap.size = w2.heap.size + 1 := by simp
  have hb3 : Below w.heap.size w (w2.alloc (.map #[] 0)) := hb2.trans (hba.mono (by omega))
  refine (zz_any a0 a1 w.heap.size (w.heap.size + 1) w2.heap.size _ ha0 hn3 ho3 (by omega) (by omega)).mono ?_
  rintro e w4 ⟨rfl, hb4⟩
  have hb5 : Below w.heap.size w w4 := hb3.trans (hb4.mono (by omega))
  clear hb4 hb3 hs3 ho3 hn3 hba hn ho hins hmm hb2
  go_wp2_with (go_at_call 24; refine (model_any a0 a1 _ ha0 ha1).mono ?_; rintro e w' ⟨rfl, rfl⟩)
  go_ret
  exact ⟨ret_bool (by rw [HP.out]; simp), hb5⟩

end Go.Proofs.Qxb6000489a
