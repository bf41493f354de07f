/-
  The walks of the functions that FnAllowsDomainMatchesOnlyWhole calls, but for allows and its map look-ups.
-/
import Derived.Test.Qxb6000489aRows
import Derived.Test.Qxb6000489aPlain
import Derived.WalkKit
import Derived.ProofKit
import Derived.Below
import Derived.Laws.IdiomStrings
import Derived.WalkLawsBesides
import Derived.WalkSpells
namespace Go.Proofs.Qxb6000489a
open Go.ChangeShapes Go.WideShapes Go.ChangeAt Go.RowKit
set_option linter.unusedVariables false

theorem ret_int {k : IntKind} {a b : Int} (h : a = b) : Ending.returned (.int k a) = .returned (.int k b) := by rw [h]
theorem ret_bool {a b : Bool} (h : a = b) : Ending.returned (.bool a) = .returned (.bool b) := by rw [h]

theorem up_yes (x : Int) (w : World) (h : 65 ≤ x) (h2 : x ≤ 90) : Calls Try.prog 14 #[.int .u8 x] w fun e w' => e = .returned (.bool true) ∧ w = w' := by
  go_enter Try.func14, Try.ntmps14
  go_wp2
  go_ret
  exact ⟨rfl, rfl⟩
theorem up_no (x : Int) (w : World) (h : ¬ (65 ≤ x ∧ x ≤ 90)) : Calls Try.prog 14 #[.int .u8 x] w fun e w' => e = .returned (.bool false) ∧ w = w' := by
  by_cases h1 : 65 ≤ x
  · have h2 : decide (x ≤ 90) = false := decide_eq_false (by omega)
    clear h
    go_enter Try.func14, Try.ntmps14
    go_wp2
    go_ret
    exact ⟨rfl, rfl⟩
  · go_enter Try.func14, Try.ntmps14
    go_wp2
    go_ret
    exact ⟨rfl, rfl⟩

theorem let_a (x : Int) (w : World) (h : 97 ≤ x) (h2 : x ≤ 122) : Calls Try.prog 15 #[.int .u8 x] w fun e w' => e = .returned (.bool true) ∧ w = w' := by
  go_enter Try.func15, Try.ntmps15
  go_wp2
  go_ret
  exact ⟨rfl, rfl⟩
theorem let_b (x : Int) (w : World) (h : 65 ≤ x) (h2 : x ≤ 90) : Calls Try.prog 15 #[.int .u8 x] w fun e w' => e = .returned (.bool true) ∧ w = w' := by
  have h3 : x < 97 := by omega
  go_enter Try.func15, Try.ntmps15
  go_wp2
  go_ret
  exact ⟨rfl, rfl⟩
theorem let_c (x : Int) (w : World) (h : letB x = false) : Calls Try.prog 15 #[.int .u8 x] w fun e w' => e = .returned (.bool false) ∧ w = w' := by
  unfold letB at h
  rw [decide_eq_false_iff_not] at h
  rcases (show 122 < x ∨ x < 65 ∨ (90 < x ∧ x < 97) from by omega) with h1 | h1 | ⟨h1, h2⟩
  · have ha : 97 ≤ x := by omega
    have hb : 65 ≤ x := by omega
    have hc : decide (x ≤ 90) = false := decide_eq_false (by omega)
    have hd : decide (x ≤ 122) = false := decide_eq_false (by omega)
    clear h
    go_enter Try.func15, Try.ntmps15
    go_wp2
    go_ret
    exact ⟨rfl, rfl⟩
  · have ha : x < 97 := by omega
    clear h
    go_enter Try.func15, Try.ntmps15
    go_wp2
    go_ret
    exact ⟨rfl, rfl⟩
  · have hb : 65 ≤ x := by omega
    have hc : decide (x ≤ 90) = false := decide_eq_false (by omega)
    clear h
    go_enter Try.func15, Try.ntmps15
    go_wp2
    go_ret
    exact ⟨rfl, rfl⟩
theorem let_any (x : Int) (w : World) : Calls Try.prog 15 #[.int .u8 x] w fun e w' => e = .returned (.bool (letB x)) ∧ w = w' := by
  cases h : letB x with
  | false => exact let_c x w h
  | true =>
    unfold letB at h
    rw [decide_eq_true_eq] at h
    rcases h with h | h
    · exact let_a x w h.1 h.2
    · exact let_b x w h.1 h.2

theorem bytes_yes (a b : ByteArray) (w : World) (h : a.size + b.size ≤ 1048576) :
    Calls Try.prog 23 #[.string a, .string b] w fun e w' => e = .returned (.bool true) ∧ w = w' := by
  have h1 : (a.size : Int) + (b.size : Int) ≤ 1048576 := by omega
  go_enter Try.func23, Try.ntmps23
  go_wp2
  go_ret
  exact ⟨rfl, rfl⟩
theorem bytes_no (a b : ByteArray) (w : World) (ha : a.size ≤ maxLen) (hb : b.size ≤ maxLen) (h : 1048576 < a.size + b.size) :
    Calls Try.prog 23 #[.string a, .string b] w fun e w' => e = .returned (.bool false) ∧ w = w' := by
  unfold maxLen at ha hb
  by_cases h1 : 1048576 < a.size
  · go_enter Try.func23, Try.ntmps23
    go_wp2
    go_ret
    exact ⟨rfl, rfl⟩
  · by_cases h2 : 1048576 < b.size
    · go_enter Try.func23, Try.ntmps23
      go_wp2
      go_ret
      exact ⟨rfl, rfl⟩
    · have h3 : (1048576 : Int) < (a.size : Int) + (b.size : Int) := by omega
      go_enter Try.func23, Try.ntmps23
      go_wp2
      go_ret
      exact ⟨rfl, rfl⟩

/-- strings.LastIndexByte(s, '@'). -/
theorem last_any (s : ByteArray) (w : World) (hs : s.size ≤ 1048576) :
    Calls Try.prog 30 #[.string s, .int .u8 64] w fun e w' => e = .returned (.int .i64 (lastAt (ch s) s.size)) ∧ w = w' := by
  go_enter Try.func30, Try.ntmps30
  go_wp2
  go_loop [5] (fun i => ∃ k : Nat, k ≤ s.size ∧ i = .int .i64 ((k : Int) - 1) ∧ lastAt (ch s) s.size = lastAt (ch s) k) (fun i => (intOf i + 1).toNat)
  case atStart => exact ⟨s.size, Nat.le_refl _, rfl, rfl⟩
  case round =>
    obtain ⟨k, hk, rfl, hl⟩ := hrel
    have HL : Hid (lastAt (ch s) s.size = lastAt (ch s) k) := hl
    clear hl
    match k, hk, HL with
    | 0, hk, HL =>
      go_wp2
      go_ret
      exact ⟨ret_int HL.out.symm, rfl⟩
    | k + 1, hk, HL =>
      have hlt : k < s.size := by omega
      have e1 : ((k + 1 : Nat) : Int) - 1 = (k : Int) := by omega
      simp only [e1]
      have hch := ch_eq s k hlt
      by_cases h64 : ch s k = 64
      · have HE : Hid (lastAt (ch s) s.size = (k : Int)) := HL.out.trans (if_pos h64)
        have hb : (ch s k == 64) = true := by simpa using h64
        clear h64 HL e1
        go_wp2
        go_ret
        exact ⟨ret_int HE.out.symm, rfl⟩
      · have HE : Hid (lastAt (ch s) s.size = lastAt (ch s) k) := HL.out.trans (if_neg h64)
        have hb : (ch s k == 64) = false := by simpa using h64
        clear h64 HL e1
        go_wp2
        go_round
        case rel => exact ⟨k, by omega, by go_num, HE.out⟩
        case measure => simp [intOf]

theorem last_at (s : ByteArray) (w : World) (hs : s.size ≤ 1048576) :
    Calls Try.prog 27 #[.string s, .int .u8 64] w fun e w' => e = .returned (.int .i64 (lastAt (ch s) s.size)) ∧ w = w' := by
  go_enter Try.func27, Try.ntmps27
  go_wp2_with (go_at_call 30; refine (last_any s _ hs).mono ?_; rintro e w' ⟨rfl, rfl⟩)
  go_ret
  exact ⟨rfl, rfl⟩

/-- '[]byte(s)'. -/
theorem bytes_conv (w : World) (s : ByteArray) : ∃ cap w1, (convert 9 40 (.string s)).run Try.prog w = .ok (.slice (some ⟨w.heap.size, 0, none⟩) s.size cap) w1 ∧
    (∀ i, i < s.size → w1.cell? ⟨w.heap.size, i, none⟩ = some (.int .u8 (ch s i))) ∧ (∀ i, i < s.size → w1.frozen? ⟨w.heap.size, i, none⟩ = false) ∧ w1.heap.size = w.heap.size + 1 ∧ Below w.heap.size w w1 := by
  refine ⟨_, _, run_bytes_of_string (P := Try.prog) w 9 40 5 s Try.underlying9 Try.underlying40 Try.underlying5, ?_, ?_, ?_, ?_⟩
  · intro i hi
    have := World.cell?_alloc_mark w.drew (bytesRow s (grownCap w s.size 0 5)) 5 ((bytesRow s (grownCap w s.size 0 5)).size, (bytesRow s (grownCap w s.size 0 5)).size + 1) i
    rw [bytesRow_at s _ i hi] at this
    refine this.trans ?_
    rw [← ch_eq s i hi]; rfl
  · intro i hi
    have := World.frozen?_alloc_mark w.drew (bytesRow s (grownCap w s.size 0 5)) 5 (bytesRow s (grownCap w s.size 0 5)).size ((bytesRow s (grownCap w s.size 0 5)).size + 1) i
    refine this.trans ?_
    have hsz : s.size ≤ (bytesRow s (grownCap w s.size 0 5)).size := by
      simp only [bytesRow, Array.size_append, Array.size_map, Array.size_replicate]; show s.data.size ≤ _; omega
    simp; omega
  · simp
  · exact ((Below.refl _ _).drew).alloc (Nat.le_refl _) _

/-- 'string(b)'. -/
theorem back_conv (w : World) (g n cap : Nat) (f : Nat → Int) (hf : ∀ i, i < n → 0 ≤ f i ∧ f i ≤ 255) (hc : ∀ i, i < n → w.cell? ⟨g, i, none⟩ = some (.int .u8 (f i))) :
    (convert 40 9 (.slice (some ⟨g, 0, none⟩) n cap)).run Try.prog w = .ok (.string (strOf f n)) w := by
  have := run_convert_bytes_back (P := Try.prog) w 40 9 5 ⟨g, 0, none⟩ cap ((List.range n).map (fun i => UInt8.ofNat (f i).toNat)) Try.underlying40 Try.underlying5 Try.underlying9 (fun j hj => by
    simp only [List.length_map, List.length_range] at hj
    rw [Addr.add_lit, Nat.zero_add, hc j hj]
    have := hf j hj
    simp only [List.getElem_map, List.getElem_range]
    congr 2
    simp
    omega)
  simpa [strOf] using this

/-- One round of lowerASCII's loop, on the cells. -/
theorem low_round (s : ByteArray) (g k : Nat) (wr : World) (x : Int) (hk : k < s.size) (hx : x = lowc (ch s k)) (hc : ∀ j, j < s.size → wr.cell? ⟨g, j, none⟩ = some (.int .u8 (if j < k then lowc (ch s j) else ch s j))) :
    ∀ j, j < s.size → (wr.setCell ⟨g, k, none⟩ (.int .u8 x)).cell? ⟨g, j, none⟩ = some (.int .u8 (if j < k + 1 then lowc (ch s j) else ch s j)) := by
  intro j hj
  by_cases e : j = k
  · subst e
    rw [World.cell?_setCell_same _ _ _ (hc j hj), if_pos (by omega), hx]
  · rw [World.cell?_setCell_other _ _ _ _ (by intro h; cases h; exact e rfl), hc j hj]
    by_cases h : j < k
    · rw [if_pos h, if_pos (by omega)]
    · rw [if_neg h, if_neg (by omega)]
theorem low_round_no (s : ByteArray) (g k : Nat) (wr : World) (hx : ch s k = lowc (ch s k)) (hc : ∀ j, j < s.size → wr.cell? ⟨g, j, none⟩ = some (.int .u8 (if j < k then lowc (ch s j) else ch s j))) :
    ∀ j, j < s.size → wr.cell? ⟨g, j, none⟩ = some (.int .u8 (if j < k + 1 then lowc (ch s j) else ch s j)) := by
  intro j hj
  rw [hc j hj]
  by_cases e : j = k
  · subst e; rw [if_neg (Nat.lt_irrefl _), if_pos (by omega), ← hx]
  · by_cases h : j < k
    · rw [if_pos h, if_pos (by omega)]
    · rw [if_neg h, if_neg (by omega)]

/-- lowerASCII. -/
theorem low_any (s : ByteArray) (w : World) (hs : s.size ≤ 1048576) :
    Calls Try.prog 25 #[.string s] w fun e w' => e = .returned (.string (low s)) ∧ Below w.heap.size w w' := by
  obtain ⟨cap, w1, hcv, hcell, hfr, hsz, hbel⟩ := bytes_conv w s
  have hlt : w.heap.size < w1.heap.size := by omega
  clear hsz
  go_enter Try.func25, Try.ntmps25
  go_wp2
  go_loopw [10] (fun i wr => ∃ k : Nat, k ≤ s.size ∧ i = .int .i64 k ∧ (∀ j, j < s.size → wr.cell? ⟨w.heap.size, j, none⟩ = some (.int .u8 (if j < k then lowc (ch s j) else ch s j))) ∧ (∀ j, j < s.size → wr.frozen? ⟨w.heap.size, j, none⟩ = false) ∧ Below w.heap.size w wr) (fun i _ => s.size - (intOf i).toNat)
  case atStart => exact ⟨0, Nat.zero_le _, rfl, hcell, hfr, hbel⟩
  case round =>
    obtain ⟨k, hk, rfl, hc, hf, hb⟩ := hrel
    by_cases hlt : k < s.size
    · have hck : wr.cell? ⟨w.heap.size, k, none⟩ = some (.int .u8 (ch s k)) := by have := hc k hlt; rwa [if_neg (Nat.lt_irrefl _)] at this
      have hfk := hf k hlt
      have hbd := ch_bd s k
      by_cases hup : 65 ≤ ch s k ∧ ch s k ≤ 90
      · obtain ⟨hu1, hu2⟩ := hup
        go_wp2
        go_roundw
        case rel => exact ⟨k + 1, by omega, by go_num, low_round s _ k wr _ hlt (by unfold lowc; rw [if_pos ⟨hu1, hu2⟩]; omega) hc, fun j hj => by rw [World.frozen?_setCell]; exact hf j hj, hb.setCell (p := ⟨w.heap.size, k, none⟩) (Nat.le_refl _) _⟩
        case measure => simp [intOf]; omega
      · by_cases h1 : 65 ≤ ch s k
        all_goals
          go_wp2
          go_roundw
          case rel => exact ⟨k + 1, by omega, by go_num, low_round_no s _ k wr (by unfold lowc; rw [if_neg hup]) hc, hf, hb⟩
          case measure => simp [intOf]; omega
    · obtain rfl : k = s.size := by omega
      have hbk := back_conv wr w.heap.size s.size cap (fun j => lowc (ch s j)) (fun i _ => lowc_bd _ (ch_bd s i)) (fun i hi => by have := hc i hi; rwa [if_pos hi] at this)
      go_wp2
      go_ret
      exact ⟨rfl, hb⟩

end Go.Proofs.Qxb6000489a
