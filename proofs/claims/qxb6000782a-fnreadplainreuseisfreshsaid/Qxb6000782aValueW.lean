/-
  The walk of value: which of the six values a key names.
-/
import Derived.Test.Qxb6000782aValues
namespace Go.Proofs.Qxb6000782a
open Go.ChangeShapes Go.WideShapes Go.ChangeAt Go.RowKit
set_option linter.unusedVariables false

def nm : Nat → ByteArray
  | 0 => ⟨#[116, 105, 109, 101]⟩
  | 1 => ⟨#[98, 108, 111, 99, 107]⟩
  | 2 => ⟨#[97, 99, 99, 111, 117, 110, 116]⟩
  | 3 => ⟨#[111, 112]⟩
  | 4 => ⟨#[97, 109, 111, 117, 110, 116]⟩
  | _ => ⟨#[108, 111, 99, 107, 117, 112]⟩

theorem index_kv (L k : Nat) (hk : k < 6) (W : World) :
    (Instr.index 57 (.agg #[.string ⟨#[116, 105, 109, 101]⟩, .pointer (some ⟨L, 0, none⟩), .string ⟨#[98, 108, 111, 99, 107]⟩, .pointer (some ⟨L, 3, none⟩), .string ⟨#[97, 99, 99, 111, 117, 110, 116]⟩, .pointer (some ⟨L, 6, none⟩), .string ⟨#[111, 112]⟩, .pointer (some ⟨L, 9, none⟩), .string ⟨#[97, 109, 111, 117, 110, 116]⟩, .pointer (some ⟨L, 12, none⟩), .string ⟨#[108, 111, 99, 107, 117, 112]⟩, .pointer (some ⟨L, 15, none⟩)]) (.int .i64 k)).run Try.prog W
      = .ok (.agg #[.string (nm k), .pointer (some ⟨L, 3 * k, none⟩)]) W := by
  rcases (show k = 0 ∨ k = 1 ∨ k = 2 ∨ k = 3 ∨ k = 4 ∨ k = 5 from by omega) with rfl | rfl | rfl | rfl | rfl | rfl
  all_goals kernel_rfl

/-- The string of the bytes f 0 .. f (n-1). -/
def strOf (f : Nat → Int) (n : Nat) : ByteArray := ⟨((List.range n).map (fun i => UInt8.ofNat (f i).toNat)).toArray⟩
theorem back_conv (w : World) (b off n cap : Nat) (a : Addr) (f : Nat → Int) (ha : 0 < n → a = ⟨b, off, none⟩) (hf : ∀ i, i < n → 0 ≤ f i ∧ f i ≤ 255) (hc : ∀ i, i < n → w.cell? ⟨b, off + i, none⟩ = some (.int .u8 (f i))) :
    (convert 22 9 (.slice (some a) n cap)).run Try.prog w = .ok (.string (strOf f n)) w := by
  have := run_convert_bytes_back (P := Try.prog) w 22 9 5 a cap ((List.range n).map (fun i => UInt8.ofNat (f i).toNat)) Try.underlying22 Try.underlying5 Try.underlying9 (fun j hj => by
    simp only [List.length_map, List.length_range] at hj
    rw [ha (by omega), Addr.add_lit, hc j hj]
    have := hf j hj
    simp only [List.getElem_map, List.getElem_range]
    congr 2
    simp
    omega)
  simpa [strOf] using this

theorem nmL_eq (k : Nat) (hk : k < 6) : nmL k = (nm k).data.toList.map (fun c => (c.toNat : Int)) := by
  rcases (show k = 0 ∨ k = 1 ∨ k = 2 ∨ k = 3 ∨ k = 4 ∨ k = 5 from by omega) with rfl | rfl | rfl | rfl | rfl | rfl
  all_goals rfl
theorem nm_len (k : Nat) (hk : k < 6) : (nm k).size = (nmL k).length ∧ 0 < (nm k).size := by
  rcases (show k = 0 ∨ k = 1 ∨ k = 2 ∨ k = 3 ∨ k = 4 ∨ k = 5 from by omega) with rfl | rfl | rfl | rfl | rfl | rfl
  all_goals exact ⟨rfl, by decide⟩
def nmG (k : Nat) : Nat → Int := fun i => (nmL k).getD i 0
theorem nm_at (k : Nat) (hk : k < 6) (i : Nat) (h : i < (nm k).size) : ((nm k)[i].toNat : Int) = nmG k i := by
  unfold nmG
  rw [nmL_eq k hk, List.getD_eq_getElem?_getD, List.getElem?_map, List.getElem?_eq_getElem (by simpa using h)]
  rfl
theorem nm_bd (k : Nat) (hk : k < 6) (i : Nat) : 0 ≤ nmG k i ∧ nmG k i ≤ 255 := by
  unfold nmG
  rw [nmL_eq k hk, List.getD_eq_getElem?_getD, List.getElem?_map]
  cases (nm k).data.toList[i]? with
  | none => simp
  | some c => have := c.toNat_lt; simp; omega
theorem seg_str (f : Nat → Int) (m : Nat) (hf : ∀ i, i < m → 0 ≤ f i ∧ f i ≤ 255) : seg f 0 m = (strOf f m).data.toList.map (fun c => (c.toNat : Int)) := by
  simp only [seg, strOf, List.map_map]
  apply List.map_congr_left
  intro i hi
  have := hf i (by simpa using hi)
  simp
  omega
theorem name_eq (f : Nat → Int) (m k : Nat) (hk : k < 6) (hf : ∀ i, i < m → 0 ≤ f i ∧ f i ≤ 255) : ((strOf f m).toList == (nm k).toList) = decide (seg f 0 m = nmL k) := by
  rw [ByteArray.toList_eq, ByteArray.toList_eq, seg_str f m hf, nmL_eq k hk, Bool.eq_iff_iff, beq_iff_eq, decide_eq_true_eq]
  constructor
  · intro h; rw [h]
  · intro h
    exact (List.map_inj_right (fun x y hxy => UInt8.toNat_inj.1 (by omega))).1 h
theorem ff_foldTo (f : Nat → Int) (m : Nat) (N : List Int) : ∀ j, j ≤ m → foldTo (seg f 0 m) N j = ff f (fun i => N.getD i 0) j
  | 0, _ => rfl
  | j+1, h => by
    show (foldTo (seg f 0 m) N j && decide (lowc ((seg f 0 m).getD j 0) = lowc (N.getD j 0))) = (ff f (fun i => N.getD i 0) j && decide (lowc (f j) = lowc (N.getD j 0)))
    rw [ff_foldTo f m N j (by omega), List.getD_eq_getElem?_getD, seg_at f 0 m j (by omega)]
    simp
theorem foldB_ff (f : Nat → Int) (m k : Nat) (h : m = (nmL k).length) : foldB (seg f 0 m) (nmL k) = ff f (nmG k) m := by
  unfold foldB
  rw [seg_len, decide_eq_true h, ff_foldTo f m (nmL k) m (Nat.le_refl _)]; rfl
theorem foldB_ne (f : Nat → Int) (m : Nat) (N : List Int) (h : m ≠ N.length) : foldB (seg f 0 m) N = false := by
  unfold foldB
  rw [seg_len, decide_eq_false h]; rfl

theorem value_any (L b off m c : Nat) (a : Addr) (f : Nat → Int) (w : World) (hm : m ≤ 1048576) (hbw : b < w.heap.size) (ha : 0 < m → a = ⟨b, off, none⟩) (hf : ∀ i, i < m → 0 ≤ f i ∧ f i ≤ 255)
    (hc : ∀ i, i < m → w.cell? ⟨b, off + i, none⟩ = some (.int .u8 (f i))) :
    Calls Try.prog 33 #[.pointer (some ⟨L, 0, none⟩), .slice (some a) m c] w fun e w' => e = .returned (.tuple #[.pointer ((valI (seg f 0 m)).map (fun j => ⟨L, 3 * j, none⟩)), .bool (valOk (seg f 0 m))]) ∧ Below w.heap.size w w' := by
  go_enter Try.func33, Try.ntmps33
  go_wp2_with (go_at_call 34; refine (values_any _ _).mono ?_; rintro e w1 ⟨rfl, hs1, hb1⟩)
  have hb2 : Below w.heap.size w (w1.alloc (Obj.cells #[.string ⟨#[116, 105, 109, 101]⟩, .pointer (some ⟨L, 0, none⟩), .string ⟨#[98, 108, 111, 99, 107]⟩, .pointer (some ⟨L, 3, none⟩), .string ⟨#[97, 99, 99, 111, 117, 110, 116]⟩, .pointer (some ⟨L, 6, none⟩), .string ⟨#[111, 112]⟩, .pointer (some ⟨L, 9, none⟩), .string ⟨#[97, 109, 111, 117, 110, 116]⟩, .pointer (some ⟨L, 12, none⟩), .string ⟨#[108, 111, 99, 107, 117, 112]⟩, .pointer (some ⟨L, 15, none⟩)] 57)) := hb1.alloc (by omega) _
  have hv : ∀ i v, (#[.string ⟨#[116, 105, 109, 101]⟩, .pointer (some ⟨L, 0, none⟩), .string ⟨#[98, 108, 111, 99, 107]⟩, .pointer (some ⟨L, 3, none⟩), .string ⟨#[97, 99, 99, 111, 117, 110, 116]⟩, .pointer (some ⟨L, 6, none⟩), .string ⟨#[111, 112]⟩, .pointer (some ⟨L, 9, none⟩), .string ⟨#[97, 109, 111, 117, 110, 116]⟩, .pointer (some ⟨L, 12, none⟩), .string ⟨#[108, 111, 99, 107, 117, 112]⟩, .pointer (some ⟨L, 15, none⟩)] : Array Value)[i]? = some v → (w1.alloc (Obj.cells #[.string ⟨#[116, 105, 109, 101]⟩, .pointer (some ⟨L, 0, none⟩), .string ⟨#[98, 108, 111, 99, 107]⟩, .pointer (some ⟨L, 3, none⟩), .string ⟨#[97, 99, 99, 111, 117, 110, 116]⟩, .pointer (some ⟨L, 6, none⟩), .string ⟨#[111, 112]⟩, .pointer (some ⟨L, 9, none⟩), .string ⟨#[97, 109, 111, 117, 110, 116]⟩, .pointer (some ⟨L, 12, none⟩), .string ⟨#[108, 111, 99, 107, 117, 112]⟩, .pointer (some ⟨L, 15, none⟩)] 57)).cell? ⟨w.heap.size + 1, i, none⟩ = some v := by
    intro i v h
    rw [← hs1, World.cell?_alloc_new]; exact h
  have hsz : (w1.alloc (Obj.cells #[.string ⟨#[116, 105, 109, 101]⟩, .pointer (some ⟨L, 0, none⟩), .string ⟨#[98, 108, 111, 99, 107]⟩, .pointer (some ⟨L, 3, none⟩), .string ⟨#[97, 99, 99, 111, 117, 110, 116]⟩, .pointer (some ⟨L, 6, none⟩), .string ⟨#[111, 112]⟩, .pointer (some ⟨L, 9, none⟩), .string ⟨#[97, 109, 111, 117, 110, 116]⟩, .pointer (some ⟨L, 12, none⟩), .string ⟨#[108, 111, 99, 107, 117, 112]⟩, .pointer (some ⟨L, 15, none⟩)] 57)).heap.size = w.heap.size + 2 := by simp [hs1]
  generalize (w1.alloc (Obj.cells #[.string ⟨#[116, 105, 109, 101]⟩, .pointer (some ⟨L, 0, none⟩), .string ⟨#[98, 108, 111, 99, 107]⟩, .pointer (some ⟨L, 3, none⟩), .string ⟨#[97, 99, 99, 111, 117, 110, 116]⟩, .pointer (some ⟨L, 6, none⟩), .string ⟨#[111, 112]⟩, .pointer (some ⟨L, 9, none⟩), .string ⟨#[97, 109, 111, 117, 110, 116]⟩, .pointer (some ⟨L, 12, none⟩), .string ⟨#[108, 111, 99, 107, 117, 112]⟩, .pointer (some ⟨L, 15, none⟩)] 57)) = w2 at hb2 hv hsz ⊢
  clear hs1 hb1
  go_loopw [14] (fun t wr => ∃ k : Nat, k ≤ 6 ∧ t = .int .i64 k ∧ eqAt (seg f 0 m) = srch (fun j => decide (seg f 0 m = nmL j)) (6 - k) k ∧ Below w2.heap.size w2 wr) (fun t _ => 6 - (intOf t).toNat)
  case atStart => exact ⟨0, by omega, rfl, rfl, Below.refl _ _⟩
  case round =>
    obtain ⟨k, hk, rfl, hs, hb⟩ := hrel
    have HS : Hid (eqAt (seg f 0 m) = srch (fun j => decide (seg f 0 m = nmL j)) (6 - k) k) := hs
    clear hs
    by_cases hlt : k < 6
    · have hix := index_kv L k hlt
      have hcv : ∀ o, (convert 22 9 (.slice (some a) m c)).run Try.prog (wr.alloc o) = .ok (.string (strOf f m)) (wr.alloc o) := fun o =>
        back_conv (wr.alloc o) b off m c a f ha hf (fun i hi => by
          rw [World.cell?_alloc_lt _ _ _ (show b < wr.heap.size by have := hb.size; omega)]
          refine (hb.cell (p := ⟨b, off + i, none⟩) (show b < w2.heap.size by omega)).trans ?_
          exact (hb2.cell (p := ⟨b, off + i, none⟩) hbw).trans (hc i hi))
      have hne := name_eq f m k hlt hf
      cases he : decide (seg f 0 m = nmL k) with
      | true =>
        rw [he] at hne
        have HV : Hid (eqAt (seg f 0 m) = some k) := by
          show eqAt (seg f 0 m) = some k
          rw [HS.out, show 6 - k = (5 - k) + 1 from by omega, srch_yes _ _ _ he]
        clear hc hf ha he
        go_wp2
        go_ret2
        refine ⟨?_, (hb2.trans (hb.mono (by omega))).alloc (by have := hb.size; omega) _⟩
        unfold valI valOk
        rw [HV.out]; rfl
      | false =>
        rw [he] at hne
        have HV : Hid (eqAt (seg f 0 m) = srch (fun j => decide (seg f 0 m = nmL j)) (6 - (k + 1)) (k + 1)) := by
          show eqAt (seg f 0 m) = _
          rw [HS.out, show 6 - k = (6 - (k + 1)) + 1 from by omega, srch_no _ _ _ he]
        clear hc hf ha he
        go_wp2
        go_roundw
        case rel => exact ⟨k + 1, by omega, by go_num, HV.out, hb.alloc hb.size _⟩
        case measure => simp [intOf]; omega
    · have HN : Hid (eqAt (seg f 0 m) = none) := by
        show eqAt (seg f 0 m) = none
        rw [HS.out, show k = 6 from by omega]; rfl
      have hge : 6 ≤ k := by omega
      have c0 := (hb.cell (p := ⟨w.heap.size + 1, 0, none⟩) (show w.heap.size + 1 < w2.heap.size by omega)).trans (hv 0 (.string ⟨#[116, 105, 109, 101]⟩) rfl)
      have c1 := (hb.cell (p := ⟨w.heap.size + 1, 1, none⟩) (show w.heap.size + 1 < w2.heap.size by omega)).trans (hv 1 (.pointer (some ⟨L, 0, none⟩)) rfl)
      have c2 := (hb.cell (p := ⟨w.heap.size + 1, 2, none⟩) (show w.heap.size + 1 < w2.heap.size by omega)).trans (hv 2 (.string ⟨#[98, 108, 111, 99, 107]⟩) rfl)
      have c3 := (hb.cell (p := ⟨w.heap.size + 1, 3, none⟩) (show w.heap.size + 1 < w2.heap.size by omega)).trans (hv 3 (.pointer (some ⟨L, 3, none⟩)) rfl)
      have c4 := (hb.cell (p := ⟨w.heap.size + 1, 4, none⟩) (show w.heap.size + 1 < w2.heap.size by omega)).trans (hv 4 (.string ⟨#[97, 99, 99, 111, 117, 110, 116]⟩) rfl)
      have c5 := (hb.cell (p := ⟨w.heap.size + 1, 5, none⟩) (show w.heap.size + 1 < w2.heap.size by omega)).trans (hv 5 (.pointer (some ⟨L, 6, none⟩)) rfl)
      have c6 := (hb.cell (p := ⟨w.heap.size + 1, 6, none⟩) (show w.heap.size + 1 < w2.heap.size by omega)).trans (hv 6 (.string ⟨#[111, 112]⟩) rfl)
      have c7 := (hb.cell (p := ⟨w.heap.size + 1, 7, none⟩) (show w.heap.size + 1 < w2.heap.size by omega)).trans (hv 7 (.pointer (some ⟨L, 9, none⟩)) rfl)
      have c8 := (hb.cell (p := ⟨w.heap.size + 1, 8, none⟩) (show w.heap.size + 1 < w2.heap.size by omega)).trans (hv 8 (.string ⟨#[97, 109, 111, 117, 110, 116]⟩) rfl)
      have c9 := (hb.cell (p := ⟨w.heap.size + 1, 9, none⟩) (show w.heap.size + 1 < w2.heap.size by omega)).trans (hv 9 (.pointer (some ⟨L, 12, none⟩)) rfl)
      have c10 := (hb.cell (p := ⟨w.heap.size + 1, 10, none⟩) (show w.heap.size + 1 < w2.heap.size by omega)).trans (hv 10 (.string ⟨#[108, 111, 99, 107, 117, 112]⟩) rfl)
      have c11 := (hb.cell (p := ⟨w.heap.size + 1, 11, none⟩) (show w.heap.size + 1 < w2.heap.size by omega)).trans (hv 11 (.pointer (some ⟨L, 15, none⟩)) rfl)
      clear hv
      go_wp2
      go_loopw [26] (fun t wx => ∃ k : Nat, k ≤ 6 ∧ t = .int .i64 k ∧ foldAt (seg f 0 m) = srch (fun j => foldB (seg f 0 m) (nmL j)) (6 - k) k ∧ Below w2.heap.size w2 wx) (fun t _ => 6 - (intOf t).toNat)
      case atStart => exact ⟨0, by omega, rfl, rfl, hb⟩
      case round =>
        clear c0 c1 c2 c3 c4 c5 c6 c7 c8 c9 c10 c11
        obtain ⟨k, hk, rfl, hs, hbx⟩ := hrel
        have HF : Hid (foldAt (seg f 0 m) = srch (fun j => foldB (seg f 0 m) (nmL j)) (6 - k) k) := hs
        clear hs
        by_cases hlt : k < 6
        · have hix := index_kv L k hlt
          have hcw : ∀ o i, i < m → (wr.alloc o).cell? ⟨b, off + i, none⟩ = some (.int .u8 (f i)) := fun o i hi => by
            rw [World.cell?_alloc_lt _ _ _ (show b < wr.heap.size by have := hbx.size; omega)]
            refine (hbx.cell (p := ⟨b, off + i, none⟩) (show b < w2.heap.size by omega)).trans ?_
            exact (hb2.cell (p := ⟨b, off + i, none⟩) hbw).trans (hc i hi)
          have HC : Hid (∀ o i, i < m → (wr.alloc o).cell? ⟨b, off + i, none⟩ = some (.int .u8 (f i))) := hcw
          clear hcw hc
          obtain ⟨hl1, hl2⟩ := nm_len k hlt
          have HL : Hid ((nm k).size = (nmL k).length) := hl1
          clear hl1
          have hsx : w2.heap.size ≤ wr.heap.size := hbx.size
          by_cases hm2 : m = (nm k).size
          · obtain rfl := ha (by omega)
            have HM : Hid (m = (nm k).size) := hm2
            clear hm2
            cases hfo : foldB (seg f 0 m) (nmL k) with
            | true =>
              have HV : Hid (valI (seg f 0 m) = none ∧ valOk (seg f 0 m) = false) := by
                refine ⟨HN.out, ?_⟩
                unfold valOk
                rw [HN.out, HF.out, show 6 - k = (5 - k) + 1 from by omega, srch_yes _ _ _ hfo]; rfl
              rw [foldB_ff f m k (HM.out.trans HL.out)] at hfo
              go_wp2_with (go_at_call 43; refine (fold_eq b off m c f (nmG k) (nm k) _ hm HM.out hf (fun i _ => nm_bd k hlt i) (HC.out _) (nm_at k hlt)).mono ?_; rintro e wq ⟨rfl, q, rfl⟩)
              go_ret2
              refine ⟨?_, ?_⟩
              · rw [HV.out.1, HV.out.2]; rfl
              · exact below_drewN ((hb2.trans (hbx.mono (by omega))).alloc (by omega) _) _
            | false =>
              have HV : Hid (foldAt (seg f 0 m) = srch (fun j => foldB (seg f 0 m) (nmL j)) (6 - (k + 1)) (k + 1)) := by
                show foldAt (seg f 0 m) = _
                rw [HF.out, show 6 - k = (6 - (k + 1)) + 1 from by omega, srch_no _ _ _ hfo]
              rw [foldB_ff f m k (HM.out.trans HL.out)] at hfo
              go_wp2_with (go_at_call 43; refine (fold_eq b off m c f (nmG k) (nm k) _ hm HM.out hf (fun i _ => nm_bd k hlt i) (HC.out _) (nm_at k hlt)).mono ?_; rintro e wq ⟨rfl, q, rfl⟩)
              go_roundw
              case rel => exact ⟨k + 1, by omega, by go_num, HV.out, below_drewN (hbx.alloc hbx.size _) _⟩
              case measure => simp [intOf]; omega
          · have hne2 : m ≠ (nmL k).length := by rw [← HL.out]; exact hm2
            have HV : Hid (foldAt (seg f 0 m) = srch (fun j => foldB (seg f 0 m) (nmL j)) (6 - (k + 1)) (k + 1)) := by
              show foldAt (seg f 0 m) = _
              rw [HF.out, show 6 - k = (6 - (k + 1)) + 1 from by omega, srch_no _ _ _ (foldB_ne f m _ hne2)]
            go_wp2_with (go_at_call 43; refine (fold_ne _ m c (nm k) _ hm2).mono ?_; rintro e wq ⟨rfl, rfl⟩)
            go_roundw
            case rel => exact ⟨k + 1, by omega, by go_num, HV.out, hbx.alloc hbx.size _⟩
            case measure => simp [intOf]; omega
        · obtain rfl : k = 6 := by omega
          have HV : Hid (valI (seg f 0 m) = none ∧ valOk (seg f 0 m) = true) := by
            refine ⟨HN.out, ?_⟩
            unfold valOk
            rw [HN.out, HF.out]; rfl
          go_wp2
          go_ret2
          refine ⟨?_, hb2.trans (hbx.mono (by omega))⟩
          rw [HV.out.1, HV.out.2]; rfl

end Go.Proofs.Qxb6000782a
