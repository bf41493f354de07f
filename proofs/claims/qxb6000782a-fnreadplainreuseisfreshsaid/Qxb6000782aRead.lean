/-
  The walk of readPlain.
-/
import Derived.Test.Qxb6000782aSet
namespace Go.Proofs.Qxb6000782a
open Go.ChangeShapes Go.WideShapes Go.ChangeAt Go.RowKit
set_option linter.unusedVariables false

theorem pend_none (b off n c i : Nat) (f : Nat → Int) (w : World) (hn : n ≤ 1048576) (hi : i ≤ n)
    (hc : ∀ i, i < n → w.cell? ⟨b, off + i, none⟩ = some (.int .u8 (f i))) (hp : pend f n i = none) :
    Calls Try.prog 31 #[.slice (some ⟨b, off, none⟩) n c, .int .i64 i] w fun e w' => e = .returned (.tuple #[.int .i64 0, .bool false]) ∧ w = w' := by
  have := pend_any b off n c i f w hn hi hc
  rw [hp] at this; exact this
theorem pend_some (b off n c i e : Nat) (f : Nat → Int) (w : World) (hn : n ≤ 1048576) (hi : i ≤ n)
    (hc : ∀ i, i < n → w.cell? ⟨b, off + i, none⟩ = some (.int .u8 (f i))) (hp : pend f n i = some e) :
    Calls Try.prog 31 #[.slice (some ⟨b, off, none⟩) n c, .int .i64 i] w fun r w' => r = .returned (.tuple #[.int .i64 e, .bool true]) ∧ w = w' := by
  have := pend_any b off n c i f w hn hi hc
  rw [hp] at this; exact this

theorem seg_shift (f : Nat → Int) (a m : Nat) : seg (fun t => f (a + t)) 0 m = seg f a m := by
  unfold seg; apply List.map_congr_left; intro t _; show f (a + (0 + t)) = f (a + t); rw [Nat.zero_add]
theorem value_at (L b off a m c : Nat) (f : Nat → Int) (w : World) (hm : m ≤ 1048576) (hbw : b < w.heap.size) (hf : ∀ i, i < m → 0 ≤ f (a + i) ∧ f (a + i) ≤ 255)
    (hc : ∀ i, i < m → w.cell? ⟨b, off + (a + i), none⟩ = some (.int .u8 (f (a + i)))) :
    Calls Try.prog 33 #[.pointer (some ⟨L, 0, none⟩), .slice (some ⟨b, off + a, none⟩) m c] w fun e w' => e = .returned (.tuple #[.pointer ((valI (seg f a m)).map (fun j => ⟨L, 3 * j, none⟩)), .bool (valOk (seg f a m))]) ∧ Below w.heap.size w w' := by
  have := value_any L b (off + a) m c ⟨b, off + a, none⟩ (fun t => f (a + t)) w hm hbw (fun _ => rfl) hf (fun i hi => by rw [Nat.add_assoc]; exact hc i hi)
  rw [seg_shift] at this; exact this
theorem set_at (L j b off a m c : Nat) (f : Nat → Int) (s : Nat → JV) (w : World) (hj : j < 6) (hbL : b < L) (hm : m ≤ 1048576)
    (hc : ∀ i, i < m → w.cell? ⟨b, off + (a + i), none⟩ = some (.int .u8 (f (a + i)))) (hl : LineAt w L s) :
    Calls Try.prog 47 #[.pointer (some ⟨L, 3 * j, none⟩), .slice (some ⟨b, off + a, none⟩) m c] w fun e w' =>
      e = .returned (.tuple #[]) ∧ LineAt w' L (put s j { giv := true, twi := (s j).giv, raw := seg f a m }) ∧ Below L w w' := by
  have := set_any L j b (off + a) m c (fun t => f (a + t)) s w hj hbL hm (fun i hi => by rw [Nat.add_assoc]; exact hc i hi) hl
  rw [seg_shift] at this; exact this

theorem skip_succ (b off n c i : Nat) (f : Nat → Int) (w : World) (hn : n ≤ 1048576) (hi : i + 1 ≤ n)
    (hc : ∀ i, i < n → w.cell? ⟨b, off + i, none⟩ = some (.int .u8 (f i))) :
    Calls Try.prog 46 #[.slice (some ⟨b, off, none⟩) n c, .int .i64 ((i : Int) + 1)] w fun e w' => e = .returned (.int .i64 (scan ws f n (i + 1))) ∧ w = w' := by
  have h := skip_any b off n c (i + 1) f w hn hi hc
  rw [show ((i + 1 : Nat) : Int) = (i : Int) + 1 from by omega] at h; exact h

theorem rp_succ (f : Nat → Int) (n k i : Nat) (s : Nat → JV) : rp f n (k + 1) i s = (
    match pend f n i with
    | none => (false, s)
    | some ke =>
      if f i ≠ 34 then (false, s) else
      if valOk (seg f (i + 1) (ke - 1 - (i + 1))) = false ∨ scan ws f n ke = n ∨ f (scan ws f n ke) ≠ 58 then (false, s) else
      match pend f n (scan ws f n (scan ws f n ke + 1)) with
      | none => (false, s)
      | some e =>
        if scan ws f n e = n then (false, setV s (valI (seg f (i + 1) (ke - 1 - (i + 1)))) (seg f (scan ws f n (scan ws f n ke + 1)) (e - scan ws f n (scan ws f n ke + 1)))) else
        if f (scan ws f n e) = 125 then (decide (scan ws f n e + 1 = n), setV s (valI (seg f (i + 1) (ke - 1 - (i + 1)))) (seg f (scan ws f n (scan ws f n ke + 1)) (e - scan ws f n (scan ws f n ke + 1)))) else
        if f (scan ws f n e) ≠ 44 then (false, setV s (valI (seg f (i + 1) (ke - 1 - (i + 1)))) (seg f (scan ws f n (scan ws f n ke + 1)) (e - scan ws f n (scan ws f n ke + 1)))) else
        rp f n k (scan ws f n (scan ws f n e + 1)) (setV s (valI (seg f (i + 1) (ke - 1 - (i + 1)))) (seg f (scan ws f n (scan ws f n ke + 1)) (e - scan ws f n (scan ws f n ke + 1))))) := rfl

theorem beq_dec (a n : Nat) : ((a : Int) + 1 == (n : Int)) = decide (a + 1 = n) := by
  rw [Bool.eq_iff_iff, beq_iff_eq, decide_eq_true_eq]; omega

set_option maxRecDepth 100000 in
set_option maxHeartbeats 1600000 in
theorem read_any (L b off n c : Nat) (f : Nat → Int) (s : Nat → JV) (w : World) (h1 : 1 ≤ n) (hn : n ≤ 1048576) (hnc : n ≤ c) (hbL : b < L) (hf : ∀ i, i < n → 0 ≤ f i ∧ f i ≤ 255)
    (hc : ∀ i, i < n → w.cell? ⟨b, off + i, none⟩ = some (.int .u8 (f i))) (hl : LineAt w L s) :
    Calls Try.prog 40 #[.pointer (some ⟨L, 0, none⟩), .slice (some ⟨b, off, none⟩) n c] w fun e w' =>
      e = .returned (.bool (readP f n s).1) ∧ LineAt w' L (readP f n s).2 ∧ Below L w w' := by
  have hs1 := scan_le ws f n 1 h1
  go_enter Try.func40, Try.ntmps40
  go_wp2_with fail
  refine (hl.reset).mono ?_
  rintro e w1 ⟨rfl, hl1, hb1⟩
  have hc1 : ∀ i, i < n → w1.cell? ⟨b, off + i, none⟩ = some (.int .u8 (f i)) := fun i hi => (hb1.cell (p := ⟨b, off + i, none⟩) hbL).trans (hc i hi)
  go_wp2_with fail
  refine (skip_any b off n c 1 f _ hn h1 hc1).mono ?_
  rintro e w' ⟨rfl, rfl⟩
  by_cases hA : scan ws f n 1 < n ∧ f (scan ws f n 1) = 125
  · have HR : Hid (readP f n s = (decide (scan ws f n 1 + 1 = n), resetV s)) := if_pos hA
    have hck := hc1 _ hA.1
    rw [hA.2] at hck
    have hlt := hA.1
    clear hA hc hc1
    generalize scan ws f n 1 = i1 at *
    go_wp2
    go_ret
    exact ⟨ret_bool (by rw [HR.out, beq_dec]), by rw [HR.out]; exact hl1, hb1⟩
  · have HR : Hid (readP f n s = rp f n (n + 1) (scan ws f n 1) (resetV s)) := if_neg hA
    clear hc
    by_cases hE : scan ws f n 1 = n
    · have HR2 : Hid (readP f n s = (false, resetV s)) := by
        show readP f n s = _
        rw [HR.out, hE]
        show rp f n (n + 1) n (resetV s) = _
        unfold rp
        rw [show pend f n n = none from if_pos rfl]
      have hpn : pend f n n = none := if_pos rfl
      rw [hE]
      clear hA hE hs1 HR
      go_wp2
      refine wp_loop_rounds 1 ?_
      rw [rounds_succ]
      go_wp2_with (go_at_call 31; refine (pend_none b off n c n f _ hn (Nat.le_refl _) hc1 hpn).mono ?_; rintro e w' ⟨rfl, rfl⟩)
      go_ret
      exact ⟨ret_bool (by rw [HR2.out]), by rw [HR2.out]; exact hl1, hb1⟩
    · have hlt : scan ws f n 1 < n := by omega
      have hck := hc1 _ hlt
      have hne : (f (scan ws f n 1) == 125) = false := by
        rw [beq_eq_false_iff_ne]; exact fun h => hA ⟨hlt, h⟩
      have HC : Hid (∀ i, i < n → w1.cell? ⟨b, off + i, none⟩ = some (.int .u8 (f i))) := hc1
      clear hA hE hc1
      generalize scan ws f n 1 = i1 at *
      go_wp2
      clear hck hne
      go_loopw [5] (fun t wr => ∃ (k i : Nat) (s' : Nat → JV), i ≤ n ∧ n < k + i ∧ t = .int .i64 i ∧ readP f n s = rp f n k i s' ∧ LineAt wr L s' ∧ Below L w wr) (fun t _ => n - (intOf t).toNat)
      case atStart => exact ⟨n + 1, i1, resetV s, by omega, by omega, rfl, HR.out, hl1, hb1⟩
      case round =>
        clear HR
        obtain ⟨k, i, s', hi, hk, rfl, hs, hlr, hbr⟩ := hrel
        obtain ⟨k, rfl⟩ : ∃ k', k = k' + 1 := ⟨k - 1, by omega⟩
        have HS : Hid (readP f n s = rp f n (k + 1) i s') := hs
        clear hs
        have hcr : ∀ i, i < n → wr.cell? ⟨b, off + i, none⟩ = some (.int .u8 (f i)) := fun i hi => ((hbr.cell (p := ⟨b, off + i, none⟩) hbL).trans (hb1.cell (p := ⟨b, off + i, none⟩) hbL).symm).trans (HC.out i hi)
        have HCR : Hid (∀ i, i < n → wr.cell? ⟨b, off + i, none⟩ = some (.int .u8 (f i))) := hcr
        clear hcr
        go_wp2_with fail
        cases hp : pend f n i with
        | none =>
          have HR : Hid (readP f n s = (false, s')) := by
            show readP f n s = _
            rw [HS.out, rp_succ, hp]
          refine (pend_none b off n c i f _ hn hi HCR.out hp).mono ?_
          rintro e w' ⟨rfl, rfl⟩
          clear hp
          go_wp2
          go_ret
          exact ⟨ret_bool (by rw [HR.out]), by rw [HR.out]; exact hlr, hbr⟩
        | some ke =>
          have hpb := pend_bd f n i ke hi hp
          refine (pend_some b off n c i ke f _ hn hi HCR.out hp).mono ?_
          rintro e w' ⟨rfl, rfl⟩
          have hci := HCR.out i hpb.1
          by_cases hq : f i ≠ 34
          · have HR : Hid (readP f n s = (false, s')) := by
              show readP f n s = _
              rw [HS.out, rp_succ, hp]; exact if_pos hq
            have hq2 : (f i != 34) = true := by simpa using hq
            clear hp hq
            go_wp2
            go_ret
            exact ⟨ret_bool (by rw [HR.out]), by rw [HR.out]; exact hlr, hbr⟩
          · have hq1 : f i = 34 := by omega
            have hq2 : (f i != 34) = false := by simpa using hq1
            have hk2 := hpb.2.2.2 hq1
            obtain ⟨g1, g2, g3, _⟩ := hpb
            clear hq1
            have HP : Hid (pend f n i = some ke) := hp
            clear hp
            go_wp2_with fail
            have hLr := hlr.lt
            refine (value_at L b off (i + 1) (ke - 1 - (i + 1)) (c - (i + 1)) f _ (by omega) (by omega) (fun t ht => hf _ (by omega)) (fun t ht => HCR.out _ (by omega))).mono ?_
            rintro e w3 ⟨rfl, hb3⟩
            have hl3 := hlr.below hb3
            have hbw3 : Below L w w3 := hbr.trans (hb3.mono (by omega))
            have hc3 : ∀ i, i < n → w3.cell? ⟨b, off + i, none⟩ = some (.int .u8 (f i)) := fun i hi => (hb3.cell (p := ⟨b, off + i, none⟩) (show b < wr.heap.size by omega)).trans (HCR.out i hi)
            have HC3 : Hid (∀ i, i < n → w3.cell? ⟨b, off + i, none⟩ = some (.int .u8 (f i))) := hc3
            clear hc3 HCR hb3 hlr hbr hci
            go_wp2_with fail
            refine (skip_any b off n c ke f _ hn g3 HC3.out).mono ?_
            rintro e w' ⟨rfl, rfl⟩
            have hsk := scan_le ws f n ke g3
            by_cases hbad : valOk (seg f (i + 1) (ke - 1 - (i + 1))) = false ∨ scan ws f n ke = n ∨ f (scan ws f n ke) ≠ 58
            · have HR : Hid (readP f n s = (false, s')) := by
                show readP f n s = _
                rw [HS.out, rp_succ, HP.out]; simp only; rw [if_neg hq, if_pos hbad]
              generalize scan ws f n ke = q at *
              cases hok : valOk (seg f (i + 1) (ke - 1 - (i + 1))) with
              | false =>
                clear hbad
                go_wp2
                go_ret
                exact ⟨ret_bool (by rw [HR.out]), by rw [HR.out]; exact hl3, hbw3⟩
              | true =>
                by_cases hqn : q = n
                · have hqb : ((q : Int) == (n : Int)) = true := by simp; omega
                  clear hbad hqn
                  go_wp2
                  go_ret
                  exact ⟨ret_bool (by rw [HR.out]), by rw [HR.out]; exact hl3, hbw3⟩
                · have hqb : ((q : Int) == (n : Int)) = false := by simp; omega
                  have hcq := HC3.out q (by omega)
                  have h58 : (f q != 58) = true := by
                    rw [bne_iff_ne]
                    rcases hbad with h | h | h
                    · rw [hok] at h; cases h
                    · exact absurd h hqn
                    · exact h
                  have hlq : q < n := by omega
                  clear hbad hqn
                  go_wp2
                  go_ret
                  exact ⟨ret_bool (by rw [HR.out]), by rw [HR.out]; exact hl3, hbw3⟩
            · have HB : Hid (¬ (valOk (seg f (i + 1) (ke - 1 - (i + 1))) = false ∨ scan ws f n ke = n ∨ f (scan ws f n ke) ≠ 58)) := hbad
              have hok : valOk (seg f (i + 1) (ke - 1 - (i + 1))) = true := by
                cases h : valOk (seg f (i + 1) (ke - 1 - (i + 1))) with
                | true => rfl
                | false => exact absurd (.inl h) hbad
              have hqn : scan ws f n ke ≠ n := fun h => hbad (.inr (.inl h))
              have hq58 : f (scan ws f n ke) = 58 := by
                rcases Int.lt_trichotomy (f (scan ws f n ke)) 58 with h | h | h
                · exact absurd (.inr (.inr (by omega))) hbad
                · exact h
                · exact absurd (.inr (.inr (by omega))) hbad
              clear hbad
              generalize hQ : scan ws f n ke = q at hsk hqn hq58 ⊢
              have HQ : Hid (scan ws f n ke = q) := hQ
              clear hQ
              have hlq : q < n := by omega
              have hqb : ((q : Int) == (n : Int)) = false := by simp; omega
              have hcq := HC3.out q hlq
              have h58 : (f q != 58) = false := by simpa using hq58
              clear hqn hq58
              go_wp2_with fail
              refine (skip_succ b off n c q f _ hn (by omega) HC3.out).mono ?_
              rintro e w' ⟨rfl, rfl⟩
              have hs2 := scan_le ws f n (q + 1) (by omega)
              generalize hQ2 : scan ws f n (q + 1) = q2 at hs2 ⊢
              have HQ2 : Hid (scan ws f n (q + 1) = q2) := hQ2
              clear hQ2 hcq h58 hqb
              go_wp2_with fail
              cases hp2 : pend f n q2 with
              | none =>
                have HR : Hid (readP f n s = (false, s')) := by
                  show readP f n s = _
                  rw [HS.out, rp_succ, HP.out]; simp only; rw [if_neg hq, if_neg HB.out, HQ.out, HQ2.out, hp2]
                refine (pend_none b off n c q2 f _ hn hs2.2 HC3.out hp2).mono ?_
                rintro e w' ⟨rfl, rfl⟩
                clear hp2
                go_wp2
                go_ret
                exact ⟨ret_bool (by rw [HR.out]), by rw [HR.out]; exact hl3, hbw3⟩
              | some e2 =>
                obtain ⟨m1, m2, m3, _⟩ := pend_bd f n q2 e2 hs2.2 hp2
                refine (pend_some b off n c q2 e2 f _ hn hs2.2 HC3.out hp2).mono ?_
                rintro e w' ⟨rfl, rfl⟩
                have HP2 : Hid (pend f n q2 = some e2) := hp2
                clear hp2
                cases hv : valI (seg f (i + 1) (ke - 1 - (i + 1))) with
                | none =>
                  have HV : Hid (valI (seg f (i + 1) (ke - 1 - (i + 1))) = none) := hv
                  go_wp2_with fail
                  refine (skip_any b off n c e2 f _ hn m3 HC3.out).mono ?_
                  rintro e w' ⟨rfl, rfl⟩
                  have hs3 := scan_le ws f n e2 m3
                  generalize hQ3 : scan ws f n e2 = q3 at hs3 ⊢
                  have HQ3 : Hid (scan ws f n e2 = q3) := hQ3
                  clear hQ3
                  by_cases h3 : q3 = n
                  · have HR : Hid (readP f n s = (false, s')) := by
                      show readP f n s = _
                      rw [HS.out, rp_succ, HP.out]; simp only; rw [if_neg hq, if_neg HB.out, HQ.out, HQ2.out, HP2.out]; simp only; rw [HV.out, HQ3.out, if_pos h3]; rfl
                    have hqb : ((q3 : Int) == (n : Int)) = true := by simp; omega
                    clear h3
                    go_wp2
                    go_ret
                    exact ⟨ret_bool (by rw [HR.out]), by rw [HR.out]; exact hl3, hbw3⟩
                  · have hqb : ((q3 : Int) == (n : Int)) = false := by simp; omega
                    have hl3q : q3 < n := by omega
                    have hcq := HC3.out q3 hl3q
                    by_cases h4 : f q3 = 125
                    · have HR : Hid (readP f n s = (decide (q3 + 1 = n), s')) := by
                        show readP f n s = _
                        rw [HS.out, rp_succ, HP.out]; simp only; rw [if_neg hq, if_neg HB.out, HQ.out, HQ2.out, HP2.out]; simp only; rw [HV.out, HQ3.out, if_neg h3, if_pos h4]; rfl
                      have h4b : (f q3 == 125) = true := by simpa using h4
                      clear h3 h4
                      go_wp2
                      go_ret
                      exact ⟨ret_bool (by rw [HR.out, beq_dec]), by rw [HR.out]; exact hl3, hbw3⟩
                    · have h4b : (f q3 == 125) = false := by simpa using h4
                      by_cases h5 : f q3 ≠ 44
                      · have HR : Hid (readP f n s = (false, s')) := by
                          show readP f n s = _
                          rw [HS.out, rp_succ, HP.out]; simp only; rw [if_neg hq, if_neg HB.out, HQ.out, HQ2.out, HP2.out]; simp only; rw [HV.out, HQ3.out, if_neg h3, if_neg h4, if_pos h5]; rfl
                        have h5b : (f q3 != 44) = true := by simpa using h5
                        clear h3 h4 h5
                        go_wp2
                        go_ret
                        exact ⟨ret_bool (by rw [HR.out]), by rw [HR.out]; exact hl3, hbw3⟩
                      · have HR : Hid (readP f n s = rp f n k (scan ws f n (q3 + 1)) (s')) := by
                          show readP f n s = _
                          rw [HS.out, rp_succ, HP.out]; simp only; rw [if_neg hq, if_neg HB.out, HQ.out, HQ2.out, HP2.out]; simp only; rw [HV.out, HQ3.out, if_neg h3, if_neg h4, if_neg h5]; rfl
                        have h5b : (f q3 != 44) = false := by simpa using h5
                        clear h3 h4 h5
                        go_wp2_with (go_at_call 46; refine (skip_succ b off n c q3 f _ hn (by omega) HC3.out).mono ?_; rintro e w' ⟨rfl, rfl⟩)
                        have hs4 := scan_le ws f n (q3 + 1) (by omega)
                        go_roundw
                        case rel => exact ⟨k, scan ws f n (q3 + 1), s', by omega, by omega, rfl, HR.out, hl3, hbw3⟩
                        case measure => simp [intOf]; omega
                | some j =>
                  have HV : Hid (valI (seg f (i + 1) (ke - 1 - (i + 1))) = some j) := hv
                  have hj := valI_bd _ j hv
                  go_wp2_with fail
                  refine (set_at L j b off q2 (e2 - q2) (c - q2) f s' _ hj hbL (by omega) (fun t ht => HC3.out _ (by omega)) hl3).mono ?_
                  rintro e w4 ⟨rfl, hl4, hb4⟩
                  have hbw4 : Below L w w4 := hbw3.trans hb4
                  have hc4 : ∀ i, i < n → w4.cell? ⟨b, off + i, none⟩ = some (.int .u8 (f i)) := fun i hi => (hb4.cell (p := ⟨b, off + i, none⟩) hbL).trans (HC3.out i hi)
                  have HC4 : Hid (∀ i, i < n → w4.cell? ⟨b, off + i, none⟩ = some (.int .u8 (f i))) := hc4
                  clear hc4 HC3 hb4 hbw3 hl3
                  go_wp2_with fail
                  refine (skip_any b off n c e2 f _ hn m3 HC4.out).mono ?_
                  rintro e w' ⟨rfl, rfl⟩
                  have hs3 := scan_le ws f n e2 m3
                  generalize hQ3 : scan ws f n e2 = q3 at hs3 ⊢
                  have HQ3 : Hid (scan ws f n e2 = q3) := hQ3
                  clear hQ3
                  by_cases h3 : q3 = n
                  · have HR : Hid (readP f n s = (false, put s' j { giv := true, twi := (s' j).giv, raw := seg f q2 (e2 - q2) })) := by
                      show readP f n s = _
                      rw [HS.out, rp_succ, HP.out]; simp only; rw [if_neg hq, if_neg HB.out, HQ.out, HQ2.out, HP2.out]; simp only; rw [HV.out, HQ3.out, if_pos h3]; rfl
                    have hqb : ((q3 : Int) == (n : Int)) = true := by simp; omega
                    clear h3
                    go_wp2
                    go_ret
                    exact ⟨ret_bool (by rw [HR.out]), by rw [HR.out]; exact hl4, hbw4⟩
                  · have hqb : ((q3 : Int) == (n : Int)) = false := by simp; omega
                    have hl3q : q3 < n := by omega
                    have hcq := HC4.out q3 hl3q
                    by_cases h4 : f q3 = 125
                    · have HR : Hid (readP f n s = (decide (q3 + 1 = n), put s' j { giv := true, twi := (s' j).giv, raw := seg f q2 (e2 - q2) })) := by
                        show readP f n s = _
                        rw [HS.out, rp_succ, HP.out]; simp only; rw [if_neg hq, if_neg HB.out, HQ.out, HQ2.out, HP2.out]; simp only; rw [HV.out, HQ3.out, if_neg h3, if_pos h4]; rfl
                      have h4b : (f q3 == 125) = true := by simpa using h4
                      clear h3 h4
                      go_wp2
                      go_ret
                      exact ⟨ret_bool (by rw [HR.out, beq_dec]), by rw [HR.out]; exact hl4, hbw4⟩
                    · have h4b : (f q3 == 125) = false := by simpa using h4
                      by_cases h5 : f q3 ≠ 44
                      · have HR : Hid (readP f n s = (false, put s' j { giv := true, twi := (s' j).giv, raw := seg f q2 (e2 - q2) })) := by
                          show readP f n s = _
                          rw [HS.out, rp_succ, HP.out]; simp only; rw [if_neg hq, if_neg HB.out, HQ.out, HQ2.out, HP2.out]; simp only; rw [HV.out, HQ3.out, if_neg h3, if_neg h4, if_pos h5]; rfl
                        have h5b : (f q3 != 44) = true := by simpa using h5
                        clear h3 h4 h5
                        go_wp2
                        go_ret
                        exact ⟨ret_bool (by rw [HR.out]), by rw [HR.out]; exact hl4, hbw4⟩
                      · have HR : Hid (readP f n s = rp f n k (scan ws f n (q3 + 1)) (put s' j { giv := true, twi := (s' j).giv, raw := seg f q2 (e2 - q2) })) := by
                          show readP f n s = _
                          rw [HS.out, rp_succ, HP.out]; simp only; rw [if_neg hq, if_neg HB.out, HQ.out, HQ2.out, HP2.out]; simp only; rw [HV.out, HQ3.out, if_neg h3, if_neg h4, if_neg h5]; rfl
                        have h5b : (f q3 != 44) = false := by simpa using h5
                        clear h3 h4 h5
                        go_wp2_with (go_at_call 46; refine (skip_succ b off n c q3 f _ hn (by omega) HC4.out).mono ?_; rintro e w' ⟨rfl, rfl⟩)
                        have hs4 := scan_le ws f n (q3 + 1) (by omega)
                        go_roundw
                        case rel => exact ⟨k, scan ws f n (q3 + 1), put s' j { giv := true, twi := (s' j).giv, raw := seg f q2 (e2 - q2) }, by omega, by omega, rfl, HR.out, hl4, hbw4⟩
                        case measure => simp [intOf]; omega

end Go.Proofs.Qxb6000782a
