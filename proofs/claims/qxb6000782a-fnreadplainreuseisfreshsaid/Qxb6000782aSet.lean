/-
  The line and the six raw texts that it owns; the walk of set.
-/
import Derived.Test.Qxb6000782aLine
import Derived.Maps.AppendAt
namespace Go.Proofs.Qxb6000782a
open Go.ChangeShapes Go.WideShapes Go.ChangeAt Go.RowKit
set_option linter.unusedVariables false

/-- Block L holds the line s; each raw text is nil or lies in a row of its own behind L, no two in one row. -/
def LineAt (w : World) (L : Nat) (s : Nat → JV) : Prop :=
  ∃ vs : Nat → Value, LineB w L vs (fun j => (s j).giv) (fun j => (s j).twi) ∧
    (∀ j, j < 6 → w.ownsRow (L + 1) 5 1 (vs j) (s j).raw.length ((s j).raw.map (Value.int .u8))) ∧
    (∀ i j, i < 6 → j < 6 → i ≠ j → (vs i).ownBlock = none ∨ (vs i).ownBlock ≠ (vs j).ownBlock)

theorem LineAt.lt {w : World} {L : Nat} {s : Nat → JV} (h : LineAt w L s) : L < w.heap.size := by obtain ⟨vs, h, _⟩ := h; exact h.lt
theorem LineAt.below {w w' : World} {L : Nat} {s : Nat → JV} (h : LineAt w L s) (hb : Below w.heap.size w w') : LineAt w' L s := by
  obtain ⟨vs, h1, h2, h3⟩ := h
  refine ⟨vs, h1.block (hb.block L h1.lt), fun j hj => ?_, h3⟩
  exact (h2 j hj).kept (grownBy_below (row := none) hb) (by cases (vs j).ownBlock <;> simp)

/-- What reset leaves. -/
theorem LineAt.reset {w : World} {L : Nat} {s : Nat → JV} (h : LineAt w L s) :
    Calls Try.prog 45 #[.pointer (some ⟨L, 0, none⟩)] w fun e w' => e = .returned (.tuple #[]) ∧ LineAt w' L (resetV s) ∧ Below L w w' := by
  obtain ⟨vs, h1, h2, h3⟩ := h
  refine (reset_any L vs _ _ w h1).mono ?_
  rintro e w' ⟨rfl, hl, hg⟩
  refine ⟨rfl, ⟨vs, hl, fun j hj => ?_, h3⟩, ?_⟩
  · refine (h2 j hj).kept hg ?_
    cases hv : (vs j).ownBlock with
    | none => exact .inl rfl
    | some k => exact .inr (fun e => by have := ((h2 j hj).lt k hv).1; injection e with e; omega)
  · exact ⟨hg.os, hg.tape, hg.output, hg.size, fun k hk => hg.block k (by have := h1.lt; omega) (by intro e; injection e with e; omega)⟩

/-- What set does to the blocks. -/
theorem LineAt.put {w w1 w2 : World} {L : Nat} {s : Nat → JV} {vs : Nat → Value} {j : Nat} {v' : Value} {r : List Int} (hj : j < 6)
    (h1 : LineB w L vs (fun j => (s j).giv) (fun j => (s j).twi)) (h2 : ∀ j, j < 6 → w.ownsRow (L + 1) 5 1 (vs j) (s j).raw.length ((s j).raw.map (Value.int .u8)))
    (h3 : ∀ i j, i < 6 → j < 6 → i ≠ j → (vs i).ownBlock = none ∨ (vs i).ownBlock ≠ (vs j).ownBlock)
    (e1 : w1 = w.setCell ⟨L, 3 * j + 2, none⟩ (.bool (s j).giv)) (hown : w2.ownsRow (L + 1) 5 1 v' r.length (r.map (Value.int .u8))) (hg : w1.grownBy w2 (vs j).ownBlock)
    (hloc : v'.ownBlock = (vs j).ownBlock ∨ v'.ownBlock = some w1.heap.size) :
    LineAt ((w2.setCell ⟨L, 3 * j, none⟩ v').setCell ⟨L, 3 * j + 1, none⟩ (.bool true)) L (put s j { giv := true, twi := (s j).giv, raw := r }) ∧ Below L w ((w2.setCell ⟨L, 3 * j, none⟩ v').setCell ⟨L, 3 * j + 1, none⟩ (.bool true)) := by
  subst e1
  have hL := h1.lt
  have hs1 : (w.setCell ⟨L, 3 * j + 2, none⟩ (.bool (s j).giv)).heap.size = w.heap.size := by simp [World.setCell]
  rw [hs1] at hloc
  have hrow : ∀ i k, i < 6 → (vs i).ownBlock = some k → L + 1 ≤ k ∧ k < w.heap.size := fun i k hi hk => (h2 i hi).lt k hk
  have hLrow : some L ≠ (vs j).ownBlock := fun e => by have := hrow j L hj e.symm; omega
  have hb1 : LineB w2 L vs (fun j => (s j).giv) (fup (fun j => (s j).twi) j (s j).giv) := (h1.setT j hj (s j).giv).block (hg.block L (by rw [hs1]; exact hL) hLrow)
  refine ⟨⟨fup vs j v', ?_, ?_, ?_⟩, ?_⟩
  · refine (((hb1.setR j hj v').setG j hj true)).congr (fun _ _ => rfl) (fun i hi => ?_) (fun i hi => ?_)
    · unfold fup Qxb6000782a.put; by_cases e : i = j <;> simp [e]
    · unfold fup Qxb6000782a.put; by_cases e : i = j <;> simp [e]
  · intro i hi
    by_cases e : i = j
    · subst e
      have hv : fup vs i v' i = v' := if_pos rfl
      have hp : Qxb6000782a.put s i { giv := true, twi := (s i).giv, raw := r } i = { giv := true, twi := (s i).giv, raw := r } := if_pos rfl
      rw [hv, hp]
      exact ownsRow_setCell_below (ownsRow_setCell_below hown (by show L < L + 1; omega) _) (by show L < L + 1; omega) _
    · have hv : fup vs j v' i = vs i := if_neg e
      have hp : Qxb6000782a.put s j { giv := true, twi := (s j).giv, raw := r } i = s i := if_neg e
      rw [hv, hp]
      refine ownsRow_setCell_below (ownsRow_setCell_below ?_ (by show L < L + 1; omega) _) (by show L < L + 1; omega) _
      refine (ownsRow_setCell_below (h2 i hi) (by show L < L + 1; omega) _).kept hg ?_
      exact h3 i j hi hj e
  · intro a b ha hb hab
    by_cases ea : a = j
    · subst ea
      have hva : fup vs a v' a = v' := if_pos rfl
      have hvb : fup vs a v' b = vs b := if_neg (Ne.symm hab)
      rw [hva, hvb]
      rcases hloc with hl | hl
      · rw [hl]; exact h3 a b ha hb hab
      · rw [hl]; refine .inr (fun e => ?_)
        have := (hrow b _ hb e.symm).2; omega
    · have hva : fup vs j v' a = vs a := if_neg ea
      rw [hva]
      by_cases eb : b = j
      · subst eb
        have hvb : fup vs b v' b = v' := if_pos rfl
        rw [hvb]
        rcases hloc with hl | hl
        · rw [hl]; exact h3 a b ha hb hab
        · rw [hl]
          cases hva2 : (vs a).ownBlock with
          | none => exact .inl rfl
          | some k => exact .inr (fun e => by cases e; have := (hrow a _ ha hva2).2; omega)
      · have hvb : fup vs j v' b = vs b := if_neg eb
        rw [hvb]; exact h3 a b ha hb hab
  · have hB0 : Below L w (w.setCell ⟨L, 3 * j + 2, none⟩ (.bool (s j).giv)) := (Below.refl _ _).setCell (p := ⟨L, 3 * j + 2, none⟩) (Nat.le_refl _) _
    have hB1 : Below L (w.setCell ⟨L, 3 * j + 2, none⟩ (.bool (s j).giv)) w2 := ⟨hg.os, hg.tape, hg.output, hg.size, fun k hk => hg.block k (by rw [hs1]; omega) (fun e => by have := (hrow j k hj e.symm).1; omega)⟩
    exact ((hB0.trans hB1).setCell (p := ⟨L, 3 * j, none⟩) (Nat.le_refl _) _).setCell (p := ⟨L, 3 * j + 1, none⟩) (Nat.le_refl _) _

theorem seg_news (f : Nat → Int) (m : Nat) (w : World) (b off : Nat) (hc : ∀ i, i < m → w.cell? ⟨b, off + i, none⟩ = some (.int .u8 (f i))) :
    ∀ j u, ((seg f 0 m).map (Value.int .u8))[j]? = some u → w.cell? ((⟨b, off, none⟩ : Addr).add j) = some u := by
  intro j u hu
  have hj : j < m := by
    have := (List.getElem?_eq_some_iff.1 hu).1
    simpa [seg] using this
  rw [List.getElem?_map, seg_at f 0 m j hj] at hu
  rw [Addr.add_lit, hc j hj]
  simpa using hu

theorem owns_shape {w : World} {B e sz n : Nat} {v : Value} {xs : List Value} (h : w.ownsRow B e sz v n xs) : ∃ ao nn cc, v = .slice ao nn cc := by
  rcases h.2 with ⟨h, _⟩ | ⟨g, cap, cur, h, _⟩
  · exact ⟨_, _, _, h⟩
  · exact ⟨_, _, _, h⟩

/-- set. -/
theorem set_any (L j b off m c : Nat) (f : Nat → Int) (s : Nat → JV) (w : World) (hj : j < 6) (hbL : b < L) (hm : m ≤ 1048576)
    (hc : ∀ i, i < m → w.cell? ⟨b, off + i, none⟩ = some (.int .u8 (f i))) (hl : LineAt w L s) :
    Calls Try.prog 47 #[.pointer (some ⟨L, 3 * j, none⟩), .slice (some ⟨b, off, none⟩) m c] w fun e w' =>
      e = .returned (.tuple #[]) ∧ LineAt w' L (put s j { giv := true, twi := (s j).giv, raw := seg f 0 m }) ∧ Below L w w' := by
  obtain ⟨vs, h1, h2, h3⟩ := hl
  have cR := h1.cellR j hj
  have cG := h1.cellG j hj
  have cT := h1.cellT j hj
  have fR := h1.frozen (3 * j)
  have fG := h1.frozen (3 * j + 1)
  have fT := h1.frozen (3 * j + 2)
  obtain ⟨i0, hi, hz0, hz1, hz2⟩ := info_parts Try.info5
  have hsn : ((seg f 0 m).map (Value.int .u8)).length = m * 1 := by simp [seg]
  have hnews : ∀ k u, ((seg f 0 m).map (Value.int .u8))[k]? = some u → (w.setCell ⟨L, 3 * j + 2, none⟩ (.bool (s j).giv)).cell? ((⟨b, off, none⟩ : Addr).add k) = some u :=
    seg_news f m _ b off (fun i hi => by rw [World.cell?_setCell_other _ _ _ _ (by intro e; have := congrArg Addr.block e; simp at this; omega)]; exact hc i hi)
  have hLs : L + 1 ≤ (w.setCell ⟨L, 3 * j + 2, none⟩ (.bool (s j).giv)).heap.size := by have := h1.lt; simp [World.setCell]; omega
  have hrowL : ∀ w2, (w.setCell ⟨L, 3 * j + 2, none⟩ (.bool (s j).giv)).grownBy w2 (vs j).ownBlock → LineB w2 L vs (fun j => (s j).giv) (fup (fun j => (s j).twi) j (s j).giv) := fun w2 hg =>
    (h1.setT j hj (s j).giv).block (hg.block L (by omega) (fun e => by have := ((h2 j hj).lt L e.symm).1; omega))
  have HRL : Hid (∀ w2, (w.setCell ⟨L, 3 * j + 2, none⟩ (.bool (s j).giv)).grownBy w2 (vs j).ownBlock → LineB w2 L vs (fun j => (s j).giv) (fup (fun j => (s j).twi) j (s j).giv)) := hrowL
  clear hrowL
  rcases (h2 j hj).2 with ⟨hv, hn⟩ | ⟨g, cap, cur, hv, hbg, hgg, hnc, hcm, hcs, htk⟩
  · have hob : Value.ownBlock (.slice none 0 0) = (vs j).ownBlock := by rw [hv]
    rw [hv] at cR
    have HO : Hid (Value.ownBlock (.slice none 0 0) = (vs j).ownBlock) := hob
    clear hob hn hv hc
    go_enter Try.func47, Try.ntmps47
    go_wp2_with (at_builtin; refine wpList_append_own_at _ rfl _ _ 22 rfl (L + 1) 5 i0 (.int .u8 0) 1 1 Try.underlying22 hi hz0 hz1 hz2 rfl (by decide) (.slice none 0 0) 0 [] rfl (World.ownsRow_nil _ _ _ _) ⟨b, off, none⟩ m c _ rfl hsn hnews (ints_oneCell .u8 _) (by unfold maxLen; omega) (by omega) hLs ?_; intro v' w2 hown hgr _ hloc; obtain ⟨ao, nn, cc, rfl⟩ := owns_shape hown; rw [HO.out] at hgr hloc; have hlb := HRL.out w2 hgr; have cR2 := hlb.cellR j hj; have cG2 := hlb.cellG j hj; have fR2 := hlb.frozen (3 * j); have fG2 := hlb.frozen (3 * j + 1))
    go_end0
    have hP := LineAt.put (w1 := w.setCell ⟨L, 3 * j + 2, none⟩ (.bool (s j).giv)) (w2 := w2) (r := seg f 0 m) hj h1 h2 h3 rfl (by rw [seg_len]; simpa using hown) hgr hloc
    exact ⟨rfl, hP⟩
  · have hob : Value.ownBlock (.slice (some ⟨g, 0, none⟩) 0 cap) = (vs j).ownBlock := by rw [hv]; rfl
    rw [hv] at cR
    have HO : Hid (Value.ownBlock (.slice (some ⟨g, 0, none⟩) 0 cap) = (vs j).ownBlock) := hob
    have hown0 : (w.setCell ⟨L, 3 * j + 2, none⟩ (.bool (s j).giv)).ownsRow (L + 1) 5 1 (.slice (some ⟨g, 0, none⟩) 0 cap) 0 [] := by
      refine ownsRow_setCell_below ?_ (by show L < L + 1; omega) _
      exact ⟨rfl, .inr ⟨g, cap, cur, rfl, hbg, hgg, by omega, hcm, hcs, by simp⟩⟩
    clear hob hv hc
    have hcm2 : cap ≤ 9223372036854775807 := by unfold maxLen at hcm; omega
    go_enter Try.func47, Try.ntmps47
    go_wp2_with (at_builtin; refine wpList_append_own_at _ rfl _ _ 22 rfl (L + 1) 5 i0 (.int .u8 0) 1 1 Try.underlying22 hi hz0 hz1 hz2 rfl (by decide) (.slice (some ⟨g, 0, none⟩) 0 cap) 0 [] rfl hown0 ⟨b, off, none⟩ m c _ rfl hsn hnews (ints_oneCell .u8 _) (by unfold maxLen; omega) (by omega) hLs ?_; intro v' w2 hown hgr _ hloc; obtain ⟨ao, nn, cc, rfl⟩ := owns_shape hown; rw [HO.out] at hgr hloc; have hlb := HRL.out w2 hgr; have cR2 := hlb.cellR j hj; have cG2 := hlb.cellG j hj; have fR2 := hlb.frozen (3 * j); have fG2 := hlb.frozen (3 * j + 1))
    go_end0
    have hP := LineAt.put (w1 := w.setCell ⟨L, 3 * j + 2, none⟩ (.bool (s j).giv)) (w2 := w2) (r := seg f 0 m) hj h1 h2 h3 rfl (by rw [seg_len]; simpa using hown) hgr hloc
    exact ⟨rfl, hP⟩

end Go.Proofs.Qxb6000782a
