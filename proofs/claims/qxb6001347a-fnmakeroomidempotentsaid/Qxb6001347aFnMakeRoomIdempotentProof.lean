/-
  The proof of 'Rows.FnMakeRoomIdempotentSaid': the frame is the seat's given shell, the walk is filled in (Qxb6001347aTop and what it imports).
-/
import Derived.Test.Qxb6001347aTop
import Derived.WalkKit
import Derived.ProofKit
import Derived.OpenShut
import Derived.ShutString
import Derived.ChangeOld
import Derived.Below
namespace Go.Proofs.Qxb6001347a.fnMakeRoomIdempotent
open Go.ChangeShapes Go.WideShapes Go.ChangeAt Go.RowKit
open Go.ChangeMaps (open_string shut_string)
set_option linter.unusedVariables false

theorem own : ownKnob Try.prog.godebug = none := by kernel_rfl
theorem laidOut : laidOutB Try.prog = true := by kernel_rfl

/-- WHAT THE WALK IS TOLD OF A SLICE OF INTEGERS THAT CAME IN: it is nil; or it leads to a row of 'cap' cells, the numbers 'zs' (the first 'len' are its elements, the rest its spare room), each fitting its kind. -/
def IsRow (k : IntKind) (w : World) (a : Option Addr) (len cap : Nat) (zs : List Int) : Prop :=
  (a = none ∧ len = 0 ∧ cap = 0 ∧ zs = []) ∨
  ∃ x, a = some x ∧ len ≤ cap ∧ cap ≤ maxLen ∧ zs.length = cap ∧ (∀ i, i < zs.length → w.cell? (x.add i) = some (.int k (zs.getD i 0))) ∧ ∀ n ∈ zs, (Lit.int k n).wf = true

/-- A slice of bytes that is not empty, opened. -/
theorem IsRow.opened {w : World} {a : Option Addr} {len cap : Nat} {zs : List Int} (h : IsRow .u8 w a len cap zs) (h0 : 0 < len) :
    ∃ (b off : Nat) (f : Nat → Int), a = some ⟨b, off, none⟩ ∧ b < w.heap.size ∧ (∀ i, i < len → w.cell? ⟨b, off + i, none⟩ = some (.int .u8 (f i))) := by
  rcases h with ⟨rfl, rfl, rfl, rfl⟩ | ⟨x, rfl, hlc, hm, hz, hcell, hwz⟩
  · omega
  obtain ⟨b, off, spot⟩ := x
  have hc0 := hcell 0 (by omega)
  have hspot : spot = none := by simpa [Addr.add] using World.cell?_spot hc0
  subst hspot
  have hbw : b < w.heap.size := by have := World.block_lt_of_cell? w _ hc0; simpa [Addr.add] using this
  refine ⟨b, off, fun i => zs.getD i 0, rfl, hbw, fun i hi => ?_⟩
  have := hcell i (by omega); rwa [Addr.add_lit] at this

/-- An empty slice: nil, or not. -/
theorem IsRow.empty {w : World} {a : Option Addr} {cap : Nat} {zs : List Int} (h : IsRow .u8 w a 0 cap zs) : (a = none ∧ cap = 0) ∨ ∃ x, a = some x := by
  rcases h with ⟨rfl, h1, rfl, rfl⟩ | ⟨x, rfl, hlc, hm, hz, hcell, hwz⟩
  · exact .inl ⟨rfl, rfl⟩
  · exact .inr ⟨x, rfl⟩

/-! ### STEP 1: THE WALK -/
theorem walk (a0 : Option Addr) (len0 cap0 : Nat) (z0 : List Int) (a1 : Int) (a2 : Int) (a3 : Int) (a4 : Int) (w : World) (w0 : IsRow .u8 w a0 len0 cap0 z0) (w1 : (Lit.int .i64 a1).wf = true) (w2 : (Lit.int .i64 a2).wf = true) (w3 : (Lit.int .i64 a3).wf = true) (w4 : (Lit.int .i64 a4).wf = true) :
    Calls Try.prog 4 #[.slice a0 len0 cap0, .int .i64 a1, .int .i64 a2, .int .i64 a3, .int .i64 a4] w fun e w' => e = .returned (.bool true) ∧ Below w.heap.size w w' := by
  by_cases hl : 1048576 < len0
  · exact walk_long a0 len0 cap0 a1 a2 a3 a4 w hl
  by_cases hs : a3 < 0 ∨ 65536 < a3
  · exact walk_size a0 len0 cap0 a1 a2 a3 a4 w (by omega) hs
  by_cases hp : a2 < 0 ∨ a1 < a2 ∨ (len0 : Int) < a1
  · exact walk_pos a0 len0 cap0 a1 a2 a3 a4 w (by omega) (by omega) (by omega) hp
  by_cases h0 : len0 = 0
  · subst h0
    obtain rfl : a1 = 0 := by omega
    rcases w0.empty with ⟨rfl, rfl⟩ | ⟨x, rfl⟩
    · exact walk_nil a2 a3 a4 w (by omega) (by omega) (by omega) (by omega)
    · exact walk_grow x 0 0 0 cap0 (fun _ => 0) a2 a3 a4 w (by omega) (by omega) (by omega) (by omega) (by omega) (by omega) (by omega) (by omega) (by intro i hi; omega)
  obtain ⟨b, off, f, rfl, hbw, hc⟩ := w0.opened (by omega)
  by_cases hr : a1 < (len0 : Int)
  · exact walk_room b off len0 cap0 f a1 a2 a3 a4 w (by omega) (by omega) (by omega) (by omega) (by omega) hr hbw hc
  obtain rfl : a1 = (len0 : Int) := by omega
  by_cases hg : (len0 : Int) < a3 + 262144
  · exact walk_grow ⟨b, off, none⟩ b off len0 cap0 f a2 a3 a4 w (by omega) (by omega) (by omega) (by omega) (by omega) hg (fun _ => hbw) (fun _ => rfl) hc
  · exact walk_move b off len0 cap0 f a2 a3 a4 w (by omega) (by omega) (by omega) (by omega) (by omega) (by omega) hbw hc

/-! ### THE ROW's STEP: WRITTEN OUT: LEAVE IT -/
set_option maxRecDepth 100000 in
theorem lifted (os : Os) (started : os.Started) (H : Type) (enc : TypeId × Value → H) :
    ReturnsInHanded {} Try.checked os 4 .any (Rows.fnMakeRoomIdempotentSpec.pre6 enc Try.prog Try.f4 Rows.fnMakeRoomIdempotentRow.domain false) (Rows.fnMakeRoomIdempotentSpec.post enc Try.prog Try.f4 false true false false) := by
  refine returnsInHanded_of_change (C := Try.checked) own started (by kernel_rfl) Try.func4
    (ChangeSpec.witness6 (enc := enc) (C := Try.checked) false ⟨#[], #[.slice none 0 0, .int .i64 0, .int .i64 0, .int .i64 0, .int .i64 0], []⟩ 8 (by kernel_rfl) (by kernel_rfl) (by kernel_rfl) (by kernel_rfl)) ?_
  intro W base args ds gs before hval0 hW hcnd _
  have hval : ∀ (j : Nat) t v, Try.f4.params[j]? = some t → args[j]? = some v → Value.okWide Try.prog W .any base t v := hval0
  have hW' := hW
  obtain ⟨p, q, hA0, hV, rfl, hfz, hnd⟩ := hW
  have hA : DataW.TrodAll enc Try.prog W 0 (fun _ => true) true Try.f4.params.toList args.toList ds p := hA0
  rw [Try.params4] at hA hval
  obtain ⟨v0, vs0, d0, ds0, p0, q0, hargs, rfl, rfl, h0, r0⟩ := trodAll_cons hA
  obtain ⟨v1, vs1, d1, ds1, p1, q1, rfl, rfl, rfl, h1, r1⟩ := trodAll_cons r0
  obtain ⟨v2, vs2, d2, ds2, p2, q2, rfl, rfl, rfl, h2, r2⟩ := trodAll_cons r1
  obtain ⟨v3, vs3, d3, ds3, p3, q3, rfl, rfl, rfl, h3, r3⟩ := trodAll_cons r2
  obtain ⟨v4, vs4, d4, ds4, p4, q4, rfl, rfl, rfl, h4, r4⟩ := trodAll_cons r3
  obtain ⟨rfl, rfl, rfl⟩ := trodAll_nil r4
  obtain rfl : args = #[v0, v1, v2, v3, v4] := by cases args; simp_all
  obtain ⟨rfl, rfl⟩ := trodVars_none hV
  obtain ⟨a0, len0, cap0, rfl⟩ := okWide_slice Try.underlying22 (hval 0 22 v0 rfl rfl)
  have k0 := h0
  have lt0 : ∀ x ∈ p0, x.block < W.heap.size := by obtain ⟨m, hm⟩ := k0; exact DataW.trod_lt m _ _ _ hm
  obtain ⟨z0, w0⟩ : ∃ zs, IsRow .u8 W a0 len0 cap0 zs := by
    obtain ⟨fuel, hf⟩ := h0
    rcases open_ints Try.underlying22 Try.underlying5 (by kernel_rfl) hf with ⟨hcs, _⟩ | ⟨x, l, c, zs, hcs, _, hl, hm, hz, _, hcell, hwz⟩
    · simp [Value.cells] at hcs
      obtain ⟨rfl, rfl, rfl⟩ := hcs
      exact ⟨[], .inl ⟨rfl, rfl, rfl, rfl⟩⟩
    · simp [Value.cells] at hcs
      obtain ⟨rfl, rfl, rfl⟩ := hcs
      exact ⟨zs, .inr ⟨_, rfl, hl, hm, by simpa using hz, hcell, hwz⟩⟩
  obtain ⟨a1, rfl, rfl, rfl, w1⟩ := open_int Try.underlying3 (hval 1 3 v1 rfl rfl) h1
  obtain ⟨a2, rfl, rfl, rfl, w2⟩ := open_int Try.underlying3 (hval 2 3 v2 rfl rfl) h2
  obtain ⟨a3, rfl, rfl, rfl, w3⟩ := open_int Try.underlying3 (hval 3 3 v3 rfl rfl) h3
  obtain ⟨a4, rfl, rfl, rfl, w4⟩ := open_int Try.underlying2 (hval 4 2 v4 rfl rfl) h4
  clear hA0 hval0
  refine (walk a0 len0 cap0 z0 a1 a2 a3 a4 W w0 w1 w2 w3 w4).mono fun e W' ⟨he, bel⟩ => ?_
  subst he
  exact ⟨_, rfl, _, _, _, [], _, [], hW', trodAll_mk1 (shut_bool Try.underlying4 _), (trodAll_cons_mk (Below.trod laidOut (by kernel_rfl) (of_decide_eq_true (by kernel_rfl)) k0 bel lt0) (trodAll_cons_mk (shut_int Try.underlying3 w1) (trodAll_cons_mk (shut_int Try.underlying3 w2) (trodAll_cons_mk (shut_int Try.underlying3 w3) (trodAll_cons_mk (shut_int Try.underlying2 w4) trodAll_mk0))))), rfl, bel.frame _, fun h => by cases h⟩

theorem over : Rows.fnMakeRoomIdempotentRow.holds Try.pinned (OpenSpec.ofChange Rows.fnMakeRoomIdempotentSpec) :=
  OpenClaim.holds_of_wide 4 Try.f4 rfl rfl rfl rfl rfl rfl rfl ⟨rfl, rfl, rfl, rfl, rfl⟩ rfl rfl rfl rfl rfl (by kernel_rfl) Try.func4 (by kernel_rfl)
    (of_decide_eq_true (by kernel_rfl)) (by unfold Func.isWrapper; first | (rw [if_pos (by decide +kernel)]; kernel_rfl) | (rw [if_neg (by decide +kernel)]; exact ⟨rfl, rfl⟩))
    (fun os started H enc _ => lifted os started H enc)

/-- ████ THE STATEMENT ████ -/
theorem proved : Rows.FnMakeRoomIdempotentSaid := over
#print axioms proved
end Go.Proofs.Qxb6001347a.fnMakeRoomIdempotent
