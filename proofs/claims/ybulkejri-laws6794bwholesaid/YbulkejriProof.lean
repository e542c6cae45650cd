import Derived.Test.YbulkejriLaw0
import Derived.WalkKit
import Derived.ProofKit
import Derived.OpenShut
import Derived.ShutString
import Derived.ChangeOld
import Derived.Below
import Derived.Carry
import Derived.Deep.SlicePairs
namespace Go.Proofs.Ybulkejri.lawS6794BWhole
open Go.ChangeShapes Go.WideShapes Go.ChangeAt Go.RowKit
open Go.ChangeMaps (open_string shut_string)
set_option linter.unusedVariables false

theorem own : ownKnob Yba.prog.godebug = none := by kernel_rfl
theorem laidOut : laidOutB Yba.prog = true := by kernel_rfl

/-- What the walk is told of the slice of pairs that came in: it is nil; or its address leads to cells that hold the pairs' numbers. -/
def IsPairs (w : World) (a : Option Addr) (len : Nat) (F U : Nat → Int) : Prop :=
  len = 0 ∨ ∃ x, a = some x ∧ ∀ i, i < len → w.cell? (x.add (i * 2)) = some (.int .i64 (F i)) ∧ w.cell? (x.add (i * 2 + 1)) = some (.int .i64 (U i)) ∧ (Lit.int .i64 (F i)).wf = true ∧ (Lit.int .i64 (U i)).wf = true

theorem walk (a0 : Option Addr) (len0 cap0 : Nat) (F U : Nat → Int) (a1 : Int) (w : World) (w0 : IsPairs w a0 len0 F U) (w1 : (Lit.int .i64 a1).wf = true) :
    Calls Yba.prog 3 #[.slice a0 len0 cap0, .int .i64 a1] w fun e w' => e = .returned (.bool true) ∧ Below w.heap.size w w' := by
  have b1 := bounds_i64 w1
  by_cases hn : 1048576 < len0
  · exact law_long a1 a0 len0 cap0 hn w
  · by_cases hz : len0 = 0
    · subst hz; exact law_zero a1 b1.1 b1.2 a0 cap0 w
    · rcases w0 with h | ⟨⟨b, off, spot⟩, rfl, hx⟩
      · exact absurd h hz
      · have hspot : spot = .none := by simpa [Addr.add] using World.cell?_spot (hx 0 (by omega)).1
        subst hspot
        have e : ∀ j, (⟨b, off, .none⟩ : Addr).add j = ⟨b, off + j, .none⟩ := fun j => Go.WideShapes.add_plain _ _ _
        have hb : b < w.heap.size := World.block_lt_of_cell? w ⟨b, off, .none⟩ (by simpa [Addr.add] using (hx 0 (by omega)).1)
        exact law_some F U a1 b1.1 b1.2 b off len0 cap0 (by omega) w hb (fun i hi => by have := (hx i hi).1; rw [e] at this; exact this)
          (fun i hi => by have := (hx i hi).2.1; rw [e] at this; exact this) (fun i hi => bounds_i64 (hx i hi).2.2.1) (fun i hi => bounds_i64 (hx i hi).2.2.2)

/-! ### THE ROW's STEP: WRITTEN OUT: LEAVE IT -/
set_option maxRecDepth 100000 in
theorem lifted (os : Os) (started : os.Started) (H : Type) (enc : TypeId × Value → H) :
    ReturnsInHanded {} Yba.checked os 3 .any (Rows.lawS6794BWholeSpec.pre6 enc Yba.prog Yba.f3 Rows.lawS6794BWholeRow.domain false) (Rows.lawS6794BWholeSpec.post enc Yba.prog Yba.f3 false true false false) := by
  refine returnsInHanded_of_change (C := Yba.checked) own started (by kernel_rfl) Yba.func3
    (ChangeSpec.witness6 (enc := enc) (C := Yba.checked) false ⟨#[], #[.slice none 0 0, .int .i64 0], []⟩ 8 (by kernel_rfl) (by kernel_rfl) (by kernel_rfl) (by kernel_rfl)) ?_
  intro W base args ds gs before hval0 hW hcnd _
  have hval : ∀ (j : Nat) t v, Yba.f3.params[j]? = some t → args[j]? = some v → Value.okWide Yba.prog W .any base t v := hval0
  have hW' := hW
  obtain ⟨p, q, hA0, hV, rfl, hfz, hnd⟩ := hW
  have hA : DataW.TrodAll enc Yba.prog W 0 (fun _ => true) true Yba.f3.params.toList args.toList ds p := hA0
  rw [Yba.params3] at hA hval
  obtain ⟨v0, vs0, d0, ds0, p0, q0, hargs, rfl, rfl, h0, r0⟩ := trodAll_cons hA
  obtain ⟨v1, vs1, d1, ds1, p1, q1, rfl, rfl, rfl, h1, r1⟩ := trodAll_cons r0
  obtain ⟨rfl, rfl, rfl⟩ := trodAll_nil r1
  obtain rfl : args = #[v0, v1] := by cases args; simp_all
  obtain ⟨rfl, rfl⟩ := trodVars_none hV
  obtain ⟨a0, len0, cap0, rfl⟩ := okWide_slice Yba.underlying22 (hval 0 22 v0 rfl rfl)
  have k0 := h0
  have lt0 : ∀ x ∈ p0, x.block < W.heap.size := by obtain ⟨m, hm⟩ := k0; exact DataW.trod_lt m _ _ _ hm
  obtain ⟨F, U, w0⟩ : ∃ F U, IsPairs W a0 len0 F U := by
    obtain ⟨fuel, hf⟩ := h0
    rcases Go.Deep.open_slice_pairs Yba.underlying22 Yba.underlying30 (by kernel_rfl) rfl rfl (by kernel_rfl) (by kernel_rfl) hf with ⟨hcs, _⟩ | ⟨x, l, c, m, n, V0, V1, D0, D1, P0, P1, hcs, _, hl, hm, hmm, _, hx⟩
    · simp [Value.cells] at hcs
      exact ⟨fun _ => 0, fun _ => 0, .inl hcs.2.1⟩
    · simp [Value.cells] at hcs
      obtain ⟨rfl, rfl, rfl⟩ := hcs
      refine ⟨fun i => intOf (V0 i), fun i => intOf (V1 i), .inr ⟨x, rfl, fun i hi => ?_⟩⟩
      have him : i < m := by rw [hmm]; split <;> omega
      obtain ⟨g0, g1, t0, t1⟩ := hx i him
      obtain ⟨q0, e0, _, f0⟩ := DataW.trod_int Yba.underlying2 t0
      obtain ⟨q1, e1, _, f1⟩ := DataW.trod_int Yba.underlying2 t1
      simp at e0 e1
      show W.cell? (x.add (i * 2)) = some (.int .i64 (intOf (V0 i))) ∧ W.cell? (x.add (i * 2 + 1)) = some (.int .i64 (intOf (V1 i))) ∧ (Lit.int .i64 (intOf (V0 i))).wf = true ∧ (Lit.int .i64 (intOf (V1 i))).wf = true
      rw [e0] at g0 ⊢
      rw [e1] at g1 ⊢
      exact ⟨g0, g1, f0, f1⟩
  obtain ⟨a1, rfl, rfl, rfl, w1⟩ := open_int Yba.underlying2 (hval 1 2 v1 rfl rfl) h1
  clear hA0 hval0
  refine (walk a0 len0 cap0 F U a1 W w0 w1).mono fun e W' ⟨he, bel⟩ => ?_
  subst he
  exact ⟨_, rfl, _, _, _, [], _, [], hW', trodAll_mk1 (shut_bool Yba.underlying4 _), (trodAll_cons_mk (Below.trod laidOut (by kernel_rfl) (of_decide_eq_true (by kernel_rfl)) k0 bel lt0) (trodAll_cons_mk (shut_int Yba.underlying2 w1) trodAll_mk0)), rfl, bel.frame _, fun h => by cases h⟩

theorem over : Rows.lawS6794BWholeRow.holds Yba.pinned (OpenSpec.ofChange Rows.lawS6794BWholeSpec) :=
  OpenClaim.holds_of_wide 3 Yba.f3 rfl rfl rfl rfl rfl rfl rfl ⟨rfl, rfl, rfl, rfl, rfl⟩ rfl rfl rfl rfl rfl (by kernel_rfl) Yba.func3 (by kernel_rfl)
    (of_decide_eq_true (by kernel_rfl)) (by unfold Func.isWrapper; first | (rw [if_pos (by decide +kernel)]; kernel_rfl) | (rw [if_neg (by decide +kernel)]; exact ⟨rfl, rfl⟩))
    (fun os started H enc _ => lifted os started H enc)

/-- ████ THE STATEMENT ████ -/
theorem proved : Rows.LawS6794BWholeSaid := over
end Go.Proofs.Ybulkejri.lawS6794BWhole
