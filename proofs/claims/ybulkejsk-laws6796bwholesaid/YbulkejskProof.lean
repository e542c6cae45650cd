import Derived.Test.YbulkejskLaw
import Derived.WalkKit
import Derived.ProofKit
import Derived.OpenShut
import Derived.ShutString
import Derived.ChangeOld
import Derived.Below
import Derived.Carry
import Derived.Deep.SlicePairs
namespace Go.Proofs.Ybulkejsk.lawS6796BWhole
open Go.ChangeShapes Go.WideShapes Go.ChangeAt Go.RowKit
open Go.ChangeMaps (open_string shut_string)
set_option linter.unusedVariables false

theorem own : ownKnob Yba.prog.godebug = none := by kernel_rfl
theorem laidOut : laidOutB Yba.prog = true := by kernel_rfl

/-- What the walk is told of a slice of entries that came in: empty; or its address leads to cells that hold the entries' numbers. -/
def IsPairs (w : World) (a : Option Addr) (len : Nat) (F G : Nat → Int) : Prop :=
  len = 0 ∨ ∃ x, a = some x ∧ ∀ i, i < len → w.cell? (x.add (i * 2)) = some (.int .u8 (F i)) ∧ w.cell? (x.add (i * 2 + 1)) = some (.int .u64 (G i)) ∧ (Lit.int .u8 (F i)).wf = true ∧ (Lit.int .u64 (G i)).wf = true

theorem src_of {w : World} {a : Option Addr} {n : Nat} {F G : Nat → Int} (h : IsPairs w a n F G) (hn : n ≤ 1048576) : ∃ rb ro, Src w a n (fun i => (F i).toNat) G rb ro := by
  by_cases hz : n = 0
  · subst hz
    exact ⟨0, 0, ⟨hn, fun q => by omega, fun q => by omega, fun i q => by omega, fun i q => by omega, fun i q => by omega, fun i q => by omega⟩⟩
  · rcases h with h | ⟨⟨b, off, spot⟩, rfl, hx⟩
    · exact absurd h hz
    · have hspot : spot = .none := by simpa [Addr.add] using World.cell?_spot (hx 0 (by omega)).1
      subst hspot
      have e : ∀ j, (⟨b, off, .none⟩ : Addr).add j = ⟨b, off + j, .none⟩ := fun j => Go.WideShapes.add_plain _ _ _
      have hb : b < w.heap.size := World.block_lt_of_cell? w ⟨b, off, .none⟩ (by simpa [Addr.add] using (hx 0 (by omega)).1)
      refine ⟨b, off, ⟨hn, fun _ => rfl, fun _ => hb, fun i hi => ?_, fun i hi => ?_, fun i hi => ?_, fun i hi => ?_⟩⟩
      · have := (hx i hi).1
        have hb8 := bounds_u8 (hx i hi).2.2.1
        rw [e] at this
        rw [show (((F i).toNat : Nat) : Int) = F i by omega]; exact this
      · have := (hx i hi).2.1; rw [e] at this; exact this
      · have hb8 := bounds_u8 (hx i hi).2.2.1; omega
      · exact bounds_u64 (hx i hi).2.2.2

set_option maxRecDepth 100000 in
theorem long0 (a0 a1 : Option Addr) (n0 n1 c0 c1 : Nat) (h : 1048576 < n0) (w : World) :
    Calls Yba.prog 3 #[.slice a0 n0 c0, .slice a1 n1 c1] w fun e w' => e = .returned (.bool true) ∧ Below w.heap.size w w' := by
  have hlen : decide ((1048576 : Int) < (n0 : Int)) = true := decide_eq_true (by omega)
  go_enter Yba.func3, Yba.ntmps3
  go_wp2_with fail
  go_ret
  exact ⟨rfl, Below.refl _ _⟩
set_option maxRecDepth 100000 in
theorem long1 (a0 a1 : Option Addr) (n0 n1 c0 c1 : Nat) (h0 : n0 ≤ 1048576) (h : 1048576 < n1) (w : World) :
    Calls Yba.prog 3 #[.slice a0 n0 c0, .slice a1 n1 c1] w fun e w' => e = .returned (.bool true) ∧ Below w.heap.size w w' := by
  have hlen0 : decide ((1048576 : Int) < (n0 : Int)) = false := decide_eq_false (by omega)
  have hlen : decide ((1048576 : Int) < (n1 : Int)) = true := decide_eq_true (by omega)
  go_enter Yba.func3, Yba.ntmps3
  go_wp2_with fail
  go_ret
  exact ⟨rfl, Below.refl _ _⟩

theorem walk (a0 : Option Addr) (len0 cap0 : Nat) (F0 G0 : Nat → Int) (a1 : Option Addr) (len1 cap1 : Nat) (F1 G1 : Nat → Int) (w : World) (w0 : IsPairs w a0 len0 F0 G0) (w1 : IsPairs w a1 len1 F1 G1) :
    Calls Yba.prog 3 #[.slice a0 len0 cap0, .slice a1 len1 cap1] w fun e w' => e = .returned (.bool true) ∧ Below w.heap.size w w' := by
  by_cases h0 : 1048576 < len0
  · exact long0 a0 a1 len0 len1 cap0 cap1 h0 w
  · by_cases h1 : 1048576 < len1
    · exact long1 a0 a1 len0 len1 cap0 cap1 (by omega) h1 w
    · obtain ⟨rb0, ro0, s0⟩ := src_of w0 (by omega)
      obtain ⟨rb1, ro1, s1⟩ := src_of w1 (by omega)
      exact law_walk a0 a1 len0 len1 cap0 cap1 _ _ G0 G1 rb0 ro0 rb1 ro1 w s0 s1

/-! ### THE ROW's STEP: WRITTEN OUT: LEAVE IT -/
set_option maxRecDepth 100000 in
theorem lifted (os : Os) (started : os.Started) (H : Type) (enc : TypeId × Value → H) :
    ReturnsInHanded {} Yba.checked os 3 .any (Rows.lawS6796BWholeSpec.pre6 enc Yba.prog Yba.f3 Rows.lawS6796BWholeRow.domain false) (Rows.lawS6796BWholeSpec.post enc Yba.prog Yba.f3 false true false false) := by
  refine returnsInHanded_of_change (C := Yba.checked) own started (by kernel_rfl) Yba.func3
    (ChangeSpec.witness6 (enc := enc) (C := Yba.checked) false ⟨#[], #[.slice none 0 0, .slice none 0 0], []⟩ 8 (by kernel_rfl) (by kernel_rfl) (by kernel_rfl) (by kernel_rfl)) ?_
  intro W base args ds gs before hval0 hW hcnd _
  have hval : ∀ (j : Nat) t v, Yba.f3.params[j]? = some t → args[j]? = some v → Value.okWide Yba.prog W .any base t v := hval0
  have hW' := hW
  obtain ⟨p, q, hA0, hV, rfl, hfz, hnd⟩ := hW
  have hA : DataW.TrodAll enc Yba.prog W 0 (fun _ => true) true Yba.f3.params.toList args.toList ds p := hA0
  rw [Yba.params3] at hA hval
  obtain ⟨v0, vs0, d0, ds0, p0, q0, hargs, rfl, rfl, h0, r0⟩ := trodAll_cons hA
  obtain ⟨v1, vs1, d1, ds1, p1, q1, rfl, rfl, rfl, h1, r1⟩ := trodAll_cons r0
  obtain ⟨rfl, rfl, rfl⟩ := trodAll_nil r1
  obtain rfl : args = #[v0, v1] := by cases args; simp_all
  obtain ⟨rfl, rfl⟩ := trodVars_none hV
  obtain ⟨a0, len0, cap0, rfl⟩ := okWide_slice Yba.underlying22 (hval 0 22 v0 rfl rfl)
  have k0 := h0
  have lt0 : ∀ x ∈ p0, x.block < W.heap.size := by obtain ⟨m, hm⟩ := k0; exact DataW.trod_lt m _ _ _ hm
  obtain ⟨F0, G0, w0⟩ : ∃ F G, IsPairs W a0 len0 F G := by
    obtain ⟨fuel, hf⟩ := h0
    rcases Go.Deep.open_slice_pairs Yba.underlying22 Yba.underlying39 (by kernel_rfl) rfl rfl (by kernel_rfl) (by kernel_rfl) hf with ⟨hcs, _⟩ | ⟨x, l, c, m, n, V0, V1, D0, D1, P0, P1, hcs, _, hl, hm, hmm, _, hx⟩
    · simp [Value.cells] at hcs
      exact ⟨fun _ => 0, fun _ => 0, .inl hcs.2.1⟩
    · simp [Value.cells] at hcs
      obtain ⟨rfl, rfl, rfl⟩ := hcs
      refine ⟨fun i => intOf (V0 i), fun i => intOf (V1 i), .inr ⟨x, rfl, fun i hi => ?_⟩⟩
      have him : i < m := by rw [hmm]; split <;> omega
      obtain ⟨g0, g1, t0, t1⟩ := hx i him
      obtain ⟨q0, e0, _, f0⟩ := DataW.trod_int Yba.underlying5 t0
      obtain ⟨q1, e1, _, f1⟩ := DataW.trod_int Yba.underlying23 t1
      simp at e0 e1
      show W.cell? (x.add (i * 2)) = some (.int .u8 (intOf (V0 i))) ∧ W.cell? (x.add (i * 2 + 1)) = some (.int .u64 (intOf (V1 i))) ∧ (Lit.int .u8 (intOf (V0 i))).wf = true ∧ (Lit.int .u64 (intOf (V1 i))).wf = true
      rw [e0] at g0 ⊢
      rw [e1] at g1 ⊢
      exact ⟨g0, g1, f0, f1⟩
  obtain ⟨a1, len1, cap1, rfl⟩ := okWide_slice Yba.underlying22 (hval 1 22 v1 rfl rfl)
  have k1 := h1
  have lt1 : ∀ x ∈ p1, x.block < W.heap.size := by obtain ⟨m, hm⟩ := k1; exact DataW.trod_lt m _ _ _ hm
  obtain ⟨F1, G1, w1⟩ : ∃ F G, IsPairs W a1 len1 F G := by
    obtain ⟨fuel, hf⟩ := h1
    rcases Go.Deep.open_slice_pairs Yba.underlying22 Yba.underlying39 (by kernel_rfl) rfl rfl (by kernel_rfl) (by kernel_rfl) hf with ⟨hcs, _⟩ | ⟨x, l, c, m, n, V0, V1, D0, D1, P0, P1, hcs, _, hl, hm, hmm, _, hx⟩
    · simp [Value.cells] at hcs
      exact ⟨fun _ => 0, fun _ => 0, .inl hcs.2.1⟩
    · simp [Value.cells] at hcs
      obtain ⟨rfl, rfl, rfl⟩ := hcs
      refine ⟨fun i => intOf (V0 i), fun i => intOf (V1 i), .inr ⟨x, rfl, fun i hi => ?_⟩⟩
      have him : i < m := by rw [hmm]; split <;> omega
      obtain ⟨g0, g1, t0, t1⟩ := hx i him
      obtain ⟨q0, e0, _, f0⟩ := DataW.trod_int Yba.underlying5 t0
      obtain ⟨q1, e1, _, f1⟩ := DataW.trod_int Yba.underlying23 t1
      simp at e0 e1
      show W.cell? (x.add (i * 2)) = some (.int .u8 (intOf (V0 i))) ∧ W.cell? (x.add (i * 2 + 1)) = some (.int .u64 (intOf (V1 i))) ∧ (Lit.int .u8 (intOf (V0 i))).wf = true ∧ (Lit.int .u64 (intOf (V1 i))).wf = true
      rw [e0] at g0 ⊢
      rw [e1] at g1 ⊢
      exact ⟨g0, g1, f0, f1⟩
  clear hA0 hval0
  refine (walk a0 len0 cap0 F0 G0 a1 len1 cap1 F1 G1 W w0 w1).mono fun e W' ⟨he, bel⟩ => ?_
  subst he
  exact ⟨_, rfl, _, _, _, [], _, [], hW', trodAll_mk1 (shut_bool Yba.underlying4 _), (trodAll_cons_mk (Below.trod laidOut (by kernel_rfl) (of_decide_eq_true (by kernel_rfl)) k0 bel lt0) (trodAll_cons_mk (Below.trod laidOut (by kernel_rfl) (of_decide_eq_true (by kernel_rfl)) k1 bel lt1) trodAll_mk0)), rfl, bel.frame _, fun h => by cases h⟩

theorem over : Rows.lawS6796BWholeRow.holds Yba.pinned (OpenSpec.ofChange Rows.lawS6796BWholeSpec) :=
  OpenClaim.holds_of_wide 3 Yba.f3 rfl rfl rfl rfl rfl rfl rfl ⟨rfl, rfl, rfl, rfl, rfl⟩ rfl rfl rfl rfl rfl (by kernel_rfl) Yba.func3 (by kernel_rfl)
    (of_decide_eq_true (by kernel_rfl)) (by unfold Func.isWrapper; first | (rw [if_pos (by decide +kernel)]; kernel_rfl) | (rw [if_neg (by decide +kernel)]; exact ⟨rfl, rfl⟩))
    (fun os started H enc _ => lifted os started H enc)

/-- ████ THE STATEMENT ████ -/
theorem proved : Rows.LawS6796BWholeSaid := over
end Go.Proofs.Ybulkejsk.lawS6796BWhole
