/-
  THE PROOF OF Rows.LawS6792AWholeSaid. The frame (lifted, over, proved) is the kit tool's shell; the plain law and the walks are our own.
-/
import Derived.Test.YbulkejqgRows
import Derived.WalkKit
import Derived.ProofKit
import Derived.OpenShut
import Derived.ShutString
import Derived.Laws.BitsAllLaws
namespace Go.Proofs.Ybulkejqg.lawS6792AWhole
open Go.ChangeShapes Go.WideShapes Go.ChangeAt Go.RowKit
open Go.ChangeMaps (open_string shut_string)
set_option linter.unusedVariables false      -- a walk need not use every 'w<i>' (that an integer argument fits its kind)

theorem own : ownKnob Yba.prog.godebug = none := by kernel_rfl

/-! ### The plain law: no Go in sight -/
theorem nat_flip (x : Nat) (h : x < 18446744073709551616) : 18446744073709551615 ^^^ x = 18446744073709551615 - x := by
  have e : (18446744073709551615 : Nat) = 2 ^ 64 - 1 := by decide
  apply Nat.eq_of_testBit_eq
  intro i
  rw [Nat.testBit_xor, e, Nat.testBit_two_pow_sub_one, show 2 ^ 64 - 1 - x = 2 ^ 64 - (x + 1) by omega, Nat.testBit_two_pow_sub_succ (by omega)]
  by_cases hi : i < 64
  · simp [hi]
  · have : x.testBit i = false := Nat.testBit_lt_two_pow (Nat.lt_of_lt_of_le h (by rw [show (18446744073709551616 : Nat) = 2 ^ 64 by decide]; exact Nat.pow_le_pow_right (by omega) (by omega)))
    simp [hi, this]

theorem xor_all (a : Int) (h0 : a < 0) (h1 : -9223372036854775808 ≤ a) :
    bits BinOp.xor IntKind.u64 (if IntKind.u64.signed = true then -1 else IntKind.u64.max) (IntKind.u64.wrap a) = -1 - a := by
  have e : (if IntKind.u64.signed = true then (-1 : Int) else IntKind.u64.max) = 18446744073709551615 := by decide +kernel
  rw [e, IntKind.wrap_u64, u64_xor _ _ (by omega) (by omega) (by omega) (by omega), show (18446744073709551615 : Int).toNat = 18446744073709551615 from rfl, nat_flip _ (by omega)]
  omega

theorem ret_bool {a b : Bool} (h : a = b) : Ending.returned (.bool a) = .returned (.bool b) := by rw [h]

/-! ### The walks: not negative; negative but not the least; the least -/
set_option maxHeartbeats 400000 in
theorem walk_pos (a0 : Int) (h0 : 0 ≤ a0) (h1 : a0 ≤ 9223372036854775807) (w : World) :
    Calls Yba.prog 3 #[.int .i64 a0] w fun e w' => e = .returned (.bool true) ∧ Grown w w' := by
  have hm : (a0 == -9223372036854775808) = false := by rw [beq_eq_false_iff_ne]; omega
  go_enter Yba.func3, Yba.ntmps3
  go_wp2
  go_ret
  exact ⟨rfl, by repeat (first | exact Grown.refl _ | apply Grown.drew | apply Grown.alloc)⟩

set_option maxHeartbeats 400000 in
theorem walk_neg (a0 : Int) (h0 : a0 < 0) (h1 : -9223372036854775808 < a0) (w : World) :
    Calls Yba.prog 3 #[.int .i64 a0] w fun e w' => e = .returned (.bool true) ∧ Grown w w' := by
  have hm : (a0 == -9223372036854775808) = false := by rw [beq_eq_false_iff_ne]; omega
  have hx := xor_all a0 h0 (by omega)
  have hn : (-a0 == a0) = false := by rw [beq_eq_false_iff_ne]; omega
  go_enter Yba.func3, Yba.ntmps3
  go_wp2
  go_ret
  exact ⟨ret_bool (by rw [beq_iff_eq]; omega), by repeat (first | exact Grown.refl _ | apply Grown.drew | apply Grown.alloc)⟩

set_option maxHeartbeats 400000 in
theorem walk_min (w : World) :
    Calls Yba.prog 3 #[.int .i64 (-9223372036854775808)] w fun e w' => e = .returned (.bool true) ∧ Grown w w' := by
  have hx := xor_all (-9223372036854775808) (by decide) (by decide)
  go_enter Yba.func3, Yba.ntmps3
  go_wp2
  go_ret
  exact ⟨ret_bool (by unfold wrap64; decide), by repeat (first | exact Grown.refl _ | apply Grown.drew | apply Grown.alloc)⟩

theorem walk (a0 : Int) (w0 : (Lit.int .i64 a0).wf = true) (w : World) :
    Calls Yba.prog 3 #[.int .i64 a0] w fun e w' => e = .returned (.bool true) ∧ Grown w w' := by
  have hb := bounds_i64 w0
  by_cases h : 0 ≤ a0
  · exact walk_pos a0 h (by omega) w
  · by_cases h1 : -9223372036854775808 < a0
    · exact walk_neg a0 (by omega) h1 w
    · obtain rfl : a0 = -9223372036854775808 := by omega
      exact walk_min w

/-! ### THE ROW's STEP: WRITTEN OUT: LEAVE IT -/
set_option maxRecDepth 100000 in
theorem lifted (os : Os) (started : os.Started) (H : Type) (enc : TypeId × Value → H) :
    ReturnsInHanded {} Yba.checked os 3 .any (Rows.lawS6792AWholeSpec.pre6 enc Yba.prog Yba.f3 Rows.lawS6792AWholeRow.domain false) (Rows.lawS6792AWholeSpec.post enc Yba.prog Yba.f3 false true false false) := by
  refine returnsInHanded_of_change (C := Yba.checked) own started (by kernel_rfl) Yba.func3
    (ChangeSpec.witness6 (enc := enc) (C := Yba.checked) false ⟨#[], #[.int .i64 0], []⟩ 8 (by kernel_rfl) (by kernel_rfl) (by kernel_rfl) (by kernel_rfl)) ?_
  intro W base args ds gs before hval0 hW hcnd _
  have hval : ∀ (j : Nat) t v, Yba.f3.params[j]? = some t → args[j]? = some v → Value.okWide Yba.prog W .any base t v := hval0
  have hW' := hW
  obtain ⟨p, q, hA0, hV, rfl, hfz, hnd⟩ := hW
  have hA : DataW.TrodAll enc Yba.prog W 0 (fun _ => true) true Yba.f3.params.toList args.toList ds p := hA0
  rw [Yba.params3] at hA hval
  obtain ⟨v0, vs0, d0, ds0, p0, q0, hargs, rfl, rfl, h0, r0⟩ := trodAll_cons hA
  obtain ⟨rfl, rfl, rfl⟩ := trodAll_nil r0
  obtain rfl : args = #[v0] := by cases args; simp_all
  obtain ⟨rfl, rfl⟩ := trodVars_none hV
  obtain ⟨a0, rfl, rfl, rfl, w0⟩ := open_int Yba.underlying2 (hval 0 2 v0 rfl rfl) h0
  clear hA0 hval0
  simp only [List.append_nil] at hW'
  refine (walk a0 w0 W).mono fun e W' ⟨he, hg⟩ => ?_
  subst he
  exact ⟨_, rfl, post_of_same (pa := []) (pv := []) hW' (fun _ _ _ => (trodAll_cons_mk (shut_bool Yba.underlying4 _) trodAll_mk0)) (fun sp _ => (trodAll_cons_mk (shut_int Yba.underlying2 w0) trodAll_mk0)) (fun _ _ => rfl) rfl
    (hg.frame _) hg.2.1 (ok_one (by kernel_rfl) rfl (okWide_bool_mk Yba.underlying4 _))⟩

theorem over : Rows.lawS6792AWholeRow.holds Yba.pinned (OpenSpec.ofChange Rows.lawS6792AWholeSpec) :=
  OpenClaim.holds_of_wide 3 Yba.f3 rfl rfl rfl rfl rfl rfl rfl ⟨rfl, rfl, rfl, rfl, rfl⟩ rfl rfl rfl rfl rfl (by kernel_rfl) Yba.func3 (by kernel_rfl)
    (of_decide_eq_true (by kernel_rfl)) (by unfold Func.isWrapper; first | (rw [if_pos (by decide +kernel)]; kernel_rfl) | (rw [if_neg (by decide +kernel)]; exact ⟨rfl, rfl⟩))
    (fun os started H enc _ => lifted os started H enc)

/-- ████ THE STATEMENT ████ -/
theorem proved : Rows.LawS6792AWholeSaid :=
  over
end Go.Proofs.Ybulkejqg.lawS6792AWhole
