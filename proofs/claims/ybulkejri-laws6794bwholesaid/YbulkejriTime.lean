import Derived.Test.YbulkejriRows
import Derived.WalkKit
import Derived.ProofKit
import Derived.OpenShut
import Derived.Outline
import Derived.Deep.DeepMust
import Derived.Laws.BitsAllLaws
namespace Go.Proofs.Ybulkejri
open Go.ChangeShapes Go.WideShapes Go.ChangeAt Go.RowKit

theorem and_hi (k : Int) (h0 : 0 ≤ k) (h1 : k < 1000000000) : bits .and .u64 k 9223372036854775808 = 0 := by
  rw [u64_and _ _ h0 (by omega) (by omega) (by omega), show (9223372036854775808 : Int).toNat = 2 ^ 63 from rfl, nat_bit]
  have : k.toNat / 2 ^ 63 = 0 := Nat.div_eq_of_lt (by omega)
  rw [this]; rfl
theorem and_lo (k : Int) (h0 : 0 ≤ k) (h1 : k < 1000000000) : bits .and .u64 k 1073741823 = k := by
  rw [u64_and _ _ h0 (by omega) (by omega) (by omega), show (1073741823 : Int).toNat = 2 ^ 30 - 1 from rfl, Nat.and_two_pow_sub_one_eq_mod]
  omega
theorem or_zero (k : Int) (h0 : 0 ≤ k) (h1 : k < 1000000000) : bits .or .u64 0 k = k := by
  rw [u64_or _ _ (by omega) (by omega) h0 (by omega)]
  simp; omega

/-- Time at n nanoseconds from the zero time. -/
def tm (n : Int) : Value := .agg #[.int .u64 (n % 1000000000), .int .i64 (n / 1000000000), .pointer .none]


theorem and0 : bits .and .u64 0 1073741823 = 0 := by decide +kernel
theorem andNot0 : bits .andNot .u64 0 1073741823 = 0 := by decide +kernel

set_option maxHeartbeats 400000 in
theorem nsec_c (b o : Nat) (k : Int) (h0 : 0 ≤ k) (h1 : k < 1000000000) (w : World) (hc : w.cell? ⟨b, o, .none⟩ = some (.int .u64 k)) :
    Calls Yba.prog 11 #[.pointer (some ⟨b, o, .none⟩)] w fun e w' => e = .returned (.int .i32 k) ∧ w' = w := by
  have a2 := and_lo k h0 h1
  go_enter Yba.func11, Yba.ntmps11
  go_wp2
  go_ret
  exact ⟨rfl, rfl⟩

set_option maxHeartbeats 400000 in
theorem sec_c (b o : Nat) (k x : Int) (h0 : 0 ≤ k) (h1 : k < 1000000000) (w : World) (hc : w.cell? ⟨b, o, .none⟩ = some (.int .u64 k)) (hx : w.cell? ⟨b, o + 1, .none⟩ = some (.int .i64 x)) :
    Calls Yba.prog 10 #[.pointer (some ⟨b, o, .none⟩)] w fun e w' => e = .returned (.int .i64 x) ∧ w' = w := by
  have a1 := and_hi k h0 h1
  go_enter Yba.func10, Yba.ntmps10
  go_wp2
  go_ret
  exact ⟨rfl, rfl⟩

set_option maxHeartbeats 400000 in
theorem addSec_c (b o : Nat) (k d : Int) (h0 : 0 ≤ k) (h1 : k < 1000000000) (h2 : -9223372036854775808 ≤ d) (h3 : d ≤ 9223372036854775807) (w : World) (hc : w.cell? ⟨b, o, .none⟩ = some (.int .u64 k)) (hx : w.cell? ⟨b, o + 1, .none⟩ = some (.int .i64 0)) (hf : w.frozen? ⟨b, o + 1, .none⟩ = false) :
    Calls Yba.prog 12 #[.pointer (some ⟨b, o, .none⟩), .int .i64 d] w fun e w' => e = .returned (.tuple #[]) ∧ w' = w.setCell ⟨b, o + 1, .none⟩ (.int .i64 d) := by
  have a1 := and_hi k h0 h1
  go_enter Yba.func12, Yba.ntmps12
  go_wp2
  go_end0
  exact ⟨rfl, rfl⟩

theorem tmod_facts (n : Int) (h0 : n < 0) (h1 : -9223372036854775808 ≤ n) :
    -9223372037 ≤ n.tdiv 1000000000 ∧ n.tdiv 1000000000 ≤ 0 ∧ -999999999 ≤ n.tmod 1000000000 ∧ n.tmod 1000000000 ≤ 0 ∧
    (n.tmod 1000000000 < 0 → n % 1000000000 = n.tmod 1000000000 + 1000000000 ∧ n / 1000000000 = n.tdiv 1000000000 - 1) ∧
    (0 ≤ n.tmod 1000000000 → n % 1000000000 = 0 ∧ n.tmod 1000000000 = 0 ∧ n / 1000000000 = n.tdiv 1000000000) := by
  have e1 : n.tdiv 1000000000 = -((-n) / 1000000000) := by
    rw [show n = -(-n) by omega, Int.neg_tdiv, Int.tdiv_eq_ediv_of_nonneg (by omega)]; simp
  have e2 : n.tmod 1000000000 = -((-n) % 1000000000) := by
    rw [show n = -(-n) by omega, Int.neg_tmod, Int.tmod_eq_emod_of_nonneg (by omega)]; simp
  rw [e1, e2]
  omega

theorem below_two (w : World) (A B : Obj) : Below w.heap.size w ((w.alloc A).alloc B) :=
  ((Below.refl _ _).alloc (Nat.le_refl _) _).alloc (by simp) _

/-- What Add leaves of the zero time, in the three ways. -/
theorem add_pos (n : Int) (h0 : 0 ≤ n) (h1 : n ≤ 9223372036854775807) (w : World) :
    Calls Yba.prog 7 #[.agg #[.int .u64 0, .int .i64 0, .pointer .none], .int .i64 n] w fun e w' => e = .returned (tm n) ∧ Below w.heap.size w w' := by
  have a0 := and0
  have b0 := andNot0
  have a1 := and_hi (n % 1000000000) (by omega) (by omega)
  have a3 := or_zero (n % 1000000000) (by omega) (by omega)
  go_enter Yba.func7, Yba.ntmps7
  go_wp2_with fail
  refine (nsec_c _ _ 0 (by omega) (by omega) _ ?_).mono ?_
  · go_simp
  rintro e w' ⟨rfl, rfl⟩
  go_wp2_with fail
  refine (addSec_c _ _ (n % 1000000000) _ (by omega) (by omega) (by omega) (by omega) _ ?_ ?_ ?_).mono ?_
  · go_simp
  · go_simp
  · go_simp
  rintro e w' ⟨rfl, rfl⟩
  go_wp2_with fail
  refine bodyPost_ret (v := tm n) (by simp [results, Yba.results7, go_sem]; rfl) rfl ⟨rfl, ?_⟩
  exact below_two _ _ _

theorem add_neg (n : Int) (h0 : n < 0) (h1 : -9223372036854775808 ≤ n) (hr : n.tmod 1000000000 < 0) (w : World) :
    Calls Yba.prog 7 #[.agg #[.int .u64 0, .int .i64 0, .pointer .none], .int .i64 n] w fun e w' => e = .returned (.agg #[.int .u64 (n.tmod 1000000000 + 1000000000), .int .i64 (n.tdiv 1000000000 - 1), .pointer .none]) ∧ Below w.heap.size w w' := by
  obtain ⟨q1, q2, r1, r2, -, -⟩ := tmod_facts n h0 h1
  have a0 := and0
  have b0 := andNot0
  have a1 := and_hi (n.tmod 1000000000 + 1000000000) (by omega) (by omega)
  have a3 := or_zero (n.tmod 1000000000 + 1000000000) (by omega) (by omega)
  go_enter Yba.func7, Yba.ntmps7
  go_wp2_with fail
  refine (nsec_c _ _ 0 (by omega) (by omega) _ ?_).mono ?_
  · go_simp
  rintro e w' ⟨rfl, rfl⟩
  go_wp2_with fail
  refine (addSec_c _ _ (n.tmod 1000000000 + 1000000000) _ (by omega) (by omega) (by omega) (by omega) _ ?_ ?_ ?_).mono ?_
  · go_simp
  · go_simp
  · go_simp
  rintro e w' ⟨rfl, rfl⟩
  go_wp2_with fail
  refine bodyPost_ret (v := .agg #[.int .u64 (n.tmod 1000000000 + 1000000000), .int .i64 (n.tdiv 1000000000 - 1), .pointer .none]) (by simp [results, Yba.results7, go_sem]) rfl ⟨rfl, ?_⟩
  exact below_two _ _ _

theorem add_neg0 (n : Int) (h0 : n < 0) (h1 : -9223372036854775808 ≤ n) (hr : n.tmod 1000000000 = 0) (w : World) :
    Calls Yba.prog 7 #[.agg #[.int .u64 0, .int .i64 0, .pointer .none], .int .i64 n] w fun e w' => e = .returned (.agg #[.int .u64 0, .int .i64 (n.tdiv 1000000000), .pointer .none]) ∧ Below w.heap.size w w' := by
  obtain ⟨q1, q2, r1, r2, -, -⟩ := tmod_facts n h0 h1
  have a0 := and0
  have b0 := andNot0
  have a1 := and_hi 0 (by omega) (by omega)
  have a3 := or_zero 0 (by omega) (by omega)
  go_enter Yba.func7, Yba.ntmps7
  go_wp2_with fail
  refine (nsec_c _ _ 0 (by omega) (by omega) _ ?_).mono ?_
  · go_simp
  rintro e w' ⟨rfl, rfl⟩
  go_wp2_with fail
  refine (addSec_c _ _ 0 _ (by omega) (by omega) (by omega) (by omega) _ ?_ ?_ ?_).mono ?_
  · go_simp
  · go_simp
  · go_simp
  rintro e w' ⟨rfl, rfl⟩
  go_wp2_with fail
  refine bodyPost_ret (v := .agg #[.int .u64 0, .int .i64 (n.tdiv 1000000000), .pointer .none]) (by simp [results, Yba.results7, go_sem]) rfl ⟨rfl, ?_⟩
  exact below_two _ _ _

theorem add_any (n : Int) (h0 : -9223372036854775808 ≤ n) (h1 : n ≤ 9223372036854775807) (w : World) :
    Calls Yba.prog 7 #[.agg #[.int .u64 0, .int .i64 0, .pointer .none], .int .i64 n] w fun e w' => e = .returned (tm n) ∧ Below w.heap.size w w' := by
  by_cases h : 0 ≤ n
  · exact add_pos n h h1 w
  · obtain ⟨-, -, -, r2, k1, k2⟩ := tmod_facts n (by omega) h0
    by_cases hr : n.tmod 1000000000 < 0
    · have e : tm n = .agg #[.int .u64 (n.tmod 1000000000 + 1000000000), .int .i64 (n.tdiv 1000000000 - 1), .pointer .none] := by unfold tm; rw [(k1 hr).1, (k1 hr).2]
      rw [e]; exact add_neg n (by omega) h0 hr w
    · have e : tm n = .agg #[.int .u64 0, .int .i64 (n.tdiv 1000000000), .pointer .none] := by unfold tm; rw [(k2 (by omega)).1, (k2 (by omega)).2.2]
      rw [e]; exact add_neg0 n (by omega) h0 (by omega) w
end Go.Proofs.Ybulkejri
