import Derived.Test.YbulkejriTime
namespace Go.Proofs.Ybulkejri
open Go.ChangeShapes Go.WideShapes Go.ChangeAt Go.RowKit

/-- The nanoseconds and the seconds of the time at n nanoseconds from the zero time: closed to the walk. -/
def nk (n : Int) : Int := n % 1000000000
def nx (n : Int) : Int := n / 1000000000
theorem nk_lo (n : Int) : 0 ≤ nk n := by unfold nk; omega
theorem nk_hi (n : Int) : nk n < 1000000000 := by unfold nk; omega
theorem ret_bool {a b : Bool} (h : a = b) : Ending.returned (.bool a) = .returned (.bool b) := by rw [h]
theorem order (a b : Int) : (a < b ↔ nx a < nx b ∨ (nx a = nx b ∧ nk a < nk b)) := by unfold nk nx; omega

set_option maxHeartbeats 400000 in
theorem bat_any (n : Int) (h0 : -9223372036854775808 ≤ n) (h1 : n ≤ 9223372036854775807) (w : World) :
    Calls Yba.prog 4 #[.int .i64 n] w fun e w' => e = .returned (.agg #[.int .u64 (nk n), .int .i64 (nx n), .pointer .none]) ∧ Below w.heap.size w w' := by
  have ha := fun w => add_any n h0 h1 w
  have e : tm n = .agg #[.int .u64 (nk n), .int .i64 (nx n), .pointer .none] := rfl
  rw [e] at ha
  have Ha : Hid (∀ w, _) := ha
  clear ha e
  go_enter Yba.func4, Yba.ntmps4
  go_wp2_with fail
  refine (Ha.out _).mono ?_
  rintro e w' ⟨rfl, hb⟩
  have hf : ∀ i, w'.frozen? ⟨w.heap.size, i, .none⟩ = false := fun i => by rw [hb.frozen (by simp)]; go_simp
  have c0 : w'.cell? ⟨w.heap.size, 0, .none⟩ = some (.int .u64 0) := by rw [hb.cell (by simp)]; go_simp
  have c1 : w'.cell? ⟨w.heap.size, 1, .none⟩ = some (.int .i64 0) := by rw [hb.cell (by simp)]; go_simp
  have c2 : w'.cell? ⟨w.heap.size, 2, .none⟩ = some (.pointer .none) := by rw [hb.cell (by simp)]; go_simp
  go_wp2_with fail
  refine bodyPost_ret (v := .agg #[.int .u64 (nk n), .int .i64 (nx n), .pointer .none]) (by simp [results, Yba.results4, go_sem, c0, c1, c2]) rfl ⟨rfl, ?_⟩
  exact ((((((Below.refl _ _).alloc (Nat.le_refl _) _).trans (hb.mono (by simp))).setCell (Nat.le_refl _) _).setCell (Nat.le_refl _) _).setCell (Nat.le_refl _) _)

theorem and3 (a b : Int) (h0 : 0 ≤ a) (h1 : a < 1000000000) (g0 : 0 ≤ b) (g1 : b < 1000000000) : bits .and .u64 (bits .and .u64 a b) 9223372036854775808 = 0 := by
  have e := u64_and a b h0 (by omega) g0 (by omega)
  have h : a.toNat &&& b.toNat ≤ a.toNat := Nat.and_le_left
  rw [e]
  exact and_hi _ (by omega) (by omega)

set_option maxHeartbeats 400000 in
theorem before_gt (k1 x1 k2 x2 : Int) (a0 : 0 ≤ k1) (a1 : k1 < 1000000000) (b0 : 0 ≤ k2) (b1 : k2 < 1000000000) (h : x2 < x1) (w : World) :
    Calls Yba.prog 8 #[.agg #[.int .u64 k1, .int .i64 x1, .pointer .none], .agg #[.int .u64 k2, .int .i64 x2, .pointer .none]] w fun e w' => e = .returned (.bool false) ∧ Below w.heap.size w w' := by
  have f3 := and3 k1 k2 a0 a1 b0 b1
  have g3 : (x1 == x2) = false := by rw [beq_eq_false_iff_ne]; omega
  go_enter Yba.func8, Yba.ntmps8
  go_wp2_with fail
  refine (sec_c _ _ k1 x1 (by omega) (by omega) _ ?_ ?_).mono ?_
  · go_simp
  · go_simp
  rintro e w' ⟨rfl, rfl⟩
  go_wp2_with fail
  refine (sec_c _ _ k2 x2 (by omega) (by omega) _ ?_ ?_).mono ?_
  · go_simp
  · go_simp
  rintro e w' ⟨rfl, rfl⟩
  go_wp2_with fail
  go_ret
  exact ⟨ret_bool (decide_eq_false (by omega)), below_two _ _ _⟩

set_option maxHeartbeats 400000 in
theorem before_eq (k1 x k2 : Int) (a0 : 0 ≤ k1) (a1 : k1 < 1000000000) (b0 : 0 ≤ k2) (b1 : k2 < 1000000000) (w : World) :
    Calls Yba.prog 8 #[.agg #[.int .u64 k1, .int .i64 x, .pointer .none], .agg #[.int .u64 k2, .int .i64 x, .pointer .none]] w fun e w' => e = .returned (.bool (decide (k1 < k2))) ∧ Below w.heap.size w w' := by
  have f3 := and3 k1 k2 a0 a1 b0 b1
  go_enter Yba.func8, Yba.ntmps8
  go_wp2_with fail
  refine (sec_c _ _ k1 x (by omega) (by omega) _ ?_ ?_).mono ?_
  · go_simp
  · go_simp
  rintro e w' ⟨rfl, rfl⟩
  go_wp2_with fail
  refine (sec_c _ _ k2 x (by omega) (by omega) _ ?_ ?_).mono ?_
  · go_simp
  · go_simp
  rintro e w' ⟨rfl, rfl⟩
  go_wp2_with fail
  refine (nsec_c _ _ k1 (by omega) (by omega) _ ?_).mono ?_
  · go_simp
  rintro e w' ⟨rfl, rfl⟩
  go_wp2_with fail
  refine (nsec_c _ _ k2 (by omega) (by omega) _ ?_).mono ?_
  · go_simp
  rintro e w' ⟨rfl, rfl⟩
  go_wp2_with fail
  go_ret
  exact ⟨rfl, below_two _ _ _⟩

set_option maxHeartbeats 400000 in
theorem equal_same (k x : Int) (a0 : 0 ≤ k) (a1 : k < 1000000000) (w : World) :
    Calls Yba.prog 6 #[.agg #[.int .u64 k, .int .i64 x, .pointer .none], .agg #[.int .u64 k, .int .i64 x, .pointer .none]] w fun e w' => e = .returned (.bool true) ∧ Below w.heap.size w w' := by
  have f3 := and3 k k a0 a1 a0 a1
  go_enter Yba.func6, Yba.ntmps6
  go_wp2_with fail
  refine (sec_c _ _ k x (by omega) (by omega) _ ?_ ?_).mono ?_
  · go_simp
  · go_simp
  rintro e w' ⟨rfl, rfl⟩
  go_wp2_with fail
  refine (sec_c _ _ k x (by omega) (by omega) _ ?_ ?_).mono ?_
  · go_simp
  · go_simp
  rintro e w' ⟨rfl, rfl⟩
  go_wp2_with fail
  refine (nsec_c _ _ k (by omega) (by omega) _ ?_).mono ?_
  · go_simp
  rintro e w' ⟨rfl, rfl⟩
  go_wp2_with fail
  refine (nsec_c _ _ k (by omega) (by omega) _ ?_).mono ?_
  · go_simp
  rintro e w' ⟨rfl, rfl⟩
  go_wp2_with fail
  go_ret
  exact ⟨rfl, below_two _ _ _⟩
set_option maxHeartbeats 400000 in
theorem before_c (k1 x1 k2 x2 : Int) (a0 : 0 ≤ k1) (a1 : k1 < 1000000000) (b0 : 0 ≤ k2) (b1 : k2 < 1000000000) (h : x1 < x2) (w : World) :
    Calls Yba.prog 8 #[.agg #[.int .u64 k1, .int .i64 x1, .pointer .none], .agg #[.int .u64 k2, .int .i64 x2, .pointer .none]] w fun e w' => e = .returned (.bool true) ∧ Below w.heap.size w w' := by
  have f3 := and3 k1 k2 a0 a1 b0 b1
  go_enter Yba.func8, Yba.ntmps8
  go_wp2_with fail
  refine (sec_c _ _ k1 x1 (by omega) (by omega) _ ?_ ?_).mono ?_
  · go_simp
  · go_simp
  rintro e w' ⟨rfl, rfl⟩
  go_wp2_with fail
  refine (sec_c _ _ k2 x2 (by omega) (by omega) _ ?_ ?_).mono ?_
  · go_simp
  · go_simp
  rintro e w' ⟨rfl, rfl⟩
  go_wp2_with fail
  go_ret
  exact ⟨rfl, below_two _ _ _⟩

/-- The time at n nanoseconds from the zero time, as the program holds it. -/
abbrev T (n : Int) : Value := .agg #[.int .u64 (nk n), .int .i64 (nx n), .pointer .none]

theorem before_any (a b : Int) (w : World) :
    Calls Yba.prog 8 #[T a, T b] w fun e w' => e = .returned (.bool (decide (a < b))) ∧ Below w.heap.size w w' := by
  have o := order a b
  by_cases h : nx a < nx b
  · rw [decide_eq_true (o.2 (Or.inl h))]
    exact before_c _ _ _ _ (nk_lo a) (nk_hi a) (nk_lo b) (nk_hi b) h w
  · by_cases h2 : nx a = nx b
    · have e : decide (a < b) = decide (nk a < nk b) := by
        rw [decide_eq_decide]; constructor
        · intro q; rcases o.1 q with q | q
          · omega
          · exact q.2
        · intro q; exact o.2 (Or.inr ⟨h2, q⟩)
      rw [e]; unfold T; rw [h2]
      exact before_eq _ _ _ (nk_lo a) (nk_hi a) (nk_lo b) (nk_hi b) w
    · have e : decide (a < b) = false := decide_eq_false (fun q => by rcases o.1 q with q | q <;> omega)
      rw [e]
      exact before_gt _ _ _ _ (nk_lo a) (nk_hi a) (nk_lo b) (nk_hi b) (by omega) w

theorem before_yes (a b : Int) (h : a < b) (w : World) : Calls Yba.prog 8 #[T a, T b] w fun e w' => e = .returned (.bool true) ∧ Below w.heap.size w w' := by
  have := before_any a b w; rwa [decide_eq_true h] at this
theorem before_no (a b : Int) (h : b ≤ a) (w : World) : Calls Yba.prog 8 #[T a, T b] w fun e w' => e = .returned (.bool false) ∧ Below w.heap.size w w' := by
  have := before_any a b w; rwa [decide_eq_false (by omega)] at this
theorem equal_any (a : Int) (w : World) : Calls Yba.prog 6 #[T a, T a] w fun e w' => e = .returned (.bool true) ∧ Below w.heap.size w w' :=
  equal_same _ _ (nk_lo a) (nk_hi a) w
end Go.Proofs.Ybulkejri
