import Derived.Test.YbulkejriLaw
namespace Go.Proofs.Ybulkejri
open Go.ChangeShapes Go.WideShapes Go.ChangeAt Go.RowKit

set_option maxHeartbeats 1000000 in
theorem law_zero (d : Int) (hd0 : -9223372036854775808 ≤ d) (hd1 : d ≤ 9223372036854775807) (ao : Option Addr) (cap : Nat) (w : World) :
    Calls Yba.prog 3 #[.slice ao 0 cap, .int .i64 d] w fun e w' => e = .returned (.bool true) ∧ Below w.heap.size w w' := by
  obtain ⟨i0, hi, hz0, hz1, hz2⟩ := info_parts Yba.info32
  have hsz6 : (Yba.prog.info? 32).map (·.size) = some 6 := by rw [hi]; simp [hz1]
  go_enter Yba.func3, Yba.ntmps3
  go_wp2_with (at_make; refine wpList_make_rows rfl _ _ 23 rfl 32 i0 _ 6 Yba.underlying23 hi hz0 hz1 _ _ 0 rfl rfl (by rw [hz2]; omega) (by unfold maxLen; omega) ?_; intro w1 f1 hr1 hb1 hs1)
  have Hr1 := hide hr1
  clear hr1
  go_loop [6] (fun i => i = .int .i64 0) (fun _ => 0)
  case atStart => rfl
  case round =>
    subst hrel
    go_wp2_with (at_make; refine wpList_make_named rfl _ _ 23 rfl 32 i0 _ 6 Yba.underlying23 hi hz0 hz1 _ _ 0 rfl rfl (by rw [hz2]; omega) (by unfold maxLen; omega) ?_; intro C wc fc HC hrc hbc hsc; obtain ⟨wd, hrun, hrd, hbd, hsd⟩ := run_copy_wide (P := Yba.prog) wc 23 23 3 32 C 0 ⟨w.heap.size, 0, .none⟩ 0 0 6 32 fc f1 Yba.underlying23 hsz6 hrc (fun j hj => absurd hj (by omega)) (fun j hj => absurd hj (by omega)))
    have hC : w.heap.size < C := by rw [unhide HC]; omega
    have hbw : Below w.heap.size w wd := hb1.trans ((hbc.mono (by omega)).trans (hbd.mono (Nat.le_of_lt hC)))
    have hCd : C < wd.heap.size := by omega
    clear hrc hrd hbc hbd hrun hsc hsd HC Hr1 hb1 hs1
    go_loop [8, 9] (fun t i => t = .bool false ∧ i = .int .i64 0) (fun _ _ => 0)
    case atStart => exact ⟨rfl, rfl⟩
    case round =>
      obtain ⟨rfl, rfl⟩ := hrel
      go_wp2_with fail
      refine (bat_any d hd0 hd1 _).mono ?_
      rintro e w3 ⟨rfl, hb3⟩
      go_wp2_with fail
      refine (within_any (fun _ => 0) (fun _ => 0) d w.heap.size 0 (by omega) _ ?_ ?_).mono ?_
      · have := hb3.size; omega
      · intro i hi; omega
      rintro e w4 ⟨rfl, hb4⟩
      have hh : hit (fun _ => 0) (fun _ => 0) d 0 = false := rfl
      rw [hh]
      have hbD : Below wd.heap.size wd w4 := hb3.trans (hb4.mono hb3.size)
      clear hb3 hb4 hh
      go_wp2_with fail
      go_loop [11] (fun i => i = .int .i64 0) (fun _ => 0)
      case atStart => rfl
      case round =>
        subst hrel
        go_wp2_with fail
        go_ret
        exact ⟨rfl, hbw.trans (hbD.mono (by omega))⟩

/-- The bound on the length is passed: at once true. -/
theorem law_long (d : Int) (ao : Option Addr) (n cap : Nat) (hn : 1048576 < n) (w : World) :
    Calls Yba.prog 3 #[.slice ao n cap, .int .i64 d] w fun e w' => e = .returned (.bool true) ∧ Below w.heap.size w w' := by
  have hlen : decide ((1048576 : Int) < (n : Int)) = true := decide_eq_true (by omega)
  go_enter Yba.func3, Yba.ntmps3
  go_wp2_with fail
  go_ret
  exact ⟨rfl, Below.refl _ _⟩
end Go.Proofs.Ybulkejri
