import Derived.Test.YbulkejskNext
namespace Go.Proofs.Ybulkejsk
open Go.ChangeShapes Go.WideShapes Go.ChangeAt Go.RowKit

set_option maxHeartbeats 1000000 in
theorem next_d_end (ca : Option Addr) (h n cc j m dc p : Nat) (hj : j < m) (hm : m ≤ 8) (nd : ByteArray) (x y : Int) (r : ByteArray) (y1 : Int) (hph : p ≠ h) (w : World) (hp : Pw w p (.slice ca n cc) (.slice (some ⟨h, 0, .none⟩) m dc) n j nd x y)
    (hs : w.cell? ⟨h, j * 2, .none⟩ = some (.string r)) (hz : w.cell? ⟨h, j * 2 + 1, .none⟩ = some (.int .u64 y1)) :
    Calls Yba.prog 10 #[.pointer (some ⟨p, 0, .none⟩)] w fun e w' => e = .returned (.bool true) ∧ Pw w' p (.slice ca n cc) (.slice (some ⟨h, 0, .none⟩) m dc) n (j + 1) r 0 y1 ∧ Only p w w' := by
  have Hp := hide hp
  obtain ⟨c0, c1, c2, c3, c4, c5, c6, fr⟩ := hp
  have hjI : (j : Int) < (m : Int) := by omega
  have hjm : ((j : Int) == (m : Int)) = false := by rw [beq_eq_false_iff_ne]; omega
  have hhp : h ≠ p := Ne.symm hph
  go_enter Yba.func10, Yba.ntmps10
  go_wp2_with fail
  go_quiet (fail)
  go_wp2_with fail
  go_quiet (fail)
  go_wp2_with fail
  go_region_held3 (fun w' => w'.cell? ⟨p, 1, .none⟩ = some (.slice (some ⟨h, 0, .none⟩) m dc) ∧ w'.cell? ⟨p, 3, .none⟩ = some (.int .i64 j) ∧ w'.cell? ⟨h, j * 2, .none⟩ = some (.string r) ∧ w'.cell? ⟨h, j * 2 + 1, .none⟩ = some (.int .u64 y1)) (go_simp) (fail)
  go_wp2_with fail
  go_ret
  refine ⟨rfl, ?_, ?_⟩
  · go_light
    repeat (first | (with_reducible exact unhide Hp) | (with_reducible apply Pw.set2) | (with_reducible apply Pw.set3) | (with_reducible apply Pw.set4) | (with_reducible apply Pw.set5) | (with_reducible apply Pw.set6) | (with_reducible apply Pw.drew) | (with_reducible apply Pw.drewN))
  · go_light
    repeat (first | (with_reducible exact Only.refl _ _) | (with_reducible apply Only.setCell) | (with_reducible apply Only.drewN) | (with_reducible apply Only.drew))
end Go.Proofs.Ybulkejsk
