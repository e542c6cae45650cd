import Derived.Test.YbulkejskNext
namespace Go.Proofs.Ybulkejsk
open Go.ChangeShapes Go.WideShapes Go.ChangeAt Go.RowKit

set_option maxRecDepth 100000 in
set_option maxHeartbeats 2000000 in
theorem next_lt (g h n cc i j m dc p : Nat) (hi : i < n) (hn : n ≤ 8) (hj : j < m) (_hm : m ≤ 8) (nd : ByteArray) (x y : Int) (s r : ByteArray) (z y1 : Int) (hpg : p ≠ g) (hph : p ≠ h)
    (hcmp : Lib.compareBytes s.data.toList r.data.toList = -1) (w : World) (hp : Pw w p (.slice (some ⟨g, 0, .none⟩) n cc) (.slice (some ⟨h, 0, .none⟩) m dc) i j nd x y)
    (hs : w.cell? ⟨g, i * 2, .none⟩ = some (.string s)) (hz : w.cell? ⟨g, i * 2 + 1, .none⟩ = some (.int .u64 z))
    (hs' : w.cell? ⟨h, j * 2, .none⟩ = some (.string r)) (_hz' : w.cell? ⟨h, j * 2 + 1, .none⟩ = some (.int .u64 y1)) :
    Calls Yba.prog 10 #[.pointer (some ⟨p, 0, .none⟩)] w fun e w' => e = .returned (.bool true) ∧ Pw w' p (.slice (some ⟨g, 0, .none⟩) n cc) (.slice (some ⟨h, 0, .none⟩) m dc) (i + 1) j s z 0 ∧ Only p w w' := by
  have Hp := hide hp
  obtain ⟨c0, c1, c2, c3, c4, c5, c6, fr⟩ := hp
  have hiI : (i : Int) < (n : Int) := by omega
  have hin : ((i : Int) == (n : Int)) = false := by rw [beq_eq_false_iff_ne]; omega
  have hjI : (j : Int) < (m : Int) := by omega
  have hjm : ((j : Int) == (m : Int)) = false := by rw [beq_eq_false_iff_ne]; omega
  have hgp : g ≠ p := Ne.symm hpg
  have hhp : h ≠ p := Ne.symm hph
  go_enter Yba.func10, Yba.ntmps10
  go_wp2_with fail
  go_quiet (fail)
  go_wp2_with fail
  go_quiet (fail)
  go_wp2_with fail
  go_quiet (fail)
  go_wp2_with fail
  go_region_held3 (fun w' => w'.cell? ⟨p, 0, .none⟩ = some (.slice (some ⟨g, 0, .none⟩) n cc) ∧ w'.cell? ⟨p, 1, .none⟩ = some (.slice (some ⟨h, 0, .none⟩) m dc) ∧ w'.cell? ⟨p, 2, .none⟩ = some (.int .i64 i) ∧ w'.cell? ⟨p, 3, .none⟩ = some (.int .i64 j) ∧ w'.cell? ⟨g, i * 2, .none⟩ = some (.string s) ∧ w'.cell? ⟨h, j * 2, .none⟩ = some (.string r)) (go_simp)
    (first | (go_at_call 11; refine (compare_c _ _ _).mono ?_; rintro e w' ⟨rfl, rfl⟩))
  go_wp2_with fail
  go_region_held3 (fun w' => w'.cell? ⟨p, 0, .none⟩ = some (.slice (some ⟨g, 0, .none⟩) n cc) ∧ w'.cell? ⟨p, 2, .none⟩ = some (.int .i64 i) ∧ w'.cell? ⟨g, i * 2, .none⟩ = some (.string s) ∧ w'.cell? ⟨g, i * 2 + 1, .none⟩ = some (.int .u64 z)) (go_simp) (fail)
  go_wp2_with fail
  go_ret
  refine ⟨rfl, ?_, ?_⟩
  · go_light
    repeat (first | (with_reducible exact unhide Hp) | (with_reducible apply Pw.set2) | (with_reducible apply Pw.set3) | (with_reducible apply Pw.set4) | (with_reducible apply Pw.set5) | (with_reducible apply Pw.set6) | (with_reducible apply Pw.drew) | (with_reducible apply Pw.drewN))
  · go_light
    repeat (first | (with_reducible exact Only.refl _ _) | (with_reducible apply Only.setCell) | (with_reducible apply Only.drewN) | (with_reducible apply Only.drew))
end Go.Proofs.Ybulkejsk
