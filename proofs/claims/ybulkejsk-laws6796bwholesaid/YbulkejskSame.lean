import Derived.Test.YbulkejskAdd
namespace Go.Proofs.Ybulkejsk
open Go.ChangeShapes Go.WideShapes Go.ChangeAt Go.RowKit

theorem pos_surj (C : Nat → Int) (i : Nat) : ∀ t, i < pos C t → ∃ k, k < t ∧ C k ≠ 0 ∧ pos C k = i
  | 0, h => by simp [pos] at h
  | t + 1, h => by
    by_cases hz : C t = 0
    · rw [pos_succ_zero hz] at h
      obtain ⟨k, h1, h2, h3⟩ := pos_surj C i t h
      exact ⟨k, by omega, h2, h3⟩
    · rw [pos_succ_one hz] at h
      by_cases e : i = pos C t
      · exact ⟨t, by omega, hz, e.symm⟩
      · obtain ⟨k, h1, h2, h3⟩ := pos_surj C i t (by omega)
        exact ⟨k, by omega, h2, h3⟩

set_option maxHeartbeats 1000000 in
theorem same_any (C : Nat → Int) (ca da : Option Addr) (gc gd cc dc B : Nat) (w : World) (hc : Ents w B ca gc C) (hd : Ents w B da gd C) :
    Calls Yba.prog 7 #[.slice ca (pos C 8) cc, .slice da (pos C 8) dc] w fun e w' => e = .returned (.bool true) ∧ ∃ q, w' = w.drewN q := by
  have Hc := hide hc
  have Hd := hide hd
  clear hc hd
  have l8 := pos_le C 8
  by_cases h0 : pos C 8 = 0
  · rw [h0]
    clear h0 l8
    go_enter Yba.func7, Yba.ntmps7
    go_wp2_with fail
    go_loop [5] (fun i => i = .int .i64 0) (fun _ => 0)
    case atStart => rfl
    case round =>
      subst hrel
      go_wp2_with fail
      go_ret
      exact ⟨rfl, 0, rfl⟩
  · rw [(unhide Hc).here (by omega), (unhide Hd).here (by omega)]
    clear h0
    generalize hn : pos C 8 = n at *
    have Hn := hide hn
    clear hn
    go_enter Yba.func7, Yba.ntmps7
    go_wp2_with fail
    go_loopw [5] (fun i wr => ∃ k q : Nat, k ≤ n ∧ i = .int .i64 k ∧ wr = w.drewN q) (fun i _ => n - (intOf i).toNat)
    case atStart => exact ⟨0, 0, Nat.zero_le _, rfl, rfl⟩
    case round =>
      obtain ⟨i, q, hi, rfl, rfl⟩ := hrel
      by_cases hlt : i < n
      · obtain ⟨k, k1, k2, k3⟩ := pos_surj C i 8 (by rw [unhide Hn]; exact hlt)
        have a0 := (unhide Hc).node k k1 k2
        have a1 := (unhide Hc).count k k1 k2
        have b0 := (unhide Hd).node k k1 k2
        have b1 := (unhide Hd).count k k1 k2
        rw [k3] at a0 a1 b0 b1
        clear k3
        have hiI : (i : Int) < (n : Int) := by omega
        go_wp2_with fail
        go_quiet (fail)
        go_wp2_with fail
        go_roundw
        case rel => exact ⟨i + 1, _, by omega, by go_num, rfl⟩
        case measure => simp [intOf]; omega
      · go_wp2_with fail
        go_ret
        exact ⟨rfl, q, rfl⟩
end Go.Proofs.Ybulkejsk
