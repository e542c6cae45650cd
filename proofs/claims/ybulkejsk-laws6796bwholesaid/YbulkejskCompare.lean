import Derived.Test.YbulkejskNextAny
import Derived.Deep.LoopGhost
namespace Go.Proofs.Ybulkejsk
open Go.ChangeShapes Go.WideShapes Go.ChangeAt Go.RowKit

theorem Only.below {p B : Nat} {w w' : World} (h : Only p w w') (hB : B ≤ p) : Below B w w' := ⟨h.os, h.tape, h.output, by rw [h.size]; exact Nat.le_refl _, fun k hk => h.block k (by omega)⟩
theorem below_drewN {B : Nat} {a w : World} (h : Below B a w) (n : Nat) : Below B a (w.drewN n) := ⟨h.os, h.tape, h.output, h.size, h.block⟩

theorem pw_new (W : World) (c d : Value) : Pw (W.alloc (.cells #[c, d, .int .i64 0, .int .i64 0, .string ⟨#[]⟩, .int .u64 0, .int .u64 0] 45)) W.heap.size c d 0 0 ⟨#[]⟩ 0 0 := by
  constructor <;> go_simp

set_option maxHeartbeats 1000000 in
theorem compare_any (C D : Nat → Int) (ca da : Option Addr) (gc gd cc dc : Nat) (w : World) (hc : Ents w w.heap.size ca gc C) (hd : Ents w w.heap.size da gd D) :
    Calls Yba.prog 8 #[.agg #[.slice ca (pos C 8) cc], .agg #[.slice da (pos D 8) dc]] w fun e w' => e = .returned (.int .i64 (rel C D)) ∧ Below w.heap.size w w' := by
  have Hc := hide hc
  have Hd := hide hd
  clear hc hd
  go_enter Yba.func8, Yba.ntmps8
  go_wp2_with fail
  go_loopg [5, 6] 8 (fun gk b a wr => ∃ (t : Nat) (bb ab : Bool) (nd : ByteArray) (x y : Int), gk = 8 - t ∧ t ≤ 8 ∧ b = .bool bb ∧ a = .bool ab ∧ Hid (bb = below C D t) ∧ Hid (ab = below D C t) ∧ (bb && ab) = false ∧
      Hid (Pw wr (w.heap.size + 1 + 1) (.slice ca (pos C 8) cc) (.slice da (pos D 8) dc) (pos C t) (pos D t) nd x y) ∧ Below w.heap.size w wr)
  case atStart =>
    refine ⟨0, false, false, ⟨#[]⟩, 0, 0, rfl, by omega, rfl, rfl, rfl, rfl, rfl, ?_, ?_⟩
    · have h := pw_new ((w.alloc (.cells #[.slice ca (pos C 8) cc] 27)).alloc (.cells #[.slice da (pos D 8) dc] 27)) (.slice ca (pos C 8) cc) (.slice da (pos D 8) dc)
      rw [World.size_alloc, World.size_alloc] at h
      exact h
    · exact (((Below.refl _ _).alloc (Nat.le_refl _) _).alloc (by simp) _).alloc (by simp; omega) _
  case round =>
    obtain ⟨t, bb, ab, nd, x, y, rfl, ht, rfl, rfl, Hb, Ha, hba, Hp, hbw⟩ := hrel
    have hsz : w.heap.size + 1 + 1 < wr.heap.size := World.block_lt_of_cell? wr _ (unhide Hp).c0
    go_wp2_with fail
    refine (next_any C D w.heap.size (w.heap.size + 1 + 1) (by omega) ca da gc gd cc dc t ht nd x y _ (by exact (unhide Hc).below hbw (Nat.le_refl _)) (by exact (unhide Hd).below hbw (Nat.le_refl _)) (by exact unhide Hp)).mono ?_
    rintro e w1 (⟨rfl, hz, q, rfl⟩ | ⟨k, h1, h2, h3, h4, rfl, hp1, ho⟩)
    · have e1 : below C D 8 = bb := by rw [unhide Hb]; exact below_skip' ht hz
      have e2 : below D C 8 = ab := by rw [unhide Ha]; exact below_skip' ht (fun j a b => (hz j a b).symm)
      have hrel : rel C D = if bb = true then (if ab = true then 4 else 1) else if ab = true then 2 else 3 := by unfold rel; rw [e1, e2]
      have Hrel := hide hrel
      clear hrel e1 e2 hz
      cases bb <;> cases ab
      · go_wp2_with fail
        go_ret
        exact ⟨ret_int (by rw [unhide Hrel]; rfl), below_drewN hbw _⟩
      · go_wp2_with fail
        go_ret
        exact ⟨ret_int (by rw [unhide Hrel]; rfl), below_drewN hbw _⟩
      · go_wp2_with fail
        go_ret
        exact ⟨ret_int (by rw [unhide Hrel]; rfl), below_drewN hbw _⟩
      · simp at hba
    · have n1 : below C D (k + 1) = (bb || decide (C k < D k)) := by rw [below_succ, below_skip' h1 h4, unhide Hb]
      have n2 : below D C (k + 1) = (ab || decide (D k < C k)) := by rw [below_succ, below_skip' h1 (fun j a b => (h4 j a b).symm), unhide Ha]
      have hb1 : Below w.heap.size w w1 := hbw.trans (ho.below (by omega))
      have x5 := hp1.c5
      have x6 := hp1.c6
      have Hp1 := hide hp1
      clear hp1 ho h3 h4 Hb Ha Hp
      by_cases l : C k < D k
      · have g : ¬ D k < C k := by omega
        rw [decide_eq_true l, Bool.or_true] at n1
        rw [decide_eq_false g, Bool.or_false] at n2
        have N1 := hide n1
        have N2 := hide n2
        clear n1 n2
        cases ab
        · go_wp2_with fail
          go_roundg (8 - (k + 1))
          case measure => omega
          case rel => exact ⟨k + 1, true, false, nm k, C k, D k, rfl, by omega, rfl, rfl, (unhide N1).symm, (unhide N2).symm, rfl, unhide Hp1, hb1⟩
        · have hr : rel C D = 4 := by unfold rel; rw [below_mono' (by omega) (unhide N1), below_mono' (by omega) (unhide N2)]; rfl
          have Hr := hide hr
          clear hr
          go_wp2_with fail
          go_ret
          exact ⟨ret_int (unhide Hr).symm, hb1⟩
      · by_cases g : D k < C k
        · rw [decide_eq_false l, Bool.or_false] at n1
          rw [decide_eq_true g, Bool.or_true] at n2
          have N1 := hide n1
          have N2 := hide n2
          clear n1 n2
          cases bb
          · go_wp2_with fail
            go_roundg (8 - (k + 1))
            case measure => omega
            case rel => exact ⟨k + 1, false, true, nm k, C k, D k, rfl, by omega, rfl, rfl, (unhide N1).symm, (unhide N2).symm, rfl, unhide Hp1, hb1⟩
          · have hr : rel C D = 4 := by unfold rel; rw [below_mono' (by omega) (unhide N1), below_mono' (by omega) (unhide N2)]; rfl
            have Hr := hide hr
            clear hr
            go_wp2_with fail
            go_ret
            exact ⟨ret_int (unhide Hr).symm, hb1⟩
        · rw [decide_eq_false l, Bool.or_false] at n1
          rw [decide_eq_false g, Bool.or_false] at n2
          have N1 := hide n1
          have N2 := hide n2
          clear n1 n2
          cases bb <;> cases ab
          · go_wp2_with fail
            go_roundg (8 - (k + 1))
            case measure => omega
            case rel => exact ⟨k + 1, false, false, nm k, C k, D k, rfl, by omega, rfl, rfl, (unhide N1).symm, (unhide N2).symm, rfl, unhide Hp1, hb1⟩
          · go_wp2_with fail
            go_roundg (8 - (k + 1))
            case measure => omega
            case rel => exact ⟨k + 1, false, true, nm k, C k, D k, rfl, by omega, rfl, rfl, (unhide N1).symm, (unhide N2).symm, rfl, unhide Hp1, hb1⟩
          · go_wp2_with fail
            go_roundg (8 - (k + 1))
            case measure => omega
            case rel => exact ⟨k + 1, true, false, nm k, C k, D k, rfl, by omega, rfl, rfl, (unhide N1).symm, (unhide N2).symm, rfl, unhide Hp1, hb1⟩
          · simp at hba
end Go.Proofs.Ybulkejsk
