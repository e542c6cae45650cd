import Derived.Test.YbulkejtmKept
import Derived.Laws.EntriesVeiled
import Derived.Deep.DeepCutAuto
import Derived.Deep.RegionLaw
namespace Go.Proofs.Ybulkejtm
open Go.ChangeShapes Go.WideShapes Go.ChangeAt Go.RowKit

theorem Yba.info70 : (Yba.prog.info? 70).map (fun i => (i.zero, i.size, i.bytes)) = some (some (.agg #[.string ⟨#[]⟩, .bool false, .string ⟨#[]⟩, .nilFunc, .nilFunc, .nilFunc]), 6, 64) := by kernel_rfl
theorem Yba.info74 : (Yba.prog.info? 74).map (fun i => (i.zero, i.size, i.bytes)) = some (some (.agg #[.string ⟨#[]⟩, .int .u8 0, .bool false, .string ⟨#[]⟩, .slice .none 0 0, .slice .none 0 0, .slice .none 0 0]), 7, 112) := by kernel_rfl
theorem Yba.info4 : (Yba.prog.info? 4).map (fun i => (i.zero, i.size, i.bytes)) = some (some (.bool false), 1, 1) := by kernel_rfl
theorem Yba.info5 : (Yba.prog.info? 5).map (fun i => (i.zero, i.size, i.bytes)) = some (some (.int .u8 0), 1, 1) := by kernel_rfl
theorem Yba.info9 : (Yba.prog.info? 9).map (fun i => (i.zero, i.size, i.bytes)) = some (some (.string ⟨#[]⟩), 1, 16) := by kernel_rfl

theorem Grow.setCell {a b : World} (h : Grow a b) {p : Addr} (hp : a.heap.size ≤ p.block) (v : Value) : Grow a (b.setCell p v) := Below.setCell h hp v

/-- The name that a number below 7 picks. -/
def nm (k : Int) : ByteArray := ⟨#[(97 + k.toNat).toUInt8]⟩
theorem nm_inj {a b : Int} (h0 : 0 ≤ a) (h1 : a < 7) (h2 : 0 ≤ b) (h3 : b < 7) (h : nm a = nm b) : a = b := by
  have ha : a = 0 ∨ a = 1 ∨ a = 2 ∨ a = 3 ∨ a = 4 ∨ a = 5 ∨ a = 6 := by omega
  have hb : b = 0 ∨ b = 1 ∨ b = 2 ∨ b = 3 ∨ b = 4 ∨ b = 5 ∨ b = 6 := by omega
  rcases ha with rfl | rfl | rfl | rfl | rfl | rfl | rfl <;> rcases hb with rfl | rfl | rfl | rfl | rfl | rfl | rfl <;> first | rfl | (exact absurd h (by decide))

set_option maxHeartbeats 400000 in
theorem name_lit (w : World) : ∀ k : Fin 7, Calls Yba.prog 10 #[.int .u8 (k.val : Int)] w fun e w' => e = .returned (.string (nm k.val)) ∧ w' = w := by
  intro k
  match k with
  | 0 => go_enter Yba.func10, Yba.ntmps10; go_wp2_with fail; go_ret; exact ⟨rfl, rfl⟩
  | 1 => go_enter Yba.func10, Yba.ntmps10; go_wp2_with fail; go_ret; exact ⟨rfl, rfl⟩
  | 2 => go_enter Yba.func10, Yba.ntmps10; go_wp2_with fail; go_ret; exact ⟨rfl, rfl⟩
  | 3 => go_enter Yba.func10, Yba.ntmps10; go_wp2_with fail; go_ret; exact ⟨rfl, rfl⟩
  | 4 => go_enter Yba.func10, Yba.ntmps10; go_wp2_with fail; go_ret; exact ⟨rfl, rfl⟩
  | 5 => go_enter Yba.func10, Yba.ntmps10; go_wp2_with fail; go_ret; exact ⟨rfl, rfl⟩
  | 6 => go_enter Yba.func10, Yba.ntmps10; go_wp2_with fail; go_ret; exact ⟨rfl, rfl⟩
theorem name_any (n : Int) (h0 : 0 ≤ n) (h1 : n < 7) (w : World) : Calls Yba.prog 10 #[.int .u8 n] w fun e w' => e = .returned (.string (nm n)) ∧ w' = w := by
  have h := name_lit w ⟨n.toNat, by omega⟩
  simp only [Int.toNat_of_nonneg h0] at h
  exact h

theorem extra_any (T : Nat) (w : World) : Calls Yba.prog 9 #[.pointer (some ⟨T, 0, .none⟩)] w fun e w' => e = .returned (.pointer (some ⟨T, 2, .none⟩)) ∧ w' = w := by
  go_enter Yba.func9, Yba.ntmps9
  go_wp2_with fail
  go_ret
  exact ⟨rfl, rfl⟩

theorem writer_any (i : Nat) (w : World) : Calls Yba.prog 11 #[.int .i64 i] w fun e w' => e = .returned (.func (.func 15) #[] #[.pointer (some ⟨w.heap.size, 0, .none⟩)]) ∧ w' = w.alloc (.cells #[.int .i64 i] 3) := by
  go_enter Yba.func11, Yba.ntmps11
  go_wp2_with fail
  go_ret
  exact ⟨rfl, rfl⟩

/-- Which fields a record of the format knows. -/
def kn1 (co : Bool) (fm : Int) : Bool := decide (fm ≠ 2) && (!co || decide (fm = 1))

set_option maxHeartbeats 400000 in
theorem known_any (b o : Nat) (co : Bool) (fm : Int) (w : World) (h1 : w.cell? ⟨b, o + 1, .none⟩ = some (.bool co)) :
    Calls Yba.prog 16 #[.pointer (some ⟨b, o, .none⟩), .int .u8 fm] w fun e w' => e = .returned (.bool (kn1 co fm)) ∧ w' = w := by
  unfold kn1
  by_cases h2 : fm = 2
  · subst h2
    go_enter Yba.func16, Yba.ntmps16
    go_wp2_with fail
    go_ret
    exact ⟨rfl, rfl⟩
  · have d2 : decide (fm = 2) = false := decide_eq_false h2
    cases co
    · go_enter Yba.func16, Yba.ntmps16
      go_wp2_with fail
      go_ret
      exact ⟨ret_bool (by simp [h2]), rfl⟩
    · go_enter Yba.func16, Yba.ntmps16
      go_wp2_with fail
      go_ret
      exact ⟨ret_bool (by cases h : decide (fm = 1) <;> simp_all), rfl⟩

abbrev valB (t : ByteArray) : Value := .agg #[.int .u8 3, .bool false, .string t, .slice .none 0 0, .slice .none 0 0, .slice .none 0 0]
abbrev valZ : Value := .agg #[.int .u8 0, .bool false, .string ⟨#[]⟩, .slice .none 0 0, .slice .none 0 0, .slice .none 0 0]

set_option maxHeartbeats 400000 in
theorem eq_any (t : ByteArray) (w : World) : Calls Yba.prog 13 #[valB t, .string t] w fun e w' => e = .returned (.bool true) ∧ Grow w w' := by
  have n30 := nil30
  have n33 := nil33
  have n34 := nil34
  go_enter Yba.func13, Yba.ntmps13
  go_wp2_with fail
  go_ret
  exact ⟨rfl, (Grow.refl w).alloc _⟩

set_option maxHeartbeats 800000 in
theorem clos_any (T HB VB b i F hc vc : Nat) (fm : Int) (ha : Bool) (t : ByteArray) (w : World) (hi : i < F)
    (c0 : w.cell? ⟨T, 0, .none⟩ = some (.slice (some ⟨HB, 0, .none⟩) F hc)) (c1 : w.cell? ⟨T, 1, .none⟩ = some (.slice (some ⟨VB, 0, .none⟩) F vc))
    (cb : w.cell? ⟨b, 0, .none⟩ = some (.int .i64 i)) (ch : w.cell? ⟨HB, i, .none⟩ = some (.bool ha)) (cv : w.cell? ⟨VB, i, .none⟩ = some (.string t)) :
    Calls Yba.prog 15 #[.pointer (some ⟨T, 0, .none⟩), .int .u8 fm, .pointer (some ⟨b, 0, .none⟩)] w fun e w' => e = .returned (.tuple #[bif ha then valB t else valZ, .bool ha]) ∧ Grow w w' := by
  have hiI : (i : Int) < (F : Int) := by omega
  have d0 : ∀ o, (w.alloc o).cell? ⟨T, 0, .none⟩ = some (.slice (some ⟨HB, 0, .none⟩) F hc) := fun o => ((Grow.refl w).alloc o).cell c0
  have d1 : ∀ o, (w.alloc o).cell? ⟨T, 1, .none⟩ = some (.slice (some ⟨VB, 0, .none⟩) F vc) := fun o => ((Grow.refl w).alloc o).cell c1
  have db : ∀ o, (w.alloc o).cell? ⟨b, 0, .none⟩ = some (.int .i64 i) := fun o => ((Grow.refl w).alloc o).cell cb
  have dh : ∀ o, (w.alloc o).cell? ⟨HB, i, .none⟩ = some (.bool ha) := fun o => ((Grow.refl w).alloc o).cell ch
  have dv : ∀ o, (w.alloc o).cell? ⟨VB, i, .none⟩ = some (.string t) := fun o => ((Grow.refl w).alloc o).cell cv
  clear c0 c1 cb ch cv
  cases ha
  · go_enter Yba.func15, Yba.ntmps15
    go_wp2_with fail
    go_quiet (fail)
    go_wp2_with fail
    refine bodyPost_ret (v := .tuple #[valZ, .bool false]) (by simp [results, Yba.results15, go_sem]) rfl ⟨rfl, ?_⟩
    have g0 : Grow w ((w.alloc (.cells #[.int .u8 0, .bool false, .string ⟨#[]⟩, .slice .none 0 0, .slice .none 0 0, .slice .none 0 0] 36)).drewN nq) := ((Grow.refl w).alloc _).drewN _
    exact (((((g0.setCell (p := ⟨w.heap.size, 0, .none⟩) (Nat.le_refl _) _).setCell (p := ⟨w.heap.size, 1, .none⟩) (Nat.le_refl _) _).setCell (p := ⟨w.heap.size, 2, .none⟩) (Nat.le_refl _) _).setCell (p := ⟨w.heap.size, 3, .none⟩) (Nat.le_refl _) _).setCell (p := ⟨w.heap.size, 4, .none⟩) (Nat.le_refl _) _).setCell (p := ⟨w.heap.size, 5, .none⟩) (Nat.le_refl _) _
  · go_enter Yba.func15, Yba.ntmps15
    go_wp2_with fail
    go_quiet (fail)
    go_wp2_with fail
    go_region
    go_wp2_with fail
    refine bodyPost_ret (v := .tuple #[valB t, .bool true]) (by simp [results, Yba.results15, go_sem]) rfl ⟨rfl, ?_⟩
    have g0 : Grow w ((w.alloc (.cells #[.int .u8 0, .bool false, .string ⟨#[]⟩, .slice .none 0 0, .slice .none 0 0, .slice .none 0 0] 36)).drewN (nq + 1)) := ((Grow.refl w).alloc _).drewN _
    exact (((((g0.setCell (p := ⟨w.heap.size, 0, .none⟩) (Nat.le_refl _) _).setCell (p := ⟨w.heap.size, 1, .none⟩) (Nat.le_refl _) _).setCell (p := ⟨w.heap.size, 2, .none⟩) (Nat.le_refl _) _).setCell (p := ⟨w.heap.size, 3, .none⟩) (Nat.le_refl _) _).setCell (p := ⟨w.heap.size, 4, .none⟩) (Nat.le_refl _) _).setCell (p := ⟨w.heap.size, 5, .none⟩) (Nat.le_refl _) _
end Go.Proofs.Ybulkejtm
