import Derived.Test.YbulkejtmBase
namespace Go.Proofs.Ybulkejtm
open Go.ChangeShapes Go.WideShapes Go.ChangeAt Go.RowKit

/-- The kind that an item's number picks: closed to the walk. -/
def k6 (k : Int) : Int := k % 6

abbrev item (k : Int) (b : Bool) (t : ByteArray) : Value := .agg #[.int .u8 k, .bool b, .string t]
abbrev valOf (k : Int) (b : Bool) (t : ByteArray) : Value := .agg #[.int .u8 (k6 k), .bool b, .string t, .slice .none 0 0, .slice .none 0 0, .slice .none 0 0]

set_option maxHeartbeats 400000 in
theorem val_any (k : Int) (h0 : 0 ≤ k) (h1 : k ≤ 255) (b : Bool) (t : ByteArray) (w : World) :
    Calls Yba.prog 5 #[item k b t] w fun e w' => e = .returned (valOf k b t) ∧ Grow w w' := by
  have hk : k % 6 = k6 k := rfl
  go_enter Yba.func5, Yba.ntmps5
  go_wp2_with fail
  refine bodyPost_ret (v := valOf k b t) (by simp [results, Yba.results5, go_sem]) rfl ⟨rfl, ?_⟩
  exact ((Grow.refl w).alloc _).alloc _

theorem nil30 (w : World) : (binOp .eql 30 (.slice .none 0 0) (.slice .none 0 0)).run Yba.prog w = .ok (.bool true) w := by kernel_rfl
theorem nil33 (w : World) : (binOp .eql 33 (.slice .none 0 0) (.slice .none 0 0)).run Yba.prog w = .ok (.bool true) w := by kernel_rfl
theorem nil34 (w : World) : (binOp .eql 34 (.slice .none 0 0) (.slice .none 0 0)).run Yba.prog w = .ok (.bool true) w := by kernel_rfl

set_option maxRecDepth 100000 in
set_option maxHeartbeats 1000000 in
theorem same_any (k : Int) (h0 : 0 ≤ k) (h1 : k ≤ 255) (b : Bool) (t : ByteArray) (w : World) :
    Calls Yba.prog 8 #[valOf k b t, item k b t] w fun e w' => e = .returned (.bool true) ∧ Grow w w' := by
  go_enter Yba.func8, Yba.ntmps8
  go_wp2_with fail
  refine (val_any k h0 h1 b t _).mono ?_
  rintro e w1 ⟨rfl, hg⟩
  have hl : w.heap.size < w1.heap.size := by have := hg.size; simp at this; omega
  have f0 : ∀ o, (w1.alloc o).cell? ⟨w.heap.size, 0, .none⟩ = some (.int .u8 (k6 k)) := fun o => ((Grow.refl w1).alloc o).cell (hg.cell (by go_simp))
  have f1 : ∀ o, (w1.alloc o).cell? ⟨w.heap.size, 1, .none⟩ = some (.bool b) := fun o => ((Grow.refl w1).alloc o).cell (hg.cell (by go_simp))
  have f2 : ∀ o, (w1.alloc o).cell? ⟨w.heap.size, 2, .none⟩ = some (.string t) := fun o => ((Grow.refl w1).alloc o).cell (hg.cell (by go_simp))
  have f3 : ∀ o, (w1.alloc o).cell? ⟨w.heap.size, 3, .none⟩ = some (.slice .none 0 0) := fun o => ((Grow.refl w1).alloc o).cell (hg.cell (by go_simp))
  have f4 : ∀ o, (w1.alloc o).cell? ⟨w.heap.size, 4, .none⟩ = some (.slice .none 0 0) := fun o => ((Grow.refl w1).alloc o).cell (hg.cell (by go_simp))
  have f5 : ∀ o, (w1.alloc o).cell? ⟨w.heap.size, 5, .none⟩ = some (.slice .none 0 0) := fun o => ((Grow.refl w1).alloc o).cell (hg.cell (by go_simp))
  have n30 := nil30
  have n33 := nil33
  have n34 := nil34
  go_wp2_with fail
  go_ret
  exact ⟨rfl, (((Grow.refl w).alloc _).alloc _).trans (hg.alloc _)⟩
end Go.Proofs.Ybulkejtm
