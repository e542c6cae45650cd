import Derived.Test.YbulkejskRows
import Derived.WalkKit
import Derived.ProofKit
import Derived.OpenShut
import Derived.Outline
import Derived.WalkLawsBesides
import Derived.Deep.DeepMust
import Derived.Deep.OwnRows
import Derived.Lib.Bytealg
namespace Go.Proofs.Ybulkejsk
open Go.ChangeShapes Go.WideShapes Go.ChangeAt Go.RowKit

theorem hide {p : Prop} (h : p) : Hid p := h
theorem unhide {p : Prop} (h : Hid p) : p := h
theorem ret_bool {a b : Bool} (h : a = b) : Ending.returned (.bool a) = .returned (.bool b) := by rw [h]
theorem ret_int {k : IntKind} {a b : Int} (h : a = b) : Ending.returned (.int k a) = .returned (.int k b) := by rw [h]

/-- The table of the eight names. -/
def nm : Nat → ByteArray
  | 0 => ⟨#[97]⟩
  | 1 => ⟨#[98]⟩
  | 2 => ⟨#[99]⟩
  | 3 => ⟨#[110, 49]⟩
  | 4 => ⟨#[110, 50]⟩
  | 5 => ⟨#[110, 111, 100, 101]⟩
  | 6 => ⟨#[120]⟩
  | _ => ⟨#[121]⟩

theorem cmp_names : ∀ i, i < 8 → ∀ j, j < 8 → Lib.compareBytes (nm i).data.toList (nm j).data.toList = if i < j then -1 else if j < i then 1 else 0 := by decide +kernel

set_option maxRecDepth 100000 in
set_option maxHeartbeats 1000000 in
theorem compareString_c (a b : ByteArray) (w : World) :
    Calls Yba.prog 12 #[.string a, .string b] w fun e w' => e = .returned (.int .i64 (Lib.compareBytes a.data.toList b.data.toList)) ∧ w' = w := by
  go_enter Yba.func12, Yba.ntmps12
  go_wp2
  rw [run_callFunc_extern Yba.func13 (by kernel_rfl) (by kernel_rfl) (by kernel_rfl) (e := Extern.BytealgCompare.compare) (by kernel_rfl), Lib.run_compareString]
  simp only [Result.andThen]
  rw [Oper.upon_value]
  go_wp2
  go_ret
  exact ⟨rfl, rfl⟩

set_option maxHeartbeats 1000000 in
theorem compare_c (a b : ByteArray) (w : World) :
    Calls Yba.prog 11 #[.string a, .string b] w fun e w' => e = .returned (.int .i64 (Lib.compareBytes a.data.toList b.data.toList)) ∧ w' = w := by
  go_enter Yba.func11, Yba.ntmps11
  go_wp2_with fail
  refine (compareString_c _ _ _).mono ?_
  rintro e w' ⟨rfl, rfl⟩
  go_wp2_with fail
  go_ret
  exact ⟨rfl, rfl⟩

theorem index_0 (w : World) : (Instr.index 43 (.agg #[.string ⟨#[97]⟩, .string ⟨#[98]⟩, .string ⟨#[99]⟩, .string ⟨#[110, 49]⟩, .string ⟨#[110, 50]⟩, .string ⟨#[110, 111, 100, 101]⟩, .string ⟨#[120]⟩, .string ⟨#[121]⟩]) (.int .i64 0)).run Yba.prog w = .ok (.string (nm 0)) w := by kernel_rfl
theorem index_1 (w : World) : (Instr.index 43 (.agg #[.string ⟨#[97]⟩, .string ⟨#[98]⟩, .string ⟨#[99]⟩, .string ⟨#[110, 49]⟩, .string ⟨#[110, 50]⟩, .string ⟨#[110, 111, 100, 101]⟩, .string ⟨#[120]⟩, .string ⟨#[121]⟩]) (.int .i64 1)).run Yba.prog w = .ok (.string (nm 1)) w := by kernel_rfl
theorem index_2 (w : World) : (Instr.index 43 (.agg #[.string ⟨#[97]⟩, .string ⟨#[98]⟩, .string ⟨#[99]⟩, .string ⟨#[110, 49]⟩, .string ⟨#[110, 50]⟩, .string ⟨#[110, 111, 100, 101]⟩, .string ⟨#[120]⟩, .string ⟨#[121]⟩]) (.int .i64 2)).run Yba.prog w = .ok (.string (nm 2)) w := by kernel_rfl
theorem index_3 (w : World) : (Instr.index 43 (.agg #[.string ⟨#[97]⟩, .string ⟨#[98]⟩, .string ⟨#[99]⟩, .string ⟨#[110, 49]⟩, .string ⟨#[110, 50]⟩, .string ⟨#[110, 111, 100, 101]⟩, .string ⟨#[120]⟩, .string ⟨#[121]⟩]) (.int .i64 3)).run Yba.prog w = .ok (.string (nm 3)) w := by kernel_rfl
theorem index_4 (w : World) : (Instr.index 43 (.agg #[.string ⟨#[97]⟩, .string ⟨#[98]⟩, .string ⟨#[99]⟩, .string ⟨#[110, 49]⟩, .string ⟨#[110, 50]⟩, .string ⟨#[110, 111, 100, 101]⟩, .string ⟨#[120]⟩, .string ⟨#[121]⟩]) (.int .i64 4)).run Yba.prog w = .ok (.string (nm 4)) w := by kernel_rfl
theorem index_5 (w : World) : (Instr.index 43 (.agg #[.string ⟨#[97]⟩, .string ⟨#[98]⟩, .string ⟨#[99]⟩, .string ⟨#[110, 49]⟩, .string ⟨#[110, 50]⟩, .string ⟨#[110, 111, 100, 101]⟩, .string ⟨#[120]⟩, .string ⟨#[121]⟩]) (.int .i64 5)).run Yba.prog w = .ok (.string (nm 5)) w := by kernel_rfl
theorem index_6 (w : World) : (Instr.index 43 (.agg #[.string ⟨#[97]⟩, .string ⟨#[98]⟩, .string ⟨#[99]⟩, .string ⟨#[110, 49]⟩, .string ⟨#[110, 50]⟩, .string ⟨#[110, 111, 100, 101]⟩, .string ⟨#[120]⟩, .string ⟨#[121]⟩]) (.int .i64 6)).run Yba.prog w = .ok (.string (nm 6)) w := by kernel_rfl
theorem index_7 (w : World) : (Instr.index 43 (.agg #[.string ⟨#[97]⟩, .string ⟨#[98]⟩, .string ⟨#[99]⟩, .string ⟨#[110, 49]⟩, .string ⟨#[110, 50]⟩, .string ⟨#[110, 111, 100, 101]⟩, .string ⟨#[120]⟩, .string ⟨#[121]⟩]) (.int .i64 7)).run Yba.prog w = .ok (.string (nm 7)) w := by kernel_rfl
theorem index_any (k : Nat) (hk : k < 8) (w : World) : (Instr.index 43 (.agg #[.string ⟨#[97]⟩, .string ⟨#[98]⟩, .string ⟨#[99]⟩, .string ⟨#[110, 49]⟩, .string ⟨#[110, 50]⟩, .string ⟨#[110, 111, 100, 101]⟩, .string ⟨#[120]⟩, .string ⟨#[121]⟩]) (.int .i64 (k : Int))).run Yba.prog w = .ok (.string (nm k)) w := by
  match k, hk with
  | 0, _ => exact index_0 w
  | 1, _ => exact index_1 w
  | 2, _ => exact index_2 w
  | 3, _ => exact index_3 w
  | 4, _ => exact index_4 w
  | 5, _ => exact index_5 w
  | 6, _ => exact index_6 w
  | 7, _ => exact index_7 w

set_option maxHeartbeats 1000000 in
/-- zzs6796bname: the k-th of the table. -/
theorem name_c (k : Nat) (hk : k < 8) (w : World) : Calls Yba.prog 6 #[.int .i64 (k : Int)] w fun e w' => e = .returned (.string (nm k)) ∧ w' = w := by
  have hx := index_any k hk
  go_enter Yba.func6, Yba.ntmps6
  go_wp2
  go_ret
  exact ⟨rfl, rfl⟩
end Go.Proofs.Ybulkejsk
