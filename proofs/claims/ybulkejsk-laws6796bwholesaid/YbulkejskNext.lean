import Derived.Test.YbulkejskBase
import Derived.Deep.RegionHeld3
import Derived.Deep.QuietTactic
import Derived.BigQuiet
import Derived.Deep.Light
namespace Go.Proofs.Ybulkejsk
open Go.ChangeShapes Go.WideShapes Go.ChangeAt Go.RowKit

/-- The seven cells of a pairWalk. -/
def pw (c d : Value) (i j : Int) (nd : ByteArray) (x y : Int) : Nat → Value
  | 0 => c
  | 1 => d
  | 2 => .int .i64 i
  | 3 => .int .i64 j
  | 4 => .string nd
  | 5 => .int .u64 x
  | _ => .int .u64 y

/-- Block p alone has turned (and the tape's count). -/
structure Only (p : Nat) (w w' : World) : Prop where
  os : w'.os = w.os
  tape : w'.tape = w.tape
  output : w'.output = w.output
  size : w'.heap.size = w.heap.size
  block : ∀ k, k ≠ p → w'.heap[k]? = w.heap[k]?

theorem Only.refl (p : Nat) (w : World) : Only p w w := ⟨rfl, rfl, rfl, rfl, fun _ _ => rfl⟩
theorem Only.drew {p : Nat} {a w : World} (h : Only p a w) : Only p a w.drew := ⟨h.os, h.tape, h.output, h.size, h.block⟩
theorem Only.drewN {p : Nat} {a w : World} (h : Only p a w) (n : Nat) : Only p a (w.drewN n) := ⟨h.os, h.tape, h.output, h.size, h.block⟩
theorem Only.setCell {p : Nat} {a w : World} (h : Only p a w) (o : Nat) (v : Value) : Only p a (w.setCell ⟨p, o, .none⟩ v) :=
  ⟨h.os, h.tape, h.output, by simpa using h.size, fun k hk => (Below.heap_setCell w ⟨p, o, .none⟩ v k hk).trans (h.block k hk)⟩

structure Pw (w : World) (p : Nat) (c d : Value) (i j : Int) (nd : ByteArray) (x y : Int) : Prop where
  c0 : w.cell? ⟨p, 0, .none⟩ = some c
  c1 : w.cell? ⟨p, 1, .none⟩ = some d
  c2 : w.cell? ⟨p, 2, .none⟩ = some (.int .i64 i)
  c3 : w.cell? ⟨p, 3, .none⟩ = some (.int .i64 j)
  c4 : w.cell? ⟨p, 4, .none⟩ = some (.string nd)
  c5 : w.cell? ⟨p, 5, .none⟩ = some (.int .u64 x)
  c6 : w.cell? ⟨p, 6, .none⟩ = some (.int .u64 y)
  fr : ∀ o, w.frozen? ⟨p, o, .none⟩ = false

theorem Pw.drew {w : World} {p : Nat} {c d : Value} {i j : Int} {nd : ByteArray} {x y : Int} (h : Pw w p c d i j nd x y) : Pw w.drew p c d i j nd x y := ⟨h.c0, h.c1, h.c2, h.c3, h.c4, h.c5, h.c6, h.fr⟩
theorem Pw.drewN {w : World} {p : Nat} {c d : Value} {i j : Int} {nd : ByteArray} {x y : Int} (h : Pw w p c d i j nd x y) (n : Nat) : Pw (w.drewN n) p c d i j nd x y := ⟨h.c0, h.c1, h.c2, h.c3, h.c4, h.c5, h.c6, h.fr⟩
theorem far {w : World} {p o q : Nat} {v : Value} {r : Option Value} (h : w.cell? ⟨p, q, .none⟩ = r) (ho : o ≠ q) : (w.setCell ⟨p, o, .none⟩ v).cell? ⟨p, q, .none⟩ = r := by
  rw [World.cell?_setCell_other _ _ _ _ (fun e => ho (congrArg Addr.off e))]; exact h
theorem fro {w : World} {p o : Nat} {v : Value} (h : ∀ q, w.frozen? ⟨p, q, .none⟩ = false) : ∀ q, (w.setCell ⟨p, o, .none⟩ v).frozen? ⟨p, q, .none⟩ = false := fun q => by
  rw [World.frozen?_setCell]; exact h q
theorem Pw.set2 {w : World} {p : Nat} {c d : Value} {i j : Int} {nd : ByteArray} {x y : Int} (h : Pw w p c d i j nd x y) (q : Int) : Pw (w.setCell ⟨p, 2, .none⟩ (.int .i64 q)) p c d q j nd x y :=
  ⟨far h.c0 (by decide), far h.c1 (by decide), World.cell?_setCell_same _ _ _ h.c2, far h.c3 (by decide), far h.c4 (by decide), far h.c5 (by decide), far h.c6 (by decide), fro h.fr⟩
theorem Pw.set3 {w : World} {p : Nat} {c d : Value} {i j : Int} {nd : ByteArray} {x y : Int} (h : Pw w p c d i j nd x y) (q : Int) : Pw (w.setCell ⟨p, 3, .none⟩ (.int .i64 q)) p c d i q nd x y :=
  ⟨far h.c0 (by decide), far h.c1 (by decide), far h.c2 (by decide), World.cell?_setCell_same _ _ _ h.c3, far h.c4 (by decide), far h.c5 (by decide), far h.c6 (by decide), fro h.fr⟩
theorem Pw.set4 {w : World} {p : Nat} {c d : Value} {i j : Int} {nd : ByteArray} {x y : Int} (h : Pw w p c d i j nd x y) (q : ByteArray) : Pw (w.setCell ⟨p, 4, .none⟩ (.string q)) p c d i j q x y :=
  ⟨far h.c0 (by decide), far h.c1 (by decide), far h.c2 (by decide), far h.c3 (by decide), World.cell?_setCell_same _ _ _ h.c4, far h.c5 (by decide), far h.c6 (by decide), fro h.fr⟩
theorem Pw.set5 {w : World} {p : Nat} {c d : Value} {i j : Int} {nd : ByteArray} {x y : Int} (h : Pw w p c d i j nd x y) (q : Int) : Pw (w.setCell ⟨p, 5, .none⟩ (.int .u64 q)) p c d i j nd q y :=
  ⟨far h.c0 (by decide), far h.c1 (by decide), far h.c2 (by decide), far h.c3 (by decide), far h.c4 (by decide), World.cell?_setCell_same _ _ _ h.c5, far h.c6 (by decide), fro h.fr⟩
theorem Pw.set6 {w : World} {p : Nat} {c d : Value} {i j : Int} {nd : ByteArray} {x y : Int} (h : Pw w p c d i j nd x y) (q : Int) : Pw (w.setCell ⟨p, 6, .none⟩ (.int .u64 q)) p c d i j nd x q :=
  ⟨far h.c0 (by decide), far h.c1 (by decide), far h.c2 (by decide), far h.c3 (by decide), far h.c4 (by decide), far h.c5 (by decide), World.cell?_setCell_same _ _ _ h.c6, fro h.fr⟩

set_option maxHeartbeats 1000000 in
theorem next_end (ca da : Option Addr) (n cc m dc p : Nat) (nd : ByteArray) (x y : Int) (w : World) (h : Pw w p (.slice ca n cc) (.slice da m dc) n m nd x y) :
    Calls Yba.prog 10 #[.pointer (some ⟨p, 0, .none⟩)] w fun e w' => e = .returned (.bool false) ∧ ∃ q, w' = w.drewN q := by
  obtain ⟨c0, c1, c2, c3, c4, c5, c6, fr⟩ := h
  go_enter Yba.func10, Yba.ntmps10
  go_wp2_with fail
  go_quiet (fail)
  go_wp2_with fail
  go_ret
  exact ⟨rfl, _, rfl⟩

end Go.Proofs.Ybulkejsk
