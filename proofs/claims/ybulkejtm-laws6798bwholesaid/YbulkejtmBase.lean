import Derived.Test.YbulkejtmRows
import Derived.WalkKit
import Derived.ProofKit
import Derived.OpenShut
import Derived.Outline
import Derived.WalkLawsBesides
import Derived.WalkSpells
import Derived.Deep.DeepMust
import Derived.Deep.OwnRows
import Derived.Deep.RegionHeld3
import Derived.Deep.AppendLies
import Derived.Deep.LoopGhost
import Derived.Deep.Light
import Derived.Deep.QuietTactic
import Derived.BigQuiet
import Derived.Laws.CopyRow
namespace Go.Proofs.Ybulkejtm
open Go.ChangeShapes Go.WideShapes Go.ChangeAt Go.RowKit

theorem hide {p : Prop} (h : p) : Hid p := h
theorem unhide {p : Prop} (h : Hid p) : p := h
theorem ret_bool {a b : Bool} (h : a = b) : Ending.returned (.bool a) = .returned (.bool b) := by rw [h]

/-! ### Worlds that only grow -/
def Grow (w w' : World) : Prop := Below w.heap.size w w'
theorem Grow.refl (w : World) : Grow w w := Below.refl _ _
theorem Grow.trans {a b c : World} (h : Grow a b) (k : Grow b c) : Grow a c := Below.trans h (Below.mono k (Below.size h))
theorem Grow.alloc {a b : World} (h : Grow a b) (o : Obj) : Grow a (b.alloc o) := Below.alloc h (Below.size h) o
theorem Grow.drew {a b : World} (h : Grow a b) : Grow a b.drew := Below.drew h
theorem below_drewN {B : Nat} {a w : World} (h : Below B a w) (n : Nat) : Below B a (w.drewN n) := ⟨h.os, h.tape, h.output, h.size, h.block⟩
theorem Grow.drewN {a b : World} (h : Grow a b) (n : Nat) : Grow a (b.drewN n) := below_drewN h n
theorem Grow.size {a b : World} (h : Grow a b) : a.heap.size ≤ b.heap.size := Below.size h
theorem Grow.block {a b : World} (h : Grow a b) {k : Nat} (hk : k < a.heap.size) : b.heap[k]? = a.heap[k]? := Below.block h k hk
theorem Grow.row {w w' : World} (hb : Grow w w') {b : Nat} {t : TypeId} {n : Nat} {f : Nat → Value} (h : w.rowIs b t n f) : w'.rowIs b t n f := h.of_block (Below.block hb _ h.lt)
theorem Grow.cell {w w' : World} (hb : Grow w w') {a : Addr} {v : Value} (h : w.cell? a = some v) : w'.cell? a = some v := by
  rw [Below.cell hb (World.block_lt_of_cell? w a h)]; exact h
theorem owns_lt {w : World} {base : Nat} {e : TypeId} {size n : Nat} {v : Value} {xs : List Value} (h : w.ownsRow base e size v n xs) {g : Nat} (hg : v.ownBlock = some g) : g < w.heap.size ∧ base ≤ g := by
  rcases h.2 with ⟨h', _⟩ | ⟨g', cap', cur, h', hbase, hh, r⟩
  · rw [h'] at hg; simp [Value.ownBlock] at hg
  · rw [h'] at hg; simp [Value.ownBlock] at hg; subst hg
    exact ⟨(Array.getElem?_eq_some_iff.1 hh).1, hbase⟩
theorem owns_of {w w' : World} {base : Nat} {e : TypeId} {size n : Nat} {v : Value} {xs : List Value} (h : w.ownsRow base e size v n xs) (hb : ∀ g, v.ownBlock = some g → w'.heap[g]? = w.heap[g]?) : w'.ownsRow base e size v n xs := by
  rcases h with ⟨hl, h' | ⟨g', cap', cur, h', hbase, hg, r⟩⟩
  · exact ⟨hl, .inl h'⟩
  · exact ⟨hl, .inr ⟨g', cap', cur, h', hbase, (hb g' (by rw [h']; rfl)).trans hg, r⟩⟩
theorem Grow.owns {w w' : World} (hb : Grow w w') {base : Nat} {e : TypeId} {size n : Nat} {v : Value} {xs : List Value} (h : w.ownsRow base e size v n xs) : w'.ownsRow base e size v n xs :=
  owns_of h (fun _ hg => hb.block (owns_lt h hg).1)

/-! ### make and copy over rows of whatever width -/
theorem wpList_make_rows {P : Program} {w : World} {ops : Array Oper} {rest : List Oper} {o : Oper} {a : Act} {Q : Exit → Act → World → Prop}
    (hg : o.guard = none) (l c : Operand) (t : TypeId) (hop : o.op = Op.makeSlice t l c)
    (e : TypeId) (i : TypeInfo) (z : Value) (size : Nat) (h1 : P.underlying t = some (.slice e)) (h2 : P.info? e = some i) (h3 : i.zero = some z) (h4 : i.size = size)
    (kl kc : IntKind) (L C : Int) (n : Nat) (hl : a.eval l = .int kl L) (hc : a.eval c = .int kc C) (hL : L = (n : Int)) (hC : C = (n : Int)) (b2 : i.bytes * n ≤ 281474976710656) (b3 : n ≤ maxLen)
    (hK : ∀ (R : Nat) w' f, Hid (R = w.heap.size) → w'.rowIs R e (n * size) f → Grow w w' → w'.heap.size = R + 1 → wpList P ops Q rest (a.put o.dst (.slice (some ⟨R, 0, .none⟩) n n)) w') :
    wpList P ops Q (o :: rest) a w := by
  subst hL hC
  refine wpList_plain hg fun K hK' => ?_
  have hb' : (i.bytes : Int) * (n : Int) ≤ 281474976710656 := by
    have h : ((i.bytes * n : Nat) : Int) ≤ 281474976710656 := by omega
    rwa [Int.natCast_mul] at h
  have hrun := run_make (P := P) w t e i z h1 h2 h3 kl kc n n (by omega) (Int.le_refl _) hb' (by unfold maxLen at b3; omega)
  simp only [Int.toNat_natCast, h4] at hrun
  unfold Oper.wp
  simp [execOp, hop, hl, hc, hrun, Result.andThen]
  refine hK' _ _ (hK w.heap.size _ (fun j => (madeCells z.cells (n * size)).getD j undef) rfl ?_ ((Grow.refl w).alloc _) (by simp))
  have hr := World.rowIs_alloc w (madeCells z.cells (n * size)) e (fun j => (madeCells z.cells (n * size)).getD j undef) (fun j hj => by simp [Array.getD, hj])
  rwa [size_madeCells] at hr

theorem run_copy_wide {P : Program} (w : World) (dT sT ty elem : TypeId) (g dCap : Nat) (ad : Addr) (sCap n size : Nat) (t : TypeId) (f c : Nat → Value)
    (hu : P.underlying dT = some (.slice elem)) (hs : (P.info? elem).map (·.size) = some size)
    (hg : w.rowIs g t (n * size) f) (hsrc : ∀ j, j < n * size → w.cell? (ad.add j) = some (c j)) (h1 : ∀ j, j < n * size → (c j).oneCell' = true) :
    ∃ w', (Builtin.copy_ #[dT, sT] ty #[.slice (some ⟨g, 0, .none⟩) n dCap, .slice (some ad) n sCap]).run P w = .ok (goInt n) w' ∧
      w'.rowIs g t (n * size) c ∧ Below g w w' ∧ w'.heap.size = w.heap.size := by
  obtain ⟨cur, hb, hsz, hcell⟩ := hg
  have hlen : ((List.range (n * size)).map c).length = n * size := by simp
  have hl := run_loadCells_list (P := P) w ad ((List.range (n * size)).map c) (fun j v hv => by
    rw [List.getElem?_map] at hv
    by_cases hj : j < n * size
    · rw [List.getElem?_range hj] at hv; simp at hv; subst hv; exact hsrc j hj
    · rw [List.getElem?_eq_none (by simp; omega)] at hv; simp at hv)
  rw [hlen] at hl
  have hst := run_storeCells_at P g 0 t ((List.range (n * size)).map c) 0 cur w hb (by simp [hsz]) (fun v hv => by
    obtain ⟨j, hj, rfl⟩ := List.mem_map.1 hv
    exact h1 j (List.mem_range.1 hj))
  refine ⟨w.setRow g (((List.range (n * size)).map c)).toArray, ?_, ?_, ?_, ?_⟩
  · have e : (cur.toList.take (0 + 0) ++ (List.range (n * size)).map c ++ cur.toList.drop (0 + 0 + ((List.range (n * size)).map c).length)) = (List.range (n * size)).map c := by
      rw [hlen, List.drop_eq_nil_of_le (by simp [hsz])]; simp
    rw [e] at hst
    cases hq : P.info? elem with
    | none => simp [hq] at hs
    | some i =>
      have hi : i.size = size := by simpa [hq] using hs
      simp [Builtin.copy_, run_underlying hu, Builtin.lenOf, Builtin.firstCells, sizeOf, typeInfo, hq, hi, hl, hst]
  · exact ⟨_, setRow_heap w g cur _ t _ hb, by simp, fun j hj => by simp [hj]⟩
  · exact ⟨rfl, rfl, rfl, by simp [World.setRow], fun k hk => setRow_other w g k _ (by omega)⟩
  · simp [World.setRow]
end Go.Proofs.Ybulkejtm
