import Derived.WalkKit
import Derived.Deep.OwnRows
import Derived.Laws.CopyRow
namespace Go.Proofs.Ybulkejri
open Go.RowKit

theorem hide {p : Prop} (h : p) : Hid p := h
theorem unhide {p : Prop} (h : Hid p) : p := h

/-- 'make([]T, n)', n a variable, T of whatever width: a new row at the heap's end; what its cells hold is left open. -/
theorem wpList_make_rows {P : Program} {w : World} {ops : Array Oper} {rest : List Oper} {o : Oper} {a : Act} {Q : Exit → Act → World → Prop}
    (hg : o.guard = none) (l c : Operand) (t : TypeId) (hop : o.op = Op.makeSlice t l c)
    (e : TypeId) (i : TypeInfo) (z : Value) (size : Nat) (h1 : P.underlying t = some (.slice e)) (h2 : P.info? e = some i) (h3 : i.zero = some z) (h4 : i.size = size)
    (kl kc : IntKind) (n : Nat) (hl : a.eval l = .int kl (n : Int)) (hc : a.eval c = .int kc (n : Int)) (b2 : i.bytes * n ≤ 281474976710656) (b3 : n ≤ maxLen)
    (hK : ∀ w' f, w'.rowIs w.heap.size e (n * size) f → Below w.heap.size w w' → w'.heap.size = w.heap.size + 1 → wpList P ops Q rest (a.put o.dst (.slice (some ⟨w.heap.size, 0, .none⟩) n n)) w') :
    wpList P ops Q (o :: rest) a w := by
  refine wpList_plain hg fun K hK' => ?_
  have hb' : (i.bytes : Int) * (n : Int) ≤ 281474976710656 := by
    have h : ((i.bytes * n : Nat) : Int) ≤ 281474976710656 := by omega
    rwa [Int.natCast_mul] at h
  have hrun := run_make (P := P) w t e i z h1 h2 h3 kl kc n n (by omega) (Int.le_refl _) hb' (by unfold maxLen at b3; omega)
  simp only [Int.toNat_natCast, h4] at hrun
  unfold Oper.wp
  simp [execOp, hop, hl, hc, hrun, Result.andThen]
  refine hK' _ _ (hK _ (fun j => (madeCells z.cells (n * size)).getD j undef) ?_ ((Below.refl _ _).alloc (Nat.le_refl _) _) (by simp))
  have hr := World.rowIs_alloc w (madeCells z.cells (n * size)) e (fun j => (madeCells z.cells (n * size)).getD j undef) (fun j hj => by simp [Array.getD, hj])
  rwa [size_madeCells] at hr

/-- The same, the new row's number under a name. -/
theorem wpList_make_named {P : Program} {w : World} {ops : Array Oper} {rest : List Oper} {o : Oper} {a : Act} {Q : Exit → Act → World → Prop}
    (hg : o.guard = none) (l c : Operand) (t : TypeId) (hop : o.op = Op.makeSlice t l c)
    (e : TypeId) (i : TypeInfo) (z : Value) (size : Nat) (h1 : P.underlying t = some (.slice e)) (h2 : P.info? e = some i) (h3 : i.zero = some z) (h4 : i.size = size)
    (kl kc : IntKind) (n : Nat) (hl : a.eval l = .int kl (n : Int)) (hc : a.eval c = .int kc (n : Int)) (b2 : i.bytes * n ≤ 281474976710656) (b3 : n ≤ maxLen)
    (hK : ∀ (C : Nat) w' f, Hid (C = w.heap.size) → w'.rowIs C e (n * size) f → Below w.heap.size w w' → w'.heap.size = C + 1 → wpList P ops Q rest (a.put o.dst (.slice (some ⟨C, 0, .none⟩) n n)) w') :
    wpList P ops Q (o :: rest) a w :=
  wpList_make_rows hg l c t hop e i z size h1 h2 h3 h4 kl kc n hl hc b2 b3 fun w' f r b s => hK _ w' f rfl r b s

/-- 'copy(dst, src)' over whole rows of whatever width. -/
theorem run_copy_wide {P : Program} (w : World) (dT sT ty elem : TypeId) (g dCap : Nat) (ad : Addr) (sCap n size : Nat) (t : TypeId) (f c : Nat → Value)
    (hu : P.underlying dT = some (.slice elem)) (hs : (P.info? elem).map (·.size) = some size)
    (hg : w.rowIs g t (n * size) f) (hsrc : ∀ j, j < n * size → w.cell? (ad.add j) = some (c j)) (h1 : ∀ j, j < n * size → (c j).oneCell' = true) :
    ∃ w', (Builtin.copy_ #[dT, sT] ty #[.slice (some ⟨g, 0, .none⟩) n dCap, .slice (some ad) n sCap]).run P w = .ok (goInt n) w' ∧
      w'.rowIs g t (n * size) c ∧ Below g w w' ∧ w'.heap.size = w.heap.size := by
  obtain ⟨cur, hb, hsz, hcell⟩ := hg
  have hlen : ((List.range (n * size)).map c).length = n * size := by simp
  have hl := run_loadCells_list (P := P) w ad ((List.range (n * size)).map c) (fun j v hv => by
    rw [List.getElem?_map] at hv
    by_cases hj : j < n * size
    · rw [List.getElem?_range hj] at hv; simp at hv; subst hv; exact hsrc j hj
    · rw [List.getElem?_eq_none (by simp; omega)] at hv; simp at hv)
  rw [hlen] at hl
  have hst := run_storeCells_at P g 0 t ((List.range (n * size)).map c) 0 cur w hb (by simp [hsz]) (fun v hv => by
    obtain ⟨j, hj, rfl⟩ := List.mem_map.1 hv
    exact h1 j (List.mem_range.1 hj))
  refine ⟨w.setRow g (((List.range (n * size)).map c)).toArray, ?_, ?_, ?_, ?_⟩
  · have e : (cur.toList.take (0 + 0) ++ (List.range (n * size)).map c ++ cur.toList.drop (0 + 0 + ((List.range (n * size)).map c).length)) = (List.range (n * size)).map c := by
      rw [hlen, List.drop_eq_nil_of_le (by simp [hsz])]; simp
    rw [e] at hst
    cases hq : P.info? elem with
    | none => simp [hq] at hs
    | some i =>
      have hi : i.size = size := by simpa [hq] using hs
      simp [Builtin.copy_, run_underlying hu, Builtin.lenOf, Builtin.firstCells, sizeOf, typeInfo, hq, hi, hl, hst]
  · exact ⟨_, setRow_heap w g cur _ t _ hb, by simp, fun j hj => by simp [hj]⟩
  · exact ⟨rfl, rfl, rfl, by simp [World.setRow], fun k hk => setRow_other w g k _ (by omega)⟩
  · simp [World.setRow]

theorem wpList_copy_wide {P : Program} {w : World} {ops : Array Oper} {rest : List Oper} {o : Oper} {a : Act} {Q : Exit → Act → World → Prop} (hgd : o.guard = none) (d s : Operand) (dT sT : TypeId)
    (ho : o.op = .call { callee := .builtin .copy, args := #[d, s], argTypes := #[dT, sT] }) (elem : TypeId) (hu : P.underlying dT = some (.slice elem)) (size : Nat) (hsz : (P.info? elem).map (·.size) = some size)
    (g n dCap : Nat) (ad : Addr) (sCap : Nat) (hd : a.eval d = .slice (some ⟨g, 0, .none⟩) n dCap) (hs : a.eval s = .slice (some ad) n sCap)
    (t : TypeId) (f c : Nat → Value) (hg : w.rowIs g t (n * size) f)
    (hsrc : ∀ j, j < n * size → w.cell? (ad.add j) = some (c j)) (h1 : ∀ j, j < n * size → (c j).oneCell' = true)
    (h : ∀ w', w'.rowIs g t (n * size) c → Below g w w' → w'.heap.size = w.heap.size → wpList P ops Q rest (a.put o.dst (goInt n)) w') : wpList P ops Q (o :: rest) a w := by
  refine wpList_plain hgd fun K hK => ?_
  obtain ⟨w', hrun, r1, r2, r3⟩ := run_copy_wide (P := P) w dT sT o.type elem g dCap ad sCap n size t f c hu hsz hg hsrc h1
  unfold Oper.wp
  simp [execOp, ho, resolve, invoke, builtin, hd, hs, hrun, Result.andThen]
  exact hK _ _ (h w' r1 r2 r3)
end Go.Proofs.Ybulkejri
