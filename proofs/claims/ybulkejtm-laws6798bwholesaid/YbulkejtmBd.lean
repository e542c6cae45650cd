import Derived.Test.YbulkejtmZed
namespace Go.Proofs.Ybulkejtm
open Go.ChangeShapes Go.WideShapes Go.ChangeAt Go.RowKit

/-- How the arguments read. -/
structure ArgB (w : World) (a0 a1 : Option Addr) (F E fb fo eb eo : Nat) (fn : Nat → Int) (co ha : Nat → Bool) (va : Nat → ByteArray) (en : Nat → Int) (ev : Nat → ByteArray) : Prop where
  len : F + E ≤ 4096
  h0 : 0 < F → a0 = some ⟨fb, fo, .none⟩
  f0 : ∀ i, i < F → w.cell? ⟨fb, fo + i * 4, .none⟩ = some (.int .u8 (fn i))
  f1 : ∀ i, i < F → w.cell? ⟨fb, fo + i * 4 + 1, .none⟩ = some (.bool (co i))
  f2 : ∀ i, i < F → w.cell? ⟨fb, fo + i * 4 + 2, .none⟩ = some (.bool (ha i))
  f3 : ∀ i, i < F → w.cell? ⟨fb, fo + i * 4 + 3, .none⟩ = some (.string (va i))
  b0 : ∀ i, i < F → 0 ≤ fn i ∧ fn i ≤ 255
  ein : Ein w E a1 eb eo en ev

/-- Cells by their number, at a width. -/
def rcl (f : Nat → List Value) : Nat → List Value
  | 0 => []
  | i + 1 => rcl f i ++ f i
theorem rcl_len {f : Nat → List Value} {s : Nat} (h : ∀ i, (f i).length = s) : ∀ n, (rcl f n).length = n * s
  | 0 => by simp [rcl]
  | n + 1 => by rw [rcl, List.length_append, rcl_len h n, h, Nat.add_mul, Nat.one_mul]
theorem rcl_at {f : Nat → List Value} {s : Nat} (h : ∀ i, (f i).length = s) : ∀ n i k, i < n → k < s → (rcl f n)[i * s + k]? = (f i)[k]?
  | 0, i, k, hi, hk => absurd hi (Nat.not_lt_zero _)
  | n + 1, i, k, hi, hk => by
    have hl := rcl_len h n
    rw [rcl]
    by_cases e : i = n
    · subst e
      rw [List.getElem?_append_right (by omega), hl, Nat.add_sub_cancel_left]
    · have : i * s + k < n * s := by
        have h1 : (i + 1) * s ≤ n * s := Nat.mul_le_mul_right _ (by omega)
        rw [Nat.add_mul, Nat.one_mul] at h1; omega
      rw [List.getElem?_append_left (by omega)]
      exact rcl_at h n i k (by omega) hk
theorem rcl_congr {f g : Nat → List Value} : ∀ {n : Nat}, (∀ i, i < n → f i = g i) → rcl f n = rcl g n
  | 0, _ => rfl
  | n + 1, h => by rw [rcl, rcl, rcl_congr (fun i hi => h i (by omega)), h n (by omega)]

def fc1 (n : Int) (co : Bool) (bx : Nat) : List Value := [.string (nm n), .bool co, .string ⟨#[]⟩, .nilFunc, .func (.func 15) #[] #[.pointer (some ⟨bx, 0, .none⟩)], .nilFunc]
theorem fc1_one (n : Int) (co : Bool) (bx : Nat) : ∀ u ∈ fc1 n co bx, u.oneCell' = true := by
  intro u hu; simp [fc1] at hu; rcases hu with rfl | rfl | rfl | rfl | rfl | rfl <;> rfl

/-- The shape and the value while they are built. -/
structure Bd (w wr : World) (iS iH iV iX : Nat) (sv hv vv xv : Value) (bx : Nat → Nat) (fn : Nat → Int) (co ha : Nat → Bool) (va : Nat → ByteArray) (en : Nat → Int) (ev : Nat → ByteArray) : Prop where
  g : Grow w wr
  lt : w.heap.size + 2 ≤ wr.heap.size
  cS0 : wr.cell? ⟨w.heap.size + 1, 0, .none⟩ = some sv
  cS1 : wr.cell? ⟨w.heap.size + 1, 1, .none⟩ = some (.func (.func 9) #[] #[])
  cT0 : wr.cell? ⟨w.heap.size, 0, .none⟩ = some hv
  cT1 : wr.cell? ⟨w.heap.size, 1, .none⟩ = some vv
  cT2 : wr.cell? ⟨w.heap.size, 2, .none⟩ = some xv
  zS : ∀ o, wr.frozen? ⟨w.heap.size + 1, o, .none⟩ = false
  zT : ∀ o, wr.frozen? ⟨w.heap.size, o, .none⟩ = false
  oS : wr.ownsRow (w.heap.size + 2) 70 6 sv iS (rcl (fun i => fc1 (n5 (fn i)) (co i) (bx i)) iS)
  oH : wr.ownsRow (w.heap.size + 2) 4 1 hv iH (rcl (fun i => [.bool (ha i)]) iH)
  oV : wr.ownsRow (w.heap.size + 2) 9 1 vv iV (rcl (fun i => [.string (va i)]) iV)
  oX : wr.ownsRow (w.heap.size + 2) 74 7 xv iX (rcl (fun j => mc1 (n7 (en j), ev j)) iX)
  bc : ∀ j, j < iS → wr.heap[bx j]? = some (.cells #[.int .i64 j] 3 (0, 0))

theorem tag_ne {w : World} {B1 B2 : Nat} {e1 e2 : TypeId} {s1 s2 n1 n2 : Nat} {v1 v2 : Value} {x1 x2 : List Value} (h1 : w.ownsRow B1 e1 s1 v1 n1 x1) (h2 : w.ownsRow B2 e2 s2 v2 n2 x2) (hne : e1 ≠ e2) : ∀ g, v1.ownBlock = some g → v2.ownBlock ≠ some g := by
  intro g hg hu
  rcases h1.2 with ⟨rfl, _⟩ | ⟨g1, cap1, cur1, rfl, _, q1, _⟩
  · simp [Value.ownBlock] at hg
  · simp [Value.ownBlock] at hg; subst hg
    rcases h2.2 with ⟨rfl, _⟩ | ⟨g2, cap2, cur2, rfl, _, q2, _⟩
    · simp [Value.ownBlock] at hu
    · simp [Value.ownBlock] at hu; subst hu
      rw [q1] at q2; simp at q2
      exact hne q2.2
theorem box_ne {w : World} {B1 : Nat} {e1 : TypeId} {s1 n1 : Nat} {v1 : Value} {x1 : List Value} {b : Nat} {cs : Array Value} (h1 : w.ownsRow B1 e1 s1 v1 n1 x1) (h2 : w.heap[b]? = some (.cells cs 3 (0, 0))) (hne : e1 ≠ 3) : v1.ownBlock ≠ some b := by
  intro hg
  rcases h1.2 with ⟨rfl, _⟩ | ⟨g1, cap1, cur1, rfl, _, q1, _⟩
  · simp [Value.ownBlock] at hg
  · simp [Value.ownBlock] at hg; subst hg
    rw [h2] at q1; simp at q1
    exact hne q1.2.symm
theorem heap_lt {w : World} {b : Nat} {o : Obj} (h : w.heap[b]? = some o) : b < w.heap.size := (Array.getElem?_eq_some_iff.1 h).1

section
variable {w wr : World} {iS iH iV iX : Nat} {sv hv vv xv : Value} {bx : Nat → Nat} {fn : Nat → Int} {co ha : Nat → Bool} {va : Nat → ByteArray} {en : Nat → Int} {ev : Nat → ByteArray}

theorem Bd.grow {W : World} (h : Bd w wr iS iH iV iX sv hv vv xv bx fn co ha va en ev) (k : Grow wr W) : Bd w W iS iH iV iX sv hv vv xv bx fn co ha va en ev :=
  ⟨h.g.trans k, Nat.le_trans h.lt k.size, k.cell h.cS0, k.cell h.cS1, k.cell h.cT0, k.cell h.cT1, k.cell h.cT2,
   fun o => (World.frozen?_of_block (a := ⟨w.heap.size + 1, o, .none⟩) (k.block (by have := h.lt; show w.heap.size + 1 < _; omega))).trans (h.zS o), fun o => (World.frozen?_of_block (a := ⟨w.heap.size, o, .none⟩) (k.block (by have := h.lt; show w.heap.size < _; omega))).trans (h.zT o),
   k.owns h.oS, k.owns h.oH, k.owns h.oV, k.owns h.oX, fun j hj => (k.block (heap_lt (h.bc j hj))).trans (h.bc j hj)⟩

/-- A world in which only blocks from w on have turned. -/
theorem kept_grow {St : Nat → Prop} {W : World} (h : Grow w wr) (k : Kept St wr W) (hs : ∀ x, St x → w.heap.size ≤ x) : Grow w W :=
  ⟨k.os.trans (Below.os h), k.tape.trans (Below.tape h), k.output.trans (Below.output h), Nat.le_trans h.size k.size, fun x hx => (k.block x (Nat.lt_of_lt_of_le hx h.size) (fun q => by have := hs x q; omega)).trans (h.block hx)⟩

theorem Bd.stepS {W : World} {sv' : Value} {b : Nat} (h : Bd w wr iS iH iV iX sv hv vv xv bx fn co ha va en ev) (K : Kept (fun x => x = w.heap.size + 1 ∨ sv.ownBlock = some x) wr W) (c0 : W.cell? ⟨w.heap.size + 1, 0, .none⟩ = some sv') (c1 : W.cell? ⟨w.heap.size + 1, 1, .none⟩ = some (.func (.func 9) #[] #[])) (z : ∀ o, W.frozen? ⟨w.heap.size + 1, o, .none⟩ = false)
    (o : W.ownsRow (w.heap.size + 2) 70 6 sv' (iS + 1) (rcl (fun i => fc1 (n5 (fn i)) (co i) (bx i)) iS ++ fc1 (n5 (fn iS)) (co iS) b)) (hb : W.heap[b]? = some (.cells #[.int .i64 iS] 3 (0, 0))) :
    Bd w W (iS + 1) iH iV iX sv' hv vv xv (fun j => if j = iS then b else bx j) fn co ha va en ev := by
  have nT : ¬ (w.heap.size = w.heap.size + 1 ∨ sv.ownBlock = some w.heap.size) := fun q => q.elim (by omega) (fun e => by have := (owns_lt h.oS e).2; omega)
  have nr : ∀ {e : TypeId} {s n : Nat} {v : Value} {x : List Value}, wr.ownsRow (w.heap.size + 2) e s v n x → e ≠ 70 → ∀ g, v.ownBlock = some g → ¬ (g = w.heap.size + 1 ∨ sv.ownBlock = some g) := fun ho he g hg q =>
    q.elim (fun e => by have := (owns_lt ho hg).2; omega) (fun e => tag_ne ho h.oS he g hg e)
  refine ⟨kept_grow h.g K (fun x q => q.elim (fun e => by omega) (fun e => by have := (owns_lt h.oS e).2; omega)), Nat.le_trans h.lt K.size, c0, c1, K.cell h.cT0 nT, K.cell h.cT1 nT, K.cell h.cT2 nT, z, fun o => (K.frozen (p := ⟨w.heap.size, o, .none⟩) (by have := h.lt; show w.heap.size < _; omega) nT).trans (h.zT o), ?_, K.owns h.oH (nr h.oH (by decide)), K.owns h.oV (nr h.oV (by decide)), K.owns h.oX (nr h.oX (by decide)), fun j hj => ?_⟩
  · rw [rcl, rcl_congr (g := fun i => fc1 (n5 (fn i)) (co i) (bx i)) (fun i hi => by simp [Nat.ne_of_lt hi])]
    simpa using o
  · by_cases e : j = iS
    · subst e; simpa using hb
    · simp only [e, if_false]
      have hj2 := h.bc j (by omega)
      exact (K.block _ (heap_lt hj2) (fun q => q.elim (fun e2 => by
        rw [e2] at hj2
        have := h.cS1
        simp [World.cell?, hj2] at this) (fun e2 => box_ne h.oS hj2 (by decide) e2))).trans hj2

theorem Bd.stepT {W : World} {St : Nat → Prop} (h : Bd w wr iS iH iV iX sv hv vv xv bx fn co ha va en ev) (K : Kept St wr W) (hge : ∀ x, St x → w.heap.size ≤ x) (nS : ¬ St (w.heap.size + 1)) (nb : ∀ b (j : Nat), wr.heap[b]? = some (.cells #[.int .i64 j] 3 (0, 0)) → ¬ St b) (z : ∀ o, W.frozen? ⟨w.heap.size, o, .none⟩ = false) {hv' vv' xv' : Value} {iH' iV' iX' : Nat}
    (c0 : W.cell? ⟨w.heap.size, 0, .none⟩ = some hv') (c1 : W.cell? ⟨w.heap.size, 1, .none⟩ = some vv') (c2 : W.cell? ⟨w.heap.size, 2, .none⟩ = some xv') (hS : ∀ g, sv.ownBlock = some g → ¬ St g)
    (oH : W.ownsRow (w.heap.size + 2) 4 1 hv' iH' (rcl (fun i => [.bool (ha i)]) iH')) (oV : W.ownsRow (w.heap.size + 2) 9 1 vv' iV' (rcl (fun i => [.string (va i)]) iV')) (oX : W.ownsRow (w.heap.size + 2) 74 7 xv' iX' (rcl (fun j => mc1 (n7 (en j), ev j)) iX')) :
    Bd w W iS iH' iV' iX' sv hv' vv' xv' bx fn co ha va en ev :=
  ⟨kept_grow h.g K hge, Nat.le_trans h.lt K.size, K.cell h.cS0 nS, K.cell h.cS1 nS, c0, c1, c2, fun o => (K.frozen (p := ⟨w.heap.size + 1, o, .none⟩) (by have := h.lt; show w.heap.size + 1 < _; omega) nS).trans (h.zS o), z, K.owns h.oS hS, oH, oV, oX,
   fun j hj => (K.block _ (heap_lt (h.bc j hj)) (nb _ _ (h.bc j hj))).trans (h.bc j hj)⟩

/-- The class of blocks that 'x.f = append(x.f, ..)' turns, for a field of the value. -/
theorem stT {v : Value} {e : TypeId} {s n : Nat} {xs : List Value} (h : Bd w wr iS iH iV iX sv hv vv xv bx fn co ha va en ev) (ho : wr.ownsRow (w.heap.size + 2) e s v n xs) (h70 : e ≠ 70) (h3 : e ≠ 3) :
    (∀ x, (x = w.heap.size ∨ v.ownBlock = some x) → w.heap.size ≤ x) ∧ ¬ (w.heap.size + 1 = w.heap.size ∨ v.ownBlock = some (w.heap.size + 1)) ∧ (∀ b (j : Nat), wr.heap[b]? = some (.cells #[.int .i64 j] 3 (0, 0)) → ¬ (b = w.heap.size ∨ v.ownBlock = some b)) ∧ (∀ g, sv.ownBlock = some g → ¬ (g = w.heap.size ∨ v.ownBlock = some g)) :=
  ⟨fun x q => q.elim (fun e => by omega) (fun e => by have := (owns_lt ho e).2; omega), fun q => q.elim (by omega) (fun e => by have := (owns_lt ho e).2; omega),
   fun b j hb q => q.elim (fun e => by
     rw [e] at hb
     have := h.cT1
     simp [World.cell?, hb] at this) (fun e => box_ne ho hb h3 e),
   fun g hg q => q.elim (fun e => by have := (owns_lt h.oS hg).2; omega) (fun e => tag_ne h.oS ho (Ne.symm h70) g hg e)⟩
end
end Go.Proofs.Ybulkejtm
