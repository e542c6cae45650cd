import Derived.Test.YbulkejskBuild
namespace Go.Proofs.Ybulkejsk
open Go.ChangeShapes Go.WideShapes Go.ChangeAt Go.RowKit

/-- 'append([]entry(nil), xs...)': a copy in a row of its own (or nil). -/
theorem wpList_clone {w : World} {ops : Array Oper} {rest : List Oper} {o : Oper} {a : Act} {Q : Exit → Act → World → Prop} (hgd : o.guard = none) (s x : Operand)
    (ho : o.op = .call { callee := .builtin .append, args := #[s, x], argTypes := #[25, 25] }) (ao : Option Addr) (n c : Nat) (hs : a.eval s = .slice .none 0 0) (hx : a.eval x = .slice ao n c)
    (base : Nat) (xs : List Value) (hn : n ≤ 8) (hown : w.ownsRow base 34 2 (.slice ao n c) n xs) (h1 : ∀ u ∈ xs, u.oneCell' = true)
    (h : ∀ ao' c' w', w'.ownsRow w.heap.size 34 2 (.slice ao' n c') n xs → w.grownBy w' .none → wpList Yba.prog ops Q rest (a.put o.dst (.slice ao' n c')) w') : wpList Yba.prog ops Q (o :: rest) a w := by
  obtain ⟨i0, hi, hz0, hz1, hz2⟩ := info_parts Yba.info34
  refine wpList_plain hgd fun K hK => ?_
  unfold Oper.wp execOp
  have hnil : w.ownsRow w.heap.size 34 2 (.slice .none 0 0) 0 [] := World.ownsRow_nil _ _ _ _
  rcases hown with ⟨hl, ⟨hv, rfl⟩ | ⟨g, cap, cur, hv, hbase, hg, hnc, hcm, hcs, htake⟩⟩
  · obtain rfl : xs = [] := List.eq_nil_of_length_eq_zero (by simpa using hl)
    have hr := run_append_owned_none (P := Yba.prog) w w.heap.size 25 o.type 34 i0 2 Yba.underlying25 hi (.slice .none 0 0) 0 [] hnil
    rw [hv] at hx
    simp only [ho, resolve, invoke, builtin, Sem.run_bind, Sem.run_pure, Result.andThen_ok, List.map_toArray, List.map_cons, List.map_nil, hs, hx, hr]
    exact hK _ _ (h .none 0 w hnil ⟨rfl, rfl, rfl, Nat.le_refl _, fun _ _ _ => rfl⟩)
  · have hnews : ∀ j u, xs[j]? = some u → w.cell? ((⟨g, 0, .none⟩ : Addr).add j) = some u := fun j u hu => by
      have hj : j < n * 2 := by
        have := (List.getElem?_eq_some_iff.1 hu).1; omega
      have e : (⟨g, 0, .none⟩ : Addr).add j = ⟨g, j, .none⟩ := by unfold Addr.add; split <;> simp_all
      rw [e, cell_of_row w g j cur 34 (0, 0) hg, ← Array.getElem?_toList]
      rw [← htake, List.getElem?_take, if_pos hj] at hu
      exact hu
    obtain ⟨v', w', hr, h2, h3, h4⟩ := run_append_own (P := Yba.prog) w w.heap.size 25 o.type 34 i0 _ 2 24 Yba.underlying25 hi hz0 hz1 hz2 rfl (by decide) (.slice .none 0 0) 0 [] hnil ⟨g, 0, .none⟩ n cap xs hl hnews h1 (by unfold maxLen; omega) (by omega) (Nat.le_refl _)
    rw [hv] at hx
    simp only [ho, resolve, invoke, builtin, Sem.run_bind, Sem.run_pure, Result.andThen_ok, List.map_toArray, List.map_cons, List.map_nil, hs, hx, hr]
    simp only [Nat.zero_add, List.nil_append] at h2
    obtain ⟨ao', c', rfl⟩ : ∃ ao' c', v' = .slice ao' n c' := by
      rcases h2.2 with ⟨q1, q2⟩ | ⟨g', c', _, q1, _⟩
      · exact ⟨.none, 0, by rw [q1, q2]⟩
      · exact ⟨_, c', q1⟩
    exact hK _ _ (h ao' c' w' h2 h3)

/-- What the walk knows of a slice of drawn entries that came in. -/
structure Src (w : World) (a0 : Option Addr) (n : Nat) (F : Nat → Nat) (G : Nat → Int) (rb ro : Nat) : Prop where
  len : n ≤ 1048576
  here : 0 < n → a0 = some ⟨rb, ro, .none⟩
  lt : 0 < n → rb < w.heap.size
  node : ∀ i, i < n → w.cell? ⟨rb, ro + i * 2, .none⟩ = some (.int .u8 (F i : Nat))
  count : ∀ i, i < n → w.cell? ⟨rb, ro + i * 2 + 1, .none⟩ = some (.int .u64 (G i))
  bF : ∀ i, i < n → F i ≤ 255
  bG : ∀ i, i < n → 0 ≤ G i ∧ G i ≤ 18446744073709551615

theorem Src.below {w w' : World} {a0 : Option Addr} {n : Nat} {F : Nat → Nat} {G : Nat → Int} {rb ro : Nat} (h : Src w a0 n F G rb ro) (hb : Below w.heap.size w w') : Src w' a0 n F G rb ro :=
  ⟨h.len, h.here, fun q => Nat.lt_of_lt_of_le (h.lt q) hb.size, fun i hi => (hb.cell (p := ⟨rb, _, .none⟩) (h.lt (by omega))).trans (h.node i hi), fun i hi => (hb.cell (p := ⟨rb, _, .none⟩) (h.lt (by omega))).trans (h.count i hi), h.bF, h.bG⟩

theorem ents_of_owns {w : World} {base cp : Nat} {ao : Option Addr} {A : Nat → Int} (h : w.ownsRow base 34 2 (.slice ao (pos A 8) cp) (pos A 8) (cells A 8)) : ∃ g, Ents w w.heap.size ao g A ∧ (0 < pos A 8 → base ≤ g) := by
  rcases h.2 with ⟨h1, h2⟩ | ⟨g, cap, cur, hv, hbase, hg, hnc, hcm, hcs, htake⟩
  · refine ⟨0, ⟨fun q => by omega, fun q => by omega, fun k hk hz => ?_, fun k hk hz => ?_⟩, fun q => by omega⟩
    · have := pos_lt hk hz; omega
    · have := pos_lt hk hz; omega
  · simp only [Value.slice.injEq, true_and] at hv
    obtain ⟨rfl, rfl⟩ := hv
    refine ⟨g, ⟨fun _ => rfl, fun _ => (Array.getElem?_eq_some_iff.1 hg).1, fun k hk hz => ?_, fun k hk hz => ?_⟩, fun _ => hbase⟩
    · have := pos_lt hk hz
      rw [h.cellAt _ (by omega)]; exact (cells_at hk hz).1
    · have := pos_lt hk hz
      rw [h.cellAt _ (by omega)]; exact (cells_at hk hz).2

/-! ### Worlds that only grow -/
def Grow (w w' : World) : Prop := Below w.heap.size w w'
theorem Grow.refl (w : World) : Grow w w := Below.refl _ _
theorem Grow.trans {a b c : World} (h : Grow a b) (k : Grow b c) : Grow a c := Below.trans h (Below.mono k (Below.size h))
theorem Grow.alloc {a b : World} (h : Grow a b) (o : Obj) : Grow a (b.alloc o) := Below.alloc h (Below.size h) o
theorem Grow.drew {a b : World} (h : Grow a b) : Grow a b.drew := Below.drew h
theorem Grow.drewN {a b : World} (h : Grow a b) (n : Nat) : Grow a (b.drewN n) := below_drewN h n
theorem Grow.grown {a b c : World} (h : Grow a b) (k : b.grownBy c .none) : Grow a c := Below.grown h k (Below.size h) (fun _ q => by cases q)
theorem Grow.size {a b : World} (h : Grow a b) : a.heap.size ≤ b.heap.size := Below.size h
theorem Grow.owns {w w' : World} (hb : Grow w w') {base n : Nat} {v : Value} {xs : List Value} (h : w.ownsRow base 34 2 v n xs) : w'.ownsRow base 34 2 v n xs := by
  rcases h with ⟨hl, h' | ⟨g', cap', cur, h', hbase, hg, r⟩⟩
  · exact ⟨hl, .inl h'⟩
  · exact ⟨hl, .inr ⟨g', cap', cur, h', hbase, (Below.block hb g' (Array.getElem?_eq_some_iff.1 hg).1).trans hg, r⟩⟩
theorem Grow.row {w w' : World} (hb : Grow w w') {b : Nat} {t : TypeId} {n : Nat} {f : Nat → Value} (h : w.rowIs b t n f) : w'.rowIs b t n f := h.of_block (Below.block hb _ h.lt)
theorem Grow.cell {w w' : World} (hb : Grow w w') {a : Addr} {v : Value} (h : w.cell? a = some v) : w'.cell? a = some v := by
  rw [Below.cell hb (World.block_lt_of_cell? w a h)]; exact h

/-- Eight counters in a new block. -/
theorem row_new (W : World) (A : Nat → Int) : (W.alloc (.cells #[.int .u64 (A 0), .int .u64 (A 1), .int .u64 (A 2), .int .u64 (A 3), .int .u64 (A 4), .int .u64 (A 5), .int .u64 (A 6), .int .u64 (A 7)] 24)).rowIs W.heap.size 24 8 (fun k => .int .u64 (A k)) := by
  refine ⟨_, heap_alloc_new _ _, rfl, ?_⟩
  intro i hi
  match i, hi with
  | 0, _ => rfl
  | 1, _ => rfl
  | 2, _ => rfl
  | 3, _ => rfl
  | 4, _ => rfl
  | 5, _ => rfl
  | 6, _ => rfl
  | 7, _ => rfl

/-- The array's block, then the clock's. -/
def X (W : World) (A : Nat → Int) (ao : Option Addr) (cp : Nat) : World :=
  (W.alloc (.cells #[.int .u64 (A 0), .int .u64 (A 1), .int .u64 (A 2), .int .u64 (A 3), .int .u64 (A 4), .int .u64 (A 5), .int .u64 (A 6), .int .u64 (A 7)] 24)).alloc (.cells #[.slice ao (pos A 8) cp] 27)
theorem X_grow (W : World) (A : Nat → Int) (ao : Option Addr) (cp : Nat) : Grow W (X W A ao cp) := ((Grow.refl W).alloc _).alloc _
theorem X_row (W : World) (A : Nat → Int) (ao : Option Addr) (cp : Nat) : (X W A ao cp).rowIs W.heap.size 24 8 (fun k => .int .u64 (A k)) := (row_new W A).alloc _
theorem X_cell (W : World) (A : Nat → Int) (ao : Option Addr) (cp : Nat) : (X W A ao cp).cell? ⟨W.heap.size + 1, 0, .none⟩ = some (.slice ao (pos A 8) cp) := by
  unfold X; go_simp
theorem X_size (W : World) (A : Nat → Int) (ao : Option Addr) (cp : Nat) : (X W A ao cp).heap.size = W.heap.size + 1 + 1 := by simp [X]

/-- What stands when both clocks are built and copied: all below W's end. -/
structure Old (W : World) (ba bb : Nat) (A B : Nat → Int) (ao bo oc os : Option Addr) (cp cq cc cs : Nat) (w : World) : Prop where
  rowA : W.rowIs ba 24 8 (fun k => .int .u64 (A k))
  rowB : W.rowIs bb 24 8 (fun k => .int .u64 (B k))
  clk : W.cell? ⟨ba + 1, 0, .none⟩ = some (.slice ao (pos A 8) cp)
  stm : W.cell? ⟨bb + 1, 0, .none⟩ = some (.slice bo (pos B 8) cq)
  owA : W.ownsRow 0 34 2 (.slice ao (pos A 8) cp) (pos A 8) (cells A 8)
  owB : W.ownsRow 0 34 2 (.slice bo (pos B 8) cq) (pos B 8) (cells B 8)
  owC : W.ownsRow 0 34 2 (.slice oc (pos A 8) cc) (pos A 8) (cells A 8)
  owS : W.ownsRow 0 34 2 (.slice os (pos B 8) cs) (pos B 8) (cells B 8)
  grow : Grow w W

theorem Old.up {W W' : World} {ba bb : Nat} {A B : Nat → Int} {ao bo oc os : Option Addr} {cp cq cc cs : Nat} {w : World} (h : Old W ba bb A B ao bo oc os cp cq cc cs w) (g : Grow W W') : Old W' ba bb A B ao bo oc os cp cq cc cs w :=
  ⟨g.row h.rowA, g.row h.rowB, g.cell h.clk, g.cell h.stm, g.owns h.owA, g.owns h.owB, g.owns h.owC, g.owns h.owS, h.grow.trans g⟩

theorem owns_zero {w : World} {base n : Nat} {v : Value} {xs : List Value} (h : w.ownsRow base 34 2 v n xs) : w.ownsRow 0 34 2 v n xs := by
  rcases h with ⟨hl, h' | ⟨g', cap', cur, h', hbase, r⟩⟩
  · exact ⟨hl, .inl h'⟩
  · exact ⟨hl, .inr ⟨g', cap', cur, h', Nat.zero_le _, r⟩⟩

theorem old_mk {w w1 w2 w3 w4 : World} {A B : Nat → Int} {ao bo oc os : Option Addr} {cp cq cc cs b1 b2 b3 b4 : Nat}
    (hb1 : Grow w w1) (hoA : w1.ownsRow b1 34 2 (.slice ao (pos A 8) cp) (pos A 8) (cells A 8)) (hb2 : Grow (X w1 A ao cp) w2) (hoB : w2.ownsRow b2 34 2 (.slice bo (pos B 8) cq) (pos B 8) (cells B 8))
    (hg3 : (X w2 B bo cq).grownBy w3 .none) (hoC : w3.ownsRow b3 34 2 (.slice oc (pos A 8) cc) (pos A 8) (cells A 8)) (hg4 : w3.grownBy w4 .none) (hoS : w4.ownsRow b4 34 2 (.slice os (pos B 8) cs) (pos B 8) (cells B 8)) :
    Old w4 w1.heap.size w2.heap.size A B ao bo oc os cp cq cc cs w := by
  have k3 : Grow (X w2 B bo cq) w3 := (Grow.refl _).grown hg3
  have k4 : Grow w3 w4 := (Grow.refl _).grown hg4
  have k2 : Grow w2 w4 := (X_grow w2 B bo cq).trans (k3.trans k4)
  have k1 : Grow (X w1 A ao cp) w4 := hb2.trans k2
  exact ⟨k1.row (X_row _ _ _ _), (k3.trans k4).row (X_row _ _ _ _), k1.cell (X_cell _ _ _ _), (k3.trans k4).cell (X_cell _ _ _ _), ((X_grow _ _ _ _).trans k1).owns (owns_zero hoA), k2.owns (owns_zero hoB), k4.owns (owns_zero hoC), owns_zero hoS,
    hb1.trans ((X_grow _ _ _ _).trans k1)⟩

/-! ### The law's first loop: the entry-wise maximum -/
structure L1 (N : Nat) (X5 wr : World) (M : Nat → Int) (k : Nat) : Prop where
  row : wr.rowIs (N + 1) 24 8 (fun j => .int .u64 (if j < k then M j else 0))
  bel : Below (N + 1) X5 wr

theorem L1.drew {N : Nat} {X5 wr : World} {M : Nat → Int} {k : Nat} (h : L1 N X5 wr M k) : L1 N X5 wr.drew M k := ⟨h.row, h.bel.drew⟩
theorem L1.drewN {N : Nat} {X5 wr : World} {M : Nat → Int} {k : Nat} (h : L1 N X5 wr M k) (n : Nat) : L1 N X5 (wr.drewN n) M k := ⟨h.row, below_drewN h.bel n⟩
theorem L1.set {N : Nat} {X5 wr : World} {M : Nat → Int} {k : Nat} (h : L1 N X5 wr M k) (z : Int) (hz : M k = z) : L1 N X5 (wr.setCell ⟨N + 1, k, .none⟩ (.int .u64 z)) M (k + 1) := by
  refine ⟨(h.row.set k (.int .u64 z)).congr (fun i _ => ?_), h.bel.setCell (Nat.le_refl _) _⟩
  by_cases e : i = k
  · subst e; simp [hz]
  · by_cases l : i < k
    · have : i < k + 1 := by omega
      simp [e, l, this]
    · have : ¬ i < k + 1 := by omega
      simp [e, l, this]
theorem l1_start (w5 : World) (o : Obj) (M : Nat → Int) : L1 w5.heap.size (w5.alloc o) ((w5.alloc o).alloc (.cells #[.int .u64 0, .int .u64 0, .int .u64 0, .int .u64 0, .int .u64 0, .int .u64 0, .int .u64 0, .int .u64 0] 24)) M 0 := by
  constructor
  · have h := row_new (w5.alloc o) (fun _ => 0)
    rw [World.size_alloc] at h
    exact h.congr (fun i _ => by simp)
  · have h := (Below.refl (w5.alloc o).heap.size (w5.alloc o)).alloc (Nat.le_refl _) (.cells #[.int .u64 0, .int .u64 0, .int .u64 0, .int .u64 0, .int .u64 0, .int .u64 0, .int .u64 0, .int .u64 0] 24)
    rw [World.size_alloc] at h
    exact h
end Go.Proofs.Ybulkejsk
