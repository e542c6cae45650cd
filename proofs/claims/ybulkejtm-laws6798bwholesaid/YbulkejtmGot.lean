import Derived.Test.YbulkejtmWant
namespace Go.Proofs.Ybulkejtm
open Go.ChangeShapes Go.WideShapes Go.ChangeAt Go.RowKit

theorem o1_bnd {d : Dat} (h : Bnd d) : ∀ {i}, i ≤ d.F → ∀ p ∈ o1 d i, 0 ≤ p.1 ∧ p.1 < 7
  | 0, _, p, hp => by simp [o1] at hp
  | i + 1, hi, p, hp => by
    simp only [o1, List.mem_append] at hp
    rcases hp with hp | hp
    · exact o1_bnd h (by omega) p hp
    · have hn := h.nf i (by omega)
      unfold st1 at hp
      cases h1 : d.ha i <;> cases h2 : kn d i <;> simp [h1, h2] at hp
      · cases h3 : fst d.ne (d.nf i) d.E <;> simp [h3, viaX] at hp
        subst hp; exact hn
      · subst hp; exact hn
      · subst hp; exact hn
theorem o2_bnd {d : Dat} (h : Bnd d) : ∀ {j}, j ≤ d.E → ∀ p ∈ o2 d j, 0 ≤ p.1 ∧ p.1 < 7
  | 0, _, p, hp => by simp [o2] at hp
  | j + 1, hj, p, hp => by
    simp only [o2, List.mem_append] at hp
    rcases hp with hp | hp
    · exact o2_bnd h (by omega) p hp
    · cases h1 : rest2 d j <;> simp [h1] at hp
      subst hp; exact h.ne j (by omega)
theorem outp_bnd {d : Dat} (h : Bnd d) : ∀ p ∈ outp d, 0 ≤ p.1 ∧ p.1 < 7 := fun p hp => by
  rcases List.mem_append.1 hp with q | q
  · exact o1_bnd h (Nat.le_refl _) p q
  · exact o2_bnd h (Nat.le_refl _) p q
theorem outp_len {d : Dat} (h : Bnd d) : (outp d).length ≤ 4096 := by
  have h1 := o1_len d d.F
  have h2 := o2_len d d.E
  have := h.len
  rw [outp, List.length_append]; omega

/-- What was got and what was wanted, number by number. -/
structure Got (W : World) (n GB NB WB : Nat) (px : Nat → Int) (pt : Nat → ByteArray) : Prop where
  mc : ∀ q, q < n → MC W GB (q * 7) (px q) (pt q)
  nc : ∀ q, q < n → W.cell? ⟨NB, q, .none⟩ = some (.int .u8 (px q))
  vc : ∀ q, q < n → W.cell? ⟨WB, q, .none⟩ = some (.string (pt q))
  b : ∀ q, q < n → 0 ≤ px q ∧ px q < 7
theorem Got.grow {W W' : World} {n GB NB WB : Nat} {px : Nat → Int} {pt : Nat → ByteArray} (h : Got W n GB NB WB px pt) (g : Grow W W') : Got W' n GB NB WB px pt :=
  ⟨fun q hq => (h.mc q hq).grow g, fun q hq => g.cell (h.nc q hq), fun q hq => g.cell (h.vc q hq), h.b⟩
theorem got_of {wb wr wg : World} {d : Dat} {nv vv v : Value} (h5 : W5 wb wr d d.E nv vv) (bd : Bnd d) (own : wg.ownsRow wr.heap.size 74 7 v (outp d).length (mcl (outp d))) (g : Grow wr wg) :
    ∃ n ga GB gc na NB nc sa WB sc px pt, n ≤ 4096 ∧ v = .slice ga n gc ∧ nv = .slice na n nc ∧ vv = .slice sa n sc ∧ (0 < n → ga = some ⟨GB, 0, .none⟩ ∧ na = some ⟨NB, 0, .none⟩ ∧ sa = some ⟨WB, 0, .none⟩) ∧ Got wg n GB NB WB px pt ∧ ∃ xs, wg.ownsRow wr.heap.size 74 7 (.slice ga n gc) n xs := by
  have hN := h5.oN
  have hV := h5.oV
  rw [show ((o1 d d.F ++ o2 d d.E).map (·.1)).length = (outp d).length by rw [List.length_map]; rfl] at hN
  rw [show ((o1 d d.F ++ o2 d d.E).map (·.2)).length = (outp d).length by rw [List.length_map]; rfl] at hV
  obtain ⟨ga, GB, gc, rfl, hg, rg⟩ := row_shape own
  obtain ⟨na, NB, nc, rfl, hn, rn⟩ := row_shape hN
  obtain ⟨sa, WB, sc, rfl, hs, rs⟩ := row_shape hV
  have at' : ∀ q, q < (outp d).length → (outp d)[q]? = some ((outp d)[q]?.getD (0, ⟨#[]⟩)) := fun q hq => by
    rw [List.getElem?_eq_getElem hq]; rfl
  refine ⟨_, ga, GB, gc, na, NB, nc, sa, WB, sc, fun q => ((outp d)[q]?.getD (0, ⟨#[]⟩)).1, fun q => ((outp d)[q]?.getD (0, ⟨#[]⟩)).2, outp_len bd, rfl, rfl, rfl, fun q => ⟨hg q, hn q, hs q⟩, ⟨fun q hq => ?_, fun q hq => ?_, fun q hq => ?_, fun q hq => ?_⟩, _, own⟩
  · have c : ∀ k, k < 7 → wg.cell? ⟨GB, q * 7 + k, .none⟩ = (mc1 ((outp d)[q]?.getD (0, ⟨#[]⟩)))[k]? := fun k hk => (rg (q * 7 + k) (by omega)).trans (mcl_at (at' q hq) k hk)
    exact ⟨c 0 (by decide), c 1 (by decide), c 2 (by decide), c 3 (by decide), c 4 (by decide), c 5 (by decide), c 6 (by decide)⟩
  · refine g.cell ((rn q (by omega)).trans ?_)
    show (((outp d).map (·.1)).map _)[q]? = _
    rw [List.getElem?_map, List.getElem?_map, at' q hq]; rfl
  · refine g.cell ((rs q (by omega)).trans ?_)
    show (((outp d).map (·.2)).map _)[q]? = _
    rw [List.getElem?_map, List.getElem?_map, at' q hq]; rfl
  · exact outp_bnd bd _ (List.mem_of_getElem? (at' q hq))

theorem own_put7 {wq wz : World} {GB gc n : Nat} {xs : List Value} (h : wz.ownsRow wq.heap.size 74 7 (.slice (some ⟨GB, 0, .none⟩) n gc) n xs) (g : Grow wq wz) (o0 o1 o2 o3 o4 o5 o6 : Nat) (v0 v1 v2 v3 v4 v5 v6 : Value) :
    (∃ ys, (((((((wz.setCell ⟨GB, o0, .none⟩ v0).setCell ⟨GB, o1, .none⟩ v1).setCell ⟨GB, o2, .none⟩ v2).setCell ⟨GB, o3, .none⟩ v3).setCell ⟨GB, o4, .none⟩ v4).setCell ⟨GB, o5, .none⟩ v5).setCell ⟨GB, o6, .none⟩ v6).ownsRow wq.heap.size 74 7 (.slice (some ⟨GB, 0, .none⟩) n gc) n ys) ∧
    Grow wq (((((((wz.setCell ⟨GB, o0, .none⟩ v0).setCell ⟨GB, o1, .none⟩ v1).setCell ⟨GB, o2, .none⟩ v2).setCell ⟨GB, o3, .none⟩ v3).setCell ⟨GB, o4, .none⟩ v4).setCell ⟨GB, o5, .none⟩ v5).setCell ⟨GB, o6, .none⟩ v6) := by
  have hB := (owns_lt h (g := GB) rfl).2
  exact ⟨⟨_, (((((((h.stored o0 v0).1.stored o1 v1).1.stored o2 v2).1.stored o3 v3).1.stored o4 v4).1.stored o5 v5).1.stored o6 v6).1⟩,
    ((((((g.setCell (p := ⟨GB, o0, .none⟩) hB v0).setCell (p := ⟨GB, o1, .none⟩) hB v1).setCell (p := ⟨GB, o2, .none⟩) hB v2).setCell (p := ⟨GB, o3, .none⟩) hB v3).setCell (p := ⟨GB, o4, .none⟩) hB v4).setCell (p := ⟨GB, o5, .none⟩) hB v5).setCell (p := ⟨GB, o6, .none⟩) hB v6⟩
theorem own_cells {W : World} {B GB gc n : Nat} {xs : List Value} (h : W.ownsRow B 74 7 (.slice (some ⟨GB, 0, .none⟩) n gc) n xs) {q : Nat} (hq : q < n) : ∀ k, k < 7 → ∃ v, W.cell? ⟨GB, q * 7 + k, .none⟩ = some v := fun k hk => by
  have hl := h.1
  have : q * 7 + k < xs.length := by omega
  exact ⟨_, by rw [h.cellAt _ (by omega)]; exact List.getElem?_eq_getElem this⟩
end Go.Proofs.Ybulkejtm
