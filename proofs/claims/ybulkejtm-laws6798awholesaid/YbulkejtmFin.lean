import Derived.Test.YbulkejtmItems
namespace Go.Proofs.Ybulkejtm
open Go.ChangeShapes Go.WideShapes Go.ChangeAt Go.RowKit

/-- The cells of the first i steps of the start path. -/
def pcl (sn : Nat → ByteArray) (si : Nat → Int) : Nat → List Value
  | 0 => []
  | i + 1 => pcl sn si i ++ [.string (sn i), .int .i64 (si i)]
theorem length_pcl (sn : Nat → ByteArray) (si : Nat → Int) : ∀ n, (pcl sn si n).length = n * 2
  | 0 => rfl
  | n + 1 => by unfold pcl; rw [List.length_append, length_pcl]; simp; omega
theorem pcl_one (sn : Nat → ByteArray) (si : Nat → Int) : ∀ n, ∀ u ∈ pcl sn si n, u.oneCell' = true
  | 0, u, h => by simp [pcl] at h
  | n + 1, u, h => by
    unfold pcl at h
    rcases List.mem_append.1 h with h | h
    · exact pcl_one sn si n u h
    · simp at h; rcases h with rfl | rfl <;> rfl
theorem pcl_at (sn : Nat → ByteArray) (si : Nat → Int) : ∀ n j, j < n → (pcl sn si n)[j * 2]? = some (.string (sn j)) ∧ (pcl sn si n)[j * 2 + 1]? = some (.int .i64 (si j))
  | 0, j, h => by omega
  | n + 1, j, h => by
    have hl := length_pcl sn si n
    unfold pcl
    by_cases e : j = n
    · subst e
      constructor
      · rw [List.getElem?_append_right (by omega)]; simp [hl]
      · rw [List.getElem?_append_right (by omega)]; simp [hl]
    · have ih := pcl_at sn si n j (by omega)
      constructor
      · rw [List.getElem?_append_left (by omega)]; exact ih.1
      · rw [List.getElem?_append_left (by omega)]; exact ih.2

theorem length_vlist (kd : Nat → Int) (bl : Nat → Bool) (tx : Nat → ByteArray) : ∀ n, (vlist kd bl tx n).length = n * 6
  | 0 => rfl
  | n + 1 => by unfold vlist; rw [List.length_append, length_vlist]; simp [vcells]; omega
theorem vlist_at (kd : Nat → Int) (bl : Nat → Bool) (tx : Nat → ByteArray) : ∀ n i, i < n → ∀ r, r < 6 → (vlist kd bl tx n)[i * 6 + r]? = (vcells (kd i) (bl i) (tx i))[r]?
  | 0, i, h, _, _ => by omega
  | n + 1, i, h, r, hr => by
    have hl := length_vlist kd bl tx n
    unfold vlist
    by_cases e : i = n
    · subst e
      rw [List.getElem?_append_right (by omega), hl]; congr 1; omega
    · rw [List.getElem?_append_left (by omega)]; exact vlist_at kd bl tx n i (by omega) r hr
theorem length_plist (q : Nat → Nat) (n : Nat) : ∀ m, (plist q n m).length = m
  | 0 => rfl
  | m + 1 => by unfold plist; rw [List.length_append, length_plist]; rfl
theorem plist_at (q : Nat → Nat) (n : Nat) : ∀ m i, i < m → (plist q n m)[i]? = some (.slice (some ⟨q i, 0, .none⟩) (n + 1) (n + 1))
  | 0, i, h => by omega
  | m + 1, i, h => by
    have hl := length_plist q n m
    unfold plist
    by_cases e : i = m
    · subst e; rw [List.getElem?_append_right (by omega), hl]; simp
    · rw [List.getElem?_append_left (by omega)]; exact plist_at q n m i (by omega)

/-- What stands behind the call of items. -/
structure Fin (W : World) (GV CV GP CK L n m : Nat) (kd : Nat → Int) (bl : Nat → Bool) (tx : Nat → ByteArray) (sn : Nat → ByteArray) (si : Nat → Int) (ga pa : Option Addr) (gvb gpb gc pc pb cap : Nat) (q : Nat → Nat) : Prop where
  cGV : W.cell? ⟨GV, 0, .none⟩ = some (.slice ga m gc)
  hGV : 0 < m → ga = some ⟨gvb, 0, .none⟩
  vGV : ∀ i, i < m → VCell W gvb i (kd i) (bl i) (tx i)
  cGP : W.cell? ⟨GP, 0, .none⟩ = some (.slice pa m pc)
  hGP : 0 < m → pa = some ⟨gpb, 0, .none⟩
  vGP : ∀ i, i < m → W.cell? ⟨gpb, i, .none⟩ = some (.slice (some ⟨q i, 0, .none⟩) (n + 1) (n + 1))
  cqn : ∀ i, i < m → ∀ j, j < n → W.cell? ⟨q i, j * 2, .none⟩ = some (.string (sn j)) ∧ W.cell? ⟨q i, j * 2 + 1, .none⟩ = some (.int .i64 (si j))
  cql : ∀ i, i < m → W.cell? ⟨q i, n * 2, .none⟩ = some (.string ⟨#[]⟩) ∧ W.cell? ⟨q i, n * 2 + 1, .none⟩ = some (.int .i64 (i : Int))
  cCV : W.cell? ⟨CV, 0, .none⟩ = some (.pointer (some ⟨CK, 0, .none⟩))
  cCK : W.cell? ⟨CK, 0, .none⟩ = some (.slice (some ⟨pb, 0, .none⟩) n cap)
  cCF : W.cell? ⟨CK, 1, .none⟩ = some (.slice .none 0 0)
  cpb : ∀ j, j < n → W.cell? ⟨pb, j * 2, .none⟩ = some (.string (sn j)) ∧ W.cell? ⟨pb, j * 2 + 1, .none⟩ = some (.int .i64 (si j))
  vL : ∀ i, i < m → VCell W L i (kd i) (bl i) (tx i)

theorem VCell.grow {w w' : World} {L i : Nat} {k : Int} {b : Bool} {t : ByteArray} (h : VCell w L i k b t) (hk : Grow w w') : VCell w' L i k b t :=
  ⟨hk.cell h.c0, hk.cell h.c1, hk.cell h.c2, hk.cell h.c3, hk.cell h.c4, hk.cell h.c5⟩

theorem fin_of {wst w6 : World} {GV CV GP CK P L n m : Nat} {kd : Nat → Int} {bl : Nat → Bool} {tx : Nat → ByteArray} {sn : Nat → ByteArray} {si : Nat → Int} {ga pa : Option Addr} {gc pc pb cap : Nat} {q : Nat → Nat}
    (N : Nums wst GV CV GP CK P) (I : Inv wst w6 GV CV GP CK P n m kd bl tx (pcl sn si n) ga pa gc pc pb cap q) (hL : ∀ i, i < m → VCell wst L i (kd i) (bl i) (tx i)) (sL : ¬ (L = GV ∨ L = GP ∨ L = CK ∨ L = P)) :
    ∃ gvb gpb, Fin w6 GV CV GP CK L n m kd bl tx sn si ga pa gvb gpb gc pc pb cap q := by
  have lp := length_pcl sn si n
  obtain ⟨gvb, hgv, vgv⟩ : ∃ gvb, (0 < m → ga = some ⟨gvb, 0, .none⟩) ∧ ∀ i, i < m → VCell w6 gvb i (kd i) (bl i) (tx i) := by
    rcases I.oGV.2 with ⟨h1, h2⟩ | ⟨g, c, cur, h1, _⟩
    · exact ⟨0, fun h => by omega, fun i h => by omega⟩
    · simp only [Value.slice.injEq, true_and] at h1
      obtain ⟨rfl, rfl⟩ := h1
      refine ⟨g, fun _ => rfl, fun i hi => ?_⟩
      have k : ∀ r, r < 6 → w6.cell? ⟨g, i * 6 + r, .none⟩ = (vcells (kd i) (bl i) (tx i))[r]? := fun r hr => by
        rw [I.oGV.cellAt _ (by omega)]; exact vlist_at kd bl tx m i hi r hr
      exact ⟨k 0 (by omega), k 1 (by omega), k 2 (by omega), k 3 (by omega), k 4 (by omega), k 5 (by omega)⟩
  obtain ⟨gpb, hgp, vgp⟩ : ∃ gpb, (0 < m → pa = some ⟨gpb, 0, .none⟩) ∧ ∀ i, i < m → w6.cell? ⟨gpb, i, .none⟩ = some (.slice (some ⟨q i, 0, .none⟩) (n + 1) (n + 1)) := by
    rcases I.oGP.2 with ⟨h1, h2⟩ | ⟨g, c, cur, h1, _⟩
    · exact ⟨0, fun h => by omega, fun i h => by omega⟩
    · simp only [Value.slice.injEq, true_and] at h1
      obtain ⟨rfl, rfl⟩ := h1
      refine ⟨g, fun _ => rfl, fun i hi => ?_⟩
      rw [I.oGP.cellAt _ (by omega)]; exact plist_at q n m i hi
  refine ⟨gvb, gpb, ⟨I.cGV, hgv, vgv, I.cGP, hgp, vgp, fun i hi j hj => ?_, fun i hi => ?_, ?_, I.cCK, I.cCF, fun j hj => ?_, fun i hi => (hL i hi).keep I.kept sL⟩⟩
  · obtain ⟨_, hr, _⟩ := I.cp i hi
    have h := pcl_at sn si n j hj
    have k : ∀ o v, o < n * 2 → (pcl sn si n)[o]? = some v → pj (pcl sn si n) i o = v := fun o v ho hv => by
      have := pj_at (pcells := pcl sn si n) (j := i) (o := o) (by simp [lp]; omega)
      rw [List.getElem?_append_left (by omega), hv] at this
      simpa using this.symm
    rw [hr.cell (by omega), hr.cell (by omega), k _ _ (by omega) h.1, k _ _ (by omega) h.2]; exact ⟨rfl, rfl⟩
  · obtain ⟨_, hr, _⟩ := I.cp i hi
    have k0 := pj_at (pcells := pcl sn si n) (j := i) (o := n * 2) (by simp [lp])
    have k1 := pj_at (pcells := pcl sn si n) (j := i) (o := n * 2 + 1) (by simp [lp])
    rw [List.getElem?_append_right (by omega), lp] at k0 k1
    simp at k0 k1
    rw [hr.cell (by omega), hr.cell (by omega), ← k0, ← k1]; exact ⟨rfl, rfl⟩
  · refine I.kept.cell N.cCV ?_
    intro h; rcases h with h | h | h | h
    · exact N.n1 h
    · exact N.n8 h
    · exact N.n9 h
    · exact N.n10 h.symm
  · have h := pcl_at sn si n j hj
    rw [I.oCK.cellAt _ (by omega), I.oCK.cellAt _ (by omega)]; exact h

theorem Fin.grow {W W' : World} {GV CV GP CK L n m : Nat} {kd : Nat → Int} {bl : Nat → Bool} {tx : Nat → ByteArray} {sn : Nat → ByteArray} {si : Nat → Int} {ga pa : Option Addr} {gvb gpb gc pc pb cap : Nat} {q : Nat → Nat}
    (h : Fin W GV CV GP CK L n m kd bl tx sn si ga pa gvb gpb gc pc pb cap q) (g : Grow W W') : Fin W' GV CV GP CK L n m kd bl tx sn si ga pa gvb gpb gc pc pb cap q :=
  ⟨g.cell h.cGV, h.hGV, fun i hi => (h.vGV i hi).grow g, g.cell h.cGP, h.hGP, fun i hi => g.cell (h.vGP i hi), fun i hi j hj => ⟨g.cell (h.cqn i hi j hj).1, g.cell (h.cqn i hi j hj).2⟩, fun i hi => ⟨g.cell (h.cql i hi).1, g.cell (h.cql i hi).2⟩,
   g.cell h.cCV, g.cell h.cCK, g.cell h.cCF, fun j hj => ⟨g.cell (h.cpb j hj).1, g.cell (h.cpb j hj).2⟩, fun i hi => (h.vL i hi).grow g⟩

/-- The arguments, as the walk is told of them. -/
structure Args (w : World) (a0 a1 : Option Addr) (n m : Nat) (sb so ib io : Nat) (sn : Nat → ByteArray) (si : Nat → Int) (kd : Nat → Int) (bl : Nat → Bool) (tx : Nat → ByteArray) : Prop where
  hn : n ≤ 65536
  hm : m ≤ 65536
  h0 : 0 < n → a0 = some ⟨sb, so, .none⟩
  h1 : 0 < m → a1 = some ⟨ib, io, .none⟩
  l0 : 0 < n → sb < w.heap.size
  l1 : 0 < m → ib < w.heap.size
  s0 : ∀ j, j < n → w.cell? ⟨sb, so + j * 2, .none⟩ = some (.string (sn j))
  s1 : ∀ j, j < n → w.cell? ⟨sb, so + j * 2 + 1, .none⟩ = some (.int .i64 (si j))
  i0 : ∀ i, i < m → w.cell? ⟨ib, io + i * 3, .none⟩ = some (.int .u8 (kd i))
  i1 : ∀ i, i < m → w.cell? ⟨ib, io + i * 3 + 1, .none⟩ = some (.bool (bl i))
  i2 : ∀ i, i < m → w.cell? ⟨ib, io + i * 3 + 2, .none⟩ = some (.string (tx i))
  bk : ∀ i, i < m → 0 ≤ kd i ∧ kd i ≤ 255
theorem Args.below {w w' : World} {a0 a1 : Option Addr} {n m : Nat} {sb so ib io : Nat} {sn : Nat → ByteArray} {si : Nat → Int} {kd : Nat → Int} {bl : Nat → Bool} {tx : Nat → ByteArray} (h : Args w a0 a1 n m sb so ib io sn si kd bl tx) (g : Grow w w') : Args w' a0 a1 n m sb so ib io sn si kd bl tx :=
  ⟨h.hn, h.hm, h.h0, h.h1, fun q => Nat.lt_of_lt_of_le (h.l0 q) g.size, fun q => Nat.lt_of_lt_of_le (h.l1 q) g.size, fun j hj => g.cell (h.s0 j hj), fun j hj => g.cell (h.s1 j hj), fun j hj => g.cell (h.i0 j hj), fun j hj => g.cell (h.i1 j hj), fun j hj => g.cell (h.i2 j hj), h.bk⟩
end Go.Proofs.Ybulkejtm
