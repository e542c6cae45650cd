import Derived.Test.YbulkejskBase
namespace Go.Proofs.Ybulkejsk

/-- How many of the first t counters are not zero: the place of node t among the entries. -/
def pos (C : Nat → Int) : Nat → Nat
  | 0 => 0
  | t + 1 => pos C t + if C t = 0 then 0 else 1

/-- The cells of the entries of the first t nodes. -/
def cells (C : Nat → Int) : Nat → List Value
  | 0 => []
  | t + 1 => cells C t ++ if C t = 0 then [] else [.string (nm t), .int .u64 (C t)]

theorem length_cells (C : Nat → Int) : ∀ t, (cells C t).length = pos C t * 2
  | 0 => rfl
  | t + 1 => by
    have ih := length_cells C t
    unfold cells pos
    rw [List.length_append, ih]
    split <;> simp <;> omega

theorem pos_le (C : Nat → Int) : ∀ t, pos C t ≤ t
  | 0 => Nat.le_refl _
  | t + 1 => by
    have ih := pos_le C t
    unfold pos; split <;> omega

theorem pos_succ_zero {C : Nat → Int} {t : Nat} (h : C t = 0) : pos C (t + 1) = pos C t := by simp [pos, h]
theorem pos_succ_one {C : Nat → Int} {t : Nat} (h : C t ≠ 0) : pos C (t + 1) = pos C t + 1 := by simp [pos, h]
theorem cells_succ_zero {C : Nat → Int} {t : Nat} (h : C t = 0) : cells C (t + 1) = cells C t := by simp [cells, h]
theorem cells_succ_one {C : Nat → Int} {t : Nat} (h : C t ≠ 0) : cells C (t + 1) = cells C t ++ [.string (nm t), .int .u64 (C t)] := by simp [cells, h]

theorem pos_succ (C : Nat → Int) (t : Nat) : pos C (t + 1) = pos C t + if C t = 0 then 0 else 1 := rfl
theorem pos_mono (C : Nat → Int) (t : Nat) : ∀ d, pos C t ≤ pos C (t + d)
  | 0 => Nat.le_refl _
  | d + 1 => by
    have ih := pos_mono C t d
    have : pos C (t + d) ≤ pos C (t + (d + 1)) := by rw [← Nat.add_assoc, pos_succ]; omega
    omega
theorem pos_mono' (C : Nat → Int) {t u : Nat} (h : t ≤ u) : pos C t ≤ pos C u := by
  have := pos_mono C t (u - t); rwa [show t + (u - t) = u by omega] at this

theorem pos_lt {C : Nat → Int} {k u : Nat} (h : k < u) (hk : C k ≠ 0) : pos C k < pos C u := by
  have := pos_mono' C (show k + 1 ≤ u by omega)
  rw [pos_succ_one hk] at this; omega

/-- Nothing between t and u: the place stands. -/
theorem skip {C : Nat → Int} {t : Nat} : ∀ d, (∀ j, t ≤ j → j < t + d → C j = 0) → pos C (t + d) = pos C t ∧ cells C (t + d) = cells C t
  | 0, _ => ⟨rfl, rfl⟩
  | d + 1, h => by
    have ih := skip d (fun j h1 h2 => h j h1 (by omega))
    have hz : C (t + d) = 0 := h (t + d) (by omega) (by omega)
    rw [← Nat.add_assoc, pos_succ_zero hz, cells_succ_zero hz]; exact ih
theorem skip' {C : Nat → Int} {t u : Nat} (htu : t ≤ u) (h : ∀ j, t ≤ j → j < u → C j = 0) : pos C u = pos C t ∧ cells C u = cells C t := by
  have := skip (C := C) (t := t) (u - t) (fun j h1 h2 => h j h1 (by omega))
  rwa [show t + (u - t) = u by omega] at this

theorem cells_prefix (C : Nat → Int) (t : Nat) : ∀ d, ∃ r, cells C (t + d) = cells C t ++ r
  | 0 => ⟨[], by simp⟩
  | d + 1 => by
    obtain ⟨r, hr⟩ := cells_prefix C t d
    refine ⟨r ++ (if C (t + d) = 0 then [] else [.string (nm (t + d)), .int .u64 (C (t + d))]), ?_⟩
    rw [← Nat.add_assoc]
    show cells C (t + d) ++ _ = _
    rw [hr, List.append_assoc]

/-- Node k's two cells among those of the first u. -/
theorem cells_at {C : Nat → Int} {k u : Nat} (h : k < u) (hk : C k ≠ 0) : (cells C u)[pos C k * 2]? = some (.string (nm k)) ∧ (cells C u)[pos C k * 2 + 1]? = some (.int .u64 (C k)) := by
  obtain ⟨r, hr⟩ := cells_prefix C (k + 1) (u - (k + 1))
  rw [show k + 1 + (u - (k + 1)) = u by omega, cells_succ_one hk] at hr
  have hl := length_cells C k
  rw [hr]
  constructor
  · rw [List.append_assoc, List.getElem?_append_right (by omega)]; simp [hl]
  · rw [List.append_assoc, List.getElem?_append_right (by omega)]; simp [hl]

theorem oneCells (C : Nat → Int) : ∀ t, ∀ u ∈ cells C t, u.oneCell' = true
  | 0, u, h => by simp [cells] at h
  | t + 1, u, h => by
    unfold cells at h
    rcases List.mem_append.1 h with h | h
    · exact oneCells C t u h
    · split at h
      · simp at h
      · simp at h; rcases h with rfl | rfl <;> rfl

/-- The first node from t on that is not zero, or none below 8. -/
theorem first_from (C : Nat → Int) (t : Nat) : ∀ d, (∀ j, t ≤ j → j < t + d → C j = 0) ∨ ∃ k, t ≤ k ∧ k < t + d ∧ C k ≠ 0 ∧ ∀ j, t ≤ j → j < k → C j = 0
  | 0 => .inl (fun j h1 h2 => by omega)
  | d + 1 => by
    rcases first_from C t d with h | ⟨k, h1, h2, h3, h4⟩
    · by_cases hz : C (t + d) = 0
      · left; intro j h1 h2
        by_cases e : j = t + d
        · rw [e]; exact hz
        · exact h j h1 (by omega)
      · exact .inr ⟨t + d, by omega, by omega, hz, fun j h1 h2 => h j h1 h2⟩
    · exact .inr ⟨k, h1, by omega, h3, h4⟩
theorem first8 (C : Nat → Int) (t : Nat) (ht : t ≤ 8) : (∀ j, t ≤ j → j < 8 → C j = 0) ∨ ∃ k, t ≤ k ∧ k < 8 ∧ C k ≠ 0 ∧ ∀ j, t ≤ j → j < k → C j = 0 := by
  have := first_from C t (8 - t)
  rwa [show t + (8 - t) = 8 by omega] at this

/-- Some counter of C lies below D's among the first t. -/
def below (C D : Nat → Int) : Nat → Bool
  | 0 => false
  | t + 1 => below C D t || decide (C t < D t)

theorem below_succ (C D : Nat → Int) (t : Nat) : below C D (t + 1) = (below C D t || decide (C t < D t)) := rfl
theorem below_mono {C D : Nat → Int} {t : Nat} (h : below C D t = true) : ∀ d, below C D (t + d) = true
  | 0 => h
  | d + 1 => by
    have := below_mono h d
    rw [← Nat.add_assoc, below_succ, this]; rfl
theorem below_mono' {C D : Nat → Int} {t u : Nat} (htu : t ≤ u) (h : below C D t = true) : below C D u = true := by
  have := below_mono h (u - t); rwa [show t + (u - t) = u by omega] at this
theorem below_skip {C D : Nat → Int} {t : Nat} : ∀ d, (∀ j, t ≤ j → j < t + d → C j = 0 ∧ D j = 0) → below C D (t + d) = below C D t
  | 0, _ => rfl
  | d + 1, h => by
    have ih := below_skip d (fun j h1 h2 => h j h1 (by omega))
    obtain ⟨a, b⟩ := h (t + d) (by omega) (by omega)
    rw [← Nat.add_assoc, below_succ, ih, a, b]; simp
theorem below_skip' {C D : Nat → Int} {t u : Nat} (htu : t ≤ u) (h : ∀ j, t ≤ j → j < u → C j = 0 ∧ D j = 0) : below C D u = below C D t := by
  have := below_skip (C := C) (D := D) (t := t) (u - t) (fun j h1 h2 => h j h1 (by omega))
  rwa [show t + (u - t) = u by omega] at this

/-- What Compare answers. -/
def rel (C D : Nat → Int) : Int := if below C D 8 = true then (if below D C 8 = true then 4 else 1) else if below D C 8 = true then 2 else 3

/-- The larger of two counters. -/
def mx (A B : Nat → Int) (k : Nat) : Int := if A k < B k then B k else A k
theorem mx_zero {A B : Nat → Int} {k : Nat} (ha : 0 ≤ A k) (hb : 0 ≤ B k) : mx A B k = 0 ↔ A k = 0 ∧ B k = 0 := by unfold mx; split <;> omega
end Go.Proofs.Ybulkejsk
