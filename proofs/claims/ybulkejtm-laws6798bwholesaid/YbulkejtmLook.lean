import Derived.Test.YbulkejtmSmall
namespace Go.Proofs.Ybulkejtm
open Go.ChangeShapes Go.WideShapes Go.ChangeAt Go.RowKit

/-- The seven cells of a member. -/
structure MC (w : World) (b o : Nat) (n : Int) (t : ByteArray) : Prop where
  c0 : w.cell? ⟨b, o, .none⟩ = some (.string (nm n))
  c1 : w.cell? ⟨b, o + 1, .none⟩ = some (.int .u8 3)
  c2 : w.cell? ⟨b, o + 2, .none⟩ = some (.bool false)
  c3 : w.cell? ⟨b, o + 3, .none⟩ = some (.string t)
  c4 : w.cell? ⟨b, o + 4, .none⟩ = some (.slice .none 0 0)
  c5 : w.cell? ⟨b, o + 5, .none⟩ = some (.slice .none 0 0)
  c6 : w.cell? ⟨b, o + 6, .none⟩ = some (.slice .none 0 0)
theorem MC.grow {w w' : World} {b o : Nat} {n : Int} {t : ByteArray} (h : MC w b o n t) (g : Grow w w') : MC w' b o n t :=
  ⟨g.cell h.c0, g.cell h.c1, g.cell h.c2, g.cell h.c3, g.cell h.c4, g.cell h.c5, g.cell h.c6⟩
/-- The cells of a field that are read. -/
structure FC (w : World) (b o : Nat) (n : Int) (co : Bool) (bx : Nat) : Prop where
  c0 : w.cell? ⟨b, o, .none⟩ = some (.string (nm n))
  c1 : w.cell? ⟨b, o + 1, .none⟩ = some (.bool co)
  c2 : w.cell? ⟨b, o + 2, .none⟩ = some (.string ⟨#[]⟩)
  c3 : w.cell? ⟨b, o + 3, .none⟩ = some .nilFunc
  c4 : w.cell? ⟨b, o + 4, .none⟩ = some (.func (.func 15) #[] #[.pointer (some ⟨bx, 0, .none⟩)])
  c5 : w.cell? ⟨b, o + 5, .none⟩ = some .nilFunc
theorem FC.grow {w w' : World} {b o : Nat} {n : Int} {co : Bool} {bx : Nat} (h : FC w b o n co bx) (g : Grow w w') : FC w' b o n co bx :=
  ⟨g.cell h.c0, g.cell h.c1, g.cell h.c2, g.cell h.c3, g.cell h.c4, g.cell h.c5⟩

/-- The first of E whose number is n. -/
def fst (ne : Nat → Int) (n : Int) : Nat → Option Nat
  | 0 => .none
  | k + 1 => match fst ne n k with
    | some j => some j
    | .none => if ne k = n then some k else .none
theorem fst_none {ne : Nat → Int} {n : Int} : ∀ {k : Nat}, (∀ j, j < k → ne j ≠ n) → fst ne n k = .none
  | 0, _ => rfl
  | k + 1, h => by simp [fst, fst_none (fun j hj => h j (Nat.lt_succ_of_lt hj)), h k (Nat.lt_succ_self k)]
theorem fst_some {ne : Nat → Int} {n : Int} {k : Nat} (h : ∀ j, j < k → ne j ≠ n) (hk : ne k = n) : ∀ {E : Nat}, k < E → fst ne n E = some k
  | 0, hE => absurd hE (Nat.not_lt_zero _)
  | E + 1, hE => by
    by_cases e : k = E
    · subst e; simp [fst, fst_none h, hk]
    · simp [fst, fst_some h hk (E := E) (by omega)]

theorem fst_lt {ne : Nat → Int} {n : Int} : ∀ {E k : Nat}, fst ne n E = some k → k < E
  | 0, k, h => by simp [fst] at h
  | E + 1, k, h => by
    unfold fst at h
    split at h
    · rename_i j q; have := fst_lt q; simp at h; omega
    · split at h <;> simp at h; omega
theorem dec49 : ((List.range 7).all fun a => (List.range 7).all fun b => a == b || !((nm (a : Int)).toList == (nm (b : Int)).toList)) = true := by kernel_rfl
theorem dec_nm {a b : Int} (h0 : 0 ≤ a) (h1 : a < 7) (h2 : 0 ≤ b) (h3 : b < 7) (h : a ≠ b) : ((nm a).toList == (nm b).toList) = false := by
  obtain ⟨x, rfl⟩ := Int.eq_ofNat_of_zero_le h0
  obtain ⟨y, rfl⟩ := Int.eq_ofNat_of_zero_le h2
  have q := List.all_eq_true.1 (List.all_eq_true.1 dec49 x (List.mem_range.2 (by omega))) y (List.mem_range.2 (by omega))
  have hxy : (x == y) = false := by simpa using (fun e => h (by rw [e]))
  rw [hxy] at q
  simpa using q

set_option maxHeartbeats 800000 in
theorem member_any (a : Option Addr) (E cap XB : Nat) (ne : Nat → Int) (ev : Nat → ByteArray) (n : Int) (w : World) (ha : 0 < E → a = some ⟨XB, 0, .none⟩) (hx : ∀ j, j < E → MC w XB (j * 7) (ne j) (ev j)) (bn : 0 ≤ n ∧ n < 7) (be : ∀ j, j < E → 0 ≤ ne j ∧ ne j < 7) (hE : E ≤ 4096) :
    Calls Yba.prog 21 #[.slice a E cap, .string (nm n)] w fun e w' => e = .returned (.pointer ((fst ne n E).map fun j => ⟨XB, j * 7 + 1, .none⟩)) ∧ w' = w := by
  have Hx := hide hx
  clear hx
  go_enter Yba.func21, Yba.ntmps21
  go_wp2_with fail
  go_loopw [8] (fun ii wr => ∃ k : Nat, k ≤ E ∧ ii = .int .i64 k ∧ Hid (∀ j, j < k → ne j ≠ n) ∧ wr = w) (fun ii _ => E - (intOf ii).toNat)
  case atStart => exact ⟨0, Nat.zero_le _, rfl, fun j hj => absurd hj (Nat.not_lt_zero _), rfl⟩
  case round =>
    obtain ⟨k, hk, rfl, HN, rfl⟩ := hrel
    by_cases hlt : k < E
    · obtain rfl := ha (by omega)
      have hkI : (k : Int) < (E : Int) := by omega
      have c0 := (unhide Hx k hlt).c0
      by_cases he : ne k = n
      · subst he
        go_wp2_with fail
        go_ret
        exact ⟨by rw [fst_some (unhide HN) rfl hlt]; rfl, rfl⟩
      · have hd := dec_nm (be k hlt).1 (be k hlt).2 bn.1 bn.2 he
        go_wp2_with fail
        go_roundw
        case rel => exact ⟨k + 1, by omega, by go_num, fun j hj => by
          by_cases q : j = k
          · subst q; exact he
          · exact unhide HN j (by omega), trivial⟩
        case measure => simp [intOf]; omega
    · obtain rfl : k = E := by omega
      go_wp2_with fail
      go_ret
      exact ⟨by rw [fst_none (unhide HN)]; rfl, rfl⟩

def getV (ev : Nat → ByteArray) : Option Nat → Value
  | some j => .tuple #[valB (ev j), .bool true]
  | .none => .tuple #[valZ, .bool false]

set_option maxHeartbeats 800000 in
theorem get_any (a : Option Addr) (E cap XB : Nat) (ne : Nat → Int) (ev : Nat → ByteArray) (n : Int) (w : World) (ha : 0 < E → a = some ⟨XB, 0, .none⟩) (hx : ∀ j, j < E → MC w XB (j * 7) (ne j) (ev j)) (bn : 0 ≤ n ∧ n < 7) (be : ∀ j, j < E → 0 ≤ ne j ∧ ne j < 7) (hE : E ≤ 4096) :
    Calls Yba.prog 17 #[.slice a E cap, .string (nm n)] w fun e w' => e = .returned (getV ev (fst ne n E)) ∧ Grow w w' := by
  have hx' : ∀ o, Hid (∀ j, j < E → MC (w.alloc o) XB (j * 7) (ne j) (ev j)) := fun o j hj => (hx j hj).grow ((Grow.refl w).alloc o)
  have Hx := hide hx
  clear hx
  go_enter Yba.func17, Yba.ntmps17
  go_wp2_with fail
  refine (member_any a E cap XB ne ev n _ ha (unhide (hx' _)) bn be hE).mono ?_
  rintro e w' ⟨rfl, rfl⟩
  cases hf : fst ne n E with
  | none =>
    go_wp2_with fail
    refine bodyPost_ret (v := .tuple #[valZ, .bool false]) (by simp [results, Yba.results17, go_sem]) rfl ⟨by rw [hf]; rfl, ?_⟩
    exact (Grow.refl w).alloc _
  | some j =>
    have hj : j < E := fst_lt hf
    obtain ⟨-, c1, c2, c3, c4, c5, c6⟩ := unhide Hx j hj
    have d1 : ∀ o, (w.alloc o).cell? _ = _ := fun o => ((Grow.refl w).alloc o).cell c1
    have d2 : ∀ o, (w.alloc o).cell? _ = _ := fun o => ((Grow.refl w).alloc o).cell c2
    have d3 : ∀ o, (w.alloc o).cell? _ = _ := fun o => ((Grow.refl w).alloc o).cell c3
    have d4 : ∀ o, (w.alloc o).cell? _ = _ := fun o => ((Grow.refl w).alloc o).cell c4
    have d5 : ∀ o, (w.alloc o).cell? _ = _ := fun o => ((Grow.refl w).alloc o).cell c5
    have d6 : ∀ o, (w.alloc o).cell? _ = _ := fun o => ((Grow.refl w).alloc o).cell c6
    go_wp2_with fail
    refine bodyPost_ret (v := .tuple #[valB (ev j), .bool true]) (by simp [results, Yba.results17, go_sem]) rfl ⟨by rw [hf]; rfl, ?_⟩
    exact (Grow.refl w).alloc _

/-- Is one of the first i fields known and called n? -/
def Ks (nf : Nat → Int) (kn : Nat → Bool) (n : Int) : Nat → Bool
  | 0 => false
  | i + 1 => Ks nf kn n i || (decide (nf i = n) && kn i)
theorem Ks_true {nf : Nat → Int} {kn : Nat → Bool} {n : Int} {k : Nat} (h : nf k = n) (hk : kn k = true) : ∀ {F : Nat}, k < F → Ks nf kn n F = true
  | 0, hF => absurd hF (Nat.not_lt_zero _)
  | F + 1, hF => by
    by_cases e : k = F
    · subst e; simp [Ks, h, hk]
    · simp [Ks, Ks_true h hk (F := F) (by omega)]

set_option maxHeartbeats 1600000 in
theorem field_any (S : Nat) (a : Option Addr) (F cap FB : Nat) (nf : Nat → Int) (co : Nat → Bool) (bx : Nat → Nat) (n fm : Int) (w : World) (cS : w.cell? ⟨S, 0, .none⟩ = some (.slice a F cap)) (ha : 0 < F → a = some ⟨FB, 0, .none⟩) (hx : ∀ j, j < F → FC w FB (j * 6) (nf j) (co j) (bx j)) (bn : 0 ≤ n ∧ n < 7) (be : ∀ j, j < F → 0 ≤ nf j ∧ nf j < 7) (hE : F ≤ 4096) :
    Calls Yba.prog 18 #[.pointer (some ⟨S, 0, .none⟩), .string (nm n), .int .u8 fm] w fun e w' => (∃ p, e = .returned (.pointer p) ∧ p.isSome = Ks nf (fun i => kn1 (co i) fm) n F) ∧ w' = w := by
  have Hx := hide hx
  clear hx
  go_enter Yba.func18, Yba.ntmps18
  go_wp2_with fail
  go_loopw [14] (fun ii wr => ∃ k : Nat, k ≤ F ∧ ii = .int .i64 k ∧ Hid (Ks nf (fun i => kn1 (co i) fm) n k = false) ∧ wr = w) (fun ii _ => F - (intOf ii).toNat)
  case atStart => exact ⟨0, Nat.zero_le _, rfl, rfl, rfl⟩
  case round =>
    obtain ⟨k, hk, rfl, HN, rfl⟩ := hrel
    by_cases hlt : k < F
    · obtain rfl := ha (by omega)
      have hkI : (k : Int) < (F : Int) := by omega
      have c0 := (unhide Hx k hlt).c0
      have c1 := (unhide Hx k hlt).c1
      by_cases he : nf k = n
      · subst he
        go_wp2_with fail
        refine (known_any FB (k * 6) (co k) fm _ c1).mono ?_
        rintro e w' ⟨rfl, rfl⟩
        cases hk1 : kn1 (co k) fm
        · go_wp2_with fail
          go_roundw
          case rel => exact ⟨k + 1, by omega, by go_num, by simp [Hid, Ks, unhide HN, hk1], trivial⟩
          case measure => simp [intOf]; omega
        · go_wp2_with fail
          go_ret
          exact ⟨⟨_, rfl, by rw [Ks_true rfl hk1 hlt]; rfl⟩, rfl⟩
      · have hd := dec_nm (be k hlt).1 (be k hlt).2 bn.1 bn.2 he
        go_wp2_with fail
        go_roundw
        case rel => exact ⟨k + 1, by omega, by go_num, by simp [Hid, Ks, unhide HN, he], trivial⟩
        case measure => simp [intOf]; omega
    · obtain rfl : k = F := by omega
      go_wp2_with fail
      go_ret
      exact ⟨⟨_, rfl, by rw [unhide HN]; rfl⟩, rfl⟩

set_option maxHeartbeats 800000 in
theorem index_any (a : Option Addr) (m cap UB : Nat) (un : List Int) (n : Int) (w : World) (hl : un.length = m) (ha : 0 < m → a = some ⟨UB, 0, .none⟩) (hx : ∀ j u, un[j]? = some u → w.cell? ⟨UB, j, .none⟩ = some (.string (nm u))) (bn : 0 ≤ n ∧ n < 7) (be : ∀ u ∈ un, 0 ≤ u ∧ u < 7) (hE : m ≤ 4096) :
    Calls Yba.prog 22 #[.slice a m cap, .string (nm n)] w fun e w' => (∃ r : Int, e = .returned (.int .i64 r) ∧ decide (0 ≤ r) = decide (n ∈ un)) ∧ w' = w := by
  have Hx := hide hx
  clear hx
  go_enter Yba.func22, Yba.ntmps22
  go_wp2_with fail
  go_loopw [8] (fun ii wr => ∃ k : Nat, k ≤ m ∧ ii = .int .i64 k ∧ Hid (∀ j, j < k → un[j]? ≠ some n) ∧ wr = w) (fun ii _ => m - (intOf ii).toNat)
  case atStart => exact ⟨0, Nat.zero_le _, rfl, fun j hj => absurd hj (Nat.not_lt_zero _), rfl⟩
  case round =>
    obtain ⟨k, hk, rfl, HN, rfl⟩ := hrel
    by_cases hlt : k < m
    · obtain rfl := ha (by omega)
      have hkI : (k : Int) < (m : Int) := by omega
      obtain ⟨u, hu⟩ : ∃ u, un[k]? = some u := ⟨_, List.getElem?_eq_getElem (by omega)⟩
      have c0 := unhide Hx k u hu
      have hm := List.mem_of_getElem? hu
      by_cases he : n = u
      · subst he
        go_wp2_with fail
        go_ret
        exact ⟨⟨_, rfl, Int.natCast_nonneg k⟩, rfl⟩
      · have hd := dec_nm bn.1 bn.2 (be u hm).1 (be u hm).2 he
        go_wp2_with fail
        go_roundw
        case rel => exact ⟨k + 1, by omega, by go_num, fun j hj => by
          by_cases q : j = k
          · subst q; rw [hu]; simpa using fun e => he e.symm
          · exact unhide HN j (by omega), trivial⟩
        case measure => simp [intOf]; omega
    · obtain rfl : k = m := by omega
      go_wp2_with fail
      go_ret
      refine ⟨⟨_, rfl, ?_⟩, rfl⟩
      have : n ∉ un := fun q => by
        obtain ⟨j, hj⟩ := List.getElem?_of_mem q
        exact unhide HN j (by have := (List.getElem?_eq_some_iff.1 hj).1; omega) hj
      simp [this]

theorem contains_any (a : Option Addr) (m cap UB : Nat) (un : List Int) (n : Int) (w : World) (hl : un.length = m) (ha : 0 < m → a = some ⟨UB, 0, .none⟩) (hx : ∀ j u, un[j]? = some u → w.cell? ⟨UB, j, .none⟩ = some (.string (nm u))) (bn : 0 ≤ n ∧ n < 7) (be : ∀ u ∈ un, 0 ≤ u ∧ u < 7) (hE : m ≤ 4096) :
    Calls Yba.prog 19 #[.slice a m cap, .string (nm n)] w fun e w' => e = .returned (.bool (decide (n ∈ un))) ∧ w' = w := by
  have Hx := hide hx
  clear hx
  go_enter Yba.func19, Yba.ntmps19
  go_wp2_with fail
  refine (index_any a m cap UB un n _ hl ha (unhide Hx) bn be hE).mono ?_
  rintro e w' ⟨⟨r, rfl, hr⟩, rfl⟩
  go_wp2_with fail
  go_ret
  exact ⟨rfl, rfl⟩
end Go.Proofs.Ybulkejtm
