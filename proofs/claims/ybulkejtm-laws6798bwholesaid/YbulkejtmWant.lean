import Derived.Test.YbulkejtmBd
namespace Go.Proofs.Ybulkejtm
open Go.ChangeShapes Go.WideShapes Go.ChangeAt Go.RowKit

def datB (F E : Nat) (fn : Nat → Int) (co ha : Nat → Bool) (va : Nat → ByteArray) (en : Nat → Int) (ev : Nat → ByteArray) (fm : Int) : Dat := ⟨F, E, fun i => n5 (fn i), co, ha, va, fun j => n7 (en j), ev, fm⟩

theorem row_shape {w : World} {B : Nat} {e : TypeId} {s n : Nat} {v : Value} {xs : List Value} (h : w.ownsRow B e s v n xs) : ∃ a b cap, v = .slice a n cap ∧ (0 < n → a = some ⟨b, 0, .none⟩) ∧ ∀ j, j < n * s → w.cell? ⟨b, j, .none⟩ = xs[j]? := by
  rcases h.2 with ⟨rfl, h0⟩ | ⟨g, cap, cur, rfl, _, _⟩
  · exact ⟨.none, 0, 0, by rw [h0], fun q => by omega, fun j hj => by rw [h0] at hj; omega⟩
  · exact ⟨_, g, cap, rfl, fun _ => rfl, fun j hj => h.cellAt j hj⟩

theorem Bd.mem {w wr : World} {F E : Nat} {sv hv vv xv : Value} {bx : Nat → Nat} {fn : Nat → Int} {co ha : Nat → Bool} {va : Nat → ByteArray} {en : Nat → Int} {ev : Nat → ByteArray} (h : Bd w wr F F F E sv hv vv xv bx fn co ha va en ev) (fm : Int) :
    ∃ FB HB VB XB sc hc vc xc sa aa ab xa, Mem wr ⟨w.heap.size, w.heap.size + 1, FB, HB, VB, XB, sc, hc, vc, xc, sa, aa, ab, xa, bx⟩ (datB F E fn co ha va en ev fm) := by
  obtain ⟨sa, FB, sc, rfl, hS, rS⟩ := row_shape h.oS
  obtain ⟨aa, HB, hc, rfl, hH, rH⟩ := row_shape h.oH
  obtain ⟨ab, VB, vc, rfl, hV, rV⟩ := row_shape h.oV
  obtain ⟨xa, XB, xc, rfl, hX, rX⟩ := row_shape h.oX
  have lS : ∀ i, (fc1 (n5 (fn i)) (co i) (bx i)).length = 6 := fun i => rfl
  have lX : ∀ i, (mc1 (n7 (en i), ev i)).length = 7 := fun i => rfl
  refine ⟨FB, HB, VB, XB, sc, hc, vc, xc, sa, aa, ab, xa, ⟨h.cS0, h.cS1, h.cT0, h.cT1, h.cT2, hS, hH, hV, hX, fun j hj => ?_, fun j hj => ?_, fun j hj => ?_, fun j hj => ?_, fun j hj => ?_⟩⟩
  · have hj : j < F := hj
    have q : ∀ k, k < 6 → wr.cell? ⟨FB, j * 6 + k, .none⟩ = (fc1 (n5 (fn j)) (co j) (bx j))[k]? := fun k hk => (rS (j * 6 + k) (by omega)).trans (rcl_at lS F j k hj hk)
    exact ⟨q 0 (by decide), q 1 (by decide), q 2 (by decide), q 3 (by decide), q 4 (by decide), q 5 (by decide)⟩
  · have hj : j < F := hj
    simp [World.cell?, h.bc j hj]
  · have hj : j < F := hj
    have q := (rH (j * 1 + 0) (by omega)).trans (rcl_at (s := 1) (f := fun i => [.bool (ha i)]) (fun i => rfl) F j 0 hj (by decide))
    simpa [datB] using q
  · have hj : j < F := hj
    have q := (rV (j * 1 + 0) (by omega)).trans (rcl_at (s := 1) (f := fun i => [.string (va i)]) (fun i => rfl) F j 0 hj (by decide))
    simpa [datB] using q
  · have hj : j < E := hj
    have q : ∀ k, k < 7 → wr.cell? ⟨XB, j * 7 + k, .none⟩ = (mc1 (n7 (en j), ev j))[k]? := fun k hk => (rX (j * 7 + k) (by omega)).trans (rcl_at lX E j k hj hk)
    exact ⟨q 0 (by decide), q 1 (by decide), q 2 (by decide), q 3 (by decide), q 4 (by decide), q 5 (by decide), q 6 (by decide)⟩

theorem ArgB.bnd {w : World} {a0 a1 : Option Addr} {F E fb fo eb eo : Nat} {fn : Nat → Int} {co ha : Nat → Bool} {va : Nat → ByteArray} {en : Nat → Int} {ev : Nat → ByteArray} (h : ArgB w a0 a1 F E fb fo eb eo fn co ha va en ev) (fm : Int) : Bnd (datB F E fn co ha va en ev fm) :=
  ⟨h.len, fun i _ => by show 0 ≤ n5 (fn i) ∧ n5 (fn i) < 7; unfold n5; omega, fun j _ => by show 0 ≤ n7 (en j) ∧ n7 (en j) < 7; unfold n7; omega⟩

/-- What the model holds: the two arrays and the two lists. -/
structure Wn (wr wx : World) (ln : List Int) (lv : List ByteArray) (nv vv : Value) (kf uf : Nat → Bool) : Prop where
  g : Grow wr wx
  lt : wr.heap.size + 2 ≤ wx.heap.size
  cK : ∀ n, n < 7 → wx.cell? ⟨wr.heap.size, n, .none⟩ = some (.bool (kf n))
  cU : ∀ n, n < 7 → wx.cell? ⟨wr.heap.size + 1, n, .none⟩ = some (.bool (uf n))
  zK : ∀ o, wx.frozen? ⟨wr.heap.size, o, .none⟩ = false
  zU : ∀ o, wx.frozen? ⟨wr.heap.size + 1, o, .none⟩ = false
  oN : wx.ownsRow (wr.heap.size + 2) 5 1 nv ln.length (ln.map fun n => .int .u8 n)
  oV : wx.ownsRow (wr.heap.size + 2) 9 1 vv lv.length (lv.map .string)
section
variable {wr wx : World} {ln : List Int} {lv : List ByteArray} {nv vv : Value} {kf uf : Nat → Bool}
abbrev b7 : Obj := .cells #[.bool false, .bool false, .bool false, .bool false, .bool false, .bool false, .bool false] 75
theorem Wn.start (wr : World) (kf uf : Nat → Bool) (hk : ∀ n, kf n = false) (hu : ∀ n, uf n = false) : Wn wr ((wr.alloc b7).alloc b7) [] [] (.slice .none 0 0) (.slice .none 0 0) kf uf := by
  refine ⟨((Grow.refl wr).alloc _).alloc _, by simp, fun n hn => ?_, fun n hn => ?_, fun o => by go_simp, fun o => by go_simp, World.ownsRow_nil _ _ _ _, World.ownsRow_nil _ _ _ _⟩
  · rw [hk]
    rcases (by omega : n = 0 ∨ n = 1 ∨ n = 2 ∨ n = 3 ∨ n = 4 ∨ n = 5 ∨ n = 6) with rfl | rfl | rfl | rfl | rfl | rfl | rfl <;> go_simp
  · rw [hu]
    rcases (by omega : n = 0 ∨ n = 1 ∨ n = 2 ∨ n = 3 ∨ n = 4 ∨ n = 5 ∨ n = 6) with rfl | rfl | rfl | rfl | rfl | rfl | rfl <;> go_simp
theorem Wn.grow {W : World} (h : Wn wr wx ln lv nv vv kf uf) (k : Grow wx W) : Wn wr W ln lv nv vv kf uf :=
  ⟨h.g.trans k, Nat.le_trans h.lt k.size, fun n hn => k.cell (h.cK n hn), fun n hn => k.cell (h.cU n hn),
   fun o => (World.frozen?_of_block (a := ⟨wr.heap.size, o, .none⟩) (k.block (by have := h.lt; show wr.heap.size < _; omega))).trans (h.zK o), fun o => (World.frozen?_of_block (a := ⟨wr.heap.size + 1, o, .none⟩) (k.block (by have := h.lt; show wr.heap.size + 1 < _; omega))).trans (h.zU o), k.owns h.oN, k.owns h.oV⟩
theorem Wn.same {kf' uf' : Nat → Bool} {ln' : List Int} {lv' : List ByteArray} (h : Wn wr wx ln lv nv vv kf uf) (hk : ∀ n, n < 7 → kf' n = kf n) (hu : ∀ n, n < 7 → uf' n = uf n) (hn : ln' = ln) (hv : lv' = lv) : Wn wr wx ln' lv' nv vv kf' uf' := by
  subst hn hv
  exact ⟨h.g, h.lt, fun n hn => by rw [hk n hn]; exact h.cK n hn, fun n hn => by rw [hu n hn]; exact h.cU n hn, h.zK, h.zU, h.oN, h.oV⟩
theorem Wn.owns {b : Nat} {p : Nat} {u : Value} {e : TypeId} {s n : Nat} {v : Value} {xs : List Value} (ho : wx.ownsRow (wr.heap.size + 2) e s v n xs) (hb : b < wr.heap.size + 2) : (wx.setCell ⟨b, p, .none⟩ u).ownsRow (wr.heap.size + 2) e s v n xs :=
  owns_of ho (fun g hg => Below.heap_setCell _ _ _ _ (by have := (owns_lt ho hg).2; show g ≠ b; omega))
theorem Wn.know (h : Wn wr wx ln lv nv vv kf uf) {m : Nat} (hm : m < 7) : Wn wr (wx.setCell ⟨wr.heap.size, m, .none⟩ (.bool true)) ln lv nv vv (fun n => kf n || decide (n = m)) uf := by
  refine ⟨h.g.setCell (p := ⟨wr.heap.size, m, .none⟩) (Nat.le_refl _) _, by simpa using h.lt, fun n hn => ?_, fun n hn => ?_, fun o => by simpa using h.zK o, fun o => by simpa using h.zU o, Wn.owns h.oN (by omega), Wn.owns h.oV (by omega)⟩
  · by_cases e : n = m
    · subst e
      rw [World.cell?_setCell_same _ _ _ (h.cK n hn)]; simp
    · rw [World.cell?_setCell_other _ _ _ _ (fun q => by (simp at q) <;> omega), h.cK n hn]; simp [e]
  · rw [World.cell?_setCell_other _ _ _ _ (fun q => by simp at q)]; exact h.cU n hn
theorem Wn.unkn (h : Wn wr wx ln lv nv vv kf uf) {m : Nat} (hm : m < 7) : Wn wr (wx.setCell ⟨wr.heap.size + 1, m, .none⟩ (.bool true)) ln lv nv vv kf (fun n => uf n || decide (n = m)) := by
  refine ⟨h.g.setCell (p := ⟨wr.heap.size + 1, m, .none⟩) (Nat.le_succ _) _, by simpa using h.lt, fun n hn => ?_, fun n hn => ?_, fun o => by simpa using h.zK o, fun o => by simpa using h.zU o, Wn.owns h.oN (by omega), Wn.owns h.oV (by omega)⟩
  · rw [World.cell?_setCell_other _ _ _ _ (fun q => by simp at q)]; exact h.cK n hn
  · by_cases e : n = m
    · subst e
      rw [World.cell?_setCell_same _ _ _ (h.cU n hn)]; simp
    · rw [World.cell?_setCell_other _ _ _ _ (fun q => by (simp at q) <;> omega), h.cU n hn]; simp [e]
theorem Wn.grown {W' : World} {row : Option Nat} (h : Wn wr wx ln lv nv vv kf uf) (hgr : wx.grownBy W' row) (hr : ∀ g, row = some g → wr.heap.size + 2 ≤ g) :
    Grow wr W' ∧ wr.heap.size + 2 ≤ W'.heap.size ∧ (∀ n, n < 7 → W'.cell? ⟨wr.heap.size, n, .none⟩ = some (.bool (kf n))) ∧ (∀ n, n < 7 → W'.cell? ⟨wr.heap.size + 1, n, .none⟩ = some (.bool (uf n))) ∧ (∀ o, W'.frozen? ⟨wr.heap.size, o, .none⟩ = false) ∧ (∀ o, W'.frozen? ⟨wr.heap.size + 1, o, .none⟩ = false) := by
  have n0 : some wr.heap.size ≠ row := fun e => by have := hr _ e.symm; omega
  have n1 : some (wr.heap.size + 1) ≠ row := fun e => by have := hr _ e.symm; omega
  have l := h.lt
  exact ⟨grow_grown h.g hgr (fun x hx => by have := hr x hx; omega), Nat.le_trans l hgr.size, fun n hn => hgr.cell (h.cK n hn) n0, fun n hn => hgr.cell (h.cU n hn) n1,
    fun o => (World.frozen?_of_block (a := ⟨wr.heap.size, o, .none⟩) (hgr.block _ (by show wr.heap.size < _; omega) n0)).trans (h.zK o), fun o => (World.frozen?_of_block (a := ⟨wr.heap.size + 1, o, .none⟩) (hgr.block _ (by show wr.heap.size + 1 < _; omega) n1)).trans (h.zU o)⟩
theorem Wn.appN {W W' : World} {nv' : Value} {n : Int} (h : Wn wr wx ln lv nv vv kf uf) (hG : Grow wx W) (hgr : W.grownBy W' nv.ownBlock) (hown : W'.ownsRow (wr.heap.size + 2) 5 1 nv' (ln.length + 1) (ln.map (fun n => .int .u8 n) ++ [.int .u8 n])) : Wn wr W' (ln ++ [n]) lv nv' vv kf uf := by
  replace h := h.grow hG
  obtain ⟨a1, a2, a3, a4, a5, a6⟩ := h.grown hgr (fun g hg => (owns_lt h.oN hg).2)
  exact ⟨a1, a2, a3, a4, a5, a6, by simpa using hown, owns_of h.oV (fun x hx => hgr.block x (owns_lt h.oV hx).1 (fun e => tag_ne h.oV h.oN (by decide) x hx e.symm))⟩
theorem Wn.appV {W W' : World} {vv' : Value} {t : ByteArray} (h : Wn wr wx ln lv nv vv kf uf) (hG : Grow wx W) (hgr : W.grownBy W' vv.ownBlock) (hown : W'.ownsRow (wr.heap.size + 2) 9 1 vv' (lv.length + 1) (lv.map .string ++ [.string t])) : Wn wr W' ln (lv ++ [t]) nv vv' kf uf := by
  replace h := h.grow hG
  obtain ⟨a1, a2, a3, a4, a5, a6⟩ := h.grown hgr (fun g hg => (owns_lt h.oV hg).2)
  exact ⟨a1, a2, a3, a4, a5, a6, owns_of h.oN (fun x hx => hgr.block x (owns_lt h.oN hx).1 (fun e => tag_ne h.oN h.oV (by decide) x hx e.symm)), by simpa using hown⟩
end
section
variable {wb W : World} {F E i : Nat} {fn : Nat → Int} {co ha : Nat → Bool} {va : Nat → ByteArray} {en : Nat → Int} {ev : Nat → ByteArray} {fm : Int} {d : Dat} {nv vv : Value}
/-- What loop 3 holds before field i. -/
abbrev W3 (wb W : World) (d : Dat) (i : Nat) (nv vv : Value) : Prop := Wn wb W ((o1 d i).map (·.1)) ((o1 d i).map (·.2)) nv vv (fun n => Ks d.nf (kn d) n i) (fun n => decide ((n : Int) ∈ uw d i))
theorem dec5 (x : Int) (n : Nat) : decide (n5 x = (n : Int)) = decide (n = (n5 x).toNat) := by
  have : 0 ≤ n5 x := by unfold n5; omega
  by_cases e : n5 x = (n : Int)
  · rw [decide_eq_true e, decide_eq_true (by omega)]
  · rw [decide_eq_false e, decide_eq_false (by omega)]
theorem fin1 (hd : datB F E fn co ha va en ev fm = d) (hh : ha i = true) (hk : kn1 (co i) fm = true)
    (h : Wn wb W ((o1 d i).map (·.1) ++ [n5 (fn i)]) ((o1 d i).map (·.2) ++ [va i]) nv vv (fun n => Ks d.nf (kn d) n i || decide (n = (n5 (fn i)).toNat)) (fun n => decide ((n : Int) ∈ uw d i))) : W3 wb W d (i + 1) nv vv := by
  subst hd
  refine h.same (fun n _ => ?_) (fun n _ => ?_) ?_ ?_
  · show (Ks _ _ _ i || (decide (n5 (fn i) = (n : Int)) && kn1 (co i) fm)) = _
    rw [hk, Bool.and_true, dec5]
  · rw [uw_same (by show (ha i && !kn1 (co i) fm) = false; simp [hk])]
  · simp [o1, st1, datB, hh]
  · simp [o1, st1, datB, hh]
theorem fin2 (hd : datB F E fn co ha va en ev fm = d) (hh : ha i = true) (hk : kn1 (co i) fm = false)
    (h : Wn wb W ((o1 d i).map (·.1) ++ [n5 (fn i)]) ((o1 d i).map (·.2) ++ [va i]) nv vv (fun n => Ks d.nf (kn d) n i) (fun n => decide ((n : Int) ∈ uw d i) || decide (n = (n5 (fn i)).toNat))) : W3 wb W d (i + 1) nv vv := by
  subst hd
  refine h.same (fun n _ => ?_) (fun n _ => ?_) ?_ ?_
  · show (Ks _ _ _ i || (decide (n5 (fn i) = (n : Int)) && kn1 (co i) fm)) = _
    rw [hk, Bool.and_false, Bool.or_false]
  · rw [uw_more (d := datB F E fn co ha va en ev fm) hh hk, ← dec5, Bool.eq_iff_iff]
    simp only [Bool.or_eq_true, decide_eq_true_eq, List.mem_append, List.mem_singleton]
    exact or_congr Iff.rfl eq_comm
  · simp [o1, st1, datB, hh]
  · simp [o1, st1, datB, hh]
theorem fin3 (hd : datB F E fn co ha va en ev fm = d) (hh : ha i = false) (hk : kn1 (co i) fm = false) (h : W3 wb W d i nv vv) : W3 wb W d (i + 1) nv vv := by
  subst hd
  refine h.same (fun n _ => ?_) (fun n _ => ?_) ?_ ?_
  · show (Ks _ _ _ i || (decide (n5 (fn i) = (n : Int)) && kn1 (co i) fm)) = _
    rw [hk, Bool.and_false, Bool.or_false]
  · rw [uw_same (by show (ha i && !kn1 (co i) fm) = false; simp [hh])]
  · simp [o1, st1, datB, hh, kn, hk]
  · simp [o1, st1, datB, hh, kn, hk]
theorem fin4 (hd : datB F E fn co ha va en ev fm = d) (hh : ha i = false) (hk : kn1 (co i) fm = true) {m : Nat} (hm : m < E) (hf : ∀ x, x < m → n7 (en x) ≠ n5 (fn i)) (he : n7 (en m) = n5 (fn i))
    (h : Wn wb W ((o1 d i).map (·.1) ++ [n5 (fn i)]) ((o1 d i).map (·.2) ++ [ev m]) nv vv (fun n => Ks d.nf (kn d) n i || decide (n = (n5 (fn i)).toNat)) (fun n => decide ((n : Int) ∈ uw d i))) : W3 wb W d (i + 1) nv vv := by
  subst hd
  have hs := fst_some hf he hm
  refine h.same (fun n _ => ?_) (fun n _ => ?_) ?_ ?_
  · show (Ks _ _ _ i || (decide (n5 (fn i) = (n : Int)) && kn1 (co i) fm)) = _
    rw [hk, Bool.and_true, dec5]
  · rw [uw_same (by show (ha i && !kn1 (co i) fm) = false; simp [hh])]
  · simp [o1, st1, datB, hh, kn, hk, hs, viaX]
  · simp [o1, st1, datB, hh, kn, hk, hs, viaX]
theorem fin5 (hd : datB F E fn co ha va en ev fm = d) (hh : ha i = false) (hk : kn1 (co i) fm = true) (hf : ∀ x, x < E → n7 (en x) ≠ n5 (fn i))
    (h : Wn wb W ((o1 d i).map (·.1)) ((o1 d i).map (·.2)) nv vv (fun n => Ks d.nf (kn d) n i || decide (n = (n5 (fn i)).toNat)) (fun n => decide ((n : Int) ∈ uw d i))) : W3 wb W d (i + 1) nv vv := by
  subst hd
  have hs := fst_none hf
  refine h.same (fun n _ => ?_) (fun n _ => ?_) ?_ ?_
  · show (Ks _ _ _ i || (decide (n5 (fn i) = (n : Int)) && kn1 (co i) fm)) = _
    rw [hk, Bool.and_true, dec5]
  · rw [uw_same (by show (ha i && !kn1 (co i) fm) = false; simp [hh])]
  · simp [o1, st1, datB, hh, kn, hk, hs, viaX]
  · simp [o1, st1, datB, hh, kn, hk, hs, viaX]
/-- What loop 5 holds before extra member m. -/
abbrev W5 (wb W : World) (d : Dat) (m : Nat) (nv vv : Value) : Prop := Wn wb W ((o1 d d.F ++ o2 d m).map (·.1)) ((o1 d d.F ++ o2 d m).map (·.2)) nv vv (fun n => Ks d.nf (kn d) n d.F) (fun n => decide ((n : Int) ∈ uw d d.F))
theorem W5.start (hd : datB F E fn co ha va en ev fm = d) (h : W3 wb W d F nv vv) : W5 wb W d 0 nv vv := by
  subst hd
  exact h.same (fun _ _ => rfl) (fun _ _ => rfl) (by simp [o2]; rfl) (by simp [o2]; rfl)
theorem W5.cells {m : Nat} (hd : datB F E fn co ha va en ev fm = d) (h : W5 wb W d m nv vv) : ∃ x y, W.cell? ⟨wb.heap.size, (n7 (en m)).toNat, .none⟩ = some (.bool x) ∧ W.cell? ⟨wb.heap.size + 1, (n7 (en m)).toNat, .none⟩ = some (.bool y) ∧ rest2 d m = (!x && !y) := by
  subst hd
  have h0 : 0 ≤ n7 (en m) ∧ n7 (en m) < 7 := by unfold n7; omega
  refine ⟨_, _, h.cK (n7 (en m)).toNat (by omega), h.cU (n7 (en m)).toNat (by omega), ?_⟩
  rw [Int.toNat_of_nonneg h0.1]
  rfl
theorem W5.skip {m : Nat} (h : W5 wb W d m nv vv) (hr : rest2 d m = false) : W5 wb W d (m + 1) nv vv :=
  h.same (fun _ _ => rfl) (fun _ _ => rfl) (by simp [o2, hr]) (by simp [o2, hr])
theorem W5.app {m : Nat} (hd : datB F E fn co ha va en ev fm = d) (hr : rest2 d m = true)
    (h : Wn wb W ((o1 d d.F ++ o2 d m).map (·.1) ++ [n7 (en m)]) ((o1 d d.F ++ o2 d m).map (·.2) ++ [ev m]) nv vv (fun n => Ks d.nf (kn d) n d.F) (fun n => decide ((n : Int) ∈ uw d d.F))) : W5 wb W d (m + 1) nv vv := by
  have e1 : o2 d (m + 1) = o2 d m ++ [(d.ne m, d.ev m)] := by rw [o2, hr]; rfl
  have e2 : d.ne m = n7 (en m) := by subst hd; rfl
  have e3 : d.ev m = ev m := by subst hd; rfl
  rw [e2, e3] at e1
  refine h.same (fun _ _ => rfl) (fun _ _ => rfl) ?_ ?_
  · simp [e1]
  · simp [e1]
end
end Go.Proofs.Ybulkejtm
