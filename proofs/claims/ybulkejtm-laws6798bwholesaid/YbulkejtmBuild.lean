import Derived.Test.YbulkejtmGot
namespace Go.Proofs.Ybulkejtm
open Go.ChangeShapes Go.WideShapes Go.ChangeAt Go.RowKit
set_option linter.unusedSimpArgs false
set_option linter.unusedVariables false

theorem wpAnyZ_last {P : Program} {ops : Array Oper} {Q : Exit → Act → World → Prop} {md : Region.Mode} {S : World → Prop} {z : Nat} (i : Nat) {o : Oper} {fuel : Nat} {listed : Array Bool} {a : Act} {w : World} (hi : ops[i]? = some o) (hr : Region.ready md ops listed = [i]) (hw : Region.wanted o (yielded ops a.tmps) = true) (hz : (listed.setIfInBounds i true).getD z true = true)
    (h : ∀ K : Act → World → Prop, (∀ a' w', wpAnyZ P md ops Q S z fuel (listed.setIfInBounds i true) a' w' → K a' w') → o.wp P a w K Q) : wpAnyZ P md ops Q S z (fuel + 1) listed a w :=
  wpAnyZ_one i hi hr hw fun K hK => h K fun a' w' h' => hK a' w' (fun q => by rw [hz] at q; cases q) h'
theorem app_store {wr W w3 : World} {v u : Value} {p : Addr} (G : Grow wr W) (hgr : W.grownBy w3 v.ownBlock) : Kept (fun x => x = p.block ∨ v.ownBlock = some x) wr (w3.setCell p u) :=
  ((((Kept.refl _ wr).grow G).grown hgr (fun k e _ => .inr e)).setCell (fun _ => .inl rfl) u)
/-- The four cells of the field at hand. -/
structure L4 (w : World) (b : Nat) (n : Int) (co ha : Bool) (va : ByteArray) : Prop where
  c0 : w.cell? ⟨b, 0, .none⟩ = some (.int .u8 n)
  c1 : w.cell? ⟨b, 1, .none⟩ = some (.bool co)
  c2 : w.cell? ⟨b, 2, .none⟩ = some (.bool ha)
  c3 : w.cell? ⟨b, 3, .none⟩ = some (.string va)
theorem L4.kept {w w' : World} {St : Nat → Prop} {b : Nat} {n : Int} {co ha : Bool} {va : ByteArray} (h : L4 w b n co ha va) (k : Kept St w w') (hs : ¬ St b) : L4 w' b n co ha va := ⟨k.cell h.c0 hs, k.cell h.c1 hs, k.cell h.c2 hs, k.cell h.c3 hs⟩
theorem L4.new (w : World) (n : Int) (co ha : Bool) (va : ByteArray) : L4 (w.alloc (.cells #[.int .u8 n, .bool co, .bool ha, .string va] 63)) w.heap.size n co ha va := by
  constructor <;> go_simp
theorem fc1_news {W : World} {H : Nat} (hH : W.heap.size = H) (n : Int) (co : Bool) (bx : Nat) : ∀ (j : Nat) (u : Value), (fc1 n co bx)[j]? = some u → (W.alloc (.cells #[.string (nm n), .bool co, .string ⟨#[]⟩, .nilFunc, .func (.func 15) #[] #[.pointer (some ⟨bx, 0, .none⟩)], .nilFunc] 70)).cell? ((⟨H, 0, .none⟩ : Addr).add j) = some u := by
  subst hH
  exact World.news_of_block (cs := #[.string (nm n), .bool co, .string ⟨#[]⟩, .nilFunc, .func (.func 15) #[] #[.pointer (some ⟨bx, 0, .none⟩)], .nilFunc]) (heap_alloc_new W _)

theorem frozen_grown {W w3 : World} {row : Option Nat} (hgr : W.grownBy w3 row) {b : Nat} (hb : b < W.heap.size) (hne : some b ≠ row) (h : ∀ o, W.frozen? ⟨b, o, .none⟩ = false) : ∀ o, w3.frozen? ⟨b, o, .none⟩ = false := fun o =>
  (World.frozen?_of_block (a := ⟨b, o, .none⟩) (hgr.block b hb hne)).trans (h o)

theorem r10_end {w wa W w3 : World} {LB g cap k b : Nat} {sv hv vv xv : Value} {bx : Nat → Nat} {fn : Nat → Int} {co ha : Nat → Bool} {va : Nat → ByteArray} {en : Nat → Int} {ev : Nat → ByteArray} {iH iV iX : Nat} (HB0 : Bd w wa k iH iV iX sv hv vv xv bx fn co ha va en ev) (HL : L4 wa LB (fn k) (co k) (ha k) (va k)) (hL : w.heap.size + 2 ≤ LB) (hLs : ∀ g, sv.ownBlock = some g → g < LB) (hg3 : Grow wa W) (hbox : W.heap[b]? = some (.cells #[.int .i64 k] 3 (0, 0))) (hbL : LB ≤ b) (hgr : W.grownBy w3 sv.ownBlock)
    (hown : w3.ownsRow (w.heap.size + 2) 70 6 (.slice (some ⟨g, 0, .none⟩) (k + 1) cap) (k + 1) (rcl (fun i => fc1 (n5 (fn i)) (co i) (bx i)) k ++ fc1 (n5 (fn k)) (co k) b)) :
    (∀ o, w3.frozen? ⟨w.heap.size + 1, o, .none⟩ = false) ∧ Bd w (w3.setCell ⟨w.heap.size + 1, 0, .none⟩ (.slice (some ⟨g, 0, .none⟩) (k + 1) cap)) (k + 1) iH iV iX (.slice (some ⟨g, 0, .none⟩) (k + 1) cap) hv vv xv (fun j => if j = k then b else bx j) fn co ha va en ev ∧ L4 (w3.setCell ⟨w.heap.size + 1, 0, .none⟩ (.slice (some ⟨g, 0, .none⟩) (k + 1) cap)) LB (fn k) (co k) (ha k) (va k) := by
  have nS : some (w.heap.size + 1) ≠ sv.ownBlock := fun e => by have := (owns_lt HB0.oS e.symm).2; omega
  have nL : some LB ≠ sv.ownBlock := fun e => by have := hLs _ e.symm; omega
  have nb : some b ≠ sv.ownBlock := fun e => by have := hLs _ e.symm; omega
  have HBW := HB0.grow hg3
  have hSl : w.heap.size + 1 < W.heap.size := by have := HBW.lt; omega
  have z3 := frozen_grown hgr hSl nS HBW.zS
  have K := app_store (p := ⟨w.heap.size + 1, 0, .none⟩) (u := .slice (some ⟨g, 0, .none⟩) (k + 1) cap) hg3 hgr
  have hgB := (owns_lt hown (g := g) rfl).2
  refine ⟨z3, HB0.stepS K (World.cell?_setCell_same _ _ _ (hgr.cell HBW.cS0 nS)) ?_ (fun o => by simpa using z3 o) (owns_of hown (fun x hx => ?_)) ?_, HL.kept K ?_⟩
  · rw [World.cell?_setCell_other _ _ _ _ (fun e => by simp at e)]
    exact hgr.cell HBW.cS1 nS
  · simp [Value.ownBlock] at hx; subst hx
    exact Below.heap_setCell _ _ _ _ (by show g ≠ w.heap.size + 1; omega)
  · rw [Below.heap_setCell _ _ _ _ (show b ≠ w.heap.size + 1 by omega)]
    exact (hgr.block b (heap_lt hbox) nb).trans hbox
  · intro q
    rcases q with q | q
    · have : LB = w.heap.size + 1 := q; omega
    · exact nL q.symm

theorem rH_end {w wa W w3 : World} {LB g cap k iS iV iX : Nat} {sv hv vv xv : Value} {bx : Nat → Nat} {fn : Nat → Int} {co ha : Nat → Bool} {va : Nat → ByteArray} {en : Nat → Int} {ev : Nat → ByteArray} (HB0 : Bd w wa iS k iV iX sv hv vv xv bx fn co ha va en ev) (HL : L4 wa LB (fn k) (co k) (ha k) (va k)) (hL : w.heap.size + 2 ≤ LB) (hLs : ∀ g, hv.ownBlock = some g → g < LB) (hg3 : Grow wa W) (hgr : W.grownBy w3 hv.ownBlock)
    (hown : w3.ownsRow (w.heap.size + 2) 4 1 (.slice (some ⟨g, 0, .none⟩) (k + 1) cap) (k + 1) (rcl (fun i => [.bool (ha i)]) k ++ [.bool (ha k)])) :
    (∀ o, w3.frozen? ⟨w.heap.size, o, .none⟩ = false) ∧ Bd w (w3.setCell ⟨w.heap.size, 0, .none⟩ (.slice (some ⟨g, 0, .none⟩) (k + 1) cap)) iS (k + 1) iV iX sv (.slice (some ⟨g, 0, .none⟩) (k + 1) cap) vv xv bx fn co ha va en ev ∧ L4 (w3.setCell ⟨w.heap.size, 0, .none⟩ (.slice (some ⟨g, 0, .none⟩) (k + 1) cap)) LB (fn k) (co k) (ha k) (va k) := by
  have nT : some w.heap.size ≠ hv.ownBlock := fun e => by have := (owns_lt HB0.oH e.symm).2; omega
  have nL : some LB ≠ hv.ownBlock := fun e => by have := hLs _ e.symm; omega
  have HBW := HB0.grow hg3
  have hSl : w.heap.size < W.heap.size := by have := HBW.lt; omega
  have z3 := frozen_grown hgr hSl nT HBW.zT
  have K := app_store (p := ⟨w.heap.size, 0, .none⟩) (u := .slice (some ⟨g, 0, .none⟩) (k + 1) cap) hg3 hgr
  have hgB := (owns_lt hown (g := g) rfl).2
  obtain ⟨s1, s2, s3, s4⟩ := stT HB0 HB0.oH (by decide) (by decide)
  have far : ∀ {o : Nat} {v : Value}, o ≠ 0 → W.cell? ⟨w.heap.size, o, .none⟩ = some v → (w3.setCell ⟨w.heap.size, 0, .none⟩ (.slice (some ⟨g, 0, .none⟩) (k + 1) cap)).cell? ⟨w.heap.size, o, .none⟩ = some v := fun ho h => by
    rw [World.cell?_setCell_other _ _ _ _ (fun e => by (simp at e) <;> omega)]
    exact hgr.cell h nT
  refine ⟨z3, HB0.stepT K s1 s2 s3 (fun o => by simpa using z3 o) (World.cell?_setCell_same _ _ _ (hgr.cell HBW.cT0 nT)) (far (by decide) HBW.cT1) (far (by decide) HBW.cT2) s4 (owns_of hown (fun x hx => ?_)) ?_ ?_, HL.kept K ?_⟩
  · simp [Value.ownBlock] at hx; subst hx
    exact Below.heap_setCell _ _ _ _ (by show g ≠ w.heap.size; omega)
  · exact K.owns HB0.oV (fun g hg q => q.elim (fun e => by have : g = w.heap.size := e; have := (owns_lt HB0.oV hg).2; omega) (fun e => tag_ne HB0.oV HB0.oH (by decide) g hg e))
  · exact K.owns HB0.oX (fun g hg q => q.elim (fun e => by have : g = w.heap.size := e; have := (owns_lt HB0.oX hg).2; omega) (fun e => tag_ne HB0.oX HB0.oH (by decide) g hg e))
  · intro q
    rcases q with q | q
    · have : LB = w.heap.size := q; omega
    · exact nL q.symm
theorem rV_end {w wa W w3 : World} {g cap k iS iH iX : Nat} {sv hv vv xv : Value} {bx : Nat → Nat} {fn : Nat → Int} {co ha : Nat → Bool} {va : Nat → ByteArray} {en : Nat → Int} {ev : Nat → ByteArray} (HB0 : Bd w wa iS iH k iX sv hv vv xv bx fn co ha va en ev) (hg3 : Grow wa W) (hgr : W.grownBy w3 vv.ownBlock)
    (hown : w3.ownsRow (w.heap.size + 2) 9 1 (.slice (some ⟨g, 0, .none⟩) (k + 1) cap) (k + 1) (rcl (fun i => [.string (va i)]) k ++ [.string (va k)])) :
    (∀ o, w3.frozen? ⟨w.heap.size, o, .none⟩ = false) ∧ Bd w (w3.setCell ⟨w.heap.size, 1, .none⟩ (.slice (some ⟨g, 0, .none⟩) (k + 1) cap)) iS iH (k + 1) iX sv hv (.slice (some ⟨g, 0, .none⟩) (k + 1) cap) xv bx fn co ha va en ev := by
  have nT : some w.heap.size ≠ vv.ownBlock := fun e => by have := (owns_lt HB0.oV e.symm).2; omega
  have HBW := HB0.grow hg3
  have hSl : w.heap.size < W.heap.size := by have := HBW.lt; omega
  have z3 := frozen_grown hgr hSl nT HBW.zT
  have K := app_store (p := ⟨w.heap.size, 1, .none⟩) (u := .slice (some ⟨g, 0, .none⟩) (k + 1) cap) hg3 hgr
  have hgB := (owns_lt hown (g := g) rfl).2
  obtain ⟨s1, s2, s3, s4⟩ := stT HB0 HB0.oV (by decide) (by decide)
  have far : ∀ {o : Nat} {v : Value}, o ≠ 1 → W.cell? ⟨w.heap.size, o, .none⟩ = some v → (w3.setCell ⟨w.heap.size, 1, .none⟩ (.slice (some ⟨g, 0, .none⟩) (k + 1) cap)).cell? ⟨w.heap.size, o, .none⟩ = some v := fun ho h => by
    rw [World.cell?_setCell_other _ _ _ _ (fun e => by (simp at e) <;> omega)]
    exact hgr.cell h nT
  refine ⟨z3, HB0.stepT K s1 s2 s3 (fun o => by simpa using z3 o) (far (by decide) HBW.cT0) (World.cell?_setCell_same _ _ _ (hgr.cell HBW.cT1 nT)) (far (by decide) HBW.cT2) s4 ?_ (owns_of hown (fun x hx => ?_)) ?_⟩
  · exact K.owns HB0.oH (fun g hg q => q.elim (fun e => by have : g = w.heap.size := e; have := (owns_lt HB0.oH hg).2; omega) (fun e => tag_ne HB0.oH HB0.oV (by decide) g hg e))
  · simp [Value.ownBlock] at hx; subst hx
    exact Below.heap_setCell _ _ _ _ (by show g ≠ w.heap.size; omega)
  · exact K.owns HB0.oX (fun g hg q => q.elim (fun e => by have : g = w.heap.size := e; have := (owns_lt HB0.oX hg).2; omega) (fun e => tag_ne HB0.oX HB0.oV (by decide) g hg e))
theorem one_news {W : World} {H : Nat} (hH : W.heap.size = H) (v : Value) (t : TypeId) : ∀ (j : Nat) (u : Value), [v][j]? = some u → (W.alloc (.cells #[v] t)).cell? ((⟨H, 0, .none⟩ : Addr).add j) = some u := by
  subst hH
  exact World.news_of_block (cs := #[v]) (heap_alloc_new W _)

def zm : List Value := [.string ⟨#[]⟩, .int .u8 0, .bool false, .string ⟨#[]⟩, .slice .none 0 0, .slice .none 0 0, .slice .none 0 0]
theorem zm_news {W : World} {H : Nat} (hH : W.heap.size = H) : ∀ (j : Nat) (u : Value), zm[j]? = some u → (W.alloc (.cells #[.string ⟨#[]⟩, .int .u8 0, .bool false, .string ⟨#[]⟩, .slice .none 0 0, .slice .none 0 0, .slice .none 0 0] 74)).cell? ((⟨H, 0, .none⟩ : Addr).add j) = some u := by
  subst hH
  exact World.news_of_block (cs := #[.string ⟨#[]⟩, .int .u8 0, .bool false, .string ⟨#[]⟩, .slice .none 0 0, .slice .none 0 0, .slice .none 0 0]) (heap_alloc_new W _)
theorem zm_one : ∀ u ∈ zm, u.oneCell' = true := by
  intro u hu; simp [zm] at hu; rcases hu with rfl | rfl | rfl | rfl | rfl <;> rfl
theorem set7 (xs : List Value) (i : Nat) (hl : xs.length = i * 7) (c0 c1 c2 c3 c4 c5 c6 : Value) :
    (((((((xs ++ zm).set (i * 7) c0).set (i * 7 + 1) c1).set (i * 7 + 2) c2).set (i * 7 + 3) c3).set (i * 7 + 4) c4).set (i * 7 + 5) c5).set (i * 7 + 6) c6 = xs ++ [c0, c1, c2, c3, c4, c5, c6] := by
  rw [← hl]
  simp [zm, List.set_append_right]
abbrev put7 (w : World) (g o : Nat) (n : Int) (t : ByteArray) : World :=
  ((((((w.setCell ⟨g, o, .none⟩ (.string (nm n))).setCell ⟨g, o + 1, .none⟩ (.int .u8 3)).setCell ⟨g, o + 2, .none⟩ (.bool false)).setCell ⟨g, o + 3, .none⟩ (.string t)).setCell ⟨g, o + 4, .none⟩ (.slice .none 0 0)).setCell ⟨g, o + 5, .none⟩ (.slice .none 0 0)).setCell ⟨g, o + 6, .none⟩ (.slice .none 0 0)
theorem put7_own {w : World} {B g cap j : Nat} {xs : List Value} (h : w.ownsRow B 74 7 (.slice (some ⟨g, 0, .none⟩) (j + 1) cap) (j + 1) (xs ++ zm)) (hl : xs.length = j * 7) (n : Int) (t : ByteArray) : (put7 w g (j * 7) n t).ownsRow B 74 7 (.slice (some ⟨g, 0, .none⟩) (j + 1) cap) (j + 1) (xs ++ mc1 (n, t)) := by
  have o := (((((((h.stored (j * 7) (.string (nm n))).1.stored (j * 7 + 1) (.int .u8 3)).1.stored (j * 7 + 2) (.bool false)).1.stored (j * 7 + 3) (.string t)).1.stored (j * 7 + 4) (.slice .none 0 0)).1.stored (j * 7 + 5) (.slice .none 0 0)).1.stored (j * 7 + 6) (.slice .none 0 0)).1
  rw [set7 xs j hl] at o
  exact o
theorem put7_kept {St : Nat → Prop} {a w : World} {g o : Nat} (h : Kept St a w) (hs : g < a.heap.size → St g) (n : Int) (t : ByteArray) : Kept St a (put7 w g o n t) :=
  ((((((h.setCell (p := ⟨g, o, .none⟩) hs _).setCell (p := ⟨g, o + 1, .none⟩) hs _).setCell (p := ⟨g, o + 2, .none⟩) hs _).setCell (p := ⟨g, o + 3, .none⟩) hs _).setCell (p := ⟨g, o + 4, .none⟩) hs _).setCell (p := ⟨g, o + 5, .none⟩) hs _).setCell (p := ⟨g, o + 6, .none⟩) hs _
theorem put7_far {w : World} {g o b p : Nat} {n : Int} {t : ByteArray} {r : Option Value} (hne : b ≠ g) (h : w.cell? ⟨b, p, .none⟩ = r) : (put7 w g o n t).cell? ⟨b, p, .none⟩ = r := by
  have f : ∀ {W : World} {q : Nat} {v : Value}, W.cell? ⟨b, p, .none⟩ = r → (W.setCell ⟨g, q, .none⟩ v).cell? ⟨b, p, .none⟩ = r := fun {W} {q} {v} h => by
    rw [World.cell?_setCell_other _ _ _ _ (fun e => hne (congrArg Addr.block e).symm)]; exact h
  exact f (f (f (f (f (f (f h))))))
theorem put7_frozen {w : World} {g o b p : Nat} {n : Int} {t : ByteArray} : (put7 w g o n t).frozen? ⟨b, p, .none⟩ = w.frozen? ⟨b, p, .none⟩ := by simp

theorem rX_end {w wa W w3 : World} {g cap j iS iH iV : Nat} {sv hv vv xv : Value} {bx : Nat → Nat} {fn : Nat → Int} {co ha : Nat → Bool} {va : Nat → ByteArray} {en : Nat → Int} {ev : Nat → ByteArray} (HB0 : Bd w wa iS iH iV j sv hv vv xv bx fn co ha va en ev) (hg3 : Grow wa W) (hgr : W.grownBy w3 xv.ownBlock) (hat : xv.ownBlock = some g ∨ wa.heap.size ≤ g)
    (hown : w3.ownsRow (w.heap.size + 2) 74 7 (.slice (some ⟨g, 0, .none⟩) (j + 1) cap) (j + 1) (rcl (fun j => mc1 (n7 (en j), ev j)) j ++ zm)) :
    (∀ o, w3.frozen? ⟨w.heap.size, o, .none⟩ = false) ∧ (∀ o, w3.frozen? ⟨g, o, .none⟩ = false) ∧ (∀ k, k < 7 → ∃ v, w3.cell? ⟨g, j * 7 + k, .none⟩ = some v) ∧ w.heap.size + 2 ≤ g ∧
    Bd w ((put7 w3 g (j * 7) (n7 (en j)) (ev j)).setCell ⟨w.heap.size, 2, .none⟩ (.slice (some ⟨g, 0, .none⟩) (j + 1) cap)) iS iH iV (j + 1) sv hv vv (.slice (some ⟨g, 0, .none⟩) (j + 1) cap) bx fn co ha va en ev ∧
    Bd w (put7 (w3.setCell ⟨w.heap.size, 2, .none⟩ (.slice (some ⟨g, 0, .none⟩) (j + 1) cap)) g (j * 7) (n7 (en j)) (ev j)) iS iH iV (j + 1) sv hv vv (.slice (some ⟨g, 0, .none⟩) (j + 1) cap) bx fn co ha va en ev := by
  have nT : some w.heap.size ≠ xv.ownBlock := fun e => by have := (owns_lt HB0.oX e.symm).2; omega
  have HBW := HB0.grow hg3
  have hSl : w.heap.size < W.heap.size := by have := HBW.lt; omega
  have z3 := frozen_grown hgr hSl nT HBW.zT
  have hgB := (owns_lt hown (g := g) rfl).2
  have hl : (rcl (fun j => mc1 (n7 (en j), ev j)) j).length = j * 7 := rcl_len (fun i => by simp [mc1]) j
  have hgT : w.heap.size ≠ g := by omega
  have K3 : Kept (fun x => x = w.heap.size ∨ xv.ownBlock = some x) wa w3 := ((Kept.refl _ wa).grow hg3).grown hgr (fun k e _ => .inr e)
  have hs : g < wa.heap.size → (g = w.heap.size ∨ xv.ownBlock = some g) := fun q => hat.elim .inr (fun h => by omega)
  obtain ⟨s1, s2, s3, s4⟩ := stT HB0 HB0.oX (by decide) (by decide)
  have t0 := hgr.cell HBW.cT0 nT
  have t1 := hgr.cell HBW.cT1 nT
  have t2 := hgr.cell HBW.cT2 nT
  have far : ∀ {Wx : World} {o : Nat} {v : Value}, o ≠ 2 → Wx.cell? ⟨w.heap.size, o, .none⟩ = some v → (Wx.setCell ⟨w.heap.size, 2, .none⟩ (.slice (some ⟨g, 0, .none⟩) (j + 1) cap)).cell? ⟨w.heap.size, o, .none⟩ = some v := fun ho h => by
    rw [World.cell?_setCell_other _ _ _ _ (fun e => by (simp at e) <;> omega)]
    exact h
  have other : ∀ {e : TypeId} {s n : Nat} {v : Value} {xs : List Value}, wa.ownsRow (w.heap.size + 2) e s v n xs → e ≠ 74 → ∀ x, v.ownBlock = some x → ¬ (x = w.heap.size ∨ xv.ownBlock = some x) := fun ho he x hx q =>
    q.elim (fun e => by have := (owns_lt ho hx).2; omega) (fun e => tag_ne ho HB0.oX he x hx e)
  refine ⟨z3, hown.frozenAt, fun k hk => ?_, hgB, ?_, ?_⟩
  · have hj2 : j * 7 + k < (rcl (fun j => mc1 (n7 (en j), ev j)) j ++ zm).length := by rw [List.length_append, hl]; simp [zm]; omega
    exact ⟨_, by rw [hown.cellAt _ (by omega)]; exact List.getElem?_eq_getElem hj2⟩
  · have K := (put7_kept K3 hs (o := j * 7) (n7 (en j)) (ev j)).setCell (p := ⟨w.heap.size, 2, .none⟩) (fun _ => .inl rfl) (.slice (some ⟨g, 0, .none⟩) (j + 1) cap)
    refine HB0.stepT K s1 s2 s3 (fun o => by rw [World.frozen?_setCell, put7_frozen]; exact z3 o) (far (by decide) (put7_far hgT t0)) (far (by decide) (put7_far hgT t1)) (World.cell?_setCell_same _ _ _ (put7_far hgT t2)) s4 (K.owns HB0.oH (other HB0.oH (by decide))) (K.owns HB0.oV (other HB0.oV (by decide))) ?_
    refine owns_of (put7_own hown hl _ _) (fun x hx => ?_)
    simp [Value.ownBlock] at hx; subst hx
    exact Below.heap_setCell _ _ _ _ (Ne.symm hgT)
  · have K := put7_kept (K3.setCell (p := ⟨w.heap.size, 2, .none⟩) (fun _ => .inl rfl) (.slice (some ⟨g, 0, .none⟩) (j + 1) cap)) hs (o := j * 7) (n7 (en j)) (ev j)
    refine HB0.stepT K s1 s2 s3 (fun o => by rw [put7_frozen, World.frozen?_setCell]; exact z3 o) (put7_far hgT (far (by decide) t0)) (put7_far hgT (far (by decide) t1)) (put7_far hgT (World.cell?_setCell_same _ _ _ t2)) s4 (K.owns HB0.oH (other HB0.oH (by decide))) (K.owns HB0.oV (other HB0.oV (by decide))) ?_
    refine put7_own (owns_of hown (fun x hx => ?_)) hl _ _
    simp [Value.ownBlock] at hx; subst hx
    exact Below.heap_setCell _ _ _ _ (Ne.symm hgT)

theorem kcases (co : Bool) (fm : Int) : (decide (fm = 2) = true ∧ kn1 co fm = false) ∨ (decide (fm = 2) = false ∧ co = false ∧ kn1 co fm = true) ∨ (decide (fm = 2) = false ∧ co = true ∧ decide (fm = 1) = true ∧ kn1 co fm = true) ∨ (decide (fm = 2) = false ∧ co = true ∧ decide (fm = 1) = false ∧ kn1 co fm = false) := by
  unfold kn1
  by_cases h2 : fm = 2
  · simp [h2]
  · by_cases h1 : fm = 1 <;> cases co <;> simp [h1, h2]

set_option maxRecDepth 100000 in
set_option maxHeartbeats 100000000 in
theorem law_b (a0 a1 : Option Addr) (F E c0 c1 fb fo eb eo : Nat) (fn : Nat → Int) (co ha : Nat → Bool) (va : Nat → ByteArray) (en : Nat → Int) (ev : Nat → ByteArray) (fm : Int) (w : World) (A : ArgB w a0 a1 F E fb fo eb eo fn co ha va en ev) :
    Calls Yba.prog 4 #[.slice a0 F c0, .slice a1 E c1, .int .u8 fm] w fun e w' => e = .returned (.bool true) ∧ Grow w w' := by
  have hlen := A.len
  have HA := hide A
  clear A
  have hl : decide ((4096 : Int) < (F : Int) + (E : Int)) = false := decide_eq_false (by omega)
  obtain ⟨i70, hi70, hz70, hs70, hb70⟩ := info_parts Yba.info70
  obtain ⟨i4, hi4, hz4, hs4, hb4⟩ := info_parts Yba.info4
  obtain ⟨i9, hi9, hz9, hs9, hb9⟩ := info_parts Yba.info9
  obtain ⟨i5, hi5, hz5, hs5, hb5⟩ := info_parts Yba.info5
  obtain ⟨i74, hi74, hz74, hs74, hb74⟩ := info_parts Yba.info74
  go_enter Yba.func4, Yba.ntmps4
  go_wp2_with fail
  go_loopw [41] (fun ii wr => ∃ (k : Nat) (sv hv vv : Value) (bx : Nat → Nat), k ≤ F ∧ ii = .int .i64 k ∧ Hid (Bd w wr k k k 0 sv hv vv (.slice .none 0 0) bx fn co ha va en ev)) (fun ii _ => F - (intOf ii).toNat)
  case atStart =>
    refine ⟨0, .slice .none 0 0, .slice .none 0 0, .slice .none 0 0, fun _ => 0, Nat.zero_le _, rfl, ((Grow.refl w).alloc _).alloc _, by simp, by go_simp, by go_simp, by go_simp, by go_simp, by go_simp, fun o => by go_simp, fun o => by go_simp, World.ownsRow_nil _ _ _ _, World.ownsRow_nil _ _ _ _, World.ownsRow_nil _ _ _ _, World.ownsRow_nil _ _ _ _, fun j hj => absurd hj (Nat.not_lt_zero _)⟩
  case round =>
    obtain ⟨k, sv, hv, vv, bx, hk, rfl, HB⟩ := hrel
    by_cases hlt : k < F
    · obtain rfl := (unhide HA).h0 (by omega)
      have hkI : (k : Int) < (F : Int) := by omega
      have t0 := (unhide HB).g.cell ((unhide HA).f0 k hlt)
      have t1 := (unhide HB).g.cell ((unhide HA).f1 k hlt)
      have t2 := (unhide HB).g.cell ((unhide HA).f2 k hlt)
      have t3 := (unhide HB).g.cell ((unhide HA).f3 k hlt)
      obtain ⟨b0, b1⟩ := (unhide HA).b0 k hlt
      have h5 : fn k % 5 = n5 (fn k) := rfl
      have h5t : (fn k).tmod 5 = n5 (fn k) := Int.tmod_eq_emod_of_nonneg b0
      have h50 : 0 ≤ n5 (fn k) ∧ n5 (fn k) < 7 := by unfold n5; omega
      go_wp2_with fail
      have HL := hide (L4.new wr (fn k) (co k) (ha k) (va k))
      have HB0 := hide ((unhide HB).grow ((Grow.refl wr).alloc (.cells #[.int .u8 (fn k), .bool (co k), .bool (ha k), .string (va k)] 63)))
      have hLB : Hid (w.heap.size + 2 ≤ wr.heap.size ∧ wr.heap.size < (wr.alloc (.cells #[.int .u8 (fn k), .bool (co k), .bool (ha k), .string (va k)] 63)).heap.size ∧ (∀ g, sv.ownBlock = some g → g < wr.heap.size) ∧ (∀ g, hv.ownBlock = some g → g < wr.heap.size) ∧ (∀ g, vv.ownBlock = some g → g < wr.heap.size)) := ⟨(unhide HB).lt, by simp, fun g hg => (owns_lt (unhide HB).oS hg).1, fun g hg => (owns_lt (unhide HB).oH hg).1, fun g hg => (owns_lt (unhide HB).oV hg).1⟩
      clear t0 t1 t2 t3 HB
      generalize wr.alloc (.cells #[.int .u8 (fn k), .bool (co k), .bool (ha k), .string (va k)] 63) = wa at *
      generalize wr.heap.size = LB at *
      -- BEGIN r10
      refine wp_region_z 18 (fun w' => w'.cell? ⟨w.heap.size + 1, 0, .none⟩ = some sv ∧ w'.cell? ⟨LB, 0, .none⟩ = some (.int .u8 (fn k)) ∧ w'.cell? ⟨LB, 1, .none⟩ = some (.bool (co k))) (by kernel_rfl) (by exact ⟨(unhide HB0).cS0, (unhide HL).c0, (unhide HL).c1⟩) (fun hHeld => ?_)
      refine wpAnyZ_take 0 (v := .pointer (some ⟨w.heap.size + 1, 0, .none⟩)) rfl (by kernel_rfl) (by kernel_rfl) (by kernel_rfl) (by kernel_rfl) (fun _ _ _ h => h) (by assumption) ⟨by rfl, fun wz hz => by dsimp only at hz; go_simp⟩ ?_
      simp only [Act.put, List.setIfInBounds_toArray, List.set_cons_zero, List.set_cons_succ]
      refine wpAnyZ_take 1 (v := .pointer (some ⟨w.heap.size + 1, 0, .none⟩)) rfl (by kernel_rfl) (by kernel_rfl) (by kernel_rfl) (by kernel_rfl) (fun _ _ _ h => h) (by assumption) ⟨by rfl, fun wz hz => by dsimp only at hz; go_simp⟩ ?_
      simp only [Act.put, List.setIfInBounds_toArray, List.set_cons_zero, List.set_cons_succ]
      refine wpAnyZ_take 2 (v := .pointer (some ⟨w.heap.size + 1, 0, .none⟩)) rfl (by kernel_rfl) (by kernel_rfl) (by kernel_rfl) (by kernel_rfl) (fun _ _ _ h => h) (by assumption) ⟨by rfl, fun wz hz => by dsimp only at hz; go_simp⟩ ?_
      simp only [Act.put, List.setIfInBounds_toArray, List.set_cons_zero, List.set_cons_succ]
      refine wpAnyZ_take 3 (v := .pointer (some ⟨w.heap.size + 1, 0, .none⟩)) rfl (by kernel_rfl) (by kernel_rfl) (by kernel_rfl) (by kernel_rfl) (fun _ _ _ h => h) (by assumption) ⟨by rfl, fun wz hz => by dsimp only at hz; go_simp⟩ ?_
      simp only [Act.put, List.setIfInBounds_toArray, List.set_cons_zero, List.set_cons_succ]
      refine wpAnyZ_take 4 (v := sv) rfl (by kernel_rfl) (by kernel_rfl) (by kernel_rfl) (by kernel_rfl) (fun _ _ _ h => h) (by assumption) ⟨by rfl, fun wz hz => by dsimp only at hz; go_simp⟩ ?_
      simp only [Act.put, List.setIfInBounds_toArray, List.set_cons_zero, List.set_cons_succ]
      refine wpAnyZ_take 5 (v := .pointer (some ⟨LB, 0, .none⟩)) rfl (by kernel_rfl) (by kernel_rfl) (by kernel_rfl) (by kernel_rfl) (fun _ _ _ h => h) (by assumption) ⟨by rfl, fun wz hz => by dsimp only at hz; go_simp⟩ ?_
      simp only [Act.put, List.setIfInBounds_toArray, List.set_cons_zero, List.set_cons_succ]
      refine wpAnyZ_take 6 (v := .int .u8 (fn k)) rfl (by kernel_rfl) (by kernel_rfl) (by kernel_rfl) (by kernel_rfl) (fun _ _ _ h => h) (by assumption) ⟨by rfl, fun wz hz => by dsimp only at hz; go_simp⟩ ?_
      simp only [Act.put, List.setIfInBounds_toArray, List.set_cons_zero, List.set_cons_succ]
      refine wpAnyZ_take 7 (v := .int .u8 (n5 (fn k))) rfl (by kernel_rfl) (by kernel_rfl) (by kernel_rfl) (by kernel_rfl) (fun _ _ _ h => h) (by assumption) ⟨by rfl, fun wz hz => by dsimp only at hz; go_simp⟩ ?_
      simp only [Act.put, List.setIfInBounds_toArray, List.set_cons_zero, List.set_cons_succ]
      refine wpAnyZ_take 8 (v := .string (nm (n5 (fn k)))) rfl (by kernel_rfl) (by kernel_rfl) (by kernel_rfl) (by kernel_rfl) (fun _ _ _ h => h) (by assumption) ⟨by rfl, fun wz hz => by dsimp only at hz; go_simp; exact name_any (n5 (fn k)) h50.1 h50.2 wz⟩ ?_
      simp only [Act.put, List.setIfInBounds_toArray, List.set_cons_zero, List.set_cons_succ]
      refine wpAnyZ_take 9 (v := .pointer (some ⟨LB, 1, .none⟩)) rfl (by kernel_rfl) (by kernel_rfl) (by kernel_rfl) (by kernel_rfl) (fun _ _ _ h => h) (by assumption) ⟨by rfl, fun wz hz => by dsimp only at hz; go_simp⟩ ?_
      simp only [Act.put, List.setIfInBounds_toArray, List.set_cons_zero, List.set_cons_succ]
      refine wpAnyZ_take 10 (v := .bool (co k)) rfl (by kernel_rfl) (by kernel_rfl) (by kernel_rfl) (by kernel_rfl) (fun _ _ _ h => h) (by assumption) ⟨by rfl, fun wz hz => by dsimp only at hz; go_simp⟩ ?_
      simp only [Act.put, List.setIfInBounds_toArray, List.set_cons_zero, List.set_cons_succ]
      refine wpAnyZ_take 11 (v := .int .i64 k) rfl (by kernel_rfl) (by kernel_rfl) (by kernel_rfl) (by kernel_rfl) (fun _ _ _ h => h) (by assumption) ⟨by rfl, fun wz hz => by dsimp only at hz; go_simp⟩ ?_
      simp only [Act.put, List.setIfInBounds_toArray, List.set_cons_zero, List.set_cons_succ]
      refine wpAnyZ_one 12 rfl (by kernel_rfl) (by rfl) ?_
      intro K hK
      go_simp
      refine (writer_any k _).mono ?_
      rintro e w2 ⟨rfl, h2⟩
      dsimp only
      have hg2 : Grow wa w2 := by rw [h2]; exact ((Grow.refl wa).drew).alloc _
      have hbox : w2.heap[wa.heap.size]? = some (.cells #[.int .i64 k] 3 (0, 0)) := by rw [h2]; exact heap_alloc_new wa.drew _
      have hw2 : w2.heap.size = wa.heap.size + 1 := by rw [h2]; simp
      have HS2 : w2.cell? ⟨w.heap.size + 1, 0, .none⟩ = some sv ∧ w2.cell? ⟨LB, 0, .none⟩ = some (.int .u8 (fn k)) ∧ w2.cell? ⟨LB, 1, .none⟩ = some (.bool (co k)) := ⟨hg2.cell (unhide HB0).cS0, hg2.cell (unhide HL).c0, hg2.cell (unhide HL).c1⟩
      clear h2 hHeld
      refine hK _ _ (fun _ => HS2) ?_
      clear hK K
      try simp only [Act.put, List.setIfInBounds_toArray, List.set_cons_zero, List.set_cons_succ]
      refine wpAnyZ_take 13 (v := .agg #[.string (nm (n5 (fn k))), .bool (co k), .string ⟨#[]⟩, .nilFunc, .func (.func 15) #[] #[.pointer (some ⟨wa.heap.size, 0, .none⟩)], .nilFunc]) rfl (by kernel_rfl) (by kernel_rfl) (by kernel_rfl) (by kernel_rfl) (fun _ _ _ h => h) (by assumption) ⟨by rfl, fun wz hz => by dsimp only at hz; go_simp⟩ ?_
      simp only [Act.put, List.setIfInBounds_toArray, List.set_cons_zero, List.set_cons_succ]
      refine wpAnyZ_one 14 rfl (by kernel_rfl) (by rfl) ?_
      intro K hK
      go_simp
      have hg3 := hg2.alloc (.cells #[.string (nm (n5 (fn k))), .bool (co k), .string ⟨#[]⟩, .nilFunc, .func (.func 15) #[] #[.pointer (some ⟨wa.heap.size, 0, .none⟩)], .nilFunc] 70)
      have HS3 := And.intro (hg3.cell (unhide HB0).cS0) (And.intro (hg3.cell (unhide HL).c0) (hg3.cell (unhide HL).c1))
      clear HS2
      refine hK _ _ (fun _ => HS3) ?_
      clear hK K
      try simp only [Act.put, List.setIfInBounds_toArray, List.set_cons_zero, List.set_cons_succ]
      refine wpAnyZ_one 15 rfl (by kernel_rfl) (by rfl) ?_
      intro K hK
      refine wp_append_lies _ (.tmp 52) (.tmp 62) 59 rfl (w.heap.size + 2) 70 i70 _ 6 64 Yba.underlying59 hi70 hz70 hs70 hb70 rfl (by decide) sv k (rcl (fun i => fc1 (n5 (fn i)) (co i) (bx i)) k) (by rfl) (by exact hg3.owns (unhide HB0).oS) ⟨wa.heap.size + 1, 0, .none⟩ 1 1 (fc1 (n5 (fn k)) (co k) wa.heap.size) (by rfl) rfl (by exact fc1_news hw2 _ _ _) (by exact fc1_one _ _ _) (by decide) (by unfold maxLen; omega) (by omega) (by have h1 := (unhide HB0).lt; have h2 := hg3.size; omega) _ rfl ?_
      intro g cap w3 hown hgr hat hltg
      have nS : some (w.heap.size + 1) ≠ sv.ownBlock := fun e => by have := (owns_lt (unhide HB0).oS e.symm).2; omega
      have nL : some LB ≠ sv.ownBlock := fun e => by have := (unhide hLB).2.2.1 _ e.symm; omega
      have HS4 := And.intro (hgr.cell HS3.1 nS) (And.intro (hgr.cell HS3.2.1 nL) (hgr.cell HS3.2.2 nL))
      clear HS3
      refine hK _ _ (fun _ => HS4) ?_
      clear hK K
      try simp only [Act.put, List.setIfInBounds_toArray, List.set_cons_zero, List.set_cons_succ]
      refine wpAnyZ_one 16 rfl (by kernel_rfl) (by rfl) ?_
      intro K hK
      go_simp
      refine hK _ _ (fun _ => HS4) ?_
      clear hK K
      try simp only [Act.put, List.setIfInBounds_toArray, List.set_cons_zero, List.set_cons_succ]
      refine wpAnyZ_one 17 rfl (by kernel_rfl) (by rfl) ?_
      intro K hK
      go_simp
      refine hK _ _ (fun _ => HS4) ?_
      clear hK K
      try simp only [Act.put, List.setIfInBounds_toArray, List.set_cons_zero, List.set_cons_succ]
      obtain ⟨zS, hB1, hL1⟩ := r10_end (unhide HB0) (unhide HL) (unhide hLB).1 (unhide hLB).2.2.1 hg3 (by exact ((Grow.refl w2).alloc _).block (heap_lt hbox) ▸ hbox) (Nat.le_of_lt (unhide hLB).2.1) hgr hown
      have l0 := HS4.1
      have HB1 := hide hB1
      have HL1 := hide hL1
      clear hB1 hL1 hown hgr hat HS4 hg2 hg3 hbox
      refine wpAnyZ_last 18 rfl (by kernel_rfl) (by rfl) (by kernel_rfl) ?_
      intro K hK
      go_simp
      refine hK _ _ ?_
      clear hK K
      refine wpAnyZ_done (by kernel_rfl) ?_ _
      clear zS l0 HB0 HL
      generalize w3.setCell ⟨w.heap.size + 1, 0, .none⟩ (.slice (some ⟨g, 0, .none⟩) (k + 1) cap) = wb at *
      go_wp2_with fail
      -- END r10
      -- BEGIN r11
      refine wp_region_z 11 (fun w' => w'.cell? ⟨w.heap.size, 0, .none⟩ = some hv ∧ w'.cell? ⟨LB, 2, .none⟩ = some (.bool (ha k))) (by kernel_rfl) (by exact ⟨(unhide HB1).cT0, (unhide HL1).c2⟩) (fun hHeld => ?_)
      refine wpAnyZ_take 0 (v := .pointer (some ⟨w.heap.size, 0, .none⟩)) rfl (by kernel_rfl) (by kernel_rfl) (by kernel_rfl) (by kernel_rfl) (fun _ _ _ h => h) (by assumption) ⟨by rfl, fun wz hz => by dsimp only at hz; go_simp⟩ ?_
      simp only [Act.put, List.setIfInBounds_toArray, List.set_cons_zero, List.set_cons_succ]
      refine wpAnyZ_take 1 (v := .pointer (some ⟨w.heap.size, 0, .none⟩)) rfl (by kernel_rfl) (by kernel_rfl) (by kernel_rfl) (by kernel_rfl) (fun _ _ _ h => h) (by assumption) ⟨by rfl, fun wz hz => by dsimp only at hz; go_simp⟩ ?_
      simp only [Act.put, List.setIfInBounds_toArray, List.set_cons_zero, List.set_cons_succ]
      refine wpAnyZ_take 2 (v := .pointer (some ⟨w.heap.size, 0, .none⟩)) rfl (by kernel_rfl) (by kernel_rfl) (by kernel_rfl) (by kernel_rfl) (fun _ _ _ h => h) (by assumption) ⟨by rfl, fun wz hz => by dsimp only at hz; go_simp⟩ ?_
      simp only [Act.put, List.setIfInBounds_toArray, List.set_cons_zero, List.set_cons_succ]
      refine wpAnyZ_take 3 (v := .pointer (some ⟨w.heap.size, 0, .none⟩)) rfl (by kernel_rfl) (by kernel_rfl) (by kernel_rfl) (by kernel_rfl) (fun _ _ _ h => h) (by assumption) ⟨by rfl, fun wz hz => by dsimp only at hz; go_simp⟩ ?_
      simp only [Act.put, List.setIfInBounds_toArray, List.set_cons_zero, List.set_cons_succ]
      refine wpAnyZ_take 4 (v := hv) rfl (by kernel_rfl) (by kernel_rfl) (by kernel_rfl) (by kernel_rfl) (fun _ _ _ h => h) (by assumption) ⟨by rfl, fun wz hz => by dsimp only at hz; go_simp⟩ ?_
      simp only [Act.put, List.setIfInBounds_toArray, List.set_cons_zero, List.set_cons_succ]
      refine wpAnyZ_take 5 (v := .pointer (some ⟨LB, 2, .none⟩)) rfl (by kernel_rfl) (by kernel_rfl) (by kernel_rfl) (by kernel_rfl) (fun _ _ _ h => h) (by assumption) ⟨by rfl, fun wz hz => by dsimp only at hz; go_simp⟩ ?_
      simp only [Act.put, List.setIfInBounds_toArray, List.set_cons_zero, List.set_cons_succ]
      refine wpAnyZ_take 6 (v := .bool (ha k)) rfl (by kernel_rfl) (by kernel_rfl) (by kernel_rfl) (by kernel_rfl) (fun _ _ _ h => h) (by assumption) ⟨by rfl, fun wz hz => by dsimp only at hz; go_simp⟩ ?_
      simp only [Act.put, List.setIfInBounds_toArray, List.set_cons_zero, List.set_cons_succ]
      refine wpAnyZ_one 7 rfl (by kernel_rfl) (by rfl) ?_
      intro K hK
      go_simp
      have hg3 := (Grow.refl wb).drew.alloc (.cells #[.bool (ha k)] 4)
      have HS3 := And.intro (hg3.cell (unhide HB1).cT0) (hg3.cell (unhide HL1).c2)
      clear hHeld
      refine hK _ _ (fun _ => HS3) ?_
      clear hK K
      try simp only [Act.put, List.setIfInBounds_toArray, List.set_cons_zero, List.set_cons_succ]
      refine wpAnyZ_one 8 rfl (by kernel_rfl) (by rfl) ?_
      intro K hK
      refine wp_append_lies _ (.tmp 70) (.tmp 73) 53 rfl (w.heap.size + 2) 4 i4 _ 1 1 Yba.underlying53 hi4 hz4 hs4 hb4 rfl (by decide) hv k (rcl (fun i => [.bool (ha i)]) k) (by rfl) (by exact hg3.owns (unhide HB1).oH) ⟨wb.heap.size, 0, .none⟩ 1 1 [.bool (ha k)] (by rfl) rfl (by exact one_news rfl _ _) (by intro u hu; simp at hu; subst hu; rfl) (by decide) (by unfold maxLen; omega) (by omega) (by exact Nat.le_trans (unhide HB1).lt hg3.size) _ rfl ?_
      intro g4 cap4 w4 hown hgr hat hltg4
      have nT : some w.heap.size ≠ hv.ownBlock := fun e => by have := (owns_lt (unhide HB1).oH e.symm).2; omega
      have nL : some LB ≠ hv.ownBlock := fun e => by have := (unhide hLB).2.2.2.1 _ e.symm; omega
      have HS4 := And.intro (hgr.cell HS3.1 nT) (hgr.cell HS3.2 nL)
      clear HS3
      refine hK _ _ (fun _ => HS4) ?_
      clear hK K
      try simp only [Act.put, List.setIfInBounds_toArray, List.set_cons_zero, List.set_cons_succ]
      refine wpAnyZ_one 9 rfl (by kernel_rfl) (by rfl) ?_
      intro K hK
      go_simp
      refine hK _ _ (fun _ => HS4) ?_
      clear hK K
      try simp only [Act.put, List.setIfInBounds_toArray, List.set_cons_zero, List.set_cons_succ]
      refine wpAnyZ_one 10 rfl (by kernel_rfl) (by rfl) ?_
      intro K hK
      go_simp
      refine hK _ _ (fun _ => HS4) ?_
      clear hK K
      try simp only [Act.put, List.setIfInBounds_toArray, List.set_cons_zero, List.set_cons_succ]
      obtain ⟨zT, hB2, hL2⟩ := rH_end (unhide HB1) (unhide HL1) (unhide hLB).1 (unhide hLB).2.2.2.1 hg3 hgr hown
      have l0 := HS4.1
      have HB2 := hide hB2
      have HL2 := hide hL2
      clear hB2 hL2 hown hgr hat HS4 hg3 nT nL
      refine wpAnyZ_last 11 rfl (by kernel_rfl) (by rfl) (by kernel_rfl) ?_
      intro K hK
      go_simp
      refine hK _ _ ?_
      clear hK K
      refine wpAnyZ_done (by kernel_rfl) ?_ _
      clear zT l0 HB1 HL1
      generalize w4.setCell ⟨w.heap.size, 0, .none⟩ (.slice (some ⟨g4, 0, .none⟩) (k + 1) cap4) = wc at *
      go_wp2_with fail
      -- END r11
      -- BEGIN r12
      refine wp_region_z 11 (fun w' => w'.cell? ⟨w.heap.size, 1, .none⟩ = some vv ∧ w'.cell? ⟨LB, 3, .none⟩ = some (.string (va k))) (by kernel_rfl) (by exact ⟨(unhide HB2).cT1, (unhide HL2).c3⟩) (fun hHeld => ?_)
      refine wpAnyZ_take 0 (v := .pointer (some ⟨w.heap.size, 0, .none⟩)) rfl (by kernel_rfl) (by kernel_rfl) (by kernel_rfl) (by kernel_rfl) (fun _ _ _ h => h) (by assumption) ⟨by rfl, fun wz hz => by dsimp only at hz; go_simp⟩ ?_
      simp only [Act.put, List.setIfInBounds_toArray, List.set_cons_zero, List.set_cons_succ]
      refine wpAnyZ_take 1 (v := .pointer (some ⟨w.heap.size, 0, .none⟩)) rfl (by kernel_rfl) (by kernel_rfl) (by kernel_rfl) (by kernel_rfl) (fun _ _ _ h => h) (by assumption) ⟨by rfl, fun wz hz => by dsimp only at hz; go_simp⟩ ?_
      simp only [Act.put, List.setIfInBounds_toArray, List.set_cons_zero, List.set_cons_succ]
      refine wpAnyZ_take 2 (v := .pointer (some ⟨w.heap.size, 0, .none⟩)) rfl (by kernel_rfl) (by kernel_rfl) (by kernel_rfl) (by kernel_rfl) (fun _ _ _ h => h) (by assumption) ⟨by rfl, fun wz hz => by dsimp only at hz; go_simp⟩ ?_
      simp only [Act.put, List.setIfInBounds_toArray, List.set_cons_zero, List.set_cons_succ]
      refine wpAnyZ_take 3 (v := .pointer (some ⟨w.heap.size, 1, .none⟩)) rfl (by kernel_rfl) (by kernel_rfl) (by kernel_rfl) (by kernel_rfl) (fun _ _ _ h => h) (by assumption) ⟨by rfl, fun wz hz => by dsimp only at hz; go_simp⟩ ?_
      simp only [Act.put, List.setIfInBounds_toArray, List.set_cons_zero, List.set_cons_succ]
      refine wpAnyZ_take 4 (v := vv) rfl (by kernel_rfl) (by kernel_rfl) (by kernel_rfl) (by kernel_rfl) (fun _ _ _ h => h) (by assumption) ⟨by rfl, fun wz hz => by dsimp only at hz; go_simp⟩ ?_
      simp only [Act.put, List.setIfInBounds_toArray, List.set_cons_zero, List.set_cons_succ]
      refine wpAnyZ_take 5 (v := .pointer (some ⟨LB, 3, .none⟩)) rfl (by kernel_rfl) (by kernel_rfl) (by kernel_rfl) (by kernel_rfl) (fun _ _ _ h => h) (by assumption) ⟨by rfl, fun wz hz => by dsimp only at hz; go_simp⟩ ?_
      simp only [Act.put, List.setIfInBounds_toArray, List.set_cons_zero, List.set_cons_succ]
      refine wpAnyZ_take 6 (v := .string (va k)) rfl (by kernel_rfl) (by kernel_rfl) (by kernel_rfl) (by kernel_rfl) (fun _ _ _ h => h) (by assumption) ⟨by rfl, fun wz hz => by dsimp only at hz; go_simp⟩ ?_
      simp only [Act.put, List.setIfInBounds_toArray, List.set_cons_zero, List.set_cons_succ]
      refine wpAnyZ_one 7 rfl (by kernel_rfl) (by rfl) ?_
      intro K hK
      go_simp
      have hg3 := (Grow.refl wc).drew.alloc (.cells #[.string (va k)] 9)
      have HS3 := And.intro (hg3.cell (unhide HB2).cT1) (hg3.cell (unhide HL2).c3)
      clear hHeld
      refine hK _ _ (fun _ => HS3) ?_
      clear hK K
      try simp only [Act.put, List.setIfInBounds_toArray, List.set_cons_zero, List.set_cons_succ]
      refine wpAnyZ_one 8 rfl (by kernel_rfl) (by rfl) ?_
      intro K hK
      refine wp_append_lies _ (.tmp 81) (.tmp 84) 54 rfl (w.heap.size + 2) 9 i9 _ 1 16 Yba.underlying54 hi9 hz9 hs9 hb9 rfl (by decide) vv k (rcl (fun i => [.string (va i)]) k) (by rfl) (by exact hg3.owns (unhide HB2).oV) ⟨wc.heap.size, 0, .none⟩ 1 1 [.string (va k)] (by rfl) rfl (by exact one_news rfl _ _) (by intro u hu; simp at hu; subst hu; rfl) (by decide) (by unfold maxLen; omega) (by omega) (by exact Nat.le_trans (unhide HB2).lt hg3.size) _ rfl ?_
      intro g5 cap5 w5 hown hgr hat hltg5
      have nT : some w.heap.size ≠ vv.ownBlock := fun e => by have := (owns_lt (unhide HB2).oV e.symm).2; omega
      have nL : some LB ≠ vv.ownBlock := fun e => by have := (unhide hLB).2.2.2.2 _ e.symm; omega
      have HS4 := And.intro (hgr.cell HS3.1 nT) (hgr.cell HS3.2 nL)
      clear HS3
      refine hK _ _ (fun _ => HS4) ?_
      clear hK K
      try simp only [Act.put, List.setIfInBounds_toArray, List.set_cons_zero, List.set_cons_succ]
      refine wpAnyZ_one 9 rfl (by kernel_rfl) (by rfl) ?_
      intro K hK
      go_simp
      refine hK _ _ (fun _ => HS4) ?_
      clear hK K
      try simp only [Act.put, List.setIfInBounds_toArray, List.set_cons_zero, List.set_cons_succ]
      refine wpAnyZ_one 10 rfl (by kernel_rfl) (by rfl) ?_
      intro K hK
      go_simp
      refine hK _ _ (fun _ => HS4) ?_
      clear hK K
      try simp only [Act.put, List.setIfInBounds_toArray, List.set_cons_zero, List.set_cons_succ]
      obtain ⟨zT, hB3⟩ := rV_end (unhide HB2) hg3 hgr hown
      have l0 := HS4.1
      have HB3 := hide hB3
      clear hB3 hown hgr hat HS4 hg3 nT nL
      refine wpAnyZ_last 11 rfl (by kernel_rfl) (by rfl) (by kernel_rfl) ?_
      intro K hK
      go_simp
      refine hK _ _ ?_
      clear hK K
      refine wpAnyZ_done (by kernel_rfl) ?_ _
      clear zT l0 HB2 HL2
      generalize w5.setCell ⟨w.heap.size, 1, .none⟩ (.slice (some ⟨g5, 0, .none⟩) (k + 1) cap5) = wd at *
      go_wp2_with fail
      go_roundw
      case rel => exact ⟨k + 1, _, _, _, _, by omega, by go_num, unhide HB3⟩
      case measure => simp [intOf]; omega
      -- END r12
    · obtain rfl : k = F := by omega
      go_wp2_with fail
      go_loopw [91] (fun jj wx => ∃ (j : Nat) (xv : Value), j ≤ E ∧ jj = .int .i64 j ∧ Hid (Bd w wx k k k j sv hv vv xv bx fn co ha va en ev)) (fun jj _ => E - (intOf jj).toNat)
      case atStart => exact ⟨0, _, Nat.zero_le _, rfl, unhide HB⟩
      case round =>
        clear HB
        obtain ⟨j, xv, hj, rfl, HB⟩ := hrel
        by_cases hlt2 : j < E
        · obtain rfl := (unhide HA).ein.h (by omega)
          have hjI : (j : Int) < (E : Int) := by omega
          obtain ⟨b0, b1⟩ := (unhide HA).ein.b j hlt2
          have h7 : en j % 7 = n7 (en j) := rfl
          have h7t : (en j).tmod 7 = n7 (en j) := Int.tmod_eq_emod_of_nonneg b0
          have h70 : 0 ≤ n7 (en j) ∧ n7 (en j) < 7 := by unfold n7; omega
          -- BEGIN r17
          obtain ⟨xa, xc, rfl⟩ : ∃ xa xc, xv = .slice xa j xc := by
            rcases (unhide HB).oX.2 with ⟨q1, q2⟩ | ⟨g', c', _, q1, _⟩
            · exact ⟨.none, 0, by rw [q1, q2]⟩
            · exact ⟨_, c', q1⟩
          have e0 := (unhide HB).g.cell ((unhide HA).ein.e0 j hlt2)
          have e1 := (unhide HB).g.cell ((unhide HA).ein.e1 j hlt2)
          go_wp2_with fail
          refine wp_region_z 25 (fun w' => w'.cell? ⟨w.heap.size, 2, .none⟩ = some (.slice xa j xc) ∧ w'.cell? ⟨eb, eo + j * 2, .none⟩ = some (.int .u8 (en j)) ∧ w'.cell? ⟨eb, eo + j * 2 + 1, .none⟩ = some (.string (ev j))) (by kernel_rfl) (by exact ⟨(unhide HB).cT2, e0, e1⟩) (fun hHeld => ?_)
          refine wpAnyZ_take 0 (v := .pointer (some ⟨w.heap.size, 0, .none⟩)) rfl (by kernel_rfl) (by kernel_rfl) (by kernel_rfl) (by kernel_rfl) (fun _ _ _ h => h) (by assumption) ⟨by rfl, fun wz hz => by dsimp only at hz; go_simp⟩ ?_
          simp only [Act.put, List.setIfInBounds_toArray, List.set_cons_zero, List.set_cons_succ]
          refine wpAnyZ_take 1 (v := .pointer (some ⟨w.heap.size, 0, .none⟩)) rfl (by kernel_rfl) (by kernel_rfl) (by kernel_rfl) (by kernel_rfl) (fun _ _ _ h => h) (by assumption) ⟨by rfl, fun wz hz => by dsimp only at hz; go_simp⟩ ?_
          simp only [Act.put, List.setIfInBounds_toArray, List.set_cons_zero, List.set_cons_succ]
          refine wpAnyZ_take 2 (v := .pointer (some ⟨w.heap.size, 2, .none⟩)) rfl (by kernel_rfl) (by kernel_rfl) (by kernel_rfl) (by kernel_rfl) (fun _ _ _ h => h) (by assumption) ⟨by rfl, fun wz hz => by dsimp only at hz; go_simp⟩ ?_
          simp only [Act.put, List.setIfInBounds_toArray, List.set_cons_zero, List.set_cons_succ]
          refine wpAnyZ_take 3 (v := .slice xa j xc) rfl (by kernel_rfl) (by kernel_rfl) (by kernel_rfl) (by kernel_rfl) (fun _ _ _ h => h) (by assumption) ⟨by rfl, fun wz hz => by dsimp only at hz; go_simp⟩ ?_
          simp only [Act.put, List.setIfInBounds_toArray, List.set_cons_zero, List.set_cons_succ]
          refine wpAnyZ_take 4 (v := .slice (some ⟨eb, eo, .none⟩) E c1) rfl (by kernel_rfl) (by kernel_rfl) (by kernel_rfl) (by kernel_rfl) (fun _ _ _ h => h) (by assumption) ⟨by rfl, fun wz hz => by dsimp only at hz; go_simp⟩ ?_
          simp only [Act.put, List.setIfInBounds_toArray, List.set_cons_zero, List.set_cons_succ]
          refine wpAnyZ_take 5 (v := .int .i64 j) rfl (by kernel_rfl) (by kernel_rfl) (by kernel_rfl) (by kernel_rfl) (fun _ _ _ h => h) (by assumption) ⟨by rfl, fun wz hz => by dsimp only at hz; go_simp⟩ ?_
          simp only [Act.put, List.setIfInBounds_toArray, List.set_cons_zero, List.set_cons_succ]
          refine wpAnyZ_take 6 (v := .pointer (some ⟨eb, eo + j * 2, .none⟩)) rfl (by kernel_rfl) (by kernel_rfl) (by kernel_rfl) (by kernel_rfl) (fun _ _ _ h => h) (by assumption) ⟨by rfl, fun wz hz => by dsimp only at hz; go_simp⟩ ?_
          simp only [Act.put, List.setIfInBounds_toArray, List.set_cons_zero, List.set_cons_succ]
          refine wpAnyZ_take 7 (v := .pointer (some ⟨eb, eo + j * 2, .none⟩)) rfl (by kernel_rfl) (by kernel_rfl) (by kernel_rfl) (by kernel_rfl) (fun _ _ _ h => h) (by assumption) ⟨by rfl, fun wz hz => by dsimp only at hz; go_simp⟩ ?_
          simp only [Act.put, List.setIfInBounds_toArray, List.set_cons_zero, List.set_cons_succ]
          refine wpAnyZ_take 8 (v := .int .u8 (en j)) rfl (by kernel_rfl) (by kernel_rfl) (by kernel_rfl) (by kernel_rfl) (fun _ _ _ h => h) (by assumption) ⟨by rfl, fun wz hz => by dsimp only at hz; go_simp⟩ ?_
          simp only [Act.put, List.setIfInBounds_toArray, List.set_cons_zero, List.set_cons_succ]
          refine wpAnyZ_take 9 (v := .int .u8 (n7 (en j))) rfl (by kernel_rfl) (by kernel_rfl) (by kernel_rfl) (by kernel_rfl) (fun _ _ _ h => h) (by assumption) ⟨by rfl, fun wz hz => by dsimp only at hz; go_simp⟩ ?_
          simp only [Act.put, List.setIfInBounds_toArray, List.set_cons_zero, List.set_cons_succ]
          refine wpAnyZ_take 10 (v := .string (nm (n7 (en j)))) rfl (by kernel_rfl) (by kernel_rfl) (by kernel_rfl) (by kernel_rfl) (fun _ _ _ h => h) (by assumption) ⟨by rfl, fun wz hz => by dsimp only at hz; go_simp; exact name_any (n7 (en j)) h70.1 h70.2 wz⟩ ?_
          simp only [Act.put, List.setIfInBounds_toArray, List.set_cons_zero, List.set_cons_succ]
          refine wpAnyZ_take 11 (v := .slice (some ⟨eb, eo, .none⟩) E c1) rfl (by kernel_rfl) (by kernel_rfl) (by kernel_rfl) (by kernel_rfl) (fun _ _ _ h => h) (by assumption) ⟨by rfl, fun wz hz => by dsimp only at hz; go_simp⟩ ?_
          simp only [Act.put, List.setIfInBounds_toArray, List.set_cons_zero, List.set_cons_succ]
          refine wpAnyZ_take 12 (v := .int .i64 j) rfl (by kernel_rfl) (by kernel_rfl) (by kernel_rfl) (by kernel_rfl) (fun _ _ _ h => h) (by assumption) ⟨by rfl, fun wz hz => by dsimp only at hz; go_simp⟩ ?_
          simp only [Act.put, List.setIfInBounds_toArray, List.set_cons_zero, List.set_cons_succ]
          refine wpAnyZ_take 13 (v := .pointer (some ⟨eb, eo + j * 2, .none⟩)) rfl (by kernel_rfl) (by kernel_rfl) (by kernel_rfl) (by kernel_rfl) (fun _ _ _ h => h) (by assumption) ⟨by rfl, fun wz hz => by dsimp only at hz; go_simp⟩ ?_
          simp only [Act.put, List.setIfInBounds_toArray, List.set_cons_zero, List.set_cons_succ]
          refine wpAnyZ_take 14 (v := .pointer (some ⟨eb, eo + j * 2 + 1, .none⟩)) rfl (by kernel_rfl) (by kernel_rfl) (by kernel_rfl) (by kernel_rfl) (fun _ _ _ h => h) (by assumption) ⟨by rfl, fun wz hz => by dsimp only at hz; go_simp⟩ ?_
          simp only [Act.put, List.setIfInBounds_toArray, List.set_cons_zero, List.set_cons_succ]
          refine wpAnyZ_take 15 (v := .string (ev j)) rfl (by kernel_rfl) (by kernel_rfl) (by kernel_rfl) (by kernel_rfl) (fun _ _ _ h => h) (by assumption) ⟨by rfl, fun wz hz => by dsimp only at hz; go_simp⟩ ?_
          simp only [Act.put, List.setIfInBounds_toArray, List.set_cons_zero, List.set_cons_succ]
          refine wpAnyZ_take 16 (v := valB (ev j)) rfl (by kernel_rfl) (by kernel_rfl) (by kernel_rfl) (by kernel_rfl) (fun _ _ _ h => h) (by assumption) ⟨by rfl, fun wz hz => by dsimp only at hz; go_simp⟩ ?_
          simp only [Act.put, List.setIfInBounds_toArray, List.set_cons_zero, List.set_cons_succ]
          refine wpAnyZ_take 17 (v := .agg #[.string (nm (n7 (en j))), .int .u8 3, .bool false, .string (ev j), .slice .none 0 0, .slice .none 0 0, .slice .none 0 0]) rfl (by kernel_rfl) (by kernel_rfl) (by kernel_rfl) (by kernel_rfl) (fun _ _ _ h => h) (by assumption) ⟨by rfl, fun wz hz => by dsimp only at hz; go_simp⟩ ?_
          simp only [Act.put, List.setIfInBounds_toArray, List.set_cons_zero, List.set_cons_succ]
          refine wpAnyZ_take 18 (v := .int .i64 j) rfl (by kernel_rfl) (by kernel_rfl) (by kernel_rfl) (by kernel_rfl) (fun _ _ _ h => h) (by assumption) ⟨by rfl, fun wz hz => by dsimp only at hz; go_simp⟩ ?_
          simp only [Act.put, List.setIfInBounds_toArray, List.set_cons_zero, List.set_cons_succ]
          refine wpAnyZ_one 19 rfl (by kernel_rfl) (by rfl) ?_
          intro K hK
          go_simp
          have hg3 := (Grow.refl wr).drew.alloc (.cells #[.string ⟨#[]⟩, .int .u8 0, .bool false, .string ⟨#[]⟩, .slice .none 0 0, .slice .none 0 0, .slice .none 0 0] 74)
          have HS3 := And.intro (hg3.cell (unhide HB).cT2) (And.intro (hg3.cell e0) (hg3.cell e1))
          clear hHeld
          refine hK _ _ (fun _ => HS3) ?_
          clear hK K
          try simp only [Act.put, List.setIfInBounds_toArray, List.set_cons_zero, List.set_cons_succ]
          refine wpAnyZ_one 20 rfl (by kernel_rfl) (by rfl) ?_
          intro K hK
          refine wp_append_lies _ (.tmp 97) (.tmp 113) 33 rfl (w.heap.size + 2) 74 i74 _ 7 112 Yba.underlying33 hi74 hz74 hs74 hb74 rfl (by decide) (.slice xa j xc) j (rcl (fun j => mc1 (n7 (en j), ev j)) j) (by rfl) (by exact hg3.owns (unhide HB).oX) ⟨wr.heap.size, 0, .none⟩ 1 1 zm (by rfl) rfl (by exact zm_news rfl) (by exact zm_one) (by decide) (by unfold maxLen; omega) (by omega) (by exact Nat.le_trans (unhide HB).lt hg3.size) _ rfl ?_
          intro g cap w3 hown hgr hat hltg
          have nT : some w.heap.size ≠ (Value.slice xa j xc).ownBlock := fun e => by have := (owns_lt (unhide HB).oX e.symm).2; omega
          have hebl : eb < w.heap.size := World.block_lt_of_cell? w ⟨eb, eo + j * 2, .none⟩ ((unhide HA).ein.e0 j hlt2)
          have nE : some eb ≠ (Value.slice xa j xc).ownBlock := fun e => by have := (owns_lt (unhide HB).oX e.symm).2; omega
          have HS4 := And.intro (hgr.cell HS3.1 nT) (And.intro (hgr.cell HS3.2.1 nE) (hgr.cell HS3.2.2 nE))
          clear HS3
          refine hK _ _ (fun _ => HS4) ?_
          clear hK K
          try simp only [Act.put, List.setIfInBounds_toArray, List.set_cons_zero, List.set_cons_succ]
          obtain ⟨zT, zg, cg, hgB, hBa, hBb⟩ := rX_end (unhide HB) hg3 hgr (hat.imp id (fun h => by rw [h]; exact hg3.size)) hown
          have HBa := hide hBa
          have HBb := hide hBb
          clear hBa hBb hown hgr hat hg3 HB
          have hjI1 : (j : Int) < (j : Int) + 1 := by omega
          refine wpAnyZ_takeW 21 (v := .pointer (some ⟨g, j * 7, .none⟩)) rfl (by kernel_rfl) (by kernel_rfl) (by kernel_rfl) (by kernel_rfl) (fun _ _ _ h => h) (by assumption) ⟨by rfl, fun wz hz => by clear hz; go_simp⟩ ?_
          simp only [Act.put, List.setIfInBounds_toArray, List.set_cons_zero, List.set_cons_succ]
          refine wpAnyZ_takeW 23 (v := .pointer (some ⟨w.heap.size, 0, .none⟩)) rfl (by kernel_rfl) (by kernel_rfl) (by kernel_rfl) (by kernel_rfl) (fun _ _ _ h => h) (by assumption) ⟨by rfl, fun wz hz => by clear hz; go_simp⟩ ?_
          simp only [Act.put, List.setIfInBounds_toArray, List.set_cons_zero, List.set_cons_succ]
          refine wpAnyZ_takeW 24 (v := .pointer (some ⟨w.heap.size, 2, .none⟩)) rfl (by kernel_rfl) (by kernel_rfl) (by kernel_rfl) (by kernel_rfl) (fun _ _ _ h => h) (by assumption) ⟨by rfl, fun wz hz => by clear hz; go_simp⟩ ?_
          simp only [Act.put, List.setIfInBounds_toArray, List.set_cons_zero, List.set_cons_succ]
          obtain ⟨y0, hy0⟩ := cg 0 (by decide)
          obtain ⟨y1, hy1⟩ := cg 1 (by decide)
          obtain ⟨y2, hy2⟩ := cg 2 (by decide)
          obtain ⟨y3, hy3⟩ := cg 3 (by decide)
          obtain ⟨y4, hy4⟩ := cg 4 (by decide)
          obtain ⟨y5, hy5⟩ := cg 5 (by decide)
          obtain ⟨y6, hy6⟩ := cg 6 (by decide)
          simp only [Nat.add_zero] at hy0
          clear cg
          have heg : eb ≠ g := by omega
          have hgT : w.heap.size ≠ g := by omega
          refine wpAnyZ_fork 22 25 rfl rfl (by kernel_rfl) (by rfl) (by rfl) (by kernel_rfl) ?_ ?_
          · intro K hK
            have l0 := HS4.1
            go_simp
            refine hK _ _ ⟨put7_far hgT HS4.1, put7_far heg HS4.2.1, put7_far heg HS4.2.2⟩ ?_
            clear hK K
            refine wpAnyZ_last 25 rfl (by kernel_rfl) (by rfl) (by kernel_rfl) ?_
            intro K hK
            go_simp
            refine hK _ _ ?_
            clear hK K
            refine wpAnyZ_done (by kernel_rfl) ?_ _
            go_wp2_with fail
            go_roundw
            case rel => exact ⟨j + 1, _, by omega, by go_num, unhide HBa⟩
            case measure => simp [intOf]; omega
          · intro K hK
            have l0 := HS4.1
            go_simp
            refine hK _ _ ?_
            clear hK K
            refine wpAnyZ_last 22 rfl (by kernel_rfl) (by rfl) (by kernel_rfl) ?_
            intro K hK
            go_simp
            refine hK _ _ ?_
            clear hK K
            refine wpAnyZ_done (by kernel_rfl) ?_ _
            go_wp2_with fail
            go_roundw
            case rel => exact ⟨j + 1, _, by omega, by go_num, unhide HBb⟩
            case measure => simp [intOf]; omega
          -- END r17
        · obtain rfl : j = E := by omega
          obtain ⟨FB, HB', VB, XB, sc, hc, vc, xc, sa, aa, ab, xa, hM⟩ := (unhide HB).mem fm
          have hBd := (unhide HA).bnd fm
          have HG := hide (unhide HB).g
          have HM := hide hM
          have hwl := (unhide HB).lt
          have HBn := hide hBd
          clear hM hBd HB hlt hlt2 hl hj
          generalize hdd : datB k j fn co ha va en ev fm = d at HM HBn
          have HD := hide hdd
          clear hdd
          obtain ⟨wb, hwb⟩ : ∃ x, x = wr := ⟨_, rfl⟩
          subst hwb
          go_wp2_with fail
          go_loopw [15, 16, 121] (fun nv vv ii wx => ∃ i : Nat, i ≤ k ∧ ii = .int .i64 i ∧ Hid (Wn wb wx ((o1 d i).map (·.1)) ((o1 d i).map (·.2)) nv vv (fun n => Ks d.nf (kn d) n i) (fun n => decide ((n : Int) ∈ uw d i)))) (fun _ _ ii _ => k - (intOf ii).toNat)
          case atStart => exact ⟨0, Nat.zero_le _, rfl, Wn.start wb _ _ (fun _ => rfl) (fun _ => by simp [uw])⟩
          case round =>
            obtain ⟨i, hik, rfl, HW⟩ := hrel
            obtain ⟨nv, hnv⟩ : ∃ x, x = u15 := ⟨_, rfl⟩
            subst hnv
            obtain ⟨vv, hvv⟩ : ∃ x, x = u16 := ⟨_, rfl⟩
            subst hvv
            by_cases hlt : i < k
            · -- BEGIN l3
              obtain rfl := (unhide HA).h0 (by omega)
              have hiI : (i : Int) < (k : Int) := by omega
              have hG1 := (unhide HG).trans (unhide HW).g
              have t0 := hG1.cell ((unhide HA).f0 i hlt)
              have t1 := hG1.cell ((unhide HA).f1 i hlt)
              have t2 := hG1.cell ((unhide HA).f2 i hlt)
              have t3 := hG1.cell ((unhide HA).f3 i hlt)
              obtain ⟨b0, b1⟩ := (unhide HA).b0 i hlt
              have h5 : fn i % 5 = n5 (fn i) := rfl
              have h5t : (fn i).tmod 5 = n5 (fn i) := Int.tmod_eq_emod_of_nonneg b0
              have h50 : 0 ≤ n5 (fn i) ∧ n5 (fn i) < 7 := by unfold n5; omega
              clear hG1
              have hlt5 := (unhide HW).lt
              have hneK : wb.heap.size ≠ wr.heap.size := by omega
              have hneU : wb.heap.size + 1 ≠ wr.heap.size := by omega
              have kK : ∀ o, (wr.alloc o).cell? ⟨wb.heap.size, (n5 (fn i)).toNat, .none⟩ = _ := fun o => ((Grow.refl wr).alloc o).cell ((unhide HW).cK (n5 (fn i)).toNat (by omega))
              have kU : ∀ o, (wr.alloc o).cell? ⟨wb.heap.size + 1, (n5 (fn i)).toNat, .none⟩ = _ := fun o => ((Grow.refl wr).alloc o).cell ((unhide HW).cU (n5 (fn i)).toNat (by omega))
              have zK : ∀ o p, (wr.alloc o).frozen? ⟨wb.heap.size, p, .none⟩ = false := fun o p => ((unhide HW).grow ((Grow.refl wr).alloc o)).zK p
              have zU : ∀ o p, (wr.alloc o).frozen? ⟨wb.heap.size + 1, p, .none⟩ = false := fun o p => ((unhide HW).grow ((Grow.refl wr).alloc o)).zU p
              have hha : ha i = true ∨ ha i = false := by cases ha i <;> simp
              have hol := o1_len d i
              have hml1 : ((o1 d i).map (·.1)).length ≤ 4096 := by rw [List.length_map]; omega
              have hml2 : ((o1 d i).map (·.2)).length ≤ 4096 := by rw [List.length_map]; omega
              have nL : some wr.heap.size ≠ nv.ownBlock := fun e => by have := (owns_lt (unhide HW).oN e.symm).1; omega
              have HW0 : Hid (∀ o, W3 wb (wr.alloc o) d i nv vv) := fun o => (unhide HW).grow ((Grow.refl wr).alloc o)
              have HWk : Hid (∀ o, Wn wb ((wr.alloc o).setCell ⟨wb.heap.size, (n5 (fn i)).toNat, .none⟩ (.bool true)) ((o1 d i).map (·.1)) ((o1 d i).map (·.2)) nv vv (fun n => Ks d.nf (kn d) n i || decide (n = (n5 (fn i)).toNat)) (fun n => decide ((n : Int) ∈ uw d i))) := fun o => (unhide HW0 o).know (by omega)
              clear hol
              rcases kcases (co i) fm with ⟨q1, q0⟩ | ⟨q1, q2, q0⟩ | ⟨q1, q2, q3, q0⟩ | ⟨q1, q2, q3, q0⟩
              · have q4 : (fm != 2) = false := by simp at q1; simp [q1]
                rcases hha with p | p
                · -- BEGIN c1t
                  go_wp2_with (first | (at_builtin; refine wpList_append_lies _ rfl _ _ 34 rfl (wb.heap.size + 2) 5 i5 _ 1 1 Yba.underlying34 hi5 hz5 hs5 hb5 rfl (by decide) nv ((o1 d i).map (·.1)).length (((o1 d i).map (·.1)).map fun n => .int .u8 n) rfl (by exact ((unhide HW0 _).grow ((Grow.refl _).alloc _)).oN) ⟨wr.heap.size + 1, 0, .none⟩ 1 1 [.int .u8 (n5 (fn i))] rfl rfl (by exact one_news (by simp) _ _) (by intro u hu; simp at hu; subst hu; rfl) (by decide) (by unfold maxLen; omega) (by omega) (by exact ((unhide HW0 _).grow ((Grow.refl _).alloc _)).lt) _ rfl ?_; intro g3 cap3 w3 hown hgr hat hlt3; have HW3 := hide ((unhide HW0 _).appN ((Grow.refl _).alloc _) hgr hown); have c3 := hgr.cell (a := ⟨wr.heap.size, 3, .none⟩) (v := .string (va i)) (by go_simp) nL; clear hown hgr hat hlt3) | (at_builtin; refine wpList_append_lies _ rfl _ _ 54 rfl (wb.heap.size + 2) 9 i9 _ 1 16 Yba.underlying54 hi9 hz9 hs9 hb9 rfl (by decide) vv ((o1 d i).map (·.2)).length (((o1 d i).map (·.2)).map .string) rfl (by exact ((unhide HW3).grow ((Grow.refl _).alloc _)).oV) ⟨w3.heap.size, 0, .none⟩ 1 1 [.string (va i)] rfl rfl (by exact one_news rfl _ _) (by intro u hu; simp at hu; subst hu; rfl) (by decide) (by unfold maxLen; omega) (by omega) (by exact ((unhide HW3).grow ((Grow.refl _).alloc _)).lt) _ rfl ?_; intro g4 cap4 w4 hown hgr hat hlt4; have HW4 := hide ((unhide HW3).appV ((Grow.refl _).alloc _) hgr hown); have kU4 := (unhide HW4).cU (n5 (fn i)).toNat (by omega); have zU4 := (unhide HW4).zU; clear hown hgr hat hlt4))
                  simp only [List.length_map] at HW4
                  exact ⟨⟨i + 1, by omega, by go_num, fin2 (unhide HD) p q0 ((unhide HW4).unkn (by omega))⟩, by simp [intOf]; omega⟩
                  -- END c1t
                · -- BEGIN c1f
                  go_wp2_with fail
                  exact ⟨⟨i + 1, by omega, by go_num, fin3 (unhide HD) p q0 (unhide HW0 _)⟩, by simp [intOf]; omega⟩
                  -- END c1f
              · have q4 : (fm != 2) = true := by simp at q1; simp [q1]
                rcases hha with p | p
                · -- BEGIN c2t
                  go_wp2_with (first | (at_builtin; refine wpList_append_lies _ rfl _ _ 34 rfl (wb.heap.size + 2) 5 i5 _ 1 1 Yba.underlying34 hi5 hz5 hs5 hb5 rfl (by decide) nv ((o1 d i).map (·.1)).length (((o1 d i).map (·.1)).map fun n => .int .u8 n) rfl (by exact ((unhide HWk _).grow ((Grow.refl _).alloc _)).oN) ⟨wr.heap.size + 1, 0, .none⟩ 1 1 [.int .u8 (n5 (fn i))] rfl rfl (by exact one_news (by simp) _ _) (by intro u hu; simp at hu; subst hu; rfl) (by decide) (by unfold maxLen; omega) (by omega) (by exact ((unhide HWk _).grow ((Grow.refl _).alloc _)).lt) _ rfl ?_; intro g3 cap3 w3 hown hgr hat hlt3; have HW3 := hide ((unhide HWk _).appN ((Grow.refl _).alloc _) hgr hown); have c3 := hgr.cell (a := ⟨wr.heap.size, 3, .none⟩) (v := .string (va i)) (by go_simp) nL; clear hown hgr hat hlt3) | (at_builtin; refine wpList_append_lies _ rfl _ _ 54 rfl (wb.heap.size + 2) 9 i9 _ 1 16 Yba.underlying54 hi9 hz9 hs9 hb9 rfl (by decide) vv ((o1 d i).map (·.2)).length (((o1 d i).map (·.2)).map .string) rfl (by exact ((unhide HW3).grow ((Grow.refl _).alloc _)).oV) ⟨w3.heap.size, 0, .none⟩ 1 1 [.string (va i)] rfl rfl (by exact one_news rfl _ _) (by intro u hu; simp at hu; subst hu; rfl) (by decide) (by unfold maxLen; omega) (by omega) (by exact ((unhide HW3).grow ((Grow.refl _).alloc _)).lt) _ rfl ?_; intro g4 cap4 w4 hown hgr hat hlt4; have HW4 := hide ((unhide HW3).appV ((Grow.refl _).alloc _) hgr hown); clear hown hgr hat hlt4))
                  simp only [List.length_map] at HW4
                  exact ⟨⟨i + 1, by omega, by go_num, fin1 (unhide HD) p q0 (unhide HW4)⟩, by simp [intOf]; omega⟩
                  -- END c2t
                · -- BEGIN c2f
                  go_wp2_with fail
                  have HWj := hide (unhide HWk (.cells #[.int .u8 (fn i), .bool false, .bool false, .string (va i)] 63))
                  clear kK kU zK zU HW0 HWk t0 t1 t2 t3 nL
                  generalize (wr.alloc (.cells #[.int .u8 (fn i), .bool false, .bool false, .string (va i)] 63)).setCell ⟨wb.heap.size, (n5 (fn i)).toNat, .none⟩ (.bool true) = wk at *
                  generalize wr.heap.size = LB at *
                  go_loopw [15, 16, 163] (fun nv' vv' jj wz => ∃ m : Nat, m ≤ j ∧ jj = .int .i64 m ∧ Hid (∀ x, x < m → n7 (en x) ≠ n5 (fn i)) ∧ nv' = nv ∧ vv' = vv ∧ wz = wk) (fun _ _ jj _ => j - (intOf jj).toNat)
                  case atStart => exact ⟨0, Nat.zero_le _, rfl, fun x hx => absurd hx (Nat.not_lt_zero _), rfl, rfl, rfl⟩
                  case round =>
                    obtain ⟨m, hmj, rfl, HF, rfl, rfl, rfl⟩ := hrel
                    by_cases hlt2 : m < j
                    · obtain rfl := (unhide HA).ein.h (by omega)
                      have hmI : (m : Int) < (j : Int) := by omega
                      obtain ⟨b2, b3⟩ := (unhide HA).ein.b m hlt2
                      have h7 : en m % 7 = n7 (en m) := rfl
                      have h7t : (en m).tmod 7 = n7 (en m) := Int.tmod_eq_emod_of_nonneg b2
                      have hG1 := (unhide HG).trans (unhide HWj).g
                      have e0 := hG1.cell ((unhide HA).ein.e0 m hlt2)
                      have e1 := hG1.cell ((unhide HA).ein.e1 m hlt2)
                      clear hG1
                      by_cases hq : n7 (en m) = n5 (fn i)
                      · have hq1 : (n7 (en m) == n5 (fn i)) = true := by simp [hq]
                        have HQ := hide hq
                        clear hq
                        have hebl : eb < w.heap.size := World.block_lt_of_cell? w ⟨eb, eo + m * 2, .none⟩ ((unhide HA).ein.e0 m hlt2)
                        have nE : some eb ≠ u15.ownBlock := fun e => by
                          have h1 := (owns_lt (unhide HWj).oN e.symm).2
                          have h2 := (unhide HG).size
                          omega
                        go_wp2_with (first | (at_builtin; refine wpList_append_lies _ rfl _ _ 34 rfl (wb.heap.size + 2) 5 i5 _ 1 1 Yba.underlying34 hi5 hz5 hs5 hb5 rfl (by decide) u15 ((o1 d i).map (·.1)).length (((o1 d i).map (·.1)).map fun n => .int .u8 n) rfl (by exact ((unhide HWj).grow ((Grow.refl _).alloc _)).oN) ⟨wr.heap.size, 0, .none⟩ 1 1 [.int .u8 (n5 (fn i))] rfl rfl (by exact one_news (by simp) _ _) (by intro u hu; simp at hu; subst hu; rfl) (by decide) (by unfold maxLen; omega) (by omega) (by exact ((unhide HWj).grow ((Grow.refl _).alloc _)).lt) _ rfl ?_; intro g3 cap3 w3 hown hgr hat hlt3; have HW3 := hide ((unhide HWj).appN ((Grow.refl _).alloc _) hgr hown); have c3 := hgr.cell (((Grow.refl _).alloc _).cell e1) nE; clear hown hgr hat hlt3) | (at_builtin; refine wpList_append_lies _ rfl _ _ 54 rfl (wb.heap.size + 2) 9 i9 _ 1 16 Yba.underlying54 hi9 hz9 hs9 hb9 rfl (by decide) u16 ((o1 d i).map (·.2)).length (((o1 d i).map (·.2)).map .string) rfl (by exact ((unhide HW3).grow ((Grow.refl _).alloc _)).oV) ⟨w3.heap.size, 0, .none⟩ 1 1 [.string (ev m)] rfl rfl (by exact one_news rfl _ _) (by intro u hu; simp at hu; subst hu; rfl) (by decide) (by unfold maxLen; omega) (by omega) (by exact ((unhide HW3).grow ((Grow.refl _).alloc _)).lt) _ rfl ?_; intro g4 cap4 w4 hown hgr hat hlt4; have HW4 := hide ((unhide HW3).appV ((Grow.refl _).alloc _) hgr hown); clear hown hgr hat hlt4))
                        simp only [List.length_map] at HW4
                        exact ⟨⟨i + 1, by omega, by go_num, fin4 (unhide HD) p q0 hlt2 (unhide HF) (unhide HQ) (unhide HW4)⟩, by simp [intOf]; omega⟩
                      · have hq1 : (n7 (en m) == n5 (fn i)) = false := by simp [hq]
                        have HQ := hide hq
                        clear hq
                        go_wp2_with fail
                        refine ⟨⟨m + 1, by omega, by go_num, fun x hx => ?_, rfl, rfl, trivial⟩, by simp [intOf]; omega⟩
                        by_cases e : x = m
                        · subst e; exact unhide HQ
                        · exact unhide HF x (by omega)
                    · obtain rfl : m = j := by omega
                      go_wp2_with fail
                      exact ⟨⟨i + 1, by omega, by go_num, fin5 (unhide HD) p q0 (unhide HF) (unhide HWj)⟩, by simp [intOf]; omega⟩
                  -- END c2f
              · have q4 : (fm != 2) = true := by simp at q1; simp [q1]
                have q5 : (fm == 1) = true := by simp at q3; simp [q3]
                rcases hha with p | p
                · -- BEGIN c3t
                  go_wp2_with (first | (at_builtin; refine wpList_append_lies _ rfl _ _ 34 rfl (wb.heap.size + 2) 5 i5 _ 1 1 Yba.underlying34 hi5 hz5 hs5 hb5 rfl (by decide) nv ((o1 d i).map (·.1)).length (((o1 d i).map (·.1)).map fun n => .int .u8 n) rfl (by exact ((unhide HWk _).grow ((Grow.refl _).alloc _)).oN) ⟨wr.heap.size + 1, 0, .none⟩ 1 1 [.int .u8 (n5 (fn i))] rfl rfl (by exact one_news (by simp) _ _) (by intro u hu; simp at hu; subst hu; rfl) (by decide) (by unfold maxLen; omega) (by omega) (by exact ((unhide HWk _).grow ((Grow.refl _).alloc _)).lt) _ rfl ?_; intro g3 cap3 w3 hown hgr hat hlt3; have HW3 := hide ((unhide HWk _).appN ((Grow.refl _).alloc _) hgr hown); have c3 := hgr.cell (a := ⟨wr.heap.size, 3, .none⟩) (v := .string (va i)) (by go_simp) nL; clear hown hgr hat hlt3) | (at_builtin; refine wpList_append_lies _ rfl _ _ 54 rfl (wb.heap.size + 2) 9 i9 _ 1 16 Yba.underlying54 hi9 hz9 hs9 hb9 rfl (by decide) vv ((o1 d i).map (·.2)).length (((o1 d i).map (·.2)).map .string) rfl (by exact ((unhide HW3).grow ((Grow.refl _).alloc _)).oV) ⟨w3.heap.size, 0, .none⟩ 1 1 [.string (va i)] rfl rfl (by exact one_news rfl _ _) (by intro u hu; simp at hu; subst hu; rfl) (by decide) (by unfold maxLen; omega) (by omega) (by exact ((unhide HW3).grow ((Grow.refl _).alloc _)).lt) _ rfl ?_; intro g4 cap4 w4 hown hgr hat hlt4; have HW4 := hide ((unhide HW3).appV ((Grow.refl _).alloc _) hgr hown); clear hown hgr hat hlt4))
                  simp only [List.length_map] at HW4
                  exact ⟨⟨i + 1, by omega, by go_num, fin1 (unhide HD) p q0 (unhide HW4)⟩, by simp [intOf]; omega⟩
                  -- END c3t
                · -- BEGIN c3f
                  go_wp2_with fail
                  have HWj := hide (unhide HWk (.cells #[.int .u8 (fn i), .bool true, .bool false, .string (va i)] 63))
                  clear kK kU zK zU HW0 HWk t0 t1 t2 t3 nL
                  generalize (wr.alloc (.cells #[.int .u8 (fn i), .bool true, .bool false, .string (va i)] 63)).setCell ⟨wb.heap.size, (n5 (fn i)).toNat, .none⟩ (.bool true) = wk at *
                  generalize wr.heap.size = LB at *
                  go_loopw [15, 16, 163] (fun nv' vv' jj wz => ∃ m : Nat, m ≤ j ∧ jj = .int .i64 m ∧ Hid (∀ x, x < m → n7 (en x) ≠ n5 (fn i)) ∧ nv' = nv ∧ vv' = vv ∧ wz = wk) (fun _ _ jj _ => j - (intOf jj).toNat)
                  case atStart => exact ⟨0, Nat.zero_le _, rfl, fun x hx => absurd hx (Nat.not_lt_zero _), rfl, rfl, rfl⟩
                  case round =>
                    obtain ⟨m, hmj, rfl, HF, rfl, rfl, rfl⟩ := hrel
                    by_cases hlt2 : m < j
                    · obtain rfl := (unhide HA).ein.h (by omega)
                      have hmI : (m : Int) < (j : Int) := by omega
                      obtain ⟨b2, b3⟩ := (unhide HA).ein.b m hlt2
                      have h7 : en m % 7 = n7 (en m) := rfl
                      have h7t : (en m).tmod 7 = n7 (en m) := Int.tmod_eq_emod_of_nonneg b2
                      have hG1 := (unhide HG).trans (unhide HWj).g
                      have e0 := hG1.cell ((unhide HA).ein.e0 m hlt2)
                      have e1 := hG1.cell ((unhide HA).ein.e1 m hlt2)
                      clear hG1
                      by_cases hq : n7 (en m) = n5 (fn i)
                      · have hq1 : (n7 (en m) == n5 (fn i)) = true := by simp [hq]
                        have HQ := hide hq
                        clear hq
                        have hebl : eb < w.heap.size := World.block_lt_of_cell? w ⟨eb, eo + m * 2, .none⟩ ((unhide HA).ein.e0 m hlt2)
                        have nE : some eb ≠ u15.ownBlock := fun e => by
                          have h1 := (owns_lt (unhide HWj).oN e.symm).2
                          have h2 := (unhide HG).size
                          omega
                        go_wp2_with (first | (at_builtin; refine wpList_append_lies _ rfl _ _ 34 rfl (wb.heap.size + 2) 5 i5 _ 1 1 Yba.underlying34 hi5 hz5 hs5 hb5 rfl (by decide) u15 ((o1 d i).map (·.1)).length (((o1 d i).map (·.1)).map fun n => .int .u8 n) rfl (by exact ((unhide HWj).grow ((Grow.refl _).alloc _)).oN) ⟨wr.heap.size, 0, .none⟩ 1 1 [.int .u8 (n5 (fn i))] rfl rfl (by exact one_news (by simp) _ _) (by intro u hu; simp at hu; subst hu; rfl) (by decide) (by unfold maxLen; omega) (by omega) (by exact ((unhide HWj).grow ((Grow.refl _).alloc _)).lt) _ rfl ?_; intro g3 cap3 w3 hown hgr hat hlt3; have HW3 := hide ((unhide HWj).appN ((Grow.refl _).alloc _) hgr hown); have c3 := hgr.cell (((Grow.refl _).alloc _).cell e1) nE; clear hown hgr hat hlt3) | (at_builtin; refine wpList_append_lies _ rfl _ _ 54 rfl (wb.heap.size + 2) 9 i9 _ 1 16 Yba.underlying54 hi9 hz9 hs9 hb9 rfl (by decide) u16 ((o1 d i).map (·.2)).length (((o1 d i).map (·.2)).map .string) rfl (by exact ((unhide HW3).grow ((Grow.refl _).alloc _)).oV) ⟨w3.heap.size, 0, .none⟩ 1 1 [.string (ev m)] rfl rfl (by exact one_news rfl _ _) (by intro u hu; simp at hu; subst hu; rfl) (by decide) (by unfold maxLen; omega) (by omega) (by exact ((unhide HW3).grow ((Grow.refl _).alloc _)).lt) _ rfl ?_; intro g4 cap4 w4 hown hgr hat hlt4; have HW4 := hide ((unhide HW3).appV ((Grow.refl _).alloc _) hgr hown); clear hown hgr hat hlt4))
                        simp only [List.length_map] at HW4
                        exact ⟨⟨i + 1, by omega, by go_num, fin4 (unhide HD) p q0 hlt2 (unhide HF) (unhide HQ) (unhide HW4)⟩, by simp [intOf]; omega⟩
                      · have hq1 : (n7 (en m) == n5 (fn i)) = false := by simp [hq]
                        have HQ := hide hq
                        clear hq
                        go_wp2_with fail
                        refine ⟨⟨m + 1, by omega, by go_num, fun x hx => ?_, rfl, rfl, trivial⟩, by simp [intOf]; omega⟩
                        by_cases e : x = m
                        · subst e; exact unhide HQ
                        · exact unhide HF x (by omega)
                    · obtain rfl : m = j := by omega
                      go_wp2_with fail
                      exact ⟨⟨i + 1, by omega, by go_num, fin5 (unhide HD) p q0 (unhide HF) (unhide HWj)⟩, by simp [intOf]; omega⟩
                  -- END c3f
              · have q4 : (fm != 2) = true := by simp at q1; simp [q1]
                have q5 : (fm == 1) = false := by simp at q3; simp [q3]
                rcases hha with p | p
                · -- BEGIN c4t
                  go_wp2_with (first | (at_builtin; refine wpList_append_lies _ rfl _ _ 34 rfl (wb.heap.size + 2) 5 i5 _ 1 1 Yba.underlying34 hi5 hz5 hs5 hb5 rfl (by decide) nv ((o1 d i).map (·.1)).length (((o1 d i).map (·.1)).map fun n => .int .u8 n) rfl (by exact ((unhide HW0 _).grow ((Grow.refl _).alloc _)).oN) ⟨wr.heap.size + 1, 0, .none⟩ 1 1 [.int .u8 (n5 (fn i))] rfl rfl (by exact one_news (by simp) _ _) (by intro u hu; simp at hu; subst hu; rfl) (by decide) (by unfold maxLen; omega) (by omega) (by exact ((unhide HW0 _).grow ((Grow.refl _).alloc _)).lt) _ rfl ?_; intro g3 cap3 w3 hown hgr hat hlt3; have HW3 := hide ((unhide HW0 _).appN ((Grow.refl _).alloc _) hgr hown); have c3 := hgr.cell (a := ⟨wr.heap.size, 3, .none⟩) (v := .string (va i)) (by go_simp) nL; clear hown hgr hat hlt3) | (at_builtin; refine wpList_append_lies _ rfl _ _ 54 rfl (wb.heap.size + 2) 9 i9 _ 1 16 Yba.underlying54 hi9 hz9 hs9 hb9 rfl (by decide) vv ((o1 d i).map (·.2)).length (((o1 d i).map (·.2)).map .string) rfl (by exact ((unhide HW3).grow ((Grow.refl _).alloc _)).oV) ⟨w3.heap.size, 0, .none⟩ 1 1 [.string (va i)] rfl rfl (by exact one_news rfl _ _) (by intro u hu; simp at hu; subst hu; rfl) (by decide) (by unfold maxLen; omega) (by omega) (by exact ((unhide HW3).grow ((Grow.refl _).alloc _)).lt) _ rfl ?_; intro g4 cap4 w4 hown hgr hat hlt4; have HW4 := hide ((unhide HW3).appV ((Grow.refl _).alloc _) hgr hown); have kU4 := (unhide HW4).cU (n5 (fn i)).toNat (by omega); have zU4 := (unhide HW4).zU; clear hown hgr hat hlt4))
                  simp only [List.length_map] at HW4
                  exact ⟨⟨i + 1, by omega, by go_num, fin2 (unhide HD) p q0 ((unhide HW4).unkn (by omega))⟩, by simp [intOf]; omega⟩
                  -- END c4t
                · -- BEGIN c4f
                  go_wp2_with fail
                  exact ⟨⟨i + 1, by omega, by go_num, fin3 (unhide HD) p q0 (unhide HW0 _)⟩, by simp [intOf]; omega⟩
                  -- END c4f
              -- END l3
            · obtain rfl : i = k := by omega
              have HW5 := hide (W5.start (unhide HD) (unhide HW))
              clear HW
              go_wp2_with fail
              go_loopw [15, 16, 190] (fun nv' vv' jj wz => ∃ m : Nat, m ≤ j ∧ jj = .int .i64 m ∧ Hid (W5 wb wz d m nv' vv')) (fun _ _ jj _ => j - (intOf jj).toNat)
              case atStart => exact ⟨0, Nat.zero_le _, rfl, unhide HW5⟩
              case round =>
                clear HW5
                obtain ⟨m, hmj, rfl, HW⟩ := hrel
                obtain ⟨nv, hnv⟩ : ∃ x, x = u15 := ⟨_, rfl⟩
                subst hnv
                obtain ⟨vv, hvv⟩ : ∃ x, x = u16 := ⟨_, rfl⟩
                subst hvv
                by_cases hlt2 : m < j
                · -- BEGIN l5
                  obtain rfl := (unhide HA).ein.h (by omega)
                  have hmI : (m : Int) < (j : Int) := by omega
                  obtain ⟨b2, b3⟩ := (unhide HA).ein.b m hlt2
                  have h7 : en m % 7 = n7 (en m) := rfl
                  have h7t : (en m).tmod 7 = n7 (en m) := Int.tmod_eq_emod_of_nonneg b2
                  have h70 : 0 ≤ n7 (en m) ∧ n7 (en m) < 7 := by unfold n7; omega
                  have hG1 := (unhide HG).trans (unhide HW).g
                  have e0 := hG1.cell ((unhide HA).ein.e0 m hlt2)
                  have e1 := hG1.cell ((unhide HA).ein.e1 m hlt2)
                  clear hG1
                  obtain ⟨x, y, kx, ky, hr⟩ := W5.cells (unhide HD) (unhide HW)
                  have HR := hide hr
                  clear hr
                  cases x
                  · cases y
                    · have hol := o1_len d d.F
                      have hol2 := o2_len d m
                      have hdF : d.F = i := by rw [← unhide HD]; rfl
                      have hml1 : ((o1 d d.F ++ o2 d m).map (·.1)).length ≤ 4096 := by rw [List.length_map, List.length_append]; omega
                      have hml2 : ((o1 d d.F ++ o2 d m).map (·.2)).length ≤ 4096 := by rw [List.length_map, List.length_append]; omega
                      clear hol hol2 hdF
                      have hebl : eb < w.heap.size := World.block_lt_of_cell? w ⟨eb, eo + m * 2, .none⟩ ((unhide HA).ein.e0 m hlt2)
                      have nE : some eb ≠ nv.ownBlock := fun e => by
                        have h1 := (owns_lt (unhide HW).oN e.symm).2
                        have h2 := (unhide HG).size
                        omega
                      go_wp2_with (first | (at_builtin; refine wpList_append_lies _ rfl _ _ 34 rfl (wb.heap.size + 2) 5 i5 _ 1 1 Yba.underlying34 hi5 hz5 hs5 hb5 rfl (by decide) nv ((o1 d d.F ++ o2 d m).map (·.1)).length (((o1 d d.F ++ o2 d m).map (·.1)).map fun n => .int .u8 n) rfl (by exact ((unhide HW).grow ((Grow.refl _).alloc _)).oN) ⟨wr.heap.size, 0, .none⟩ 1 1 [.int .u8 (n7 (en m))] rfl rfl (by exact one_news (by simp) _ _) (by intro u hu; simp at hu; subst hu; rfl) (by decide) (by unfold maxLen; omega) (by omega) (by exact ((unhide HW).grow ((Grow.refl _).alloc _)).lt) _ rfl ?_; intro g3 cap3 w3 hown hgr hat hlt3; have HW3 := hide ((unhide HW).appN ((Grow.refl _).alloc _) hgr hown); have c3 := hgr.cell (((Grow.refl _).alloc _).cell e1) nE; clear hown hgr hat hlt3) | (at_builtin; refine wpList_append_lies _ rfl _ _ 54 rfl (wb.heap.size + 2) 9 i9 _ 1 16 Yba.underlying54 hi9 hz9 hs9 hb9 rfl (by decide) vv ((o1 d d.F ++ o2 d m).map (·.2)).length (((o1 d d.F ++ o2 d m).map (·.2)).map .string) rfl (by exact ((unhide HW3).grow ((Grow.refl _).alloc _)).oV) ⟨w3.heap.size, 0, .none⟩ 1 1 [.string (ev m)] rfl rfl (by exact one_news rfl _ _) (by intro u hu; simp at hu; subst hu; rfl) (by decide) (by unfold maxLen; omega) (by omega) (by exact ((unhide HW3).grow ((Grow.refl _).alloc _)).lt) _ rfl ?_; intro g4 cap4 w4 hown hgr hat hlt4; have HW4 := hide ((unhide HW3).appV ((Grow.refl _).alloc _) hgr hown); clear hown hgr hat hlt4))
                      simp only [List.length_map, List.length_append] at HW4
                      exact ⟨⟨m + 1, by omega, by go_num, W5.app (unhide HD) (unhide HR) (unhide HW4)⟩, by simp [intOf]; omega⟩
                    · go_wp2_with fail
                      exact ⟨⟨m + 1, by omega, by go_num, W5.skip (unhide HW) (unhide HR)⟩, by simp [intOf]; omega⟩
                  · go_wp2_with fail
                    exact ⟨⟨m + 1, by omega, by go_num, W5.skip (unhide HW) (unhide HR)⟩, by simp [intOf]; omega⟩
                  -- END l5
                · obtain rfl : m = j := by omega
                  have hdE : d.E = m := by rw [← unhide HD]; rfl
                  have hfm : d.fm = fm := by rw [← unhide HD]; rfl
                  have h5 : W5 wb wr d d.E nv vv := by rw [hdE]; exact unhide HW
                  have hwr := write_any _ d wr ((unhide HM).grow (unhide HW).g) (unhide HBn)
                  rw [hfm] at hwr
                  have H5 := hide h5
                  have HWR := hide hwr
                  clear h5 hfm hwr
                  obtain ⟨wq, hwq⟩ : ∃ x, x = wr := ⟨_, rfl⟩
                  subst hwq
                  go_wp2_with fail
                  refine (unhide HWR).mono ?_
                  rintro e wg ⟨v, rfl, hown, hgg⟩
                  obtain ⟨n, ga, GB, gc, na, NB, nc, sb, WB, wc, px, pt, hn4, rfl, rfl, rfl, hp, hgot, xs, hox⟩ := got_of (unhide H5) (unhide HBn) hown hgg
                  have HO := hide hox
                  have HT := hide hgot
                  have HGG := hide hgg
                  have HP := hide hp
                  clear hown hgg hox hgot hp H5 HWR
                  have HMq := hide ((unhide HM).grow (unhide HW).g)
                  have HGq0 := hide ((unhide HG).trans (unhide HW).g)
                  have hd1 : d.F = i := by rw [← unhide HD]; rfl
                  have Hd1 := hide hd1
                  have HdE := hide hdE
                  have HhA : Hid (∀ x, d.ha x = ha x) := fun x => by rw [← unhide HD]; rfl
                  have HvA : Hid (∀ x, d.va x = va x) := fun x => by rw [← unhide HD]; rfl
                  have HmX : Hid (∀ x, x < m → MC wq XB (x * 7) (n7 (en x)) (ev x)) := fun x hx => by
                    have h1 := (unhide HMq).mc x (by rw [hdE]; exact hx)
                    have h2 : d.ne x = n7 (en x) := by rw [← unhide HD]; rfl
                    have h3 : d.ev x = ev x := by rw [← unhide HD]; rfl
                    rw [h2, h3] at h1
                    exact h1
                  have HcX : Hid (wq.cell? ⟨w.heap.size, 2, .none⟩ = some (.slice xa m xc)) := by
                    have h1 := (unhide HMq).cT2
                    rw [hdE] at h1
                    exact h1
                  have HhX : Hid (0 < m → xa = some ⟨XB, 0, .none⟩) := by
                    have h1 := (unhide HMq).hX
                    rw [hdE] at h1
                    exact h1
                  clear hd1 hdE HM HW HG
                  go_wp2_with fail
                  go_loopw [233] (fun ii wz => ∃ q : Nat, q ≤ n ∧ ii = .int .i64 q ∧ Hid (Grow wg wz)) (fun ii _ => n - (intOf ii).toNat)
                  case atStart => exact ⟨0, Nat.zero_le _, rfl, Grow.refl _⟩
                  case round =>
                    obtain ⟨q, hqn, rfl, HGq⟩ := hrel
                    by_cases hlt3 : q < n
                    · -- BEGIN l6
                      obtain ⟨rfl, rfl, rfl⟩ := unhide HP (by omega)
                      have hqI : (q : Int) < (n : Int) := by omega
                      obtain ⟨m0, m1, m2, m3, m4, m5, m6⟩ := ((unhide HT).mc q hlt3).grow (unhide HGq)
                      have t0 := (unhide HGq).cell ((unhide HT).nc q hlt3)
                      have t1 := (unhide HGq).cell ((unhide HT).vc q hlt3)
                      have hb := (unhide HT).b q hlt3
                      go_wp2_with fail
                      replace m0 := GW.cell m0
                      replace m1 := GW.cell m1
                      replace m2 := GW.cell m2
                      replace m3 := GW.cell m3
                      replace m4 := GW.cell m4
                      replace m5 := GW.cell m5
                      replace m6 := GW.cell m6
                      replace t0 := GW.cell t0
                      replace t1 := GW.cell t1
                      refine wp_region_grow (by kernel_rfl) (by kernel_rfl) ?_
                      repeat (go_big_quiet_step (first | exact name_gw (px q) hb.1 hb.2 _ | exact eq_gw (pt q) _))
                      refine wpQuiet_nil ?_
                      rintro _ ⟨yq, rfl⟩
                      clear m0 m1 m2 m3 m4 m5 m6 t0 t1
                      go_wp2_with fail
                      go_roundw
                      case rel => exact ⟨q + 1, by omega, by go_num, Grow.trans (unhide HGq) yq.g⟩
                      case measure => simp [intOf]; omega
                      -- END l6
                    · have cT0 := (unhide HGq).cell ((unhide HGG).cell (unhide HMq).cT0)
                      have cT1 := (unhide HGq).cell ((unhide HGG).cell (unhide HMq).cT1)
                      rw [unhide Hd1] at cT0 cT1
                      go_wp2_with fail
                      clear cT0 cT1
                      go_loopw [281] (fun ii wz => ∃ q : Nat, q ≤ i ∧ ii = .int .i64 q ∧ Hid (Grow wg wz)) (fun ii _ => i - (intOf ii).toNat)
                      case atStart => exact ⟨0, Nat.zero_le _, rfl, unhide HGq⟩
                      case round =>
                        clear HGq hqn hlt3
                        obtain ⟨p, hpn, rfl, HGp⟩ := hrel
                        by_cases hlt4 : p < i
                        · -- BEGIN l7
                          have hpF : p < d.F := by rw [unhide Hd1]; exact hlt4
                          have hpI : (p : Int) < (i : Int) := by omega
                          obtain rfl := (unhide HA).h0 (by omega)
                          obtain rfl : aa = some ⟨HB', 0, .none⟩ := (unhide HMq).hA (by show 0 < d.F; omega)
                          obtain rfl : ab = some ⟨VB, 0, .none⟩ := (unhide HMq).hV (by show 0 < d.F; omega)
                          have hGp := (unhide HGG).trans (unhide HGp)
                          have cT0 := hGp.cell (unhide HMq).cT0
                          have cT1 := hGp.cell (unhide HMq).cT1
                          have cH := hGp.cell ((unhide HMq).hc p hpF)
                          have cV := hGp.cell ((unhide HMq).vc p hpF)
                          have t2 := ((unhide HGq0).trans hGp).cell ((unhide HA).f2 p hlt4)
                          have t3 := ((unhide HGq0).trans hGp).cell ((unhide HA).f3 p hlt4)
                          rw [unhide Hd1] at cT0 cT1
                          rw [unhide HhA p] at cH
                          rw [unhide HvA p] at cV
                          clear hGp hpF
                          go_wp2_with fail
                          replace cT0 := GW.cell cT0
                          replace cT1 := GW.cell cT1
                          replace cH := GW.cell cH
                          replace cV := GW.cell cV
                          replace t2 := GW.cell t2
                          replace t3 := GW.cell t3
                          refine wp_region_grow (by kernel_rfl) (by kernel_rfl) ?_
                          repeat (go_big_quiet_step (fail))
                          refine wpQuiet_nil ?_
                          rintro _ ⟨yq, rfl⟩
                          clear cT0 cT1 cH cV t2 t3
                          go_wp2_with fail
                          go_roundw
                          case rel => exact ⟨p + 1, by omega, by go_num, Grow.trans (unhide HGp) yq.g⟩
                          case measure => simp [intOf]; omega
                          -- END l7
                        · have HO2 := hide ((unhide HGp).owns (unhide HO))
                          have hGp := (unhide HGG).trans (unhide HGp)
                          have HGp2 := hide hGp
                          have hex := extraok_any w.heap.size XB eb eo xa a1 m xc c1 en ev _ (hGp.cell (unhide HcX)) (unhide HhX) (fun x hx => (unhide HmX x hx).grow hGp) ((unhide HA).ein.grow ((unhide HGq0).trans hGp)) (by omega)
                          have HEX := hide hex
                          clear hGp hex
                          go_wp2_with fail
                          refine (unhide HEX).mono ?_
                          rintro e wy ⟨rfl, hgy⟩
                          have HGy := hide ((unhide HGp2).trans hgy)
                          have HOy := hide (hgy.owns (unhide HO2))
                          clear hgy HEX HGp2 HO2
                          go_wp2_with fail
                          go_loopw [319] (fun ii wz => ∃ q : Nat, q ≤ n ∧ ii = .int .i64 q ∧ Hid (∃ ys, wz.ownsRow wq.heap.size 74 7 (.slice ga n gc) n ys) ∧ Hid (Grow wq wz)) (fun ii _ => n - (intOf ii).toNat)
                          case atStart => exact ⟨0, Nat.zero_le _, rfl, ⟨_, unhide HOy⟩, unhide HGy⟩
                          case round =>
                            clear HGp hpn hlt4 HOy HGy
                            obtain ⟨q, hqn, rfl, HOz, HGz⟩ := hrel
                            by_cases hlt5 : q < n
                            · -- BEGIN l8
                              obtain ⟨rfl, rfl, rfl⟩ := unhide HP (by omega)
                              have hqI : (q : Int) < (n : Int) := by omega
                              obtain ⟨ys, hys⟩ := unhide HOz
                              have hzf := hys.frozenAt
                              have cg := own_cells hys hlt5
                              obtain ⟨y0, hy0⟩ := cg 0 (by decide)
                              obtain ⟨y1, hy1⟩ := cg 1 (by decide)
                              obtain ⟨y2, hy2⟩ := cg 2 (by decide)
                              obtain ⟨y3, hy3⟩ := cg 3 (by decide)
                              obtain ⟨y4, hy4⟩ := cg 4 (by decide)
                              obtain ⟨y5, hy5⟩ := cg 5 (by decide)
                              obtain ⟨y6, hy6⟩ := cg 6 (by decide)
                              simp only [Nat.add_zero] at hy0
                              have HYS := hide hys
                              clear cg hys HOz
                              go_wp2_with fail
                              exact ⟨⟨q + 1, by omega, by go_num, own_put7 (unhide HYS) (unhide HGz) _ _ _ _ _ _ _ _ _ _ _ _ _ _⟩, by simp [intOf]; omega⟩
                              -- END l8
                            · have hGz := unhide HGz
                              have hex := extraok_any w.heap.size XB eb eo xa a1 m xc c1 en ev _ (hGz.cell (unhide HcX)) (unhide HhX) (fun x hx => (unhide HmX x hx).grow hGz) ((unhide HA).ein.grow ((unhide HGq0).trans hGz)) (by omega)
                              have HEX := hide hex
                              clear hGz hex
                              go_wp2_with fail
                              refine (unhide HEX).mono ?_
                              rintro e wv ⟨rfl, hgv⟩
                              have HGv := hide (((unhide HGq0).trans (unhide HGz)).trans hgv)
                              clear hgv HEX
                              go_wp2_with fail
                              go_ret
                              exact ⟨rfl, unhide HGv⟩
end Go.Proofs.Ybulkejtm
