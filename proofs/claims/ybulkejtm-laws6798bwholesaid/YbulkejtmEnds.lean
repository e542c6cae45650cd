import Derived.Test.YbulkejtmGot
namespace Go.Proofs.Ybulkejtm
open Go.ChangeShapes Go.WideShapes Go.ChangeAt Go.RowKit
set_option linter.unusedSimpArgs false
set_option linter.unusedVariables false

theorem wpAnyZ_last {P : Program} {ops : Array Oper} {Q : Exit → Act → World → Prop} {md : Region.Mode} {S : World → Prop} {z : Nat} (i : Nat) {o : Oper} {fuel : Nat} {listed : Array Bool} {a : Act} {w : World} (hi : ops[i]? = some o) (hr : Region.ready md ops listed = [i]) (hw : Region.wanted o (yielded ops a.tmps) = true) (hz : (listed.setIfInBounds i true).getD z true = true)
    (h : ∀ K : Act → World → Prop, (∀ a' w', wpAnyZ P md ops Q S z fuel (listed.setIfInBounds i true) a' w' → K a' w') → o.wp P a w K Q) : wpAnyZ P md ops Q S z (fuel + 1) listed a w :=
  wpAnyZ_one i hi hr hw fun K hK => h K fun a' w' h' => hK a' w' (fun q => by rw [hz] at q; cases q) h'
theorem app_store {wr W w3 : World} {v u : Value} {p : Addr} (G : Grow wr W) (hgr : W.grownBy w3 v.ownBlock) : Kept (fun x => x = p.block ∨ v.ownBlock = some x) wr (w3.setCell p u) :=
  ((((Kept.refl _ wr).grow G).grown hgr (fun k e _ => .inr e)).setCell (fun _ => .inl rfl) u)
/-- The four cells of the field at hand. -/
structure L4 (w : World) (b : Nat) (n : Int) (co ha : Bool) (va : ByteArray) : Prop where
  c0 : w.cell? ⟨b, 0, .none⟩ = some (.int .u8 n)
  c1 : w.cell? ⟨b, 1, .none⟩ = some (.bool co)
  c2 : w.cell? ⟨b, 2, .none⟩ = some (.bool ha)
  c3 : w.cell? ⟨b, 3, .none⟩ = some (.string va)
theorem L4.kept {w w' : World} {St : Nat → Prop} {b : Nat} {n : Int} {co ha : Bool} {va : ByteArray} (h : L4 w b n co ha va) (k : Kept St w w') (hs : ¬ St b) : L4 w' b n co ha va := ⟨k.cell h.c0 hs, k.cell h.c1 hs, k.cell h.c2 hs, k.cell h.c3 hs⟩
theorem L4.new (w : World) (n : Int) (co ha : Bool) (va : ByteArray) : L4 (w.alloc (.cells #[.int .u8 n, .bool co, .bool ha, .string va] 63)) w.heap.size n co ha va := by
  constructor <;> go_simp
theorem fc1_news {W : World} {H : Nat} (hH : W.heap.size = H) (n : Int) (co : Bool) (bx : Nat) : ∀ (j : Nat) (u : Value), (fc1 n co bx)[j]? = some u → (W.alloc (.cells #[.string (nm n), .bool co, .string ⟨#[]⟩, .nilFunc, .func (.func 15) #[] #[.pointer (some ⟨bx, 0, .none⟩)], .nilFunc] 70)).cell? ((⟨H, 0, .none⟩ : Addr).add j) = some u := by
  subst hH
  exact World.news_of_block (cs := #[.string (nm n), .bool co, .string ⟨#[]⟩, .nilFunc, .func (.func 15) #[] #[.pointer (some ⟨bx, 0, .none⟩)], .nilFunc]) (heap_alloc_new W _)

theorem frozen_grown {W w3 : World} {row : Option Nat} (hgr : W.grownBy w3 row) {b : Nat} (hb : b < W.heap.size) (hne : some b ≠ row) (h : ∀ o, W.frozen? ⟨b, o, .none⟩ = false) : ∀ o, w3.frozen? ⟨b, o, .none⟩ = false := fun o =>
  (World.frozen?_of_block (a := ⟨b, o, .none⟩) (hgr.block b hb hne)).trans (h o)

theorem r10_end {w wa W w3 : World} {LB g cap k b : Nat} {sv hv vv xv : Value} {bx : Nat → Nat} {fn : Nat → Int} {co ha : Nat → Bool} {va : Nat → ByteArray} {en : Nat → Int} {ev : Nat → ByteArray} {iH iV iX : Nat} (HB0 : Bd w wa k iH iV iX sv hv vv xv bx fn co ha va en ev) (HL : L4 wa LB (fn k) (co k) (ha k) (va k)) (hL : w.heap.size + 2 ≤ LB) (hLs : ∀ g, sv.ownBlock = some g → g < LB) (hg3 : Grow wa W) (hbox : W.heap[b]? = some (.cells #[.int .i64 k] 3 (0, 0))) (hbL : LB ≤ b) (hgr : W.grownBy w3 sv.ownBlock)
    (hown : w3.ownsRow (w.heap.size + 2) 70 6 (.slice (some ⟨g, 0, .none⟩) (k + 1) cap) (k + 1) (rcl (fun i => fc1 (n5 (fn i)) (co i) (bx i)) k ++ fc1 (n5 (fn k)) (co k) b)) :
    (∀ o, w3.frozen? ⟨w.heap.size + 1, o, .none⟩ = false) ∧ Bd w (w3.setCell ⟨w.heap.size + 1, 0, .none⟩ (.slice (some ⟨g, 0, .none⟩) (k + 1) cap)) (k + 1) iH iV iX (.slice (some ⟨g, 0, .none⟩) (k + 1) cap) hv vv xv (fun j => if j = k then b else bx j) fn co ha va en ev ∧ L4 (w3.setCell ⟨w.heap.size + 1, 0, .none⟩ (.slice (some ⟨g, 0, .none⟩) (k + 1) cap)) LB (fn k) (co k) (ha k) (va k) := by
  have nS : some (w.heap.size + 1) ≠ sv.ownBlock := fun e => by have := (owns_lt HB0.oS e.symm).2; omega
  have nL : some LB ≠ sv.ownBlock := fun e => by have := hLs _ e.symm; omega
  have nb : some b ≠ sv.ownBlock := fun e => by have := hLs _ e.symm; omega
  have HBW := HB0.grow hg3
  have hSl : w.heap.size + 1 < W.heap.size := by have := HBW.lt; omega
  have z3 := frozen_grown hgr hSl nS HBW.zS
  have K := app_store (p := ⟨w.heap.size + 1, 0, .none⟩) (u := .slice (some ⟨g, 0, .none⟩) (k + 1) cap) hg3 hgr
  have hgB := (owns_lt hown (g := g) rfl).2
  refine ⟨z3, HB0.stepS K (World.cell?_setCell_same _ _ _ (hgr.cell HBW.cS0 nS)) ?_ (fun o => by simpa using z3 o) (owns_of hown (fun x hx => ?_)) ?_, HL.kept K ?_⟩
  · rw [World.cell?_setCell_other _ _ _ _ (fun e => by simp at e)]
    exact hgr.cell HBW.cS1 nS
  · simp [Value.ownBlock] at hx; subst hx
    exact Below.heap_setCell _ _ _ _ (by show g ≠ w.heap.size + 1; omega)
  · rw [Below.heap_setCell _ _ _ _ (show b ≠ w.heap.size + 1 by omega)]
    exact (hgr.block b (heap_lt hbox) nb).trans hbox
  · intro q
    rcases q with q | q
    · have : LB = w.heap.size + 1 := q; omega
    · exact nL q.symm

theorem rH_end {w wa W w3 : World} {LB g cap k iS iV iX : Nat} {sv hv vv xv : Value} {bx : Nat → Nat} {fn : Nat → Int} {co ha : Nat → Bool} {va : Nat → ByteArray} {en : Nat → Int} {ev : Nat → ByteArray} (HB0 : Bd w wa iS k iV iX sv hv vv xv bx fn co ha va en ev) (HL : L4 wa LB (fn k) (co k) (ha k) (va k)) (hL : w.heap.size + 2 ≤ LB) (hLs : ∀ g, hv.ownBlock = some g → g < LB) (hg3 : Grow wa W) (hgr : W.grownBy w3 hv.ownBlock)
    (hown : w3.ownsRow (w.heap.size + 2) 4 1 (.slice (some ⟨g, 0, .none⟩) (k + 1) cap) (k + 1) (rcl (fun i => [.bool (ha i)]) k ++ [.bool (ha k)])) :
    (∀ o, w3.frozen? ⟨w.heap.size, o, .none⟩ = false) ∧ Bd w (w3.setCell ⟨w.heap.size, 0, .none⟩ (.slice (some ⟨g, 0, .none⟩) (k + 1) cap)) iS (k + 1) iV iX sv (.slice (some ⟨g, 0, .none⟩) (k + 1) cap) vv xv bx fn co ha va en ev ∧ L4 (w3.setCell ⟨w.heap.size, 0, .none⟩ (.slice (some ⟨g, 0, .none⟩) (k + 1) cap)) LB (fn k) (co k) (ha k) (va k) := by
  have nT : some w.heap.size ≠ hv.ownBlock := fun e => by have := (owns_lt HB0.oH e.symm).2; omega
  have nL : some LB ≠ hv.ownBlock := fun e => by have := hLs _ e.symm; omega
  have HBW := HB0.grow hg3
  have hSl : w.heap.size < W.heap.size := by have := HBW.lt; omega
  have z3 := frozen_grown hgr hSl nT HBW.zT
  have K := app_store (p := ⟨w.heap.size, 0, .none⟩) (u := .slice (some ⟨g, 0, .none⟩) (k + 1) cap) hg3 hgr
  have hgB := (owns_lt hown (g := g) rfl).2
  obtain ⟨s1, s2, s3, s4⟩ := stT HB0 HB0.oH (by decide) (by decide)
  have far : ∀ {o : Nat} {v : Value}, o ≠ 0 → W.cell? ⟨w.heap.size, o, .none⟩ = some v → (w3.setCell ⟨w.heap.size, 0, .none⟩ (.slice (some ⟨g, 0, .none⟩) (k + 1) cap)).cell? ⟨w.heap.size, o, .none⟩ = some v := fun ho h => by
    rw [World.cell?_setCell_other _ _ _ _ (fun e => by (simp at e) <;> omega)]
    exact hgr.cell h nT
  refine ⟨z3, HB0.stepT K s1 s2 s3 (fun o => by simpa using z3 o) (World.cell?_setCell_same _ _ _ (hgr.cell HBW.cT0 nT)) (far (by decide) HBW.cT1) (far (by decide) HBW.cT2) s4 (owns_of hown (fun x hx => ?_)) ?_ ?_, HL.kept K ?_⟩
  · simp [Value.ownBlock] at hx; subst hx
    exact Below.heap_setCell _ _ _ _ (by show g ≠ w.heap.size; omega)
  · exact K.owns HB0.oV (fun g hg q => q.elim (fun e => by have : g = w.heap.size := e; have := (owns_lt HB0.oV hg).2; omega) (fun e => tag_ne HB0.oV HB0.oH (by decide) g hg e))
  · exact K.owns HB0.oX (fun g hg q => q.elim (fun e => by have : g = w.heap.size := e; have := (owns_lt HB0.oX hg).2; omega) (fun e => tag_ne HB0.oX HB0.oH (by decide) g hg e))
  · intro q
    rcases q with q | q
    · have : LB = w.heap.size := q; omega
    · exact nL q.symm
theorem rV_end {w wa W w3 : World} {g cap k iS iH iX : Nat} {sv hv vv xv : Value} {bx : Nat → Nat} {fn : Nat → Int} {co ha : Nat → Bool} {va : Nat → ByteArray} {en : Nat → Int} {ev : Nat → ByteArray} (HB0 : Bd w wa iS iH k iX sv hv vv xv bx fn co ha va en ev) (hg3 : Grow wa W) (hgr : W.grownBy w3 vv.ownBlock)
    (hown : w3.ownsRow (w.heap.size + 2) 9 1 (.slice (some ⟨g, 0, .none⟩) (k + 1) cap) (k + 1) (rcl (fun i => [.string (va i)]) k ++ [.string (va k)])) :
    (∀ o, w3.frozen? ⟨w.heap.size, o, .none⟩ = false) ∧ Bd w (w3.setCell ⟨w.heap.size, 1, .none⟩ (.slice (some ⟨g, 0, .none⟩) (k + 1) cap)) iS iH (k + 1) iX sv hv (.slice (some ⟨g, 0, .none⟩) (k + 1) cap) xv bx fn co ha va en ev := by
  have nT : some w.heap.size ≠ vv.ownBlock := fun e => by have := (owns_lt HB0.oV e.symm).2; omega
  have HBW := HB0.grow hg3
  have hSl : w.heap.size < W.heap.size := by have := HBW.lt; omega
  have z3 := frozen_grown hgr hSl nT HBW.zT
  have K := app_store (p := ⟨w.heap.size, 1, .none⟩) (u := .slice (some ⟨g, 0, .none⟩) (k + 1) cap) hg3 hgr
  have hgB := (owns_lt hown (g := g) rfl).2
  obtain ⟨s1, s2, s3, s4⟩ := stT HB0 HB0.oV (by decide) (by decide)
  have far : ∀ {o : Nat} {v : Value}, o ≠ 1 → W.cell? ⟨w.heap.size, o, .none⟩ = some v → (w3.setCell ⟨w.heap.size, 1, .none⟩ (.slice (some ⟨g, 0, .none⟩) (k + 1) cap)).cell? ⟨w.heap.size, o, .none⟩ = some v := fun ho h => by
    rw [World.cell?_setCell_other _ _ _ _ (fun e => by (simp at e) <;> omega)]
    exact hgr.cell h nT
  refine ⟨z3, HB0.stepT K s1 s2 s3 (fun o => by simpa using z3 o) (far (by decide) HBW.cT0) (World.cell?_setCell_same _ _ _ (hgr.cell HBW.cT1 nT)) (far (by decide) HBW.cT2) s4 ?_ (owns_of hown (fun x hx => ?_)) ?_⟩
  · exact K.owns HB0.oH (fun g hg q => q.elim (fun e => by have : g = w.heap.size := e; have := (owns_lt HB0.oH hg).2; omega) (fun e => tag_ne HB0.oH HB0.oV (by decide) g hg e))
  · simp [Value.ownBlock] at hx; subst hx
    exact Below.heap_setCell _ _ _ _ (by show g ≠ w.heap.size; omega)
  · exact K.owns HB0.oX (fun g hg q => q.elim (fun e => by have : g = w.heap.size := e; have := (owns_lt HB0.oX hg).2; omega) (fun e => tag_ne HB0.oX HB0.oV (by decide) g hg e))
theorem one_news {W : World} {H : Nat} (hH : W.heap.size = H) (v : Value) (t : TypeId) : ∀ (j : Nat) (u : Value), [v][j]? = some u → (W.alloc (.cells #[v] t)).cell? ((⟨H, 0, .none⟩ : Addr).add j) = some u := by
  subst hH
  exact World.news_of_block (cs := #[v]) (heap_alloc_new W _)

def zm : List Value := [.string ⟨#[]⟩, .int .u8 0, .bool false, .string ⟨#[]⟩, .slice .none 0 0, .slice .none 0 0, .slice .none 0 0]
theorem zm_news {W : World} {H : Nat} (hH : W.heap.size = H) : ∀ (j : Nat) (u : Value), zm[j]? = some u → (W.alloc (.cells #[.string ⟨#[]⟩, .int .u8 0, .bool false, .string ⟨#[]⟩, .slice .none 0 0, .slice .none 0 0, .slice .none 0 0] 74)).cell? ((⟨H, 0, .none⟩ : Addr).add j) = some u := by
  subst hH
  exact World.news_of_block (cs := #[.string ⟨#[]⟩, .int .u8 0, .bool false, .string ⟨#[]⟩, .slice .none 0 0, .slice .none 0 0, .slice .none 0 0]) (heap_alloc_new W _)
theorem zm_one : ∀ u ∈ zm, u.oneCell' = true := by
  intro u hu; simp [zm] at hu; rcases hu with rfl | rfl | rfl | rfl | rfl <;> rfl
theorem set7 (xs : List Value) (i : Nat) (hl : xs.length = i * 7) (c0 c1 c2 c3 c4 c5 c6 : Value) :
    (((((((xs ++ zm).set (i * 7) c0).set (i * 7 + 1) c1).set (i * 7 + 2) c2).set (i * 7 + 3) c3).set (i * 7 + 4) c4).set (i * 7 + 5) c5).set (i * 7 + 6) c6 = xs ++ [c0, c1, c2, c3, c4, c5, c6] := by
  rw [← hl]
  simp [zm, List.set_append_right]
abbrev put7 (w : World) (g o : Nat) (n : Int) (t : ByteArray) : World :=
  ((((((w.setCell ⟨g, o, .none⟩ (.string (nm n))).setCell ⟨g, o + 1, .none⟩ (.int .u8 3)).setCell ⟨g, o + 2, .none⟩ (.bool false)).setCell ⟨g, o + 3, .none⟩ (.string t)).setCell ⟨g, o + 4, .none⟩ (.slice .none 0 0)).setCell ⟨g, o + 5, .none⟩ (.slice .none 0 0)).setCell ⟨g, o + 6, .none⟩ (.slice .none 0 0)
theorem put7_own {w : World} {B g cap j : Nat} {xs : List Value} (h : w.ownsRow B 74 7 (.slice (some ⟨g, 0, .none⟩) (j + 1) cap) (j + 1) (xs ++ zm)) (hl : xs.length = j * 7) (n : Int) (t : ByteArray) : (put7 w g (j * 7) n t).ownsRow B 74 7 (.slice (some ⟨g, 0, .none⟩) (j + 1) cap) (j + 1) (xs ++ mc1 (n, t)) := by
  have o := (((((((h.stored (j * 7) (.string (nm n))).1.stored (j * 7 + 1) (.int .u8 3)).1.stored (j * 7 + 2) (.bool false)).1.stored (j * 7 + 3) (.string t)).1.stored (j * 7 + 4) (.slice .none 0 0)).1.stored (j * 7 + 5) (.slice .none 0 0)).1.stored (j * 7 + 6) (.slice .none 0 0)).1
  rw [set7 xs j hl] at o
  exact o
theorem put7_kept {St : Nat → Prop} {a w : World} {g o : Nat} (h : Kept St a w) (hs : g < a.heap.size → St g) (n : Int) (t : ByteArray) : Kept St a (put7 w g o n t) :=
  ((((((h.setCell (p := ⟨g, o, .none⟩) hs _).setCell (p := ⟨g, o + 1, .none⟩) hs _).setCell (p := ⟨g, o + 2, .none⟩) hs _).setCell (p := ⟨g, o + 3, .none⟩) hs _).setCell (p := ⟨g, o + 4, .none⟩) hs _).setCell (p := ⟨g, o + 5, .none⟩) hs _).setCell (p := ⟨g, o + 6, .none⟩) hs _
theorem put7_far {w : World} {g o b p : Nat} {n : Int} {t : ByteArray} {r : Option Value} (hne : b ≠ g) (h : w.cell? ⟨b, p, .none⟩ = r) : (put7 w g o n t).cell? ⟨b, p, .none⟩ = r := by
  have f : ∀ {W : World} {q : Nat} {v : Value}, W.cell? ⟨b, p, .none⟩ = r → (W.setCell ⟨g, q, .none⟩ v).cell? ⟨b, p, .none⟩ = r := fun {W} {q} {v} h => by
    rw [World.cell?_setCell_other _ _ _ _ (fun e => hne (congrArg Addr.block e).symm)]; exact h
  exact f (f (f (f (f (f (f h))))))
theorem put7_frozen {w : World} {g o b p : Nat} {n : Int} {t : ByteArray} : (put7 w g o n t).frozen? ⟨b, p, .none⟩ = w.frozen? ⟨b, p, .none⟩ := by simp

theorem rX_end {w wa W w3 : World} {g cap j iS iH iV : Nat} {sv hv vv xv : Value} {bx : Nat → Nat} {fn : Nat → Int} {co ha : Nat → Bool} {va : Nat → ByteArray} {en : Nat → Int} {ev : Nat → ByteArray} (HB0 : Bd w wa iS iH iV j sv hv vv xv bx fn co ha va en ev) (hg3 : Grow wa W) (hgr : W.grownBy w3 xv.ownBlock) (hat : xv.ownBlock = some g ∨ wa.heap.size ≤ g)
    (hown : w3.ownsRow (w.heap.size + 2) 74 7 (.slice (some ⟨g, 0, .none⟩) (j + 1) cap) (j + 1) (rcl (fun j => mc1 (n7 (en j), ev j)) j ++ zm)) :
    (∀ o, w3.frozen? ⟨w.heap.size, o, .none⟩ = false) ∧ (∀ o, w3.frozen? ⟨g, o, .none⟩ = false) ∧ (∀ k, k < 7 → ∃ v, w3.cell? ⟨g, j * 7 + k, .none⟩ = some v) ∧ w.heap.size + 2 ≤ g ∧
    Bd w ((put7 w3 g (j * 7) (n7 (en j)) (ev j)).setCell ⟨w.heap.size, 2, .none⟩ (.slice (some ⟨g, 0, .none⟩) (j + 1) cap)) iS iH iV (j + 1) sv hv vv (.slice (some ⟨g, 0, .none⟩) (j + 1) cap) bx fn co ha va en ev ∧
    Bd w (put7 (w3.setCell ⟨w.heap.size, 2, .none⟩ (.slice (some ⟨g, 0, .none⟩) (j + 1) cap)) g (j * 7) (n7 (en j)) (ev j)) iS iH iV (j + 1) sv hv vv (.slice (some ⟨g, 0, .none⟩) (j + 1) cap) bx fn co ha va en ev := by
  have nT : some w.heap.size ≠ xv.ownBlock := fun e => by have := (owns_lt HB0.oX e.symm).2; omega
  have HBW := HB0.grow hg3
  have hSl : w.heap.size < W.heap.size := by have := HBW.lt; omega
  have z3 := frozen_grown hgr hSl nT HBW.zT
  have hgB := (owns_lt hown (g := g) rfl).2
  have hl : (rcl (fun j => mc1 (n7 (en j), ev j)) j).length = j * 7 := rcl_len (fun i => by simp [mc1]) j
  have hgT : w.heap.size ≠ g := by omega
  have K3 : Kept (fun x => x = w.heap.size ∨ xv.ownBlock = some x) wa w3 := ((Kept.refl _ wa).grow hg3).grown hgr (fun k e _ => .inr e)
  have hs : g < wa.heap.size → (g = w.heap.size ∨ xv.ownBlock = some g) := fun q => hat.elim .inr (fun h => by omega)
  obtain ⟨s1, s2, s3, s4⟩ := stT HB0 HB0.oX (by decide) (by decide)
  have t0 := hgr.cell HBW.cT0 nT
  have t1 := hgr.cell HBW.cT1 nT
  have t2 := hgr.cell HBW.cT2 nT
  have far : ∀ {Wx : World} {o : Nat} {v : Value}, o ≠ 2 → Wx.cell? ⟨w.heap.size, o, .none⟩ = some v → (Wx.setCell ⟨w.heap.size, 2, .none⟩ (.slice (some ⟨g, 0, .none⟩) (j + 1) cap)).cell? ⟨w.heap.size, o, .none⟩ = some v := fun ho h => by
    rw [World.cell?_setCell_other _ _ _ _ (fun e => by (simp at e) <;> omega)]
    exact h
  have other : ∀ {e : TypeId} {s n : Nat} {v : Value} {xs : List Value}, wa.ownsRow (w.heap.size + 2) e s v n xs → e ≠ 74 → ∀ x, v.ownBlock = some x → ¬ (x = w.heap.size ∨ xv.ownBlock = some x) := fun ho he x hx q =>
    q.elim (fun e => by have := (owns_lt ho hx).2; omega) (fun e => tag_ne ho HB0.oX he x hx e)
  refine ⟨z3, hown.frozenAt, fun k hk => ?_, hgB, ?_, ?_⟩
  · have hj2 : j * 7 + k < (rcl (fun j => mc1 (n7 (en j), ev j)) j ++ zm).length := by rw [List.length_append, hl]; simp [zm]; omega
    exact ⟨_, by rw [hown.cellAt _ (by omega)]; exact List.getElem?_eq_getElem hj2⟩
  · have K := (put7_kept K3 hs (o := j * 7) (n7 (en j)) (ev j)).setCell (p := ⟨w.heap.size, 2, .none⟩) (fun _ => .inl rfl) (.slice (some ⟨g, 0, .none⟩) (j + 1) cap)
    refine HB0.stepT K s1 s2 s3 (fun o => by rw [World.frozen?_setCell, put7_frozen]; exact z3 o) (far (by decide) (put7_far hgT t0)) (far (by decide) (put7_far hgT t1)) (World.cell?_setCell_same _ _ _ (put7_far hgT t2)) s4 (K.owns HB0.oH (other HB0.oH (by decide))) (K.owns HB0.oV (other HB0.oV (by decide))) ?_
    refine owns_of (put7_own hown hl _ _) (fun x hx => ?_)
    simp [Value.ownBlock] at hx; subst hx
    exact Below.heap_setCell _ _ _ _ (Ne.symm hgT)
  · have K := put7_kept (K3.setCell (p := ⟨w.heap.size, 2, .none⟩) (fun _ => .inl rfl) (.slice (some ⟨g, 0, .none⟩) (j + 1) cap)) hs (o := j * 7) (n7 (en j)) (ev j)
    refine HB0.stepT K s1 s2 s3 (fun o => by rw [put7_frozen, World.frozen?_setCell]; exact z3 o) (put7_far hgT (far (by decide) t0)) (put7_far hgT (far (by decide) t1)) (put7_far hgT (World.cell?_setCell_same _ _ _ t2)) s4 (K.owns HB0.oH (other HB0.oH (by decide))) (K.owns HB0.oV (other HB0.oV (by decide))) ?_
    refine put7_own (owns_of hown (fun x hx => ?_)) hl _ _
    simp [Value.ownBlock] at hx; subst hx
    exact Below.heap_setCell _ _ _ _ (Ne.symm hgT)

theorem kcases (co : Bool) (fm : Int) : (decide (fm = 2) = true ∧ kn1 co fm = false) ∨ (decide (fm = 2) = false ∧ co = false ∧ kn1 co fm = true) ∨ (decide (fm = 2) = false ∧ co = true ∧ decide (fm = 1) = true ∧ kn1 co fm = true) ∨ (decide (fm = 2) = false ∧ co = true ∧ decide (fm = 1) = false ∧ kn1 co fm = false) := by
  unfold kn1
  by_cases h2 : fm = 2
  · simp [h2]
  · by_cases h1 : fm = 1 <;> cases co <;> simp [h1, h2]

/-- What of the function's text begins with region n. -/
def headIs (n : Nat) : Code → Bool
  | .region m _ _ => Nat.beq m n
  | .seq a _ => headIs n a
  | _ => false
def cutAt (n : Nat) : Code → Option Code
  | .seq a b => match headIs n a with
    | true => some (.seq a b)
    | false => cutAt n b
  | _ => none
noncomputable def codeA : Code := (Yba.f4.body.bind (cutAt 19)).getD .skip
noncomputable def codeB : Code := (Yba.f4.body.bind (cutAt 44)).getD .skip
end Go.Proofs.Ybulkejtm
