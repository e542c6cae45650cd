import Derived.Test.YbulkejtmVal
namespace Go.Proofs.Ybulkejtm
open Go.ChangeShapes Go.WideShapes Go.ChangeAt Go.RowKit

theorem Yba.info36 : (Yba.prog.info? 36).map (fun i => (i.zero, i.size, i.bytes)) = some (some (.agg #[.int .u8 0, .bool false, .string ⟨#[]⟩, .slice .none 0 0, .slice .none 0 0, .slice .none 0 0]), 6, 96) := by kernel_rfl
theorem Yba.info29 : (Yba.prog.info? 29).map (fun i => (i.zero, i.size, i.bytes)) = some (some (.agg #[.string ⟨#[]⟩, .int .i64 0]), 2, 24) := by kernel_rfl
theorem Yba.info25 : (Yba.prog.info? 25).map (fun i => (i.zero, i.size, i.bytes)) = some (some (.slice .none 0 0), 1, 24) := by kernel_rfl

/-- Of w's blocks only those in S have turned. -/
structure Kept (S : Nat → Prop) (w w' : World) : Prop where
  os : w'.os = w.os
  tape : w'.tape = w.tape
  output : w'.output = w.output
  size : w.heap.size ≤ w'.heap.size
  block : ∀ b, b < w.heap.size → ¬ S b → w'.heap[b]? = w.heap[b]?

theorem Kept.refl (S : Nat → Prop) (w : World) : Kept S w w := ⟨rfl, rfl, rfl, Nat.le_refl _, fun _ _ _ => rfl⟩
theorem Kept.trans {S : Nat → Prop} {a b c : World} (h : Kept S a b) (k : Kept S b c) : Kept S a c :=
  ⟨k.os.trans h.os, k.tape.trans h.tape, k.output.trans h.output, Nat.le_trans h.size k.size, fun x hx hs => (k.block x (Nat.lt_of_lt_of_le hx h.size) hs).trans (h.block x hx hs)⟩
theorem Kept.weaken {S S' : Nat → Prop} {a b : World} (h : Kept S a b) (hs : ∀ x, x < a.heap.size → S x → S' x) : Kept S' a b :=
  ⟨h.os, h.tape, h.output, h.size, fun x hx ns => h.block x hx (fun q => ns (hs x hx q))⟩
theorem Kept.drew {S : Nat → Prop} {a b : World} (h : Kept S a b) : Kept S a b.drew := ⟨h.os, h.tape, h.output, h.size, h.block⟩
theorem Kept.drewN {S : Nat → Prop} {a b : World} (h : Kept S a b) (n : Nat) : Kept S a (b.drewN n) := ⟨h.os, h.tape, h.output, h.size, h.block⟩
theorem Kept.alloc {S : Nat → Prop} {a b : World} (h : Kept S a b) (o : Obj) : Kept S a (b.alloc o) :=
  ⟨h.os, h.tape, h.output, by have := h.size; simp; omega, fun x hx hs => (Below.heap_alloc b o x (Nat.lt_of_lt_of_le hx h.size)).trans (h.block x hx hs)⟩
theorem Kept.setCell {S : Nat → Prop} {a b : World} (h : Kept S a b) {p : Addr} (hp : p.block < a.heap.size → S p.block) (u : Value) : Kept S a (b.setCell p u) :=
  ⟨h.os, h.tape, h.output, by simpa using h.size, fun x hx hs => (Below.heap_setCell b p u x (fun e => hs (by rw [e]; exact hp (by omega)))).trans (h.block x hx hs)⟩
theorem Kept.grown {S : Nat → Prop} {a b c : World} {row : Option Nat} (h : Kept S a b) (hg : b.grownBy c row) (hr : ∀ k, row = some k → k < a.heap.size → S k) : Kept S a c :=
  ⟨hg.os.trans h.os, hg.tape.trans h.tape, hg.output.trans h.output, Nat.le_trans h.size hg.size, fun x hx hs => (hg.block x (Nat.lt_of_lt_of_le hx h.size) (fun e => hs (hr x e.symm hx))).trans (h.block x hx hs)⟩
theorem Kept.grow {S : Nat → Prop} {a b c : World} (h : Kept S a b) (k : Grow b c) : Kept S a c :=
  ⟨(Below.os k).trans h.os, (Below.tape k).trans h.tape, (Below.output k).trans h.output, Nat.le_trans h.size k.size, fun x hx hs => (k.block (Nat.lt_of_lt_of_le hx h.size)).trans (h.block x hx hs)⟩
theorem Kept.below {S : Nat → Prop} {a b c : World} {B : Nat} (h : Kept S a b) (k : Below B b c) (hB : a.heap.size ≤ B) : Kept S a c :=
  ⟨k.os.trans h.os, k.tape.trans h.tape, k.output.trans h.output, Nat.le_trans h.size k.size, fun x hx hs => (k.block x (by omega)).trans (h.block x hx hs)⟩
theorem Kept.cell {S : Nat → Prop} {a b : World} (h : Kept S a b) {p : Addr} {v : Value} (hc : a.cell? p = some v) (hs : ¬ S p.block) : b.cell? p = some v := by
  rw [World.cell?_of_block (h.block p.block (World.block_lt_of_cell? a p hc) hs)]; exact hc
theorem Kept.frozen {S : Nat → Prop} {a b : World} (h : Kept S a b) {p : Addr} (hl : p.block < a.heap.size) (hs : ¬ S p.block) : b.frozen? p = a.frozen? p :=
  World.frozen?_of_block (h.block p.block hl hs)
theorem Kept.row {S : Nat → Prop} {a b : World} (h : Kept S a b) {r : Nat} {t : TypeId} {n : Nat} {f : Nat → Value} (hr : a.rowIs r t n f) (hs : ¬ S r) : b.rowIs r t n f :=
  hr.of_block (h.block r hr.lt hs)
theorem Kept.owns {S : Nat → Prop} {a b : World} (h : Kept S a b) {base : Nat} {e : TypeId} {size n : Nat} {v : Value} {xs : List Value} (ho : a.ownsRow base e size v n xs) (hs : ∀ g, v.ownBlock = some g → ¬ S g) : b.ownsRow base e size v n xs :=
  owns_of ho (fun g hg => h.block g (owns_lt ho hg).1 (hs g hg))

/-- The six cells of a value. -/
def vcells (k : Int) (b : Bool) (t : ByteArray) : List Value := [.int .u8 (k6 k), .bool b, .string t, .slice .none 0 0, .slice .none 0 0, .slice .none 0 0]
def zcells : List Value := [.int .u8 0, .bool false, .string ⟨#[]⟩, .slice .none 0 0, .slice .none 0 0, .slice .none 0 0]
theorem zcells_one : ∀ u ∈ zcells, u.oneCell' = true := by
  intro u hu; simp [zcells] at hu; rcases hu with rfl | rfl | rfl | rfl <;> rfl
theorem z_new (W : World) : ∀ (j : Nat) (u : Value), zcells[j]? = some u → (W.alloc (.cells #[.int .u8 0, .bool false, .string ⟨#[]⟩, .slice .none 0 0, .slice .none 0 0, .slice .none 0 0] 36)).cell? ((⟨W.heap.size, 0, .none⟩ : Addr).add j) = some u :=
  World.news_of_block (cs := #[.int .u8 0, .bool false, .string ⟨#[]⟩, .slice .none 0 0, .slice .none 0 0, .slice .none 0 0]) (heap_alloc_new W _)

theorem set6 (xs : List Value) (i : Nat) (hl : xs.length = i * 6) (c0 c1 c2 c3 c4 c5 : Value) :
    ((((((xs ++ zcells).set (i * 6) c0).set (i * 6 + 1) c1).set (i * 6 + 2) c2).set (i * 6 + 3) c3).set (i * 6 + 4) c4).set (i * 6 + 5) c5 = xs ++ [c0, c1, c2, c3, c4, c5] := by
  rw [← hl]
  simp [zcells, List.set_append_right]

/-- What 'gotV = append(gotV, v)' leaves, in whichever order the two stores come. -/
def R1 (B GV i : Nat) (gv : Value) (xs : List Value) (k : Int) (b : Bool) (t : ByteArray) (w wx : World) : Prop :=
  ∃ g2 cap2, wx.cell? ⟨GV, 0, .none⟩ = some (.slice (some ⟨g2, 0, .none⟩) (i + 1) cap2) ∧ (∀ o, wx.frozen? ⟨GV, o, .none⟩ = false) ∧
    wx.ownsRow B 36 6 (.slice (some ⟨g2, 0, .none⟩) (i + 1) cap2) (i + 1) (xs ++ vcells k b t) ∧ (gv.ownBlock = some g2 ∨ w.heap.size ≤ g2) ∧ Kept (fun x => x = GV ∨ gv.ownBlock = some x) w wx

theorem r1_mk {B GV i : Nat} {gv : Value} {xs : List Value} {k : Int} {b : Bool} {t : ByteArray} {w W w3 : World} {g2 cap2 : Nat} (hW : Kept (fun x => x = GV ∨ gv.ownBlock = some x) w W) (lGV : GV < B) (hBw : B ≤ w.heap.size) (hl : xs.length = i * 6)
    (cGV : w.cell? ⟨GV, 0, .none⟩ = some gv) (fGV : ∀ o, w.frozen? ⟨GV, o, .none⟩ = false) (hWG : W.heap[GV]? = w.heap[GV]?) (hgb : ∀ x, gv.ownBlock = some x → B ≤ x)
    (hown : w3.ownsRow B 36 6 (.slice (some ⟨g2, 0, .none⟩) (i + 1) cap2) (i + 1) (xs ++ zcells)) (hgr : W.grownBy w3 gv.ownBlock) (hat : gv.ownBlock = some g2 ∨ g2 = W.heap.size) :
    (∀ j, j < 6 → ∃ v, w3.cell? ⟨g2, i * 6 + j, .none⟩ = some v) ∧ (∀ o, w3.frozen? ⟨g2, o, .none⟩ = false) ∧ w3.cell? ⟨GV, 0, .none⟩ = some gv ∧ (∀ o, w3.frozen? ⟨GV, o, .none⟩ = false) ∧ g2 ≠ GV ∧
    R1 B GV i gv xs k b t w ((((((((w3.setCell ⟨g2, i * 6, .none⟩ (.int .u8 (k6 k))).setCell ⟨g2, i * 6 + 1, .none⟩ (.bool b)).setCell ⟨g2, i * 6 + 2, .none⟩ (.string t)).setCell ⟨g2, i * 6 + 3, .none⟩ (.slice .none 0 0)).setCell ⟨g2, i * 6 + 4, .none⟩ (.slice .none 0 0)).setCell ⟨g2, i * 6 + 5, .none⟩ (.slice .none 0 0)).setCell ⟨GV, 0, .none⟩ (.slice (some ⟨g2, 0, .none⟩) (i + 1) cap2))) ∧
    R1 B GV i gv xs k b t w ((((((((w3.setCell ⟨GV, 0, .none⟩ (.slice (some ⟨g2, 0, .none⟩) (i + 1) cap2)).setCell ⟨g2, i * 6, .none⟩ (.int .u8 (k6 k))).setCell ⟨g2, i * 6 + 1, .none⟩ (.bool b)).setCell ⟨g2, i * 6 + 2, .none⟩ (.string t)).setCell ⟨g2, i * 6 + 3, .none⟩ (.slice .none 0 0)).setCell ⟨g2, i * 6 + 4, .none⟩ (.slice .none 0 0)).setCell ⟨g2, i * 6 + 5, .none⟩ (.slice .none 0 0))) := by
  have hg2 := owns_lt hown (g := g2) rfl
  have hne : g2 ≠ GV := by omega
  have hGVl : GV < W.heap.size := by have := hW.size; omega
  have h3G : w3.heap[GV]? = w.heap[GV]? := (hgr.block GV hGVl (fun e => by have := hgb GV e.symm; omega)).trans hWG
  have c3 : w3.cell? ⟨GV, 0, .none⟩ = some gv := (World.cell?_of_block (a := ⟨GV, 0, .none⟩) h3G).trans cGV
  have f3 : ∀ o, w3.frozen? ⟨GV, o, .none⟩ = false := fun o => (World.frozen?_of_block (a := ⟨GV, o, .none⟩) h3G).trans (fGV o)
  have K3 : Kept (fun x => x = GV ∨ gv.ownBlock = some x) w w3 := hW.grown hgr (fun x e _ => .inr e)
  have hS : g2 < w.heap.size → (g2 = GV ∨ gv.ownBlock = some g2) := fun q => .inr (hat.elim id (fun h => absurd h (by have := hW.size; omega)))
  have hat' : gv.ownBlock = some g2 ∨ w.heap.size ≤ g2 := hat.elim .inl (fun h => .inr (by have := hW.size; omega))
  have far : ∀ {W' : World} {o : Nat} {v : Value} {p : Nat} {r : Option Value}, W'.cell? ⟨GV, p, .none⟩ = r → (W'.setCell ⟨g2, o, .none⟩ v).cell? ⟨GV, p, .none⟩ = r := fun {W'} {o} {v} {p} {r} h => by
    rw [World.cell?_setCell_other _ _ _ _ (fun e => hne (congrArg Addr.block e))]; exact h
  have own6 := ((((((hown.stored (i * 6) (.int .u8 (k6 k))).1.stored (i * 6 + 1) (.bool b)).1.stored (i * 6 + 2) (.string t)).1.stored (i * 6 + 3) (.slice .none 0 0)).1.stored (i * 6 + 4) (.slice .none 0 0)).1.stored (i * 6 + 5) (.slice .none 0 0)).1
  rw [set6 xs i hl] at own6
  refine ⟨fun j hj => ?_, hown.frozenAt, c3, f3, hne, ?_, ?_⟩
  · have hj2 : i * 6 + j < (xs ++ zcells).length := by rw [List.length_append, hl]; simp [zcells]; omega
    exact ⟨(xs ++ zcells)[i * 6 + j], by rw [hown.cellAt _ (by omega)]; exact List.getElem?_eq_getElem hj2⟩
  · refine ⟨g2, cap2, World.cell?_setCell_same _ _ _ (u := gv) (far (far (far (far (far (far c3)))))), fun o => by simpa using f3 o, owns_of own6 (fun g hg => ?_), hat', ?_⟩
    · simp [Value.ownBlock] at hg; subst hg
      exact Below.heap_setCell _ _ _ _ hne
    · exact ((((((K3.setCell hS _).setCell hS _).setCell hS _).setCell hS _).setCell hS _).setCell hS _).setCell (fun _ => .inl rfl) _
  · have ownG : (w3.setCell ⟨GV, 0, .none⟩ (.slice (some ⟨g2, 0, .none⟩) (i + 1) cap2)).ownsRow B 36 6 (.slice (some ⟨g2, 0, .none⟩) (i + 1) cap2) (i + 1) (xs ++ zcells) := owns_of hown (fun g hg => by
      simp [Value.ownBlock] at hg; subst hg
      exact Below.heap_setCell _ _ _ _ hne)
    have own6' := ((((((ownG.stored (i * 6) (.int .u8 (k6 k))).1.stored (i * 6 + 1) (.bool b)).1.stored (i * 6 + 2) (.string t)).1.stored (i * 6 + 3) (.slice .none 0 0)).1.stored (i * 6 + 4) (.slice .none 0 0)).1.stored (i * 6 + 5) (.slice .none 0 0)).1
    rw [set6 xs i hl] at own6'
    refine ⟨g2, cap2, far (far (far (far (far (far (World.cell?_setCell_same _ _ _ c3)))))), fun o => by simpa using f3 o, own6', hat', ?_⟩
    exact ((((((K3.setCell (p := ⟨GV, 0, .none⟩) (fun _ => .inl rfl) _).setCell hS _).setCell hS _).setCell hS _).setCell hS _).setCell hS _).setCell hS _
end Go.Proofs.Ybulkejtm
