import Derived.Test.YbulkejtmClos
import Derived.WalkSmall
namespace Go.Proofs.Ybulkejtm
open Go.ChangeShapes Go.WideShapes Go.ChangeAt Go.RowKit

/-- The cells of the first i values. -/
def vlist (kd : Nat → Int) (bl : Nat → Bool) (tx : Nat → ByteArray) : Nat → List Value
  | 0 => []
  | i + 1 => vlist kd bl tx i ++ vcells (kd i) (bl i) (tx i)
/-- The first i copies of the path. -/
def plist (q : Nat → Nat) (n : Nat) : Nat → List Value
  | 0 => []
  | i + 1 => plist q n i ++ [.slice (some ⟨q i, 0, .none⟩) (n + 1) (n + 1)]
/-- The path at the j-th element: what it was, and one index step. -/
def pj (pcells : List Value) (j : Nat) : Nat → Value := fun o => (pcells ++ [Value.string ⟨#[]⟩, Value.int .i64 (j : Int)]).getD o undef
theorem pj_at {pcells : List Value} {j o : Nat} (hlt : o < (pcells ++ [Value.string ⟨#[]⟩, Value.int .i64 (j : Int)]).length) : (pcells ++ [Value.string ⟨#[]⟩, Value.int .i64 (j : Int)])[o]? = some (pj pcells j o) := by
  unfold pj; rw [List.getD_eq_getElem?_getD, List.getElem?_eq_getElem hlt]; rfl

theorem plist_congr {q q' : Nat → Nat} {n : Nat} : ∀ i, (∀ j, j < i → q j = q' j) → plist q n i = plist q' n i
  | 0, _ => rfl
  | i + 1, h => by unfold plist; rw [plist_congr i (fun j hj => h j (by omega)), h i (by omega)]

structure Inv (wst wr : World) (GV CV GP CK P n i : Nat) (kd : Nat → Int) (bl : Nat → Bool) (tx : Nat → ByteArray) (pcells : List Value) (ga pa : Option Addr) (gc pc pb cap : Nat) (q : Nat → Nat) : Prop where
  kept : Kept (fun x => x = GV ∨ x = GP ∨ x = CK ∨ x = P) wst wr
  cGV : wr.cell? ⟨GV, 0, .none⟩ = some (.slice ga i gc)
  fGV : ∀ o, wr.frozen? ⟨GV, o, .none⟩ = false
  oGV : wr.ownsRow wst.heap.size 36 6 (.slice ga i gc) i (vlist kd bl tx i)
  cGP : wr.cell? ⟨GP, 0, .none⟩ = some (.slice pa i pc)
  fGP : ∀ o, wr.frozen? ⟨GP, o, .none⟩ = false
  oGP : wr.ownsRow wst.heap.size 25 1 (.slice pa i pc) i (plist q n i)
  cCK : wr.cell? ⟨CK, 0, .none⟩ = some (.slice (some ⟨pb, 0, .none⟩) n cap)
  cCF : wr.cell? ⟨CK, 1, .none⟩ = some (.slice .none 0 0)
  fCK : ∀ o, wr.frozen? ⟨CK, o, .none⟩ = false
  oCK : wr.ownsRow 0 29 2 (.slice (some ⟨pb, 0, .none⟩) n cap) n pcells
  pbok : pb = P ∨ wst.heap.size ≤ pb
  dis : ∀ x, (Value.slice ga i gc).ownBlock = some x → (Value.slice pa i pc).ownBlock ≠ some x
  d1 : (Value.slice ga i gc).ownBlock ≠ some pb
  d2 : (Value.slice pa i pc).ownBlock ≠ some pb
  cp : ∀ j, j < i → wst.heap.size ≤ q j ∧ wr.rowIs (q j) 29 ((n + 1) * 2) (pj pcells j) ∧ q j ≠ pb ∧ (Value.slice ga i gc).ownBlock ≠ some (q j) ∧ (Value.slice pa i pc).ownBlock ≠ some (q j)

/-- What stands still of the blocks' numbers. -/
structure Nums (wst : World) (GV CV GP CK P : Nat) : Prop where
  lGV : GV < wst.heap.size
  lCV : CV < wst.heap.size
  lGP : GP < wst.heap.size
  lCK : CK < wst.heap.size
  lP : P < wst.heap.size
  n1 : CV ≠ GV
  n2 : GP ≠ GV
  n3 : CK ≠ GV
  n4 : P ≠ GV
  n5 : P ≠ GP
  n6 : P ≠ CK
  n7 : CK ≠ GP
  n8 : CV ≠ GP
  n9 : CV ≠ CK
  n10 : P ≠ CV
  cCV : wst.cell? ⟨CV, 0, .none⟩ = some (.pointer (some ⟨CK, 0, .none⟩))

/-- What the closure is handed. -/
structure Pre (wst w : World) (GV CV GP CK i n cap gc pc pb : Nat) (ga pa : Option Addr) (xs ys : List Value) (pcs : Nat → Value) : Prop where
  hBw : wst.heap.size ≤ w.heap.size
  cGV : w.cell? ⟨GV, 0, .none⟩ = some (.slice ga i gc)
  fGV : ∀ o, w.frozen? ⟨GV, o, .none⟩ = false
  oGV : w.ownsRow wst.heap.size 36 6 (.slice ga i gc) i xs
  cGP : w.cell? ⟨GP, 0, .none⟩ = some (.slice pa i pc)
  fGP : ∀ o, w.frozen? ⟨GP, o, .none⟩ = false
  oGP : w.ownsRow wst.heap.size 25 1 (.slice pa i pc) i ys
  cCV : w.cell? ⟨CV, 0, .none⟩ = some (.pointer (some ⟨CK, 0, .none⟩))
  cCK : w.cell? ⟨CK, 0, .none⟩ = some (.slice (some ⟨pb, 0, .none⟩) (n + 1) cap)
  cP : ∀ j, j < (n + 1) * 2 → w.cell? ⟨pb, j, .none⟩ = some (pcs j)
  oneP : ∀ j, j < (n + 1) * 2 → (pcs j).oneCell' = true
  n4 : pb ≠ GV
  n5 : (Value.slice ga i gc).ownBlock ≠ some pb
  n6 : ∀ x, (Value.slice ga i gc).ownBlock = some x → (Value.slice pa i pc).ownBlock ≠ some x

/-- What the closure leaves. -/
def Post (wst w w' : World) (GV GP i n gc pc : Nat) (ga pa : Option Addr) (xs' ys : List Value) (pcs : Nat → Value) : Prop :=
  ∃ g2 cap2 g4 cap4 q, w'.cell? ⟨GV, 0, .none⟩ = some (.slice (some ⟨g2, 0, .none⟩) (i + 1) cap2) ∧ (∀ o, w'.frozen? ⟨GV, o, .none⟩ = false) ∧ w'.ownsRow wst.heap.size 36 6 (.slice (some ⟨g2, 0, .none⟩) (i + 1) cap2) (i + 1) xs' ∧
        ((Value.slice ga i gc).ownBlock = some g2 ∨ w.heap.size ≤ g2) ∧
        w'.cell? ⟨GP, 0, .none⟩ = some (.slice (some ⟨g4, 0, .none⟩) (i + 1) cap4) ∧ (∀ o, w'.frozen? ⟨GP, o, .none⟩ = false) ∧ w'.ownsRow wst.heap.size 25 1 (.slice (some ⟨g4, 0, .none⟩) (i + 1) cap4) (i + 1) (ys ++ [.slice (some ⟨q, 0, .none⟩) (n + 1) (n + 1)]) ∧
        ((Value.slice pa i pc).ownBlock = some g4 ∨ w.heap.size ≤ g4) ∧ g2 ≠ g4 ∧ w.heap.size ≤ q ∧ q ≠ g2 ∧ q ≠ g4 ∧ w'.rowIs q 29 ((n + 1) * 2) pcs ∧
        Kept (fun x => x = GV ∨ x = GP ∨ (Value.slice ga i gc).ownBlock = some x ∨ (Value.slice pa i pc).ownBlock = some x) w w'

theorem clos_any {wst w : World} {GV CV GP CK P i n cap gc pc pb : Nat} {ga pa : Option Addr} {xs ys : List Value} {pcs : Nat → Value} (N : Nums wst GV CV GP CK P) (h : Pre wst w GV CV GP CK i n cap gc pc pb ga pa xs ys pcs) (hi : i ≤ 65536) (hn : n ≤ 65536) (k : Int) (b : Bool) (t : ByteArray) :
    Calls Yba.prog 7 #[valOf k b t, .pointer (some ⟨GV, 0, .none⟩), .pointer (some ⟨CV, 0, .none⟩), .pointer (some ⟨GP, 0, .none⟩)] w fun e w' => e = .returned (.tuple #[]) ∧ Post wst w w' GV GP i n gc pc ga pa (xs ++ vcells k b t) ys pcs :=
  clos wst.heap.size GV CV GP CK pb i n cap gc pc ga pa xs ys pcs k b t w hi hn N.lGV N.lCV N.lGP N.lCK h.hBw h.cGV h.fGV h.oGV h.cGP h.fGP h.oGP h.cCV h.cCK h.cP h.oneP N.n1 N.n2 N.n3 h.n4 h.n5 h.n6

theorem pj_one {pcells : List Value} (hp : ∀ u ∈ pcells, u.oneCell' = true) (j : Nat) {n : Nat} (hl : pcells.length = n * 2) : ∀ o, o < (n + 1) * 2 → (pj pcells j o).oneCell' = true := by
  intro o ho
  have hlt : o < (pcells ++ [Value.string ⟨#[]⟩, .int .i64 (j : Int)]).length := by simp [hl]; omega
  have e : pj pcells j o = (pcells ++ [Value.string ⟨#[]⟩, .int .i64 (j : Int)])[o] := by have := pj_at hlt; rw [List.getElem?_eq_getElem hlt] at this; simpa using this.symm
  rw [e]
  have hm := List.getElem_mem hlt
  rcases List.mem_append.1 hm with h | h
  · exact hp _ h
  · simp at h; rcases h with h | h <;> rw [h] <;> rfl

/-- What is known of the world in which the closure is called. -/
structure Mid (wst wr w4 : World) (GV GP CK P n i g' cap' pb : Nat) (ga pa : Option Addr) (gc pc : Nat) (pcells : List Value) : Prop where
  old : ∀ x, x < wr.heap.size → x ≠ pb → x ≠ CK → w4.heap[x]? = wr.heap[x]?
  size : wr.heap.size < w4.heap.size
  kept : Kept (fun x => x = GV ∨ x = GP ∨ x = CK ∨ x = P) wst w4
  own : w4.ownsRow 0 29 2 (.slice (some ⟨g', 0, .none⟩) (n + 1) cap') (n + 1) (pcells ++ [.string ⟨#[]⟩, .int .i64 (i : Int)])
  ngp : (Value.slice pa i pc).ownBlock ≠ some g'
  ngv : (Value.slice ga i gc).ownBlock ≠ some g'
  cCF : w4.cell? ⟨CK, 1, .none⟩ = some (.slice .none 0 0)
  fCK : ∀ o, w4.frozen? ⟨CK, o, .none⟩ = false
  ng1 : g' ≠ GV
  ng2 : g' ≠ GP
  ng3 : g' ≠ CK
  hg' : g' = pb ∨ wr.heap.size < g'
  pbok : g' = P ∨ wst.heap.size ≤ g'

theorem Kept.trans' {S S2 : Nat → Prop} {a b c : World} (h : Kept S a b) (k : Kept S2 b c) (hs : ∀ x, x < a.heap.size → S2 x → S x) : Kept S a c :=
  ⟨k.os.trans h.os, k.tape.trans h.tape, k.output.trans h.output, Nat.le_trans h.size k.size, fun x hx ns => (k.block x (Nat.lt_of_lt_of_le hx h.size) (fun q => ns (hs x hx q))).trans (h.block x hx ns)⟩

/-- From the round's head, behind the append to the path and its store, to the closure's call. -/
theorem round_pre {wst wr w3 : World} {GV CV GP CK P n i : Nat} {kd : Nat → Int} {bl : Nat → Bool} {tx : Nat → ByteArray} {pcells : List Value} {ga pa : Option Addr} {gc pc pb cap g' cap' : Nat} {q : Nat → Nat} {o1 o2 : Obj}
    (N : Nums wst GV CV GP CK P) (I : Inv wst wr GV CV GP CK P n i kd bl tx pcells ga pa gc pc pb cap q) (hp : ∀ u ∈ pcells, u.oneCell' = true)
    (hown : w3.ownsRow 0 29 2 (.slice (some ⟨g', 0, .none⟩) (n + 1) cap') (n + 1) (pcells ++ [.string ⟨#[]⟩, .int .i64 (i : Int)]))
    (hgr : ((wr.alloc o1).alloc o2).grownBy w3 (Value.slice (some ⟨pb, 0, .none⟩) n cap).ownBlock) (hat : (Value.slice (some ⟨pb, 0, .none⟩) n cap).ownBlock = some g' ∨ g' = ((wr.alloc o1).alloc o2).heap.size) :
    (w3.cell? ⟨CK, 0, .none⟩ = some (.slice (some ⟨pb, 0, .none⟩) n cap)) ∧ (∀ o, w3.frozen? ⟨CK, o, .none⟩ = false) ∧ (∀ x, x < wr.heap.size + 2 → x ≠ pb → w3.heap[x]? = ((wr.alloc o1).alloc o2).heap[x]?) ∧ CK ≠ wr.heap.size ∧ n + 1 ≤ cap' ∧ Mid wst wr (w3.setCell ⟨CK, 0, .none⟩ (.slice (some ⟨g', 0, .none⟩) (n + 1) cap')) GV GP CK P n i g' cap' pb ga pa gc pc pcells ∧
      Pre wst (w3.setCell ⟨CK, 0, .none⟩ (.slice (some ⟨g', 0, .none⟩) (n + 1) cap')) GV CV GP CK i n cap' gc pc g' ga pa (vlist kd bl tx i) (plist q n i) (pj pcells i) := by
  have hk := I.kept.size
  have hpb := owns_lt I.oCK (g := pb) rfl
  have hl := I.oCK.1
  have blk : ∀ x, x < wr.heap.size + 2 → x ≠ pb → w3.heap[x]? = ((wr.alloc o1).alloc o2).heap[x]? := fun x h1 h2 => hgr.block x (by simp; omega) (by simp [Value.ownBlock]; exact h2)
  have old : ∀ x, x < wr.heap.size → x ≠ pb → w3.heap[x]? = wr.heap[x]? := fun x h1 h2 => (blk x (by omega) h2).trans (((Grow.refl wr).alloc o1).alloc o2 |>.block h1)
  have hP := N.lP
  have ncK : CK ≠ pb := by rcases I.pbok with h | h; · rw [h]; exact N.n6.symm
                           · have := N.lCK; omega
  have nGV : GV ≠ pb := by rcases I.pbok with h | h; · rw [h]; exact N.n4.symm
                           · have := N.lGV; omega
  have nGP : GP ≠ pb := by rcases I.pbok with h | h; · rw [h]; exact N.n5.symm
                           · have := N.lGP; omega
  have nCV : CV ≠ pb := by rcases I.pbok with h | h; · rw [h]; exact N.n10.symm
                           · have := N.lCV; omega
  have lGV := N.lGV
  have lGP := N.lGP
  have lCV := N.lCV
  have lCK := N.lCK
  have hg' : g' = pb ∨ g' = wr.heap.size + 2 := hat.elim (fun h => .inl (by simp [Value.ownBlock] at h; exact h.symm)) (fun h => .inr (by simpa using h))
  have hg3 := owns_lt hown (g := g') rfl
  have ngGV : g' ≠ GV := by rcases hg' with h | h <;> omega
  have ngGP : g' ≠ GP := by rcases hg' with h | h <;> omega
  have ngCK : g' ≠ CK := by rcases hg' with h | h <;> omega
  have ngCV : g' ≠ CV := by rcases hg' with h | h <;> omega
  have ngv : (Value.slice ga i gc).ownBlock ≠ some g' := by
    rcases hg' with h | h
    · rw [h]; exact I.d1
    · intro e; have := (owns_lt I.oGV e).1; omega
  have ncap : n + 1 ≤ cap' := by
    rcases hown.2 with ⟨h', _⟩ | ⟨g1, c1, cur, h', _, _, hnc, _⟩
    · simp at h'
    · simp at h'; omega
  have c3 : w3.cell? ⟨CK, 0, .none⟩ = some (.slice (some ⟨pb, 0, .none⟩) n cap) := (World.cell?_of_block (a := ⟨CK, 0, .none⟩) (old CK (by omega) ncK)).trans I.cCK
  -- the store into the checker
  have b4 : ∀ x, x ≠ CK → (w3.setCell ⟨CK, 0, .none⟩ (.slice (some ⟨g', 0, .none⟩) (n + 1) cap')).heap[x]? = w3.heap[x]? := fun x hx => Below.heap_setCell _ _ _ _ hx
  have ob : ∀ x, x < wr.heap.size → x ≠ pb → x ≠ CK → (w3.setCell ⟨CK, 0, .none⟩ (.slice (some ⟨g', 0, .none⟩) (n + 1) cap')).heap[x]? = wr.heap[x]? := fun x h1 h2 h3 => (b4 x h3).trans (old x h1 h2)
  refine ⟨c3, fun o => (World.frozen?_of_block (a := ⟨CK, o, .none⟩) (old CK (by omega) ncK)).trans (I.fCK o), blk, by omega, ncap, ?_, ?_⟩
  · have ngp : (Value.slice pa i pc).ownBlock ≠ some g' := by
      rcases hg' with h | h
      · rw [h]; exact I.d2
      · intro e; have := (owns_lt I.oGP e).1; omega
    refine ⟨ob, by have := hgr.size; simp at this ⊢; omega, ?_, ?_, ngp, ngv, ?_, ?_, ngGV, ngGP, ngCK, hg'.elim .inl (fun h => .inr (by omega)), ?_⟩
    · have hrow : ∀ x, (Value.slice (some ⟨pb, 0, .none⟩) n cap).ownBlock = some x → x < wst.heap.size → (x = GV ∨ x = GP ∨ x = CK ∨ x = P) := fun x e hx => by
        have e' : pb = x := by simpa [Value.ownBlock] using e
        subst e'
        exact I.pbok.elim (fun h => .inr (.inr (.inr h))) (fun h => absurd h (by omega))
      exact (((I.kept.alloc o1).alloc o2).grown hgr hrow).setCell (fun _ => .inr (.inr (.inl rfl))) _
    · exact owns_of hown (fun x hx => by simp [Value.ownBlock] at hx; subst hx; exact b4 _ ngCK)
    · rw [World.cell?_setCell_other _ _ _ _ (fun e => absurd (congrArg Addr.off e) (show (0 : Nat) ≠ 1 by decide))]
      exact (World.cell?_of_block (a := ⟨CK, 1, .none⟩) (old CK (by omega) ncK)).trans I.cCF
    · intro o
      exact (World.frozen?_setCell ..).trans ((World.frozen?_of_block (a := ⟨CK, o, .none⟩) (old CK (by omega) ncK)).trans (I.fCK o))
    · rcases hg' with h | h
      · rw [h]; exact I.pbok
      · exact .inr (by omega)
  · refine ⟨by have := hgr.size; simp at this ⊢; omega, ?_, ?_, ?_, ?_, ?_, ?_, ?_, World.cell?_setCell_same _ _ _ c3, ?_, pj_one hp i hl, ngGV, ngv, I.dis⟩
    · exact (World.cell?_of_block (a := ⟨GV, 0, .none⟩) (ob GV (by omega) nGV N.n3.symm)).trans I.cGV
    · intro o; exact (World.frozen?_of_block (a := ⟨GV, o, .none⟩) (ob GV (by omega) nGV N.n3.symm)).trans (I.fGV o)
    · exact owns_of I.oGV (fun x hx => ob x (owns_lt I.oGV hx).1 (fun e => I.d1 (by rw [← e]; exact hx)) (by have := (owns_lt I.oGV hx).2; omega))
    · exact (World.cell?_of_block (a := ⟨GP, 0, .none⟩) (ob GP (by omega) nGP N.n7.symm)).trans I.cGP
    · intro o; exact (World.frozen?_of_block (a := ⟨GP, o, .none⟩) (ob GP (by omega) nGP N.n7.symm)).trans (I.fGP o)
    · exact owns_of I.oGP (fun x hx => ob x (owns_lt I.oGP hx).1 (fun e => I.d2 (by rw [← e]; exact hx)) (by have := (owns_lt I.oGP hx).2; omega))
    · refine (World.cell?_of_block (a := ⟨CV, 0, .none⟩) (ob CV (by omega) nCV N.n9)).trans (I.kept.cell N.cCV ?_)
      intro h; rcases h with h | h | h | h
      · exact N.n1 h
      · exact N.n8 h
      · exact N.n9 h
      · exact N.n10 h.symm
    · intro o ho
      rw [World.cell?_setCell_other _ _ _ _ (fun e => ngCK (congrArg Addr.block e).symm), hown.cellAt o (by omega)]
      have hlt : o < (pcells ++ [Value.string ⟨#[]⟩, .int .i64 (i : Int)]).length := by simp [hl]; omega
      exact pj_at hlt

/-- From the closure's end, behind the path's cut, to the next round's head. -/
theorem round_post {wst wr w4 w5 : World} {GV CV GP CK P n i : Nat} {kd : Nat → Int} {bl : Nat → Bool} {tx : Nat → ByteArray} {pcells : List Value} {ga pa : Option Addr} {gc pc pb cap g' cap' : Nat} {q : Nat → Nat}
    (N : Nums wst GV CV GP CK P) (I : Inv wst wr GV CV GP CK P n i kd bl tx pcells ga pa gc pc pb cap q) (M : Mid wst wr w4 GV GP CK P n i g' cap' pb ga pa gc pc pcells)
    (cCK : w4.cell? ⟨CK, 0, .none⟩ = some (.slice (some ⟨g', 0, .none⟩) (n + 1) cap'))
    (h : Post wst w4 w5 GV GP i n gc pc ga pa (vlist kd bl tx i ++ vcells (kd i) (bl i) (tx i)) (plist q n i) (pj pcells i)) :
    w5.cell? ⟨CK, 0, .none⟩ = some (.slice (some ⟨g', 0, .none⟩) (n + 1) cap') ∧ (∀ o, w5.frozen? ⟨CK, o, .none⟩ = false) ∧
    ∃ ga' pa' gc' pc' q', Inv wst (w5.setCell ⟨CK, 0, .none⟩ (.slice (some ⟨g', 0, .none⟩) n cap')) GV CV GP CK P n (i + 1) kd bl tx pcells ga' pa' gc' pc' g' cap' q' := by
  obtain ⟨g2, cap2, g4, cap4, qn, p1, p2, p3, p4, p5, p6, p7, p8, p9, p10, p11, p12, p13, p14⟩ := h
  have hs4 := M.size
  have hk := I.kept.size
  have lCK := N.lCK
  have lGV := N.lGV
  have lGP := N.lGP
  have gvge : ∀ x, (Value.slice ga i gc).ownBlock = some x → wst.heap.size ≤ x ∧ x < wr.heap.size := fun x hx => ⟨(owns_lt I.oGV hx).2, (owns_lt I.oGV hx).1⟩
  have gpge : ∀ x, (Value.slice pa i pc).ownBlock = some x → wst.heap.size ≤ x ∧ x < wr.heap.size := fun x hx => ⟨(owns_lt I.oGP hx).2, (owns_lt I.oGP hx).1⟩
  have hg4 := owns_lt M.own (g := g') rfl
  -- the checker's block through the closure
  have sCK : ¬ (CK = GV ∨ CK = GP ∨ (Value.slice ga i gc).ownBlock = some CK ∨ (Value.slice pa i pc).ownBlock = some CK) := by
    intro e; rcases e with e | e | e | e
    · exact N.n3 e
    · exact N.n7 e
    · have := gvge _ e; omega
    · have := gpge _ e; omega
  have sG : ¬ (g' = GV ∨ g' = GP ∨ (Value.slice ga i gc).ownBlock = some g' ∨ (Value.slice pa i pc).ownBlock = some g') := by
    intro e; rcases e with e | e | e | e
    · exact M.ng1 e
    · exact M.ng2 e
    · exact M.ngv e
    · exact M.ngp e
  have c5 := p14.cell cCK sCK
  have f5 : ∀ o, w5.frozen? ⟨CK, o, .none⟩ = false := fun o => (p14.frozen (p := ⟨CK, o, .none⟩) (show CK < w4.heap.size by omega) sCK).trans (M.fCK o)
  have b6 : ∀ x, x ≠ CK → (w5.setCell ⟨CK, 0, .none⟩ (.slice (some ⟨g', 0, .none⟩) n cap')).heap[x]? = w5.heap[x]? := fun x hx => Below.heap_setCell _ _ _ _ hx
  have g2ge := (owns_lt p3 (g := g2) rfl)
  have g4ge := (owns_lt p7 (g := g4) rfl)
  refine ⟨c5, f5, some ⟨g2, 0, .none⟩, some ⟨g4, 0, .none⟩, cap2, cap4, (fun j => if j = i then qn else q j), ?_⟩
  constructor
  · refine (M.kept.trans' p14 (fun x hx e => ?_)).setCell (fun _ => .inr (.inr (.inl rfl))) _
    rcases e with e | e | e | e
    · exact .inl e
    · exact .inr (.inl e)
    · have := gvge x e; omega
    · have := gpge x e; omega
  · exact (World.cell?_of_block (a := ⟨GV, 0, .none⟩) (b6 GV N.n3.symm)).trans p1
  · intro o; exact (World.frozen?_setCell ..).trans (p2 o)
  · exact owns_of p3 (fun x hx => by simp [Value.ownBlock] at hx; subst hx; exact b6 _ (by omega))
  · exact (World.cell?_of_block (a := ⟨GP, 0, .none⟩) (b6 GP N.n7.symm)).trans p5
  · intro o; exact (World.frozen?_setCell ..).trans (p6 o)
  · have e : plist (fun j => if j = i then qn else q j) n (i + 1) = plist q n i ++ [.slice (some ⟨qn, 0, .none⟩) (n + 1) (n + 1)] := by
      show plist _ n i ++ _ = _
      rw [plist_congr (q := fun j => if j = i then qn else q j) (q' := q) i (fun j hj => if_neg (by omega))]
      simp
    rw [e]
    exact owns_of p7 (fun x hx => by simp [Value.ownBlock] at hx; subst hx; exact b6 _ (by omega))
  · exact World.cell?_setCell_same _ _ _ c5
  · rw [World.cell?_setCell_other _ _ _ _ (fun e => absurd (congrArg Addr.off e) (show (0 : Nat) ≠ 1 by decide))]
    exact p14.cell M.cCF sCK
  · intro o; exact (World.frozen?_setCell ..).trans (f5 o)
  · have o5 : w5.ownsRow 0 29 2 (.slice (some ⟨g', 0, .none⟩) (n + 1) cap') (n + 1) (pcells ++ [.string ⟨#[]⟩, .int .i64 (i : Int)]) := p14.owns M.own (fun x hx => by simp [Value.ownBlock] at hx; subst hx; exact sG)
    exact owns_of (ownsRow_pop I.oCK.1 o5) (fun x hx => by simp [Value.ownBlock] at hx; subst hx; exact b6 _ M.ng3)
  · exact M.pbok
  · intro x hx e
    simp [Value.ownBlock] at hx e; omega
  · intro e
    simp [Value.ownBlock] at e; subst e
    exact p4.elim M.ngv (fun h => by omega)
  · intro e
    simp [Value.ownBlock] at e; subst e
    exact p8.elim M.ngp (fun h => by omega)
  · intro j hj
    by_cases e : j = i
    · subst e
      simp only [if_true]
      refine ⟨by omega, p13.of_block (b6 qn (by omega)), by omega, ?_, ?_⟩
      · simp [Value.ownBlock]; omega
      · simp [Value.ownBlock]; omega
    · rw [if_neg e]
      obtain ⟨k1, k2, k3, k4, k5⟩ := I.cp j (by omega)
      have hqj := k2.lt
      have sQ : ¬ (q j = GV ∨ q j = GP ∨ (Value.slice ga i gc).ownBlock = some (q j) ∨ (Value.slice pa i pc).ownBlock = some (q j)) := by
        intro e; rcases e with e | e | e | e
        · omega
        · omega
        · exact k4 e
        · exact k5 e
      refine ⟨k1, ((p14.row (k2.of_block (M.old (q j) hqj k3 (by omega))) sQ).of_block (b6 (q j) (by omega))), ?_, ?_, ?_⟩
      · rcases M.hg' with h | h
        · rw [h]; exact k3
        · omega
      · intro e; simp [Value.ownBlock] at e; subst e
        exact p4.elim k4 (fun h => by omega)
      · intro e; simp [Value.ownBlock] at e; subst e
        exact p8.elim k5 (fun h => by omega)
end Go.Proofs.Ybulkejtm
