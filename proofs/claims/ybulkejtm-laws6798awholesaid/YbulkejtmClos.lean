import Derived.Test.YbulkejtmKept
import Derived.Deep.DeepCutAuto
import Derived.Deep.RegionLaw
namespace Go.Proofs.Ybulkejtm
open Go.ChangeShapes Go.WideShapes Go.ChangeAt Go.RowKit

theorem r1_use {B GV i gc : Nat} {ga : Option Addr} {xs : List Value} {k : Int} {b : Bool} {t : ByteArray} {w w3 : World} {o1 o2 : Obj} {g2 cap2 : Nat} (hO : w.ownsRow B 36 6 (.slice ga i gc) i xs) (lGV : GV < B) (hBw : B ≤ w.heap.size)
    (cGV : w.cell? ⟨GV, 0, .none⟩ = some (.slice ga i gc)) (fGV : ∀ o, w.frozen? ⟨GV, o, .none⟩ = false)
    (hown : w3.ownsRow B 36 6 (.slice (some ⟨g2, 0, .none⟩) (i + 1) cap2) (i + 1) (xs ++ zcells)) (hgr : ((w.alloc o1).alloc o2).drew.grownBy w3 (Value.slice ga i gc).ownBlock) (hat : (Value.slice ga i gc).ownBlock = some g2 ∨ g2 = ((w.alloc o1).alloc o2).drew.heap.size) :
    (∃ v, w3.cell? ⟨g2, i * 6, .none⟩ = some v) ∧ (∃ v, w3.cell? ⟨g2, i * 6 + 1, .none⟩ = some v) ∧ (∃ v, w3.cell? ⟨g2, i * 6 + 2, .none⟩ = some v) ∧ (∃ v, w3.cell? ⟨g2, i * 6 + 3, .none⟩ = some v) ∧ (∃ v, w3.cell? ⟨g2, i * 6 + 4, .none⟩ = some v) ∧ (∃ v, w3.cell? ⟨g2, i * 6 + 5, .none⟩ = some v) ∧
      (∀ o, w3.frozen? ⟨g2, o, .none⟩ = false) ∧ w3.cell? ⟨GV, 0, .none⟩ = some (.slice ga i gc) ∧ (∀ o, w3.frozen? ⟨GV, o, .none⟩ = false) ∧ g2 ≠ GV ∧ GV ≠ g2 ∧
    R1 B GV i (.slice ga i gc) xs k b t w ((((((((w3.setCell ⟨g2, i * 6, .none⟩ (.int .u8 (k6 k))).setCell ⟨g2, i * 6 + 1, .none⟩ (.bool b)).setCell ⟨g2, i * 6 + 2, .none⟩ (.string t)).setCell ⟨g2, i * 6 + 3, .none⟩ (.slice .none 0 0)).setCell ⟨g2, i * 6 + 4, .none⟩ (.slice .none 0 0)).setCell ⟨g2, i * 6 + 5, .none⟩ (.slice .none 0 0)).setCell ⟨GV, 0, .none⟩ (.slice (some ⟨g2, 0, .none⟩) (i + 1) cap2))) ∧
    R1 B GV i (.slice ga i gc) xs k b t w ((((((((w3.setCell ⟨GV, 0, .none⟩ (.slice (some ⟨g2, 0, .none⟩) (i + 1) cap2)).setCell ⟨g2, i * 6, .none⟩ (.int .u8 (k6 k))).setCell ⟨g2, i * 6 + 1, .none⟩ (.bool b)).setCell ⟨g2, i * 6 + 2, .none⟩ (.string t)).setCell ⟨g2, i * 6 + 3, .none⟩ (.slice .none 0 0)).setCell ⟨g2, i * 6 + 4, .none⟩ (.slice .none 0 0)).setCell ⟨g2, i * 6 + 5, .none⟩ (.slice .none 0 0))) := by
  have G : Grow w ((w.alloc o1).alloc o2).drew := (((Grow.refl w).alloc o1).alloc o2).drew
  obtain ⟨h1, h2, h3, h4, h5, h6, h7⟩ := r1_mk (k := k) (b := b) (t := t) (((Kept.refl _ w).alloc o1).alloc o2).drew lGV hBw hO.1 cGV fGV (G.block (by omega)) (fun x hx => (owns_lt hO hx).2) hown hgr hat
  exact ⟨h1 0 (by omega), h1 1 (by omega), h1 2 (by omega), h1 3 (by omega), h1 4 (by omega), h1 5 (by omega), h2, h3, h4, h5, fun e => h5 e.symm, h6, h7⟩

theorem copy_src {w w' : World} {pb N : Nat} {f : Nat → Value} (h : ∀ j, j < N → w.cell? ⟨pb, j, .none⟩ = some (f j)) (hg : Grow w w') : ∀ j, j < N → w'.cell? ((⟨pb, 0, .none⟩ : Addr).add j) = some (f j) := fun j hj => by
  have e : (⟨pb, 0, .none⟩ : Addr).add j = ⟨pb, j, .none⟩ := by unfold Addr.add; split <;> simp_all
  rw [e]; exact hg.cell (h j hj)
theorem one_slice (a : Option Addr) (n c : Nat) : ∀ u ∈ [Value.slice a n c], u.oneCell' = true := by
  intro u hu; simp at hu; subst hu; rfl
theorem mid_mk {wc wm wd : World} {R : Nat} (hR : R = wc.heap.size) (hg : Grow wc wm) (hb : Below R wm wd) (_hs : wd.heap.size = wm.heap.size) : Grow wc wd := by
  subst hR; exact Below.trans hg hb
theorem Grow.froz {w w' : World} (h : Grow w w') {b : Nat} {v : Value} (hc : w.cell? ⟨b, 0, .none⟩ = some v) (hf : ∀ o, w.frozen? ⟨b, o, .none⟩ = false) : ∀ o, w'.frozen? ⟨b, o, .none⟩ = false := fun o => by
  rw [Below.frozen h (p := ⟨b, o, .none⟩) (World.block_lt_of_cell? w ⟨b, 0, .none⟩ hc)]; exact hf o
theorem app_block {wc wd w4 : World} {GP B i pc : Nat} {pa : Option Addr} {ys : List Value} {o : Obj} (lGP : GP < B) (hB : B ≤ wc.heap.size) (hM : Grow wc wd) (hO : wc.ownsRow B 25 1 (.slice pa i pc) i ys) (hgr : (wd.alloc o).grownBy w4 (Value.slice pa i pc).ownBlock) : w4.heap[GP]? = wd.heap[GP]? := by
  have hs := hM.size
  rw [hgr.block GP (by simp; omega) (fun e => by have := (owns_lt hO e.symm).2; omega), Below.heap_alloc _ _ _ (by omega)]
theorem app_cell {wc wd w4 w : World} {GP B i pc : Nat} {pa : Option Addr} {ys : List Value} {o : Obj} {v : Value} (lGP : GP < B) (hBw : B ≤ w.heap.size) (lwc : w.heap.size ≤ wc.heap.size) (hM : Grow wc wd) (hO : wc.ownsRow B 25 1 (.slice pa i pc) i ys) (hgr : (wd.alloc o).grownBy w4 (Value.slice pa i pc).ownBlock)
    (hc : wd.cell? ⟨GP, 0, .none⟩ = some v) : w4.cell? ⟨GP, 0, .none⟩ = some v :=
  (World.cell?_of_block (a := ⟨GP, 0, .none⟩) (app_block lGP (by omega) hM hO hgr)).trans hc
theorem app_froz {wc wd w4 w : World} {GP B i pc : Nat} {pa : Option Addr} {ys : List Value} {o : Obj} (lGP : GP < B) (hBw : B ≤ w.heap.size) (lwc : w.heap.size ≤ wc.heap.size) (hM : Grow wc wd) (hO : wc.ownsRow B 25 1 (.slice pa i pc) i ys) (hgr : (wd.alloc o).grownBy w4 (Value.slice pa i pc).ownBlock)
    (hc : ∀ q, wd.frozen? ⟨GP, q, .none⟩ = false) : ∀ q, w4.frozen? ⟨GP, q, .none⟩ = false := fun q =>
  (World.frozen?_of_block (a := ⟨GP, q, .none⟩) (app_block lGP (by omega) hM hO hgr)).trans (hc q)

theorem clos_end {B GV GP i n gc pc g2 cap2 g4 cap4 R : Nat} {ga pa : Option Addr} {xs' ys ys' : List Value} {pcs : Nat → Value} {w wc wd w4 : World} {o : Obj} (lGV : GV < B) (lGP : GP < B) (hBw : B ≤ w.heap.size) (n2 : GV ≠ GP)
    (oGP : w.ownsRow B 25 1 (.slice pa i pc) i ys) (n6 : ∀ x, (Value.slice ga i gc).ownBlock = some x → (Value.slice pa i pc).ownBlock ≠ some x)
    (r1 : wc.cell? ⟨GV, 0, .none⟩ = some (.slice (some ⟨g2, 0, .none⟩) (i + 1) cap2)) (r2 : ∀ o, wc.frozen? ⟨GV, o, .none⟩ = false) (r3 : wc.ownsRow B 36 6 (.slice (some ⟨g2, 0, .none⟩) (i + 1) cap2) (i + 1) xs')
    (r4 : (Value.slice ga i gc).ownBlock = some g2 ∨ w.heap.size ≤ g2) (r5 : Kept (fun x => x = GV ∨ (Value.slice ga i gc).ownBlock = some x) w wc) (M : Grow wc wd) (hR : R = wc.heap.size) (hrd : wd.rowIs R 29 ((n + 1) * 2) pcs)
    (hown4 : w4.ownsRow B 25 1 (.slice (some ⟨g4, 0, .none⟩) (i + 1) cap4) (i + 1) ys') (hgr4 : (wd.alloc o).grownBy w4 (Value.slice pa i pc).ownBlock) (hat4 : (Value.slice pa i pc).ownBlock = some g4 ∨ g4 = (wd.alloc o).heap.size)
    (q5 : w4.cell? ⟨GP, 0, .none⟩ = some (.slice pa i pc)) (q6 : ∀ q, w4.frozen? ⟨GP, q, .none⟩ = false) :
    let w' := w4.setCell ⟨GP, 0, .none⟩ (.slice (some ⟨g4, 0, .none⟩) (i + 1) cap4)
    w'.cell? ⟨GV, 0, .none⟩ = some (.slice (some ⟨g2, 0, .none⟩) (i + 1) cap2) ∧ (∀ o, w'.frozen? ⟨GV, o, .none⟩ = false) ∧ w'.ownsRow B 36 6 (.slice (some ⟨g2, 0, .none⟩) (i + 1) cap2) (i + 1) xs' ∧
        ((Value.slice ga i gc).ownBlock = some g2 ∨ w.heap.size ≤ g2) ∧
        w'.cell? ⟨GP, 0, .none⟩ = some (.slice (some ⟨g4, 0, .none⟩) (i + 1) cap4) ∧ (∀ o, w'.frozen? ⟨GP, o, .none⟩ = false) ∧ w'.ownsRow B 25 1 (.slice (some ⟨g4, 0, .none⟩) (i + 1) cap4) (i + 1) ys' ∧
        ((Value.slice pa i pc).ownBlock = some g4 ∨ w.heap.size ≤ g4) ∧ g2 ≠ g4 ∧ w.heap.size ≤ R ∧ R ≠ g2 ∧ R ≠ g4 ∧ w'.rowIs R 29 ((n + 1) * 2) pcs ∧
        Kept (fun x => x = GV ∨ x = GP ∨ (Value.slice ga i gc).ownBlock = some x ∨ (Value.slice pa i pc).ownBlock = some x) w w' := by
  intro w'
  have s1 := r5.size
  have s2 := M.size
  have hg2 := owns_lt r3 (g := g2) rfl
  have hg4 := owns_lt hown4 (g := g4) rfl
  have hpb : ∀ x, (Value.slice pa i pc).ownBlock = some x → x < w.heap.size ∧ B ≤ x := fun x hx => owns_lt oGP hx
  have hg4' : (Value.slice pa i pc).ownBlock = some g4 ∨ g4 = wd.heap.size + 1 := hat4.elim .inl (fun h => .inr (by simpa using h))
  -- a block of wd that is neither GP nor gotP's row
  have blk : ∀ x, x < wd.heap.size → x ≠ GP → (Value.slice pa i pc).ownBlock ≠ some x → w'.heap[x]? = wd.heap[x]? := fun x h1 h2 h3 => by
    rw [Below.heap_setCell _ _ _ _ h2, hgr4.block x (by simp; omega) (fun e => h3 e.symm), Below.heap_alloc _ _ _ h1]
  have nGV : (Value.slice pa i pc).ownBlock ≠ some GV := fun e => by have := hpb GV e; omega
  have n2g : (Value.slice pa i pc).ownBlock ≠ some g2 := fun e => r4.elim (fun h => n6 g2 h e) (fun h => by have := hpb g2 e; omega)
  have nR : (Value.slice pa i pc).ownBlock ≠ some R := fun e => by have := hpb R e; omega
  refine ⟨?_, ?_, ?_, r4, World.cell?_setCell_same _ _ _ q5, fun o => (World.frozen?_setCell ..).trans (q6 o), ?_, ?_, ?_, by omega, by omega, ?_, ?_, ?_⟩
  · rw [World.cell?_of_block (a := ⟨GV, 0, .none⟩) ((blk GV (by omega) n2 nGV).trans (M.block (by omega)))]; exact r1
  · intro o; rw [World.frozen?_of_block (a := ⟨GV, o, .none⟩) ((blk GV (by omega) n2 nGV).trans (M.block (by omega)))]; exact r2 o
  · exact owns_of r3 (fun g hg => by simp [Value.ownBlock] at hg; subst hg; exact (blk g2 (by omega) (by omega) n2g).trans (M.block hg2.1))
  · exact owns_of hown4 (fun g hg => by simp [Value.ownBlock] at hg; subst hg; exact Below.heap_setCell _ _ _ _ (by dsimp only; omega))
  · exact hg4'.elim .inl (fun h => .inr (by omega))
  · intro e; subst e; exact hg4'.elim n2g (fun h => by omega)
  · intro e; subst e; exact hg4'.elim nR (fun h => by omega)
  · exact hrd.of_block (blk R hrd.lt (by omega) nR)
  · have k1 : Kept (fun x => x = GV ∨ x = GP ∨ (Value.slice ga i gc).ownBlock = some x ∨ (Value.slice pa i pc).ownBlock = some x) w wc := r5.weaken (fun x _ h => h.elim .inl (fun h => .inr (.inr (.inl h))))
    exact (((k1.grow M).alloc o).grown hgr4 (fun k e _ => .inr (.inr (.inr e)))).setCell (fun _ => .inr (.inl rfl)) _

set_option maxRecDepth 100000 in
set_option maxHeartbeats 2000000 in
theorem clos (B GV CV GP CK pb i n cap gc pc : Nat) (ga pa : Option Addr) (xs ys : List Value) (pcs : Nat → Value) (k : Int) (b : Bool) (t : ByteArray) (w : World)
    (hi : i ≤ 65536) (hn : n ≤ 65536) (lGV : GV < B) (lCV : CV < B) (lGP : GP < B) (lCK : CK < B) (hBw : B ≤ w.heap.size)
    (cGV : w.cell? ⟨GV, 0, .none⟩ = some (.slice ga i gc)) (fGV : ∀ o, w.frozen? ⟨GV, o, .none⟩ = false) (oGV : w.ownsRow B 36 6 (.slice ga i gc) i xs)
    (cGP : w.cell? ⟨GP, 0, .none⟩ = some (.slice pa i pc)) (fGP : ∀ o, w.frozen? ⟨GP, o, .none⟩ = false) (oGP : w.ownsRow B 25 1 (.slice pa i pc) i ys)
    (cCV : w.cell? ⟨CV, 0, .none⟩ = some (.pointer (some ⟨CK, 0, .none⟩))) (cCK : w.cell? ⟨CK, 0, .none⟩ = some (.slice (some ⟨pb, 0, .none⟩) (n + 1) cap))
    (cP : ∀ j, j < (n + 1) * 2 → w.cell? ⟨pb, j, .none⟩ = some (pcs j)) (oneP : ∀ j, j < (n + 1) * 2 → (pcs j).oneCell' = true)
    (n1 : CV ≠ GV) (n2 : GP ≠ GV) (n3 : CK ≠ GV) (n4 : pb ≠ GV) (n5 : (Value.slice ga i gc).ownBlock ≠ some pb) (n6 : ∀ x, (Value.slice ga i gc).ownBlock = some x → (Value.slice pa i pc).ownBlock ≠ some x) :
    Calls Yba.prog 7 #[valOf k b t, .pointer (some ⟨GV, 0, .none⟩), .pointer (some ⟨CV, 0, .none⟩), .pointer (some ⟨GP, 0, .none⟩)] w fun e w' => e = .returned (.tuple #[]) ∧
      ∃ g2 cap2 g4 cap4 q, w'.cell? ⟨GV, 0, .none⟩ = some (.slice (some ⟨g2, 0, .none⟩) (i + 1) cap2) ∧ (∀ o, w'.frozen? ⟨GV, o, .none⟩ = false) ∧ w'.ownsRow B 36 6 (.slice (some ⟨g2, 0, .none⟩) (i + 1) cap2) (i + 1) (xs ++ vcells k b t) ∧
        ((Value.slice ga i gc).ownBlock = some g2 ∨ w.heap.size ≤ g2) ∧
        w'.cell? ⟨GP, 0, .none⟩ = some (.slice (some ⟨g4, 0, .none⟩) (i + 1) cap4) ∧ (∀ o, w'.frozen? ⟨GP, o, .none⟩ = false) ∧ w'.ownsRow B 25 1 (.slice (some ⟨g4, 0, .none⟩) (i + 1) cap4) (i + 1) (ys ++ [.slice (some ⟨q, 0, .none⟩) (n + 1) (n + 1)]) ∧
        ((Value.slice pa i pc).ownBlock = some g4 ∨ w.heap.size ≤ g4) ∧ g2 ≠ g4 ∧ w.heap.size ≤ q ∧ q ≠ g2 ∧ q ≠ g4 ∧ w'.rowIs q 29 ((n + 1) * 2) pcs ∧
        Kept (fun x => x = GV ∨ x = GP ∨ (Value.slice ga i gc).ownBlock = some x ∨ (Value.slice pa i pc).ownBlock = some x) w w' := by
  obtain ⟨i0, hi0, hz0, hz1, hz2⟩ := info_parts Yba.info36
  have HoGV := hide oGV
  have HoGP := hide oGP
  have HP := hide cP
  have HoneP := hide oneP
  have N5 := hide n5
  have N6 := hide n6
  clear oGV oGP cP oneP n5 n6
  have lw : GV < w.heap.size := by omega
  go_enter Yba.func7, Yba.ntmps7
  go_upto_region 1 with (fail)
  go_cut [] (fun wx => Hid (R1 B GV i (.slice ga i gc) xs k b t w wx))
  case first =>
    have hgb : ∀ x, (Value.slice ga i gc).ownBlock = some x → B ≤ x := fun x hx => (owns_lt (unhide HoGV) hx).2
    have Hgb := hide hgb
    clear hgb
    have cGV' : ∀ o, (w.alloc o).cell? ⟨GV, 0, .none⟩ = some (.slice ga i gc) := fun o => ((Grow.refl w).alloc o).cell cGV
    have cGV2 : ∀ o o', ((w.alloc o).alloc o').cell? ⟨GV, 0, .none⟩ = some (.slice ga i gc) := fun o o' => (((Grow.refl w).alloc o).alloc o').cell cGV
    have hii : (i : Int) < (i : Int) + 1 := by omega
    have zn := z_new (w.alloc (.cells #[.int .u8 (k6 k), .bool b, .string t, .slice .none 0 0, .slice .none 0 0, .slice .none 0 0] 36))
    rw [World.size_alloc] at zn
    have Zn := hide zn
    clear zn
    go_region_law (refine step_append_lies _ rfl (.tmp 6) (.tmp 9) 30 rfl B 36 i0 _ 6 96 Yba.underlying30 hi0 hz0 hz1 hz2 rfl (by decide) (.slice ga i gc) i xs (by first | (simp [Act.eval]; done) | simp [Act.eval, Act.put]) (by exact ((unhide HoGV).alloc _).alloc _) ⟨w.heap.size + 1, 0, .none⟩ 1 1 zcells (by first | (simp [Act.eval]; done) | simp [Act.eval, Act.put]) rfl (by exact unhide Zn) zcells_one (by decide) (by unfold maxLen; omega) (by omega) (by simp; omega) _ rfl ?_; intro g2 cap2 w3 hown3 hgr3 hat hlt3; have R := r1_use (k := k) (b := b) (t := t) (unhide HoGV) lGV hBw cGV fGV hown3 hgr3 hat; clear hown3 hgr3 hat; obtain ⟨⟨v0, e0⟩, ⟨v1, e1⟩, ⟨v2, e2⟩, ⟨v3, e3⟩, ⟨v4, e4⟩, ⟨v5, e5⟩, fz2, c3, f3, hne, hne2, hR1, hR2⟩ := R; have HR1 := hide hR1; have HR2 := hide hR2; clear hR1 hR2)
    all_goals
      go_wp2_with fail
      go_meet
      case rel => first | (with_reducible exact HR1) | (with_reducible exact HR2)
  case rest =>
    obtain ⟨g2, cap2, r1, r2, r3, r4, r5⟩ := unhide hcut
    clear hcut
    obtain ⟨i1, hi1, hy0, hy1, hy2⟩ := info_parts Yba.info29
    obtain ⟨i2, hi2, hx0, hx1, hx2⟩ := info_parts Yba.info25
    have hsz2 : (Yba.prog.info? 29).map (·.size) = some 2 := by rw [hi1]; simp [hy1]
    have hgb : ∀ x, (Value.slice ga i gc).ownBlock = some x → B ≤ x := fun x hx => (owns_lt (unhide HoGV) hx).2
    have nS : ∀ x, x < B → x ≠ GV → ¬ (x = GV ∨ (Value.slice ga i gc).ownBlock = some x) := fun x h1 h2 h3 => h3.elim h2 (fun h => by have := hgb x h; omega)
    have d1 : wc.cell? ⟨CV, 0, .none⟩ = some (.pointer (some ⟨CK, 0, .none⟩)) := r5.cell cCV (nS CV lCV n1)
    have d2 : wc.cell? ⟨CK, 0, .none⟩ = some (.slice (some ⟨pb, 0, .none⟩) (n + 1) cap) := r5.cell cCK (nS CK lCK n3)
    have d3 : wc.cell? ⟨GP, 0, .none⟩ = some (.slice pa i pc) := r5.cell cGP (nS GP lGP n2)
    have d4 : ∀ o, wc.frozen? ⟨GP, o, .none⟩ = false := fun o => by rw [r5.frozen (p := ⟨GP, o, .none⟩) (show GP < w.heap.size by omega) (nS GP lGP n2)]; exact fGP o
    have d5 : ∀ j, j < (n + 1) * 2 → wc.cell? ⟨pb, j, .none⟩ = some (pcs j) := fun j hj => r5.cell (unhide HP j hj) (fun h => h.elim n4 (unhide N5))
    have d6 : wc.ownsRow B 25 1 (.slice pa i pc) i ys := r5.owns (unhide HoGP) (fun x hx h => h.elim (fun e => by have := (owns_lt (unhide HoGP) hx).2; omega) (fun e => unhide N6 x e hx))
    have D5 := hide d5
    have D6 := hide d6
    have R3 := hide r3
    have R4 := hide r4
    have R5 := hide r5
    have lwc := r5.size
    clear d5 d6 r3 r4 r5 nS hgb cGV fGV cCV cCK cGP fGP
    go_wp2_with (first
      | (at_make; refine wpList_make_rows rfl _ _ 25 rfl 29 i1 _ 2 Yba.underlying25 hi1 hy0 hy1 _ _ _ _ (n + 1) rfl rfl (by omega) (by omega) (by rw [hy2]; omega) (by unfold maxLen; omega) ?_; intro R wm fR HR hrR hgm hsm; obtain ⟨wd, hrun, hrd, hbd, hsd⟩ := run_copy_wide (P := Yba.prog) wm 25 25 3 29 R (n + 1) ⟨pb, 0, .none⟩ cap (n + 1) 2 29 fR pcs Yba.underlying25 hsz2 hrR (copy_src (unhide D5) hgm) (unhide HoneP); have q1 := hgm.cell d1; have q2 := hgm.cell d2; have M := hide (mid_mk (unhide HR) hgm hbd hsd); have q3 := (unhide M).cell d3; have q4 := (unhide M).froz d3 d4; have Hrd := hide hrd; clear hrR hrd hbd hsd)
      | (at_builtin; refine wpList_append_lies _ rfl _ _ 44 rfl B 25 i2 _ 1 24 Yba.underlying44 hi2 hx0 hx1 hx2 rfl (by decide) (.slice pa i pc) i ys rfl (by exact ((unhide M).owns (unhide D6)).alloc _) ⟨wd.heap.size, 0, .none⟩ 1 1 [.slice (some ⟨R, 0, .none⟩) (n + 1) (n + 1)] rfl rfl (by exact cell_one_new _ _ _) (by exact one_slice _ _ _) (by decide) (by unfold maxLen; omega) (by omega) (by have := (unhide M).size; simp; omega) _ rfl ?_; intro g4 cap4 w4 hown4 hgr4 hat4 hlt4; have q5 := app_cell lGP hBw lwc (unhide M) (unhide D6) hgr4 q3; have q6 := app_froz lGP hBw lwc (unhide M) (unhide D6) hgr4 q4))
    have F := clos_end lGV lGP hBw (fun e => n2 e.symm) (unhide HoGP) (unhide N6) r1 r2 (unhide R3) (unhide R4) (unhide R5) (unhide M) (unhide HR) (unhide Hrd) hown4 hgr4 hat4 q5 q6
    have HF := hide F
    clear F hown4 hgr4 hat4
    go_end0
    exact ⟨rfl, g2, cap2, g4, cap4, R, unhide HF⟩
end Go.Proofs.Ybulkejtm
