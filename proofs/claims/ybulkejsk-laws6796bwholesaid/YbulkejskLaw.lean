import Derived.Test.YbulkejskLaw1
import Derived.Deep.DeepCutAuto
namespace Go.Proofs.Ybulkejsk
open Go.ChangeShapes Go.WideShapes Go.ChangeAt Go.RowKit

theorem build_src {w : World} {a0 : Option Addr} {n cap : Nat} {F : Nat → Nat} {G : Nat → Int} {rb ro : Nat} (h : Src w a0 n F G rb ro) :
    Calls Yba.prog 4 #[.slice a0 n cap] w fun e w' => ∃ (A : Nat → Int) (ao : Option Addr) (cp : Nat), (∀ k, 0 ≤ A k ∧ A k ≤ 18446744073709551615) ∧
      e = .returned (.tuple #[.agg #[.int .u64 (A 0), .int .u64 (A 1), .int .u64 (A 2), .int .u64 (A 3), .int .u64 (A 4), .int .u64 (A 5), .int .u64 (A 6), .int .u64 (A 7)], .agg #[.slice ao (pos A 8) cp]]) ∧
      w'.ownsRow w.heap.size 34 2 (.slice ao (pos A 8) cp) (pos A 8) (cells A 8) ∧ Below w.heap.size w w' :=
  build_any F G a0 rb ro n cap h.len w h.here h.lt h.node h.count h.bF h.bG

theorem outc_is (A B : Nat → Int) : outc A B = if below B A 8 = true then 2 else if below A B 8 = true then 1 else 2 := by
  unfold outc rel
  cases below B A 8 <;> cases below A B 8 <;> rfl
theorem outc_of {A B : Nat → Int} {b : Bool} (h : b = (!below B A 8 && below A B 8)) : outc A B = if b = true then 1 else 2 := by
  rw [h, outc_is]
  cases below B A 8 <;> cases below A B 8 <;> rfl
/-- The entries of the merged clock, behind the law's first loop. -/
theorem got_cells {w5 wc : World} {base g cg : Nat} {M : Nat → Int} {o : Obj} (h : w5.ownsRow base 34 2 (.slice (some ⟨g, 0, .none⟩) (pos M 8) cg) (pos M 8) (cells M 8)) (hb : Below (w5.heap.size + 1) (w5.alloc o) wc) :
    ∀ k, k < 8 → M k ≠ 0 → wc.cell? ⟨g, pos M k * 2, .none⟩ = some (.string (nm k)) ∧ wc.cell? ⟨g, pos M k * 2 + 1, .none⟩ = some (.int .u64 (M k)) := by
  intro k hk hz
  have hlt := lt_of_owns h
  have hp := pos_lt hk hz
  constructor
  · rw [hb.cell (show g < w5.heap.size + 1 by omega), World.cell?_alloc_lt _ _ _ hlt, h.cellAt _ (by omega)]; exact (cells_at hk hz).1
  · rw [hb.cell (show g < w5.heap.size + 1 by omega), World.cell?_alloc_lt _ _ _ hlt, h.cellAt _ (by omega)]; exact (cells_at hk hz).2
theorem below4 {w4 w5 wc : World} {o : Obj} (h : Grow w4 w5) (hb : Below (w5.heap.size + 1) (w5.alloc o) wc) : Below w4.heap.size w4 wc :=
  Below.trans (h.alloc o) (hb.mono (by have := h.size; omega))

/-- The law's last loop: the merged clock's entries are overwritten; what lay before it stands. -/
structure L3 (w4 W : World) (b5 g n cg : Nat) : Prop where
  bel : Below w4.heap.size w4 W
  got : W.cell? ⟨b5, 0, .none⟩ = some (.slice (some ⟨g, 0, .none⟩) n cg)
  own : ∃ xs, W.ownsRow w4.heap.size 34 2 (.slice (some ⟨g, 0, .none⟩) n cg) n xs ∧ ∀ j, j < n → ∃ z, xs[j * 2 + 1]? = some (.int .u64 z)

theorem cells_counts (M : Nat → Int) : ∀ j, j < pos M 8 → ∃ z, (cells M 8)[j * 2 + 1]? = some (.int .u64 z) := fun j hj => by
  obtain ⟨k, h1, h2, h3⟩ := pos_surj M j 8 hj
  exact ⟨M k, by rw [← h3]; exact (cells_at h1 h2).2⟩

theorem l3_start {w4 w5 wc : World} {g cg : Nat} {M : Nat → Int} {o : Obj} (h : w5.ownsRow w4.heap.size 34 2 (.slice (some ⟨g, 0, .none⟩) (pos M 8) cg) (pos M 8) (cells M 8)) (h4 : Grow w4 w5) (hb : Below (w5.heap.size + 1) (w5.alloc o) wc)
    (hg : wc.cell? ⟨w5.heap.size, 0, .none⟩ = some (.slice (some ⟨g, 0, .none⟩) (pos M 8) cg)) : L3 w4 wc w5.heap.size g (pos M 8) cg := by
  refine ⟨below4 h4 hb, hg, cells M 8, owns_of_block h ?_, cells_counts M⟩
  have hlt := lt_of_owns h
  rw [hb.block g (by omega), Below.heap_alloc _ _ _ hlt]

theorem L3.drewN {w4 W : World} {b5 g n cg : Nat} (h : L3 w4 W b5 g n cg) (q : Nat) : L3 w4 (W.drewN q) b5 g n cg := ⟨below_drewN h.bel q, h.got, h.own⟩
theorem L3.step {w4 W : World} {b5 g n cg : Nat} (h : L3 w4 W b5 g n cg) (j : Nat) (hj : j < n) (hne : g ≠ b5) (s : ByteArray) (z : Int) :
    L3 w4 ((W.setCell ⟨g, j * 2, .none⟩ (.string s)).setCell ⟨g, j * 2 + 1, .none⟩ (.int .u64 z)) b5 g n cg := by
  obtain ⟨xs, ho, hz⟩ := h.own
  have hge := ge_of_owns ho
  refine ⟨(h.bel.setCell hge _).setCell hge _, ?_, (xs.set (j * 2) (.string s)).set (j * 2 + 1) (.int .u64 z), ((ho.stored (j * 2) (.string s)).1.stored (j * 2 + 1) (.int .u64 z)).1, ?_⟩
  · rw [World.cell?_setCell_other _ _ _ _ (fun e => hne (congrArg Addr.block e)), World.cell?_setCell_other _ _ _ _ (fun e => hne (congrArg Addr.block e))]; exact h.got
  · intro i hi
    have hl := ho.1
    by_cases e : i = j
    · subst e
      exact ⟨z, by rw [List.getElem?_set_self (by simp; omega)]⟩
    · obtain ⟨y, hy⟩ := hz i hi
      exact ⟨y, by rw [List.getElem?_set_ne (by omega), List.getElem?_set_ne (by omega)]; exact hy⟩
theorem L3.cells {w4 W : World} {b5 g n cg : Nat} (h : L3 w4 W b5 g n cg) (j : Nat) (hj : j < n) : (∃ v, W.cell? ⟨g, j * 2, .none⟩ = some v) ∧ (∃ z, W.cell? ⟨g, j * 2 + 1, .none⟩ = some (.int .u64 z)) ∧ ∀ o, W.frozen? ⟨g, o, .none⟩ = false := by
  obtain ⟨xs, ho, hz⟩ := h.own
  have hl := ho.1
  refine ⟨⟨xs[j * 2]'(by omega), ?_⟩, ?_, ho.frozenAt⟩
  · rw [ho.cellAt _ (by omega)]; simp
  · obtain ⟨z, hz⟩ := hz j hj
    exact ⟨z, by rw [ho.cellAt _ (by omega)]; exact hz⟩
theorem clone_st {w2 w3 : World} {B : Nat → Int} {bo : Option Addr} {cq : Nat} (h : (X w2 B bo cq).grownBy w3 .none) : w3.cell? ⟨w2.heap.size + 1, 0, .none⟩ = some (.slice bo (pos B 8) cq) :=
  ((Grow.refl _).grown h).cell (X_cell _ _ _ _)
theorem clone_owB {w2 w3 : World} {B : Nat → Int} {bo : Option Addr} {cq b : Nat} (ho : w2.ownsRow b 34 2 (.slice bo (pos B 8) cq) (pos B 8) (cells B 8)) (h : (X w2 B bo cq).grownBy w3 .none) : w3.ownsRow b 34 2 (.slice bo (pos B 8) cq) (pos B 8) (cells B 8) :=
  ((X_grow _ _ _ _).grown h).owns ho
theorem clone_both {w1 w2 w3 w4 : World} {A B : Nat → Int} {ao bo : Option Addr} {cp cq : Nat} (g2 : Grow (X w1 A ao cp) w2) (f2 : w3.cell? ⟨w2.heap.size + 1, 0, .none⟩ = some (.slice bo (pos B 8) cq)) (h : (X w2 B bo cq).grownBy w3 .none) (h' : w3.grownBy w4 .none) :
    w4.cell? ⟨w1.heap.size + 1, 0, .none⟩ = some (.slice ao (pos A 8) cp) ∧ w4.cell? ⟨w2.heap.size + 1, 0, .none⟩ = some (.slice bo (pos B 8) cq) :=
  ⟨((g2.trans ((X_grow _ _ _ _).grown h)).grown h').cell (X_cell _ _ _ _), ((Grow.refl _).grown h').cell f2⟩

set_option maxRecDepth 100000 in
set_option maxHeartbeats 2000000 in
theorem law_walk (a0 a1 : Option Addr) (n0 n1 c0 c1 : Nat) (F0 F1 : Nat → Nat) (G0 G1 : Nat → Int) (rb0 ro0 rb1 ro1 : Nat) (w : World) (h0 : Src w a0 n0 F0 G0 rb0 ro0) (h1 : Src w a1 n1 F1 G1 rb1 ro1) :
    Calls Yba.prog 3 #[.slice a0 n0 c0, .slice a1 n1 c1] w fun e w' => e = .returned (.bool true) ∧ Below w.heap.size w w' := by
  have d0 : decide ((1048576 : Int) < (n0 : Int)) = false := decide_eq_false (by have := h0.len; omega)
  have d1 : decide ((1048576 : Int) < (n1 : Int)) = false := decide_eq_false (by have := h1.len; omega)
  have H0 := hide h0
  have H1 := hide h1
  clear h0 h1
  go_enter Yba.func3, Yba.ntmps3
  go_wp2_with fail
  refine (build_src (by exact unhide H0)).mono ?_
  rintro e w1 ⟨A, ao, cp, bA, rfl, hoA, hb1⟩
  have HbA := hide bA
  have HoA := hide hoA
  clear bA hoA
  go_wp2_with fail
  refine (build_src (by exact (unhide H1).below (show Grow w (X w1 A ao cp) from Grow.trans hb1 (X_grow _ _ _ _)))).mono ?_
  rintro e w2 ⟨B, bo, cq, bB, rfl, hoB, hb2⟩
  have g2 : Grow (X w1 A ao cp) w2 := hb2
  have HbB := hide bB
  have HoB := hide hoB
  have G1 := hide (show Grow w w1 from hb1)
  have G2 := hide g2
  have l2 : w1.heap.size + 1 + 1 ≤ w2.heap.size := by have := g2.size; rw [X_size] at this; exact this
  have f1 : ∀ o1 o2, ((w2.alloc o1).alloc o2).cell? ⟨w1.heap.size + 1, 0, .none⟩ = some (.slice ao (pos A 8) cp) := fun o1 o2 => (((Grow.refl w2).alloc o1).alloc o2).cell (g2.cell (X_cell _ _ _ _))
  have O1 : ∀ o1 o2, ((w2.alloc o1).alloc o2).ownsRow w.heap.size 34 2 (.slice ao (pos A 8) cp) (pos A 8) (cells A 8) := fun o1 o2 => ((X_grow _ _ _ _).trans (g2.trans (((Grow.refl w2).alloc o1).alloc o2))).owns (unhide HoA)
  have HO1 := hide O1
  clear bB hoB hb1 hb2 g2 O1 H0 H1
  go_wp2_with (first
    | (at_builtin; refine wpList_clone rfl (.const (.slice .none 0 0)) (.tmp 41) rfl ao (pos A 8) cp rfl rfl w.heap.size (cells A 8) (pos_le A 8) (by exact unhide HO1 _ _) (oneCells A 8) ?_; intro oc cc w3 hoC hgr3; have f2 := clone_st hgr3; have HO2 := hide (clone_owB (unhide HoB) hgr3))
    | (at_builtin; refine wpList_clone rfl (.const (.slice .none 0 0)) (.tmp 44) rfl bo (pos B 8) cq rfl rfl (X w1 A ao cp).heap.size (cells B 8) (pos_le B 8) (by exact unhide HO2) (oneCells B 8) ?_; intro os cs w4 hoS hgr4; have f3 := clone_both (unhide G2) f2 hgr3 hgr4))
  have old := old_mk (unhide G1) (unhide HoA) (unhide G2) (unhide HoB) hgr3 hoC hgr4 hoS
  have Hold := hide old
  clear hgr3 hoC hgr4 hoS f1 f2 f3 HoA HoB HO1 HO2 G1 G2
  obtain ⟨gA, eA, -⟩ := ents_of_owns old.owA
  obtain ⟨gB, eB, -⟩ := ents_of_owns old.owB
  have HeA := hide eA
  have HeB := hide eB
  clear eA eB old
  refine (addition_any A B (fun k => (unhide HbA k).1) (fun k => (unhide HbB k).1) ao bo gA gB cp cq _ (by exact unhide HeA) (by exact unhide HeB)).mono ?_
  rintro e w5 ⟨g, cg, rfl, hoG, hb5⟩
  have Hold5 := hide ((unhide Hold).up (show Grow w4 w5 from hb5))
  have HoG := hide hoG
  have G45 := hide (show Grow w4 w5 from hb5)
  clear hoG hb5 HeA HeB
  go_wp2_with fail
  have HM : Hid (∀ k, 0 ≤ A k ∧ 0 ≤ B k) := fun k => ⟨(unhide HbA k).1, (unhide HbB k).1⟩
  go_loopw [13, 14, 16, 17] (fun ge gt n i wr => ∃ k : Nat, k ≤ 8 ∧ ge = .bool (!below B A k) ∧ gt = .bool (below A B k) ∧ n = .int .i64 (pos (mx A B) k) ∧ i = .int .i64 k ∧ Hid (L1 w5.heap.size (w5.alloc (.cells #[.slice (some ⟨g, 0, .none⟩) (pos (mx A B) 8) cg] 27)) wr (mx A B) k)) (fun _ _ _ i _ => 8 - (intOf i).toNat)
  case atStart => exact ⟨0, by omega, rfl, rfl, rfl, rfl, l1_start w5 _ _⟩
  case round =>
    obtain ⟨k, hk, rfl, rfl, rfl, rfl, HL⟩ := hrel
    by_cases hlt : k < 8
    · have z5 := (unhide Hold5).rowA.lt
      have z6 := (unhide Hold5).rowB.lt
      have cA : wr.cell? ⟨w1.heap.size, k, .none⟩ = some (.int .u64 (A k)) := by
        rw [(unhide HL).bel.cell (show w1.heap.size < w5.heap.size + 1 by omega)]; exact ((Grow.refl w5).alloc _).cell ((unhide Hold5).rowA.cell hlt)
      have cB : wr.cell? ⟨w2.heap.size, k, .none⟩ = some (.int .u64 (B k)) := by
        rw [(unhide HL).bel.cell (show w2.heap.size < w5.heap.size + 1 by omega)]; exact ((Grow.refl w5).alloc _).cell ((unhide Hold5).rowB.cell hlt)
      obtain ⟨vM, cM⟩ : ∃ v, wr.cell? ⟨w5.heap.size + 1, k, .none⟩ = some v := ⟨_, (unhide HL).row.cell hlt⟩
      have fz := (unhide HL).row.frozen
      have hkI : (k : Int) < 8 := by omega
      have n1 : w5.heap.size + 1 ≠ w1.heap.size := by omega
      have n2 : w5.heap.size + 1 ≠ w2.heap.size := by omega
      have hp8 := pos_le (mx A B) k
      have HMi : Hid (mx A B k = if A k < B k then B k else A k) := rfl
      have e1 := below_succ B A k
      have e2 := below_succ A B k
      have nn := unhide HM k
      by_cases l1 : B k < A k
      · have l2 : ¬ A k < B k := by omega
        have hm : mx A B k = A k := by unfold mx; rw [if_neg l2]
        have HMk := hide hm
        have nz : (A k != 0) = true := by rw [bne_iff_ne]; omega
        have E1 : Hid (Value.bool false = .bool (!below B A (k + 1))) := by show _ = _; rw [e1, decide_eq_true l1, Bool.or_true]; rfl
        have E2 : Hid (Value.bool (below A B k) = .bool (below A B (k + 1))) := by show _ = _; rw [e2, decide_eq_false l2, Bool.or_false]
        have E3 : Hid (Value.int .i64 ((pos (mx A B) k : Int) + 1) = .int .i64 (pos (mx A B) (k + 1) : Nat)) := by show _ = _; rw [pos_succ_one (by rw [hm]; omega)]; rfl
        clear hm e1 e2
        go_wp2_with fail
        go_quiet (fail)
        go_wp2_with fail
        go_quiet (fail)
        go_wp2_with fail
        go_region_held3 (fun w' => w'.cell? ⟨w1.heap.size, k, .none⟩ = some (.int .u64 (A k)) ∧ w'.cell? ⟨w2.heap.size, k, .none⟩ = some (.int .u64 (B k))) (go_keep) (fail)
        go_wp2_with fail
        go_roundw
        case rel =>
          refine ⟨k + 1, by omega, unhide E1, unhide E2, unhide E3, by go_num, hide ?_⟩
          have hL2 := unhide HL
          go_light
          repeat (first | (with_reducible exact hL2) | (with_reducible refine L1.set ?_ _ (by first | exact unhide HMk | exact unhide HMi)) | (with_reducible apply L1.drewN) | (with_reducible apply L1.drew))
        case measure => simp [intOf]; omega
      · by_cases l2 : A k < B k
        · have hm : mx A B k = B k := by unfold mx; rw [if_pos l2]
          have HMk := hide hm
          have nz : (B k != 0) = true := by rw [bne_iff_ne]; omega
          have E1 : Hid (Value.bool (!below B A k) = .bool (!below B A (k + 1))) := by show _ = _; rw [e1, decide_eq_false l1, Bool.or_false]
          have E2 : Hid (Value.bool true = .bool (below A B (k + 1))) := by show _ = _; rw [e2, decide_eq_true l2, Bool.or_true]
          have E3 : Hid (Value.int .i64 ((pos (mx A B) k : Int) + 1) = .int .i64 (pos (mx A B) (k + 1) : Nat)) := by show _ = _; rw [pos_succ_one (by rw [hm]; omega)]; rfl
          clear hm e1 e2
          go_wp2_with fail
          go_quiet (fail)
          go_wp2_with fail
          go_quiet (fail)
          go_wp2_with fail
          go_region_held3 (fun w' => w'.cell? ⟨w1.heap.size, k, .none⟩ = some (.int .u64 (A k)) ∧ w'.cell? ⟨w2.heap.size, k, .none⟩ = some (.int .u64 (B k))) (go_keep) (fail)
          go_wp2_with fail
          go_roundw
          case rel =>
            refine ⟨k + 1, by omega, unhide E1, unhide E2, unhide E3, by go_num, hide ?_⟩
            have hL2 := unhide HL
            go_light
            repeat (first | (with_reducible exact hL2) | (with_reducible refine L1.set ?_ _ (by first | exact unhide HMk | exact unhide HMi)) | (with_reducible apply L1.drewN) | (with_reducible apply L1.drew))
          case measure => simp [intOf]; omega
        · have hm : mx A B k = A k := by unfold mx; rw [if_neg l2]
          have HMk := hide hm
          have E1 : Hid (Value.bool (!below B A k) = .bool (!below B A (k + 1))) := by show _ = _; rw [e1, decide_eq_false l1, Bool.or_false]
          have E2 : Hid (Value.bool (below A B k) = .bool (below A B (k + 1))) := by show _ = _; rw [e2, decide_eq_false l2, Bool.or_false]
          by_cases z : A k = 0
          · have nz : (A k != 0) = false := by simp [z]
            have E3 : Hid (Value.int .i64 (pos (mx A B) k : Nat) = .int .i64 (pos (mx A B) (k + 1) : Nat)) := by show _ = _; rw [pos_succ_zero (by rw [hm]; exact z)]
            clear hm e1 e2 z
            go_wp2_with fail
            go_quiet (fail)
            go_wp2_with fail
            go_quiet (fail)
            go_wp2_with fail
            go_region_held3 (fun w' => w'.cell? ⟨w1.heap.size, k, .none⟩ = some (.int .u64 (A k)) ∧ w'.cell? ⟨w2.heap.size, k, .none⟩ = some (.int .u64 (B k))) (go_keep) (fail)
            go_wp2_with fail
            go_roundw
            case rel =>
              refine ⟨k + 1, by omega, unhide E1, unhide E2, unhide E3, by go_num, hide ?_⟩
              have hL2 := unhide HL
              go_light
              repeat (first | (with_reducible exact hL2) | (with_reducible refine L1.set ?_ _ (by first | exact unhide HMk | exact unhide HMi)) | (with_reducible apply L1.drewN) | (with_reducible apply L1.drew))
            case measure => simp [intOf]; omega
          · have nz : (A k != 0) = true := by simp [z]
            have E3 : Hid (Value.int .i64 ((pos (mx A B) k : Int) + 1) = .int .i64 (pos (mx A B) (k + 1) : Nat)) := by show _ = _; rw [pos_succ_one (by rw [hm]; exact z)]; rfl
            clear hm e1 e2 z
            go_wp2_with fail
            go_quiet (fail)
            go_wp2_with fail
            go_quiet (fail)
            go_wp2_with fail
            go_region_held3 (fun w' => w'.cell? ⟨w1.heap.size, k, .none⟩ = some (.int .u64 (A k)) ∧ w'.cell? ⟨w2.heap.size, k, .none⟩ = some (.int .u64 (B k))) (go_keep) (fail)
            go_wp2_with fail
            go_roundw
            case rel =>
              refine ⟨k + 1, by omega, unhide E1, unhide E2, unhide E3, by go_num, hide ?_⟩
              have hL2 := unhide HL
              go_light
              repeat (first | (with_reducible exact hL2) | (with_reducible refine L1.set ?_ _ (by first | exact unhide HMk | exact unhide HMi)) | (with_reducible apply L1.drewN) | (with_reducible apply L1.drew))
            case measure => simp [intOf]; omega
    · obtain rfl : k = 8 := by omega
      have Hout := hide (outc_is A B)
      go_upto_region 23 with (fail)
      go_cut [13, 14, 88] (fun _ _ t wx => t = .bool (!below B A 8 && below A B 8) ∧ wx = wr)
      case first =>
        cases hA8 : below A B 8 <;> cases hB8 : below B A 8
        all_goals
          go_wp2_with fail
          go_meet
          case rel => exact ⟨by rw [hA8, hB8]; rfl, rfl⟩
      case rest =>
        obtain ⟨ht88, hwc⟩ := hcut
        subst hwc
        obtain ⟨bb, hbb⟩ : ∃ b, b = (!below B A 8 && below A B 8) := ⟨_, rfl⟩
        rw [← hbb] at ht88
        subst ht88
        have Hbb := hide hbb
        clear hbb
        go_upto_if 88 with (fail)
        go_cut [18] (fun s wx => s = .int .i64 (outc A B) ∧ wx = wc)
        case first =>
          cases bb
          all_goals
            have ho := hide (outc_of (unhide Hbb))
            go_wp2_with fail
            go_meet
            case rel => exact ⟨by rw [unhide ho]; rfl, rfl⟩
        case rest =>
          obtain ⟨hs18, hwc⟩ := hcut
          subst hs18
          subst hwc
          clear Hout Hbb
          have z1 := (unhide Hold5).rowA.lt
          have z2 := (unhide Hold5).rowB.lt
          have cg1 : wc.cell? ⟨w5.heap.size, 0, .none⟩ = some (.slice (some ⟨g, 0, .none⟩) (pos (mx A B) 8) cg) := by
            rw [(unhide HL).bel.cell (show w5.heap.size < w5.heap.size + 1 by omega)]; go_simp
          have hpI := pos_le (mx A B) 8
          go_wp2_with fail
          have gN := got_cells (unhide HoG) (unhide HL).bel
          have Hg := hide gN
          have Hrow := hide (unhide HL).row
          clear gN
          go_loopg [19, 20] 8 (fun gk i kk wx => ∃ k q : Nat, gk = 8 - k ∧ k ≤ 8 ∧ i = .int .i64 (pos (mx A B) k) ∧ kk = .int .i64 k ∧ wx = wc.drewN q)
          case atStart => exact ⟨0, 0, rfl, by omega, rfl, rfl, rfl⟩
          case round =>
            obtain ⟨k, q, rfl, hk, rfl, rfl, rfl⟩ := hrel
            by_cases hlt : k < 8
            · have cM : wc.cell? ⟨w5.heap.size + 1, k, .none⟩ = some (.int .u64 (mx A B k)) := by
                have := (unhide Hrow).cell hlt; rwa [if_pos hlt] at this
              have hkI : (k : Int) < 8 := by omega
              have hp8 := pos_le (mx A B) k
              by_cases hz : mx A B k = 0
              · have hzb : (mx A B k == 0) = true := by simp [hz]
                have E := hide (pos_succ_zero hz)
                clear hz
                go_wp2_with fail
                go_roundg (8 - (k + 1))
                case measure => omega
                case rel => exact ⟨k + 1, q, rfl, by omega, by rw [unhide E], by go_num, rfl⟩
              · have hzb : (mx A B k == 0) = false := by simp [hz]
                obtain ⟨cN, cC⟩ := unhide Hg k hlt hz
                have hpl : (pos (mx A B) k : Int) < (pos (mx A B) 8 : Int) := by have := pos_lt hlt hz; omega
                have E := hide (pos_succ_one hz)
                clear hz
                go_wp2_with fail
                go_region_held3 (fun w' => w'.cell? ⟨w5.heap.size, 0, .none⟩ = some (.slice (some ⟨g, 0, .none⟩) (pos (mx A B) 8) cg) ∧ w'.cell? ⟨w5.heap.size + 1, k, .none⟩ = some (.int .u64 (mx A B k)) ∧ w'.cell? ⟨g, pos (mx A B) k * 2, .none⟩ = some (.string (nm k)) ∧ w'.cell? ⟨g, pos (mx A B) k * 2 + 1, .none⟩ = some (.int .u64 (mx A B k))) (go_keep)
                  (first | (go_at_call 6; refine (name_c k hlt _).mono ?_; rintro e w' ⟨rfl, rfl⟩))
                go_wp2_with fail
                go_roundg (8 - (k + 1))
                case measure => omega
                case rel => exact ⟨k + 1, q + 1, rfl, by omega, by rw [unhide E]; rfl, by go_num, rfl⟩
            · obtain rfl : k = 8 := by omega
              have oldc := (unhide Hold5).up (show Grow w5 (w5.alloc (.cells #[.slice (some ⟨g, 0, .none⟩) (pos (mx A B) 8) cg] 27)) from (Grow.refl w5).alloc _)
              have hc1 : wc.cell? ⟨w1.heap.size + 1, 0, .none⟩ = some (.slice ao (pos A 8) cp) := by
                rw [(unhide HL).bel.cell (show w1.heap.size + 1 < w5.heap.size + 1 by have := World.block_lt_of_cell? w5 _ (unhide Hold5).clk; dsimp only at this; omega)]; exact oldc.clk
              have hc2 : wc.cell? ⟨w2.heap.size + 1, 0, .none⟩ = some (.slice bo (pos B 8) cq) := by
                rw [(unhide HL).bel.cell (show w2.heap.size + 1 < w5.heap.size + 1 by have := World.block_lt_of_cell? w5 _ (unhide Hold5).stm; dsimp only at this; omega)]; exact oldc.stm
              clear oldc
              have b4c : Below w4.heap.size w4 wc := below4 (unhide G45) (unhide HL).bel
              obtain ⟨gA', eA, -⟩ := ents_of_owns (unhide Hold).owA
              obtain ⟨gB', eB, -⟩ := ents_of_owns (unhide Hold).owB
              obtain ⟨gC, eC, -⟩ := ents_of_owns (unhide Hold).owC
              obtain ⟨gS, eS, -⟩ := ents_of_owns (unhide Hold).owS
              have HA := hide (fun (W : World) (h : Below w4.heap.size w4 W) => And.intro (eA.below h (Nat.le_refl _)) (eC.below h (Nat.le_refl _)))
              have HB := hide (fun (W : World) (h : Below w4.heap.size w4 W) => And.intro (eB.below h (Nat.le_refl _)) (eS.below h (Nat.le_refl _)))
              have HL3 := hide (l3_start (unhide HoG) (unhide G45) (unhide HL).bel cg1)
              have gl5 : g ≠ w5.heap.size := Nat.ne_of_lt (lt_of_owns (unhide HoG))
              clear eA eB eC eS Hg Hrow HL
              go_wp2_with fail
              refine (same_any A _ _ _ _ _ _ _ _ (by exact (unhide HA _ (below_drewN b4c _)).1) (by exact (unhide HA _ (below_drewN b4c _)).2)).mono ?_
              rintro e w6 ⟨rfl, q1, rfl⟩
              go_wp2_with fail
              refine (same_any B _ _ _ _ _ _ _ _ (by exact (unhide HB _ (below_drewN b4c _)).1) (by exact (unhide HB _ (below_drewN b4c _)).2)).mono ?_
              rintro e w6 ⟨rfl, q2, rfl⟩
              generalize hn8 : pos (mx A B) 8 = n8 at *
              have Hn8 := hide hn8
              clear hn8
              go_wp2_with fail
              go_loopg [21] n8 (fun gk jj wx => ∃ j : Nat, gk = n8 - j ∧ j ≤ n8 ∧ jj = .int .i64 j ∧ Hid (L3 w4 wx w5.heap.size g n8 cg))
              case atStart => exact ⟨0, rfl, by omega, rfl, (unhide HL3).drewN _⟩
              case round =>
                clear HL3 cg1 hc1 hc2
                obtain ⟨j, rfl, hj, rfl, HL3⟩ := hrel
                have hgot := (unhide HL3).got
                by_cases hlt : j < n8
                · obtain ⟨⟨v0, y0⟩, ⟨z0, y1⟩, fz⟩ := (unhide HL3).cells j hlt
                  have hjI : (j : Int) < (n8 : Int) := by omega
                  go_wp2_with fail
                  go_roundg (n8 - (j + 1))
                  case measure => omega
                  case rel => exact ⟨j + 1, rfl, by omega, by go_num, (unhide HL3).step j hlt gl5 _ _⟩
                · have hb := (unhide HL3).bel
                  have hc1 : wr.cell? ⟨w1.heap.size + 1, 0, .none⟩ = some (.slice ao (pos A 8) cp) := Grow.cell (w := w4) hb (unhide Hold).clk
                  have hc2 : wr.cell? ⟨w2.heap.size + 1, 0, .none⟩ = some (.slice bo (pos B 8) cq) := Grow.cell (w := w4) hb (unhide Hold).stm
                  have hfin : Below w.heap.size w wr := (unhide Hold).grow.trans hb
                  go_wp2_with fail
                  refine (same_any A _ _ _ _ _ _ _ _ (by exact (unhide HA _ hb).1) (by exact (unhide HA _ hb).2)).mono ?_
                  rintro e w6 ⟨rfl, q3, rfl⟩
                  go_wp2_with fail
                  refine (same_any B _ _ _ _ _ _ _ _ (by exact (unhide HB _ (below_drewN hb _)).1) (by exact (unhide HB _ (below_drewN hb _)).2)).mono ?_
                  rintro e w6 ⟨rfl, q4, rfl⟩
                  go_wp2_with fail
                  go_ret
                  exact ⟨rfl, below_drewN hfin _⟩
end Go.Proofs.Ybulkejsk
