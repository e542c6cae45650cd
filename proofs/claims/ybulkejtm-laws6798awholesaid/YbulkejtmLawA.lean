import Derived.Test.YbulkejtmFin
namespace Go.Proofs.Ybulkejtm
open Go.ChangeShapes Go.WideShapes Go.ChangeAt Go.RowKit

structure PF (f : Nat → Value) (i : Nat) (s : ByteArray) (z : Int) : Prop where
  c0 : f (i * 2) = .string s
  c1 : f (i * 2 + 1) = .int .i64 z
structure VF (f : Nat → Value) (i : Nat) (k : Int) (b : Bool) (t : ByteArray) : Prop where
  c0 : f (i * 6) = .int .u8 (k6 k)
  c1 : f (i * 6 + 1) = .bool b
  c2 : f (i * 6 + 2) = .string t
  c3 : f (i * 6 + 3) = .slice .none 0 0
  c4 : f (i * 6 + 4) = .slice .none 0 0
  c5 : f (i * 6 + 5) = .slice .none 0 0

theorem store2 {w : World} {P N k : Nat} {f : Nat → Value} (hr : w.rowIs P 29 N f) (sn : Nat → ByteArray) (si : Nat → Int) (hF : ∀ i, i < k → PF f i (sn i) (si i)) :
    ∃ f', ((w.setCell ⟨P, k * 2, .none⟩ (.string (sn k))).setCell ⟨P, k * 2 + 1, .none⟩ (.int .i64 (si k))).rowIs P 29 N f' ∧ ∀ i, i < k + 1 → PF f' i (sn i) (si i) := by
  refine ⟨_, (hr.set _ _).set _ _, fun i hi => ?_⟩
  by_cases e : i = k
  · subst e; constructor <;> simp
  · have h := hF i (by omega)
    constructor
    · rw [if_neg (by omega), if_neg (by omega)]; exact h.c0
    · rw [if_neg (by omega), if_neg (by omega)]; exact h.c1
theorem store6 {w : World} {L N k : Nat} {f : Nat → Value} (hr : w.rowIs L 36 N f) (kd : Nat → Int) (bl : Nat → Bool) (tx : Nat → ByteArray) (hF : ∀ i, i < k → VF f i (kd i) (bl i) (tx i)) :
    ∃ f', ((((((w.setCell ⟨L, k * 6, .none⟩ (.int .u8 (k6 (kd k)))).setCell ⟨L, k * 6 + 1, .none⟩ (.bool (bl k))).setCell ⟨L, k * 6 + 2, .none⟩ (.string (tx k))).setCell ⟨L, k * 6 + 3, .none⟩ (.slice .none 0 0)).setCell ⟨L, k * 6 + 4, .none⟩ (.slice .none 0 0)).setCell ⟨L, k * 6 + 5, .none⟩ (.slice .none 0 0)).rowIs L 36 N f' ∧ ∀ i, i < k + 1 → VF f' i (kd i) (bl i) (tx i) := by
  refine ⟨_, (((((hr.set _ _).set _ _).set _ _).set _ _).set _ _).set _ _, fun i hi => ?_⟩
  by_cases e : i = k
  · subst e; constructor <;> simp
  · have h := hF i (by omega)
    constructor
    · rw [if_neg (by omega), if_neg (by omega), if_neg (by omega), if_neg (by omega), if_neg (by omega), if_neg (by omega)]; exact h.c0
    · rw [if_neg (by omega), if_neg (by omega), if_neg (by omega), if_neg (by omega), if_neg (by omega), if_neg (by omega)]; exact h.c1
    · rw [if_neg (by omega), if_neg (by omega), if_neg (by omega), if_neg (by omega), if_neg (by omega), if_neg (by omega)]; exact h.c2
    · rw [if_neg (by omega), if_neg (by omega), if_neg (by omega), if_neg (by omega), if_neg (by omega), if_neg (by omega)]; exact h.c3
    · rw [if_neg (by omega), if_neg (by omega), if_neg (by omega), if_neg (by omega), if_neg (by omega), if_neg (by omega)]; exact h.c4
    · rw [if_neg (by omega), if_neg (by omega), if_neg (by omega), if_neg (by omega), if_neg (by omega), if_neg (by omega)]; exact h.c5
theorem VF.cell {w : World} {L m i : Nat} {f : Nat → Value} {k : Int} {b : Bool} {t : ByteArray} (h : VF f i k b t) (hr : w.rowIs L 36 (m * 6) f) (hi : i < m) : VCell w L i k b t :=
  ⟨by rw [hr.cell (by omega), h.c0], by rw [hr.cell (by omega), h.c1], by rw [hr.cell (by omega), h.c2], by rw [hr.cell (by omega), h.c3], by rw [hr.cell (by omega), h.c4], by rw [hr.cell (by omega), h.c5]⟩

theorem row_pcl {f : Nat → Value} {n : Nat} {sn : Nat → ByteArray} {si : Nat → Int} (h : ∀ i, i < n → PF f i (sn i) (si i)) : ∀ o, o < n * 2 → (pcl sn si n)[o]? = some (f o) := by
  intro o ho
  have hp := h (o / 2) (by omega)
  have hk := pcl_at sn si n (o / 2) (by omega)
  rcases Nat.mod_two_eq_zero_or_one o with e | e
  · rw [show o = o / 2 * 2 by omega, hk.1, hp.c0]
  · rw [show o = o / 2 * 2 + 1 by omega, hk.2, hp.c1]

theorem owns_of_row {w : World} {b : Nat} {e : TypeId} {size n : Nat} {f : Nat → Value} {l : List Value} (hr : w.rowIs b e (n * size) f) (hl : l.length = n * size) (hc : ∀ o, o < n * size → l[o]? = some (f o)) (hn : n ≤ maxLen) : w.ownsRow 0 e size (.slice (some ⟨b, 0, .none⟩) n n) n l := by
  obtain ⟨c, h1, h2, h3⟩ := hr
  refine ⟨hl, .inr ⟨b, n, c, rfl, Nat.zero_le _, h1, Nat.le_refl _, hn, h2, ?_⟩⟩
  apply List.ext_getElem?
  intro o
  rw [List.getElem?_take]
  by_cases ho : o < n * size
  · rw [if_pos ho, hc o ho, Array.getElem?_toList, h3 o ho]
  · rw [if_neg ho, List.getElem?_eq_none (by omega)]

/-- The world in which items is called. -/
def Wst (W : World) (P n : Nat) : World :=
  (((W.alloc (.cells #[.slice (some ⟨P, 0, .none⟩) n n, .slice .none 0 0] 43)).alloc (.cells #[.pointer (some ⟨W.heap.size, 0, .none⟩)] 40)).alloc (.cells #[.slice .none 0 0] 30)).alloc (.cells #[.slice .none 0 0] 44)
theorem wst_grow (W : World) (P n : Nat) : Grow W (Wst W P n) := ((((Grow.refl W).alloc _).alloc _).alloc _).alloc _
theorem wst_size (W : World) (P n : Nat) : (Wst W P n).heap.size = W.heap.size + 1 + 1 + 1 + 1 := by simp [Wst]
theorem start_nums (W : World) (P n : Nat) (hP : P < W.heap.size) : Nums (Wst W P n) (W.heap.size + 1 + 1) (W.heap.size + 1) (W.heap.size + 1 + 1 + 1) W.heap.size P := by
  have hs := wst_size W P n
  refine ⟨by omega, by omega, by omega, by omega, by omega, by omega, by omega, by omega, by omega, by omega, by omega, by omega, by omega, by omega, by omega, ?_⟩
  unfold Wst; go_simp
theorem start_inv (W : World) (P n : Nat) (kd : Nat → Int) (bl : Nat → Bool) (tx : Nat → ByteArray) (pcells : List Value) (ho : W.ownsRow 0 29 2 (.slice (some ⟨P, 0, .none⟩) n n) n pcells) :
    Inv (Wst W P n) (Wst W P n) (W.heap.size + 1 + 1) (W.heap.size + 1) (W.heap.size + 1 + 1 + 1) W.heap.size P n 0 kd bl tx pcells .none .none 0 0 P n (fun _ => 0) := by
  refine ⟨Kept.refl _ _, ?_, ?_, World.ownsRow_nil _ _ _ _, ?_, ?_, World.ownsRow_nil _ _ _ _, ?_, ?_, ?_, (wst_grow W P n).owns ho, .inl rfl, ?_, ?_, ?_, fun j hj => absurd hj (Nat.not_lt_zero _)⟩
  · unfold Wst; go_simp
  · intro o; unfold Wst; go_simp
  · unfold Wst; go_simp
  · intro o; unfold Wst; go_simp
  · unfold Wst; go_simp
  · unfold Wst; go_simp
  · intro o; unfold Wst; go_simp
  · intro x hx; simp [Value.ownBlock] at hx
  · simp [Value.ownBlock]
  · simp [Value.ownBlock]
theorem kept_below {w wst w6 : World} {a b c d : Nat} (g : Grow w wst) (k : Kept (fun x => x = a ∨ x = b ∨ x = c ∨ x = d) wst w6) (ha : w.heap.size ≤ a) (hb : w.heap.size ≤ b) (hc : w.heap.size ≤ c) (hd : w.heap.size ≤ d) : Below w.heap.size w w6 := by
  have hs := g.size
  refine Below.trans g ⟨k.os, k.tape, k.output, k.size, fun x hx => k.block x (by omega) (fun h => ?_)⟩
  rcases h with h | h | h | h <;> omega

theorem neq41 (w : World) : (binOp .neq 41 (.slice .none 0 0) (.slice .none 0 0)).run Yba.prog w = .ok (.bool false) w := by kernel_rfl

set_option maxRecDepth 100000 in
set_option maxHeartbeats 4000000 in
theorem law_a (a0 a1 : Option Addr) (n m c0 c1 sb so ib io : Nat) (sn : Nat → ByteArray) (si : Nat → Int) (kd : Nat → Int) (bl : Nat → Bool) (tx : Nat → ByteArray) (w : World) (hA : Args w a0 a1 n m sb so ib io sn si kd bl tx) :
    Calls Yba.prog 3 #[.slice a0 n c0, .slice a1 m c1] w fun e w' => e = .returned (.bool true) ∧ Below w.heap.size w w' := by
  have hn := hA.hn
  have hm := hA.hm
  have HA := hide hA
  clear hA
  have e0 : decide ((65536 : Int) < (n : Int)) = false := decide_eq_false (by omega)
  have e1 : decide ((65536 : Int) < (m : Int)) = false := decide_eq_false (by omega)
  obtain ⟨i6, hi6, hz0, hz1, hz2⟩ := info_parts Yba.info36
  obtain ⟨i1, hi1, hy0, hy1, hy2⟩ := info_parts Yba.info29
  go_enter Yba.func3, Yba.ntmps3
  go_wp2_with (at_make; refine wpList_make_rows rfl _ _ 25 rfl 29 i1 _ 2 Yba.underlying25 hi1 hy0 hy1 _ _ _ _ n rfl rfl rfl rfl (by rw [hy2]; omega) (by unfold maxLen; omega) ?_; intro P w1 f1 HP hr1 hg1 hs1)
  have hPw : w.heap.size ≤ P := Nat.le_of_eq (unhide HP).symm
  clear HP
  go_loopw [6] (fun ii wr => ∃ (k : Nat) (f : Nat → Value), k ≤ n ∧ ii = .int .i64 k ∧ Hid (wr.rowIs P 29 (n * 2) f) ∧ Hid (∀ i, i < k → PF f i (sn i) (si i)) ∧ Below w.heap.size w wr) (fun ii _ => n - (intOf ii).toNat)
  case atStart => exact ⟨0, f1, Nat.zero_le _, rfl, hr1, fun i hi => absurd hi (Nat.not_lt_zero _), hg1⟩
  case round =>
    clear hr1 hg1 hs1
    obtain ⟨k, f, hk, rfl, Hr, HF, hb⟩ := hrel
    by_cases hlt : k < n
    · obtain rfl := (unhide HA).h0 (by omega)
      have lsb := (unhide HA).l0 (by omega)
      have s0 : wr.cell? ⟨sb, so + k * 2, .none⟩ = some (.string (sn k)) := by rw [hb.cell lsb]; exact (unhide HA).s0 k hlt
      have s1 : wr.cell? ⟨sb, so + k * 2 + 1, .none⟩ = some (.int .i64 (si k)) := by rw [hb.cell lsb]; exact (unhide HA).s1 k hlt
      have p0 := (unhide Hr).cell (i := k * 2) (by omega)
      have p1 := (unhide Hr).cell (i := k * 2 + 1) (by omega)
      have fz := (unhide Hr).frozen
      have hne : P ≠ sb := by omega
      have hkI : (k : Int) < (n : Int) := by omega
      go_wp2_with fail
      go_region_held3 (fun w' => w'.cell? ⟨sb, so + k * 2, .none⟩ = some (.string (sn k)) ∧ w'.cell? ⟨sb, so + k * 2 + 1, .none⟩ = some (.int .i64 (si k))) (go_keep) (fail)
      obtain ⟨f', q1, q2⟩ := store2 (unhide Hr) sn si (unhide HF)
      have R := hide (And.intro q1 q2)
      have hbe := ((hb.setCell (p := ⟨P, k * 2, .none⟩) (show w.heap.size ≤ P from hPw) (.string (sn k))).setCell (p := ⟨P, k * 2 + 1, .none⟩) (show w.heap.size ≤ P from hPw) (.int .i64 (si k))).drew
      clear q1 q2 p0 p1 fz s0 s1
      go_wp2_with fail
      go_roundw
      case rel => exact ⟨k + 1, f', by omega, by go_num, (unhide R).1, (unhide R).2, hbe⟩
      case measure => simp [intOf]; omega
    · obtain rfl : n = k := by omega
      have hPl := (unhide Hr).lt
      have GW := hide (show Grow w wr from hb)
      go_wp2_with (at_make; refine wpList_make_rows rfl _ _ 30 rfl 36 i6 _ 6 Yba.underlying30 hi6 hz0 hz1 _ _ _ _ m rfl rfl rfl rfl (by rw [hz2]; omega) (by unfold maxLen; omega) ?_; intro L w2 f2 HL hr2 hg2 hs2)
      have hLP : P < L := by rw [unhide HL]; exact hPl
      have hLw : w.heap.size ≤ L := by omega
      have hPr := hide ((Grow.row hg2 (unhide Hr) : w2.rowIs P 29 (n * 2) f))
      have GW2 := hide (Grow.trans (unhide GW) hg2)
      clear HL Hr GW hb
      go_loopw [8] (fun ii wx => ∃ (k : Nat) (f : Nat → Value), k ≤ m ∧ ii = .int .i64 k ∧ Hid (wx.rowIs L 36 (m * 6) f) ∧ Hid (∀ i, i < k → VF f i (kd i) (bl i) (tx i)) ∧ Below L w2 wx) (fun ii _ => m - (intOf ii).toNat)
      case atStart => exact ⟨0, f2, Nat.zero_le _, rfl, hr2, fun i hi => absurd hi (Nat.not_lt_zero _), Below.refl _ _⟩
      case round =>
        clear hr2 hg2 hs2
        obtain ⟨k, fL, hk, rfl, Hr, HV, hb⟩ := hrel
        have hw : Below w.heap.size w wr := Below.trans (unhide GW2) (hb.mono hLw)
        by_cases hlt2 : k < m
        · obtain rfl := (unhide HA).h1 (by omega)
          have lib := (unhide HA).l1 (by omega)
          have t0 : wr.cell? ⟨ib, io + k * 3, .none⟩ = some (.int .u8 (kd k)) := by rw [hw.cell lib]; exact (unhide HA).i0 k hlt2
          have t1 : wr.cell? ⟨ib, io + k * 3 + 1, .none⟩ = some (.bool (bl k)) := by rw [hw.cell lib]; exact (unhide HA).i1 k hlt2
          have t2 : wr.cell? ⟨ib, io + k * 3 + 2, .none⟩ = some (.string (tx k)) := by rw [hw.cell lib]; exact (unhide HA).i2 k hlt2
          obtain ⟨bk0, bk1⟩ := (unhide HA).bk k hlt2
          have hLl := (unhide Hr).lt
          have hkI : (k : Int) < (m : Int) := by omega
          go_wp2_with fail
          refine (val_any (kd k) bk0 bk1 (bl k) (tx k) _).mono ?_
          rintro e w3 ⟨rfl, hg3⟩
          have hr3 := hg3.row (unhide Hr)
          have p0 := hr3.cell (i := k * 6) (by omega)
          have p1 := hr3.cell (i := k * 6 + 1) (by omega)
          have p2 := hr3.cell (i := k * 6 + 2) (by omega)
          have p3 := hr3.cell (i := k * 6 + 3) (by omega)
          have p4 := hr3.cell (i := k * 6 + 4) (by omega)
          have p5 := hr3.cell (i := k * 6 + 5) (by omega)
          have fz := hr3.frozen
          obtain ⟨f', q1, q2⟩ := store6 hr3 kd bl tx (unhide HV)
          have R := hide (And.intro q1 q2)
          have hb3 : Below L w2 w3 := hb.trans (Below.mono hg3 (Nat.le_of_lt hLl))
          have hbe := (((((hb3.setCell (p := ⟨L, k * 6, .none⟩) (Nat.le_refl _) (.int .u8 (k6 (kd k)))).setCell (p := ⟨L, k * 6 + 1, .none⟩) (Nat.le_refl _) (.bool (bl k))).setCell (p := ⟨L, k * 6 + 2, .none⟩) (Nat.le_refl _) (.string (tx k))).setCell (p := ⟨L, k * 6 + 3, .none⟩) (Nat.le_refl _) (.slice .none 0 0)).setCell (p := ⟨L, k * 6 + 4, .none⟩) (Nat.le_refl _) (.slice .none 0 0)).setCell (p := ⟨L, k * 6 + 5, .none⟩) (Nat.le_refl _) (.slice .none 0 0)
          clear q1 q2 hr3 t0 t1 t2
          go_wp2_with fail
          go_roundw
          case rel => exact ⟨k + 1, f', by omega, by go_num, (unhide R).1, (unhide R).2, hbe⟩
          case measure => simp [intOf]; omega
        · obtain rfl : m = k := by omega
          have hPr2 := hide (World.rowIs.of_block (unhide hPr) (hb.block P hLP) : wr.rowIs P 29 (n * 2) f)
          have hLl := (unhide Hr).lt
          have GW3 := hide (show Grow w wr from hw)
          clear hPr GW2 hb hw
          have hO := owns_of_row (unhide hPr2) (length_pcl sn si n) (row_pcl (unhide HF)) (by unfold maxLen; omega)
          have hN := hide (start_nums wr P n (Nat.lt_trans hLP hLl))
          have hI := hide (start_inv wr P n kd bl tx (pcl sn si n) hO)
          have hLc : ∀ i, i < m → VCell (Wst wr P n) L i (kd i) (bl i) (tx i) := fun i hi => ((unhide HV i hi).cell (unhide Hr) hi).grow (wst_grow wr P n)
          have HLc := hide hLc
          have HsL : Hid (¬ (L = wr.heap.size + 1 + 1 ∨ L = wr.heap.size + 1 + 1 + 1 ∨ L = wr.heap.size ∨ L = P)) := by show ¬ _; omega
          have GW4 := hide (Grow.trans (unhide GW3) (wst_grow wr P n))
          clear hO hLc hPr2 HF HV Hr GW3
          go_wp2_with fail
          refine (items_any (Wst wr P n) _ _ _ _ P L n m n kd bl tx (pcl sn si n) hn hm (unhide hN) (unhide HLc) (unhide HsL) (pcl_one sn si n) (unhide hI)).mono ?_
          rintro e w6 ⟨rfl, ga, pa, gc, pc, pb, cap, q, I6⟩
          obtain ⟨gvb, gpb, hfin⟩ := fin_of (unhide hN) I6 (unhide HLc) (unhide HsL)
          have HFin := hide hfin
          have W6 := hide (kept_below (unhide GW4) I6.kept (by omega) (by omega) (by omega) (by omega))
          clear I6 hfin hN hI HLc HsL GW4
          generalize wr.heap.size + 1 + 1 + 1 = GP at *
          generalize wr.heap.size + 1 + 1 = GV at *
          generalize wr.heap.size + 1 = CV at *
          generalize wr.heap.size = CK at *
          have cGV := (unhide HFin).cGV
          have cGP := (unhide HFin).cGP
          go_wp2_with fail
          go_loopw [12] (fun ii wx => ∃ i : Nat, i ≤ m ∧ ii = .int .i64 i ∧ Hid (Grow w6 wx)) (fun ii _ => m - (intOf ii).toNat)
          case atStart => exact ⟨0, Nat.zero_le _, rfl, Grow.refl _⟩
          case round =>
            obtain ⟨i, hi, rfl, HG⟩ := hrel
            by_cases hlt3 : i < m
            · obtain rfl := (unhide HA).h1 (by omega)
              obtain rfl := (unhide HFin).hGV (by omega)
              obtain rfl := (unhide HFin).hGP (by omega)
              have lib := (unhide HA).l1 (by omega)
              have F := (unhide HFin).grow (unhide HG)
              obtain ⟨g0, g1, g2, g3, g4, g5⟩ := F.vGV i hlt3
              have gG := F.cGV
              clear F
              have t0 : wr.cell? ⟨ib, io + i * 3, .none⟩ = some (.int .u8 (kd i)) := (unhide HG).cell (by rw [(unhide W6).cell lib]; exact (unhide HA).i0 i hlt3)
              have t1 : wr.cell? ⟨ib, io + i * 3 + 1, .none⟩ = some (.bool (bl i)) := (unhide HG).cell (by rw [(unhide W6).cell lib]; exact (unhide HA).i1 i hlt3)
              have t2 : wr.cell? ⟨ib, io + i * 3 + 2, .none⟩ = some (.string (tx i)) := (unhide HG).cell (by rw [(unhide W6).cell lib]; exact (unhide HA).i2 i hlt3)
              obtain ⟨bk0, bk1⟩ := (unhide HA).bk i hlt3
              have hiI : (i : Int) < (m : Int) := by omega
              clear cGV cGP
              go_wp2_with fail
              go_region_held3 (fun w' => w'.cell? ⟨GV, 0, .none⟩ = some (.slice (some ⟨gvb, 0, .none⟩) m gc) ∧ w'.cell? ⟨gvb, i * 6, .none⟩ = some (.int .u8 (k6 (kd i))) ∧ w'.cell? ⟨gvb, i * 6 + 1, .none⟩ = some (.bool (bl i)) ∧ w'.cell? ⟨gvb, i * 6 + 2, .none⟩ = some (.string (tx i)) ∧ w'.cell? ⟨gvb, i * 6 + 3, .none⟩ = some (.slice .none 0 0) ∧ w'.cell? ⟨gvb, i * 6 + 4, .none⟩ = some (.slice .none 0 0) ∧ w'.cell? ⟨gvb, i * 6 + 5, .none⟩ = some (.slice .none 0 0) ∧
                  w'.cell? ⟨ib, io + i * 3, .none⟩ = some (.int .u8 (kd i)) ∧ w'.cell? ⟨ib, io + i * 3 + 1, .none⟩ = some (.bool (bl i)) ∧ w'.cell? ⟨ib, io + i * 3 + 2, .none⟩ = some (.string (tx i))) (go_keep)
                (first
                  | (go_at_call 8; refine (same_any (kd i) bk0 bk1 (bl i) (tx i) _).mono ?_; rintro e w7 ⟨rfl, hg7⟩; have y0 := hg7.cell (by exact gG); have y1 := hg7.cell (by exact g0); have y2 := hg7.cell (by exact g1); have y3 := hg7.cell (by exact g2); have y4 := hg7.cell (by exact g3); have y5 := hg7.cell (by exact g4); have y6 := hg7.cell (by exact g5); have y7 := hg7.cell (by exact t0); have y8 := hg7.cell (by exact t1); have y9 := hg7.cell (by exact t2)))
              have HG7 := hide (Grow.trans (Grow.drew (unhide HG)) hg7)
              clear hg7 y0 y1 y2 y3 y4 y5 y6 y7 y8 y9 g0 g1 g2 g3 g4 g5 gG t0 t1 t2
              have F7 := hide ((unhide HFin).grow (unhide HG7))
              have z1 := (unhide F7).cGP
              have z2 := (unhide F7).vGP i hlt3
              go_wp2_with fail
              go_loopw [14] (fun jj wy => ∃ j r : Nat, j ≤ n ∧ jj = .int .i64 j ∧ wy = w7.drewN r) (fun jj _ => n - (intOf jj).toNat)
              case atStart => exact ⟨0, 0, Nat.zero_le _, rfl, rfl⟩
              case round =>
                obtain ⟨j, r, hj, rfl, rfl⟩ := hrel
                by_cases hlt4 : j < n
                · obtain rfl := (unhide HA).h0 (by omega)
                  have lsb := (unhide HA).l0 (by omega)
                  obtain ⟨x0, x1⟩ := (unhide F7).cqn i hlt3 j hlt4
                  have s0 : w7.cell? ⟨sb, so + j * 2, .none⟩ = some (.string (sn j)) := (unhide HG7).cell (by rw [(unhide W6).cell lsb]; exact (unhide HA).s0 j hlt4)
                  have s1 : w7.cell? ⟨sb, so + j * 2 + 1, .none⟩ = some (.int .i64 (si j)) := (unhide HG7).cell (by rw [(unhide W6).cell lsb]; exact (unhide HA).s1 j hlt4)
                  have hjI : (j : Int) < (n : Int) := by omega
                  have hjI2 : (j : Int) < (n : Int) + 1 := by omega
                  go_wp2_with fail
                  go_quiet (fail)
                  go_wp2_with fail
                  go_roundw
                  case rel => exact ⟨j + 1, _, by omega, by go_num, rfl⟩
                  case measure => simp [intOf]; omega
                · obtain ⟨x0, x1⟩ := (unhide F7).cql i hlt3
                  have hnI : (n : Int) < (n : Int) + 1 := by omega
                  go_wp2_with fail
                  go_roundw
                  case rel => exact ⟨i + 1, by omega, by go_num, Grow.drewN (unhide HG7) _⟩
                  case measure => simp [intOf]; omega
            · clear cGV cGP
              have F := (unhide HFin).grow (unhide HG)
              have HF8 := hide F
              have cCV := F.cCV
              have cCK := F.cCK
              have cCF := F.cCF
              clear F
              have n41 := neq41
              go_wp2_with fail
              go_loopw [15] (fun jj wy => ∃ j r : Nat, j ≤ n ∧ jj = .int .i64 j ∧ Hid (Grow w6 wy) ∧ wy = World.drewN wr r) (fun jj _ => n - (intOf jj).toNat)
              case atStart => exact ⟨0, 0, Nat.zero_le _, rfl, unhide HG, rfl⟩
              case round =>
                obtain ⟨j, r, hj, rfl, HG9, rfl⟩ := hrel
                by_cases hlt5 : j < n
                · obtain rfl := (unhide HA).h0 (by omega)
                  have lsb := (unhide HA).l0 (by omega)
                  obtain ⟨x0, x1⟩ := (unhide HF8).cpb j hlt5
                  have s0 := (unhide HG).cell (a := ⟨sb, so + j * 2, .none⟩) (v := .string (sn j)) (by rw [(unhide W6).cell lsb]; exact (unhide HA).s0 j hlt5)
                  have s1 := (unhide HG).cell (a := ⟨sb, so + j * 2 + 1, .none⟩) (v := .int .i64 (si j)) (by rw [(unhide W6).cell lsb]; exact (unhide HA).s1 j hlt5)
                  have hjI : (j : Int) < (n : Int) := by omega
                  go_wp2_with fail
                  go_quiet (fail)
                  go_wp2_with fail
                  go_roundw
                  case rel => exact ⟨j + 1, _, by omega, by go_num, Grow.drewN (unhide HG) _, rfl⟩
                  case measure => simp [intOf]; omega
                · have HGx := hide (Grow.drewN (unhide HG) r)
                  have HFx := hide ((unhide HF8).grow (Grow.drewN (Grow.refl _) r))
                  go_wp2_with fail
                  go_loopw [16] (fun ii wy => ∃ i : Nat, i ≤ m ∧ ii = .int .i64 i ∧ Hid (Grow w6 wy)) (fun ii _ => m - (intOf ii).toNat)
                  case atStart => exact ⟨0, Nat.zero_le _, rfl, unhide HGx⟩
                  case round =>
                    clear HGx HFx HF8 cCV cCK cCF HG HG9
                    obtain ⟨i, hi, rfl, HG⟩ := hrel
                    by_cases hlt6 : i < m
                    · obtain rfl := (unhide HA).h1 (by omega)
                      have lib := (unhide HA).l1 (by omega)
                      have F := (unhide HFin).grow (unhide HG)
                      obtain ⟨g0, g1, g2, g3, g4, g5⟩ := F.vL i hlt6
                      clear F
                      have t0 : wr.cell? ⟨ib, io + i * 3, .none⟩ = some (.int .u8 (kd i)) := (unhide HG).cell (by rw [(unhide W6).cell lib]; exact (unhide HA).i0 i hlt6)
                      have t1 : wr.cell? ⟨ib, io + i * 3 + 1, .none⟩ = some (.bool (bl i)) := (unhide HG).cell (by rw [(unhide W6).cell lib]; exact (unhide HA).i1 i hlt6)
                      have t2 : wr.cell? ⟨ib, io + i * 3 + 2, .none⟩ = some (.string (tx i)) := (unhide HG).cell (by rw [(unhide W6).cell lib]; exact (unhide HA).i2 i hlt6)
                      obtain ⟨bk0, bk1⟩ := (unhide HA).bk i hlt6
                      have hiI : (i : Int) < (m : Int) := by omega
                      go_wp2_with fail
                      go_region_held3 (fun w' => w'.cell? ⟨L, i * 6, .none⟩ = some (.int .u8 (k6 (kd i))) ∧ w'.cell? ⟨L, i * 6 + 1, .none⟩ = some (.bool (bl i)) ∧ w'.cell? ⟨L, i * 6 + 2, .none⟩ = some (.string (tx i)) ∧ w'.cell? ⟨L, i * 6 + 3, .none⟩ = some (.slice .none 0 0) ∧ w'.cell? ⟨L, i * 6 + 4, .none⟩ = some (.slice .none 0 0) ∧ w'.cell? ⟨L, i * 6 + 5, .none⟩ = some (.slice .none 0 0) ∧
                          w'.cell? ⟨ib, io + i * 3, .none⟩ = some (.int .u8 (kd i)) ∧ w'.cell? ⟨ib, io + i * 3 + 1, .none⟩ = some (.bool (bl i)) ∧ w'.cell? ⟨ib, io + i * 3 + 2, .none⟩ = some (.string (tx i))) (go_keep)
                        (first
                          | (go_at_call 8; refine (same_any (kd i) bk0 bk1 (bl i) (tx i) _).mono ?_; rintro e w7 ⟨rfl, hg7⟩; have y1 := hg7.cell (by exact g0); have y2 := hg7.cell (by exact g1); have y3 := hg7.cell (by exact g2); have y4 := hg7.cell (by exact g3); have y5 := hg7.cell (by exact g4); have y6 := hg7.cell (by exact g5); have y7 := hg7.cell (by exact t0); have y8 := hg7.cell (by exact t1); have y9 := hg7.cell (by exact t2)))
                      have HG7 := hide (Grow.trans (Grow.drew (unhide HG)) hg7)
                      clear hg7 y1 y2 y3 y4 y5 y6 y7 y8 y9 g0 g1 g2 g3 g4 g5 t0 t1 t2
                      go_wp2_with fail
                      go_roundw
                      case rel => exact ⟨i + 1, by omega, by go_num, unhide HG7⟩
                      case measure => simp [intOf]; omega
                    · go_wp2_with fail
                      go_ret
                      exact ⟨rfl, Below.trans (unhide W6) (Below.mono (unhide HG) (unhide W6).size)⟩
end Go.Proofs.Ybulkejtm
