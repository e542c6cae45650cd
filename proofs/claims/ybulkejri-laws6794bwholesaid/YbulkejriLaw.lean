import Derived.Test.YbulkejriWithin
import Derived.Deep.RegionHeld3
namespace Go.Proofs.Ybulkejri
open Go.ChangeShapes Go.WideShapes Go.ChangeAt Go.RowKit

theorem Yba.info32 : (Yba.prog.info? 32).map (fun i => (i.zero, i.size, i.bytes)) = some (some (.agg #[.int .u64 0, .int .i64 0, .pointer .none, .int .u64 0, .int .i64 0, .pointer .none]), 6, 48) := by kernel_rfl

/-- Element i of a row of spans, by the row's content. -/
structure SpanF (f : Nat → Value) (i : Nat) (a b : Int) : Prop where
  c0 : f (i * 6) = .int .u64 (nk a)
  c1 : f (i * 6 + 1) = .int .i64 (nx a)
  c2 : f (i * 6 + 2) = .pointer .none
  c3 : f (i * 6 + 3) = .int .u64 (nk b)
  c4 : f (i * 6 + 4) = .int .i64 (nx b)
  c5 : f (i * 6 + 5) = .pointer .none

theorem SpanF.span {w : World} {S n i : Nat} {f : Nat → Value} {a b : Int} (h : SpanF f i a b) (hr : w.rowIs S 32 (n * 6) f) (hi : i < n) : Span w S i a b :=
  ⟨by rw [hr.cell (by omega), h.c0], by rw [hr.cell (by omega), h.c1], by rw [hr.cell (by omega), h.c2], by rw [hr.cell (by omega), h.c3], by rw [hr.cell (by omega), h.c4], by rw [hr.cell (by omega), h.c5]⟩

/-- What six stores into element k leave. -/
theorem stored {w : World} {S N k : Nat} {f : Nat → Value} (hr : w.rowIs S 32 N f) (a b : Int) (F U : Nat → Int) (hF : ∀ i, i < k → SpanF f i (F i) (U i)) (ea : a = F k) (eb : b = U k) :
    ∃ f', ((((((w.setCell ⟨S, k * 6, .none⟩ (.int .u64 (nk a))).setCell ⟨S, k * 6 + 1, .none⟩ (.int .i64 (nx a))).setCell ⟨S, k * 6 + 2, .none⟩ (.pointer .none)).setCell ⟨S, k * 6 + 3, .none⟩ (.int .u64 (nk b))).setCell ⟨S, k * 6 + 4, .none⟩ (.int .i64 (nx b))).setCell ⟨S, k * 6 + 5, .none⟩ (.pointer .none)).rowIs S 32 N f' ∧
      ∀ i, i < k + 1 → SpanF f' i (F i) (U i) := by
  refine ⟨_, (((((hr.set _ _).set _ _).set _ _).set _ _).set _ _).set _ _, fun i hi => ?_⟩
  subst ea eb
  by_cases e : i = k
  · subst e
    constructor <;> simp
  · have h := hF i (by omega)
    constructor
    · rw [if_neg (by omega), if_neg (by omega), if_neg (by omega), if_neg (by omega), if_neg (by omega), if_neg (by omega)]; exact h.c0
    · rw [if_neg (by omega), if_neg (by omega), if_neg (by omega), if_neg (by omega), if_neg (by omega), if_neg (by omega)]; exact h.c1
    · rw [if_neg (by omega), if_neg (by omega), if_neg (by omega), if_neg (by omega), if_neg (by omega), if_neg (by omega)]; exact h.c2
    · rw [if_neg (by omega), if_neg (by omega), if_neg (by omega), if_neg (by omega), if_neg (by omega), if_neg (by omega)]; exact h.c3
    · rw [if_neg (by omega), if_neg (by omega), if_neg (by omega), if_neg (by omega), if_neg (by omega), if_neg (by omega)]; exact h.c4
    · rw [if_neg (by omega), if_neg (by omega), if_neg (by omega), if_neg (by omega), if_neg (by omega), if_neg (by omega)]; exact h.c5

theorem one_cells {f : Nat → Value} {n : Nat} {F U : Nat → Int} (h : ∀ i, i < n → SpanF f i (F i) (U i)) : ∀ j, j < n * 6 → (f j).oneCell' = true := by
  intro j hj
  have s := h (j / 6) (by omega)
  have e : j = j / 6 * 6 + j % 6 := by omega
  have hm : j % 6 < 6 := by omega
  generalize j / 6 = q at *
  generalize j % 6 = r at *
  subst e
  match r, hm with
  | 0, _ => rw [Nat.add_zero, s.c0]; rfl
  | 1, _ => rw [s.c1]; rfl
  | 2, _ => rw [s.c2]; rfl
  | 3, _ => rw [s.c3]; rfl
  | 4, _ => rw [s.c4]; rfl
  | 5, _ => rw [s.c5]; rfl

theorem copy_src {w w' : World} {S n : Nat} {f : Nat → Value} (hr : w.rowIs S 32 (n * 6) f) (hb : Below w.heap.size w w') :
    ∀ j, j < n * 6 → w'.cell? ((⟨S, 0, .none⟩ : Addr).add j) = some (f j) := by
  intro j hj
  have := (hr.of_block (hb.block _ hr.lt)).cell hj
  have e : (⟨S, 0, .none⟩ : Addr).add j = ⟨S, j, .none⟩ := by unfold Addr.add; split <;> simp_all
  rw [e]; exact this

theorem hit_same (F U : Nat → Int) (d : Int) (k : Nat) (h2 : ¬ (F k ≤ d ∧ d < U k)) : hit F U d (k + 1) = hit F U d k := by
  rw [hit_succ]
  by_cases a : F k ≤ d
  · have : ¬ d < U k := fun q => h2 ⟨a, q⟩
    simp [this]
  · simp [a]

/-- Equal called in a round: what lies in the two rows is as it was. -/
theorem equal_in (a : Int) (w : World) (S C : Nat) (hS : S < w.heap.size) (hC : C < w.heap.size) :
    Calls Yba.prog 6 #[T a, T a] w fun e w' => e = .returned (.bool true) ∧ (∀ o, w'.cell? ⟨S, o, .none⟩ = w.cell? ⟨S, o, .none⟩) ∧ (∀ o, w'.cell? ⟨C, o, .none⟩ = w.cell? ⟨C, o, .none⟩) ∧ Below w.heap.size w w' ∧ w.heap.size ≤ w'.heap.size := by
  refine (equal_any a w).mono ?_
  rintro e w' ⟨rfl, hb⟩
  exact ⟨rfl, fun o => hb.cell hS, fun o => hb.cell hC, hb, hb.size⟩

/-- zzs6794bat called in a round: what the round needs is as it was. -/
theorem bat_in (v : Int) (h0 : -9223372036854775808 ≤ v) (h1 : v ≤ 9223372036854775807) (w0 w : World) (S rb x n k : Nat) (A B : Value) (f : Nat → Value) (hrb : rb < w.heap.size) (hk : k < n)
    (cA : w.cell? ⟨rb, x, .none⟩ = some A) (cB : w.cell? ⟨rb, x + 1, .none⟩ = some B) (hr : w.rowIs S 32 (n * 6) f) (hb : Below S w0 w) :
    Calls Yba.prog 4 #[.int .i64 v] w fun e w' => e = .returned (.agg #[.int .u64 (nk v), .int .i64 (nx v), .pointer .none]) ∧
      w'.cell? ⟨rb, x, .none⟩ = some A ∧ w'.cell? ⟨rb, x + 1, .none⟩ = some B ∧ Hid (w'.rowIs S 32 (n * 6) f) ∧ Below S w0 w' ∧ w.heap.size ≤ w'.heap.size ∧
      w'.cell? ⟨S, k * 6, .none⟩ = some (f (k * 6)) ∧ w'.cell? ⟨S, k * 6 + 1, .none⟩ = some (f (k * 6 + 1)) ∧ w'.cell? ⟨S, k * 6 + 2, .none⟩ = some (f (k * 6 + 2)) ∧
      w'.cell? ⟨S, k * 6 + 3, .none⟩ = some (f (k * 6 + 3)) ∧ w'.cell? ⟨S, k * 6 + 4, .none⟩ = some (f (k * 6 + 4)) ∧ w'.cell? ⟨S, k * 6 + 5, .none⟩ = some (f (k * 6 + 5)) ∧
      (∀ j, w'.frozen? ⟨S, j, .none⟩ = false) := by
  refine (bat_any v h0 h1 w).mono ?_
  rintro e w' ⟨rfl, hb'⟩
  have hr' : w'.rowIs S 32 (n * 6) f := hr.of_block (hb'.block _ hr.lt)
  exact ⟨rfl, by rw [hb'.cell hrb, cA], by rw [hb'.cell hrb, cB], hr', hb.trans (hb'.mono (Nat.le_of_lt hr.lt)), hb'.size, hr'.cell (by omega), hr'.cell (by omega), hr'.cell (by omega), hr'.cell (by omega), hr'.cell (by omega), hr'.cell (by omega), hr'.frozen⟩

set_option maxHeartbeats 1000000 in
theorem law_some (F U : Nat → Int) (d : Int) (hd0 : -9223372036854775808 ≤ d) (hd1 : d ≤ 9223372036854775807) (rb ro n cap : Nat) (hn : n ≤ 1048576) (w : World) (hrb : rb < w.heap.size)
    (hF : ∀ i, i < n → w.cell? ⟨rb, ro + i * 2, .none⟩ = some (.int .i64 (F i))) (hU : ∀ i, i < n → w.cell? ⟨rb, ro + i * 2 + 1, .none⟩ = some (.int .i64 (U i)))
    (bF : ∀ i, i < n → -9223372036854775808 ≤ F i ∧ F i ≤ 9223372036854775807) (bU : ∀ i, i < n → -9223372036854775808 ≤ U i ∧ U i ≤ 9223372036854775807) :
    Calls Yba.prog 3 #[.slice (some ⟨rb, ro, .none⟩) n cap, .int .i64 d] w fun e w' => e = .returned (.bool true) ∧ Below w.heap.size w w' := by
  obtain ⟨i0, hi, hz0, hz1, hz2⟩ := info_parts Yba.info32
  have hlen : decide ((1048576 : Int) < (n : Int)) = false := decide_eq_false (by omega)
  go_enter Yba.func3, Yba.ntmps3
  go_wp2_with (at_make; refine wpList_make_rows rfl _ _ 23 rfl 32 i0 _ 6 Yba.underlying23 hi hz0 hz1 _ _ n rfl rfl (by rw [hz2]; omega) (by unfold maxLen; omega) ?_; intro w1 f1 hr1 hb1 hs1)
  have hne : w.heap.size ≠ rb := by omega
  go_loopw [6] (fun i wr => ∃ (k : Nat) (f : Nat → Value), k ≤ n ∧ i = .int .i64 k ∧ wr.rowIs w.heap.size 32 (n * 6) f ∧ (∀ i, i < k → SpanF f i (F i) (U i)) ∧ Below w.heap.size w wr) (fun i _ => n - (intOf i).toNat)
  case atStart => exact ⟨0, f1, Nat.zero_le _, rfl, hr1, fun i hi => absurd hi (Nat.not_lt_zero _), hb1⟩
  case round =>
    clear hr1 hb1 hs1
    obtain ⟨k, f, hk, rfl, hrow, hsp, hb⟩ := hrel
    have Hsp := hide hsp
    clear hsp
    by_cases hlt : k < n
    · have cF : wr.cell? ⟨rb, ro + k * 2, .none⟩ = some (.int .i64 (F k)) := by rw [hb.cell hrb]; exact hF k hlt
      have cU : wr.cell? ⟨rb, ro + k * 2 + 1, .none⟩ = some (.int .i64 (U k)) := by rw [hb.cell hrb]; exact hU k hlt
      obtain ⟨bF0, bF1⟩ := bF k hlt
      obtain ⟨bU0, bU1⟩ := bU k hlt
      have hS := hrow.lt
      have Hrow := hide hrow
      clear hrow
      go_wp2_with fail
      go_region_held3 (fun w' => w'.cell? ⟨rb, ro + k * 2, .none⟩ = some (.int .i64 (F k)) ∧ w'.cell? ⟨rb, ro + k * 2 + 1, .none⟩ = some (.int .i64 (U k))) (go_keep)
        (first
          | (go_at_call_of 4 (Value.int .i64 (F k)); refine (bat_in _ bF0 bF1 w _ w.heap.size rb (ro + k * 2) n k _ _ f ?_ hlt (by exact cF) (by exact cU) (by exact unhide Hrow) (by exact hb.drew)).mono ?_; (simp; omega); rintro e w1 ⟨rfl, cF1, cU1, Hr1, hb1, hs1, -, -, -, -, -, -, -⟩)
          | (go_at_call_of 4 (Value.int .i64 (U k)); refine (bat_in _ bU0 bU1 w _ w.heap.size rb (ro + k * 2) n k _ _ f ?_ hlt (by exact cF1) (by exact cU1) (by exact unhide Hr1) (by exact hb1)).mono ?_; (simp at hs1; omega); rintro e w2 ⟨rfl, cF2, cU2, Hr2, hb2, hs2, e0, e1, e2, e3, e4, e5, fz⟩))
      obtain ⟨f', hf1, hf2⟩ := stored (unhide Hr2) (F k) (U k) F U (unhide Hsp) rfl rfl
      have R := hide (And.intro hf1 hf2)
      clear hf1 hf2 e0 e1 e2 e3 e4 e5 fz cF1 cU1 cF2 cU2 Hr1 Hr2 Hsp
      have hbe := ((((((hb2.setCell (p := ⟨w.heap.size, k * 6, .none⟩) (Nat.le_refl _) (.int .u64 (nk (F k)))).setCell (p := ⟨w.heap.size, k * 6 + 1, .none⟩) (Nat.le_refl _) (.int .i64 (nx (F k)))).setCell (p := ⟨w.heap.size, k * 6 + 2, .none⟩) (Nat.le_refl _) (.pointer .none)).setCell (p := ⟨w.heap.size, k * 6 + 3, .none⟩) (Nat.le_refl _) (.int .u64 (nk (U k)))).setCell (p := ⟨w.heap.size, k * 6 + 4, .none⟩) (Nat.le_refl _) (.int .i64 (nx (U k)))).setCell (p := ⟨w.heap.size, k * 6 + 5, .none⟩) (Nat.le_refl _) (.pointer .none))
      go_wp2_with fail
      go_roundw
      case rel => exact ⟨k + 1, f', by omega, by go_num, (unhide R).1, (unhide R).2, hbe⟩
      case measure => simp [intOf]; omega
    · obtain rfl : k = n := by omega
      have hS := hrow.lt
      have hsp1 := one_cells (unhide Hsp)
      have Hone := hide hsp1
      have Hrow := hide hrow
      clear hsp1 hrow
      have hsz6 : (Yba.prog.info? 32).map (·.size) = some 6 := by rw [hi]; simp [hz1]
      go_wp2_with (at_make; refine wpList_make_named rfl _ _ 23 rfl 32 i0 _ 6 Yba.underlying23 hi hz0 hz1 _ _ k rfl rfl (by rw [hz2]; omega) (by unfold maxLen; omega) ?_; intro C wc fc HC hrc hbc hsc; obtain ⟨wd, hrun, hrd, hbd, hsd⟩ := run_copy_wide (P := Yba.prog) wc 23 23 3 32 C k ⟨w.heap.size, 0, .none⟩ k k 6 32 fc f Yba.underlying23 hsz6 hrc (copy_src (unhide Hrow) hbc) (unhide Hone))
      have hC : w.heap.size < C := by rw [unhide HC]; exact hS
      have Hrs := hide ((unhide Hrow).of_block ((hbd.block _ hC).trans (hbc.block _ hS)))
      have Hrd := hide hrd
      have hbw : Below w.heap.size w wd := hb.trans ((hbc.mono (Nat.le_of_lt hS)).trans (hbd.mono (Nat.le_of_lt hC)))
      have hCd : C < wd.heap.size := by omega
      clear hrc hrd hbc hbd Hone Hrow hrun hsc hsd hb hS HC
      go_loop [8, 9] (fun t i => ∃ m : Nat, m ≤ k ∧ i = .int .i64 m ∧ t = .bool (hit F U d m)) (fun _ i => k - (intOf i).toNat)
      case atStart => exact ⟨0, Nat.zero_le _, rfl, rfl⟩
      case round =>
        obtain ⟨m, hm, rfl, rfl⟩ := hrel
        by_cases hlt2 : m < k
        · have cF : wd.cell? ⟨rb, ro + m * 2, .none⟩ = some (.int .i64 (F m)) := by rw [hbw.cell hrb]; exact hF m hlt2
          have cU : wd.cell? ⟨rb, ro + m * 2 + 1, .none⟩ = some (.int .i64 (U m)) := by rw [hbw.cell hrb]; exact hU m hlt2
          by_cases h1 : F m ≤ d
          · by_cases h2 : d < U m
            · have hh := hide (hit_yes F U d m (m + 1) (by omega) h1 h2)
              go_wp2_with fail
              go_round
              case rel => exact ⟨m + 1, by omega, by go_num, by rw [unhide hh]⟩
              case measure => simp [intOf]; omega
            · have hh := hide (hit_same F U d m (by omega))
              go_wp2_with fail
              go_round
              case rel => exact ⟨m + 1, by omega, by go_num, by rw [unhide hh]⟩
              case measure => simp [intOf]; omega
          · have hd : decide (F m ≤ d) = false := decide_eq_false h1
            have hh := hide (hit_same F U d m (by omega))
            go_wp2_with fail
            go_round
            case rel => exact ⟨m + 1, by omega, by go_num, by rw [unhide hh]⟩
            case measure => simp [intOf]; omega
        · obtain rfl : m = k := by omega
          go_wp2_with fail
          refine (bat_any d hd0 hd1 _).mono ?_
          rintro e w3 ⟨rfl, hb3⟩
          go_wp2_with fail
          refine (within_any F U d w.heap.size m hn _ ?_ ?_).mono ?_
          · have := hb3.size; omega
          · intro i hi; exact ((unhide Hsp i hi).span (unhide Hrs) hi).below hb3 (by omega)
          rintro e w4 ⟨rfl, hb4⟩
          go_wp2_with fail
          have hbD : Below wd.heap.size wd w4 := hb3.trans (hb4.mono hb3.size)
          clear hb3 hb4
          go_loopw [11] (fun i wx => ∃ j : Nat, j ≤ m ∧ i = .int .i64 j ∧ Below wd.heap.size wd wx) (fun i _ => m - (intOf i).toNat)
          case atStart => exact ⟨0, Nat.zero_le _, rfl, hbD⟩
          case round =>
            clear hbD
            obtain ⟨j, hj, rfl, hbx⟩ := hrel
            by_cases hlt3 : j < m
            · obtain ⟨a0, a1, a2, a3, a4, a5⟩ := ((unhide Hsp j hlt3).span (unhide Hrs) hlt3).below hbx (by omega)
              obtain ⟨b0, b1, b2, b3, b4, b5⟩ := ((unhide Hsp j hlt3).span (unhide Hrd) hlt3).below hbx (by omega)
              have hxz := hbx.size
              have hxS : w.heap.size < wr.heap.size := by omega
              have hxC : C < wr.heap.size := by omega
              go_wp2_with fail
              go_region_held3 (fun w' => w'.cell? ⟨w.heap.size, j * 6, .none⟩ = some (.int .u64 (nk (F j))) ∧ w'.cell? ⟨w.heap.size, j * 6 + 1, .none⟩ = some (.int .i64 (nx (F j))) ∧ w'.cell? ⟨w.heap.size, j * 6 + 2, .none⟩ = some (.pointer .none) ∧
                  w'.cell? ⟨w.heap.size, j * 6 + 3, .none⟩ = some (.int .u64 (nk (U j))) ∧ w'.cell? ⟨w.heap.size, j * 6 + 4, .none⟩ = some (.int .i64 (nx (U j))) ∧ w'.cell? ⟨w.heap.size, j * 6 + 5, .none⟩ = some (.pointer .none) ∧
                  w'.cell? ⟨C, j * 6, .none⟩ = some (.int .u64 (nk (F j))) ∧ w'.cell? ⟨C, j * 6 + 1, .none⟩ = some (.int .i64 (nx (F j))) ∧ w'.cell? ⟨C, j * 6 + 2, .none⟩ = some (.pointer .none) ∧
                  w'.cell? ⟨C, j * 6 + 3, .none⟩ = some (.int .u64 (nk (U j))) ∧ w'.cell? ⟨C, j * 6 + 4, .none⟩ = some (.int .i64 (nx (U j))) ∧ w'.cell? ⟨C, j * 6 + 5, .none⟩ = some (.pointer .none)) (go_keep)
                (first
                  | (go_at_call_of 6 (nk (F j)); refine (equal_in (F j) _ w.heap.size C (by exact hxS) (by exact hxC)).mono ?_; rintro e w5 ⟨rfl, s5, c5, hb5, hs5⟩)
                  | (go_at_call_of 6 (nk (U j)); refine (equal_in (U j) _ w.heap.size C (by exact Nat.lt_of_lt_of_le hxS hs5) (by exact Nat.lt_of_lt_of_le hxC hs5)).mono ?_; rintro e w6 ⟨rfl, s6, c6, hb6, hs6⟩))
              have hfin : Below wd.heap.size wd w6 := hbx.drew.trans ((hb5.mono hxz).trans (hb6.mono (Nat.le_trans hxz hs5)))
              clear s5 c5 hb5 s6 c6 hb6 a0 a1 a2 a3 a4 a5 b0 b1 b2 b3 b4 b5
              go_wp2_with fail
              go_roundw
              case rel => exact ⟨j + 1, by omega, by go_num, hfin⟩
              case measure => simp [intOf]; omega
            · go_wp2_with fail
              go_ret
              exact ⟨rfl, hbw.trans (hbx.mono (by omega))⟩
end Go.Proofs.Ybulkejri
