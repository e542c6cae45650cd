import Derived.Test.YbulkejskSame
namespace Go.Proofs.Ybulkejsk
open Go.ChangeShapes Go.WideShapes Go.ChangeAt Go.RowKit

theorem row8 {w : World} {b : Nat} {f : Nat → Value} (c : Array Value) (h : w.heap[b]? = some (.cells c 24 (0, 0))) (hs : c.size = 8) (hc : ∀ i, i < 8 → c[i]? = some (f i)) : w.rowIs b 24 8 f := ⟨c, h, hs, hc⟩

/-- The world behind the three variables that build makes first. -/
def W3 (w : World) : World := ((w.alloc (.cells #[.int .u64 0, .int .u64 0, .int .u64 0, .int .u64 0, .int .u64 0, .int .u64 0, .int .u64 0, .int .u64 0] 24)).alloc (.cells #[.slice .none 0 0] 27)).alloc (.cells #[.int .u64 0, .int .u64 0, .int .u64 0, .int .u64 0, .int .u64 0, .int .u64 0, .int .u64 0, .int .u64 0] 24)
theorem W3_below (w : World) : Below w.heap.size w (W3 w) := (((Below.refl _ _).alloc (Nat.le_refl _) _).alloc (by simp) _).alloc (by simp; omega) _
theorem W3_size (w : World) : (W3 w).heap.size = w.heap.size + 1 + 1 + 1 := by simp [W3]
theorem W3_row (w : World) : (W3 w).rowIs (w.heap.size + 1 + 1) 24 8 (fun _ => .int .u64 0) := by
  refine ⟨#[.int .u64 0, .int .u64 0, .int .u64 0, .int .u64 0, .int .u64 0, .int .u64 0, .int .u64 0, .int .u64 0], ?_, rfl, ?_⟩
  · have := heap_alloc_new ((w.alloc (.cells #[.int .u64 0, .int .u64 0, .int .u64 0, .int .u64 0, .int .u64 0, .int .u64 0, .int .u64 0, .int .u64 0] 24)).alloc (.cells #[.slice .none 0 0] 27)) (.cells #[.int .u64 0, .int .u64 0, .int .u64 0, .int .u64 0, .int .u64 0, .int .u64 0, .int .u64 0, .int .u64 0] 24)
    rw [World.size_alloc, World.size_alloc] at this
    exact this
  · intro i hi
    match i, hi with
    | 0, _ => rfl
    | 1, _ => rfl
    | 2, _ => rfl
    | 3, _ => rfl
    | 4, _ => rfl
    | 5, _ => rfl
    | 6, _ => rfl
    | 7, _ => rfl

theorem zero_bd : ∀ k : Nat, 0 ≤ (fun _ : Nat => (0 : Int)) k ∧ (fun _ : Nat => (0 : Int)) k ≤ 18446744073709551615 := fun _ => ⟨Int.le_refl _, (by decide : (0 : Int) ≤ 18446744073709551615)⟩
theorem row_set {w : World} {b : Nat} {A : Nat → Int} (h : w.rowIs b 24 8 (fun k => .int .u64 (A k))) (j : Nat) (z : Int) : (w.setCell ⟨b, j, .none⟩ (.int .u64 z)).rowIs b 24 8 (fun k => .int .u64 (if k = j then z else A k)) :=
  (h.set j (.int .u64 z)).congr (fun i _ => by split <;> rfl)
theorem two_one (t : Nat) (z : Int) : ∀ u ∈ [Value.string (nm t), .int .u64 z], u.oneCell' = true := by
  intro u hu; simp at hu; rcases hu with rfl | rfl <;> rfl
/-- The counters' row behind an append in another row. -/
theorem far_row {wr w3 : World} {o : Obj} {v : Value} {b : Nat} {f : Nat → Value} (hgr : (wr.alloc o).drew.grownBy w3 v.ownBlock) (hv : v.ownBlock ≠ some b) (hr : wr.rowIs b 24 8 f) : w3.rowIs b 24 8 f := by
  refine hr.of_block ?_
  rw [hgr.block b (show b < (wr.alloc o).heap.size by have := hr.lt; simp; omega) (fun e => hv e.symm)]
  exact Below.heap_alloc _ _ _ hr.lt
theorem far_cell {wr w3 : World} {o : Obj} {v : Value} {b t : Nat} {A : Nat → Int} (hgr : (wr.alloc o).drew.grownBy w3 v.ownBlock) (hv : v.ownBlock ≠ some b) (hr : wr.rowIs b 24 8 (fun k => .int .u64 (A k))) (ht : t < 8) : w3.cell? ⟨b, t, .none⟩ = some (.int .u64 (A t)) :=
  (far_row hgr hv hr).cell ht
/-- From block b on nothing has turned. -/
def Above (b : Nat) (w w' : World) : Prop := ∀ k, b ≤ k → w'.heap[k]? = w.heap[k]?
theorem Above.refl (b : Nat) (w : World) : Above b w w := fun _ _ => rfl
theorem Above.setCell {b : Nat} {a w : World} (h : Above b a w) {p : Addr} (hp : p.block < b) (u : Value) : Above b a (w.setCell p u) :=
  fun k hk => (Below.heap_setCell w p u k (by omega)).trans (h k hk)
theorem owns_above {w w' : World} {base b n : Nat} {v : Value} {xs : List Value} (h : w.ownsRow b 34 2 v n xs) (ha : Above b w w') (hb : base ≤ b) : w'.ownsRow base 34 2 v n xs := by
  rcases h with ⟨hl, h' | ⟨g', cap', cur, h', hbase, hg, r⟩⟩
  · exact ⟨hl, .inl h'⟩
  · exact ⟨hl, .inr ⟨g', cap', cur, h', Nat.le_trans hb hbase, (ha g' hbase).trans hg, r⟩⟩

/-- What an append in build's round leaves. -/
theorem build_end {A : Nat → Int} {N : Nat} {W wr w3 : World} {o : Obj} {v : Value} {t g2 cap2 : Nat} {b : Nat} {f : Nat → Value}
    (hown : wr.ownsRow b 34 2 v (pos A t) (cells A t)) (hv : v.ownBlock ≠ some b) (hr : wr.rowIs b 24 8 f) (hb : Below b W wr) (hz : A t ≠ 0)
    (hown3 : w3.ownsRow b 34 2 (.slice (some ⟨g2, 0, .none⟩) (pos A t + 1) cap2) (pos A t + 1) (cells A t ++ [.string (nm t), .int .u64 (A t)]))
    (hgr : (wr.alloc o).drew.grownBy w3 v.ownBlock) (hat : v.ownBlock = some g2 ∨ g2 = N) (hN : N = wr.heap.size + 1) :
    pos A t + 1 = pos A (t + 1) ∧ Hid (w3.ownsRow b 34 2 (.slice (some ⟨g2, 0, .none⟩) (pos A (t + 1)) cap2) (pos A (t + 1)) (cells A (t + 1))) ∧
      Hid ((Value.slice (some ⟨g2, 0, .none⟩) (pos A (t + 1)) cap2).ownBlock ≠ some b) ∧ Hid (w3.rowIs b 24 8 f) ∧ Below b W w3 := by
  have e : pos A t + 1 = pos A (t + 1) := (pos_succ_one hz).symm
  have hlt := hr.lt
  refine ⟨e, ?_, ?_, far_row hgr hv hr, ?_⟩
  · rw [← e, cells_succ_one hz]; exact hown3
  · show (Value.slice (some ⟨g2, 0, .none⟩) (pos A (t + 1)) cap2).ownBlock ≠ some b
    rcases hat with h | h
    · rw [h] at hv; exact hv
    · simp [Value.ownBlock]; omega
  · refine ((hb.alloc (Nat.le_of_lt hlt) o).drew).grown hgr (show b ≤ (wr.alloc o).heap.size by simp; omega) (fun k hk => ?_)
    rcases hown.2 with ⟨h1, _⟩ | ⟨g, cp, cur, h1, hbase, _⟩
    · rw [h1] at hk; simp [Value.ownBlock] at hk
    · rw [h1] at hk; simp [Value.ownBlock] at hk; omega
theorem idx (x : Nat) (h : x ≤ 255) : ∃ j : Nat, j < 8 ∧ IntKind.i64.wrap (x : Int) = (x : Int) ∧ wrap64 (x : Int) = (x : Int) ∧ (x : Int).tmod 8 = (j : Int) ∧ (x : Int) % 8 = (j : Int) := by
  refine ⟨x % 8, by omega, ?_, ?_, ?_, ?_⟩
  · rw [IntKind.wrap_i64]; omega
  · unfold wrap64; omega
  · rw [Int.tmod_eq_emod_of_nonneg (by omega)]; omega
  · omega

set_option maxHeartbeats 1000000 in
theorem build_any (F : Nat → Nat) (G : Nat → Int) (a0 : Option Addr) (rb ro n cap : Nat) (hn : n ≤ 1048576) (w : World) (ha0 : 0 < n → a0 = some ⟨rb, ro, .none⟩) (hrb0 : 0 < n → rb < w.heap.size)
    (hF : ∀ i, i < n → w.cell? ⟨rb, ro + i * 2, .none⟩ = some (.int .u8 (F i : Nat))) (hG : ∀ i, i < n → w.cell? ⟨rb, ro + i * 2 + 1, .none⟩ = some (.int .u64 (G i)))
    (bF : ∀ i, i < n → F i ≤ 255) (bG : ∀ i, i < n → 0 ≤ G i ∧ G i ≤ 18446744073709551615) :
    Calls Yba.prog 4 #[.slice a0 n cap] w fun e w' => ∃ (A : Nat → Int) (ao : Option Addr) (cp : Nat), (∀ k, 0 ≤ A k ∧ A k ≤ 18446744073709551615) ∧
      e = .returned (.tuple #[.agg #[.int .u64 (A 0), .int .u64 (A 1), .int .u64 (A 2), .int .u64 (A 3), .int .u64 (A 4), .int .u64 (A 5), .int .u64 (A 6), .int .u64 (A 7)], .agg #[.slice ao (pos A 8) cp]]) ∧
      w'.ownsRow w.heap.size 34 2 (.slice ao (pos A 8) cp) (pos A 8) (cells A 8) ∧ Below w.heap.size w w' := by
  obtain ⟨i0, hi, hz0, hz1, hz2⟩ := info_parts Yba.info34
  go_enter Yba.func4, Yba.ntmps4
  go_wp2_with fail
  go_loopw [5] (fun i wr => ∃ (k : Nat) (A : Nat → Int), k ≤ n ∧ i = .int .i64 k ∧ (∀ k, 0 ≤ A k ∧ A k ≤ 18446744073709551615) ∧ Hid (wr.rowIs (w.heap.size + 1 + 1) 24 8 (fun k => .int .u64 (A k))) ∧ Below (w.heap.size + 1 + 1) (W3 w) wr) (fun i _ => n - (intOf i).toNat)
  case atStart => exact ⟨0, fun _ => 0, Nat.zero_le _, rfl, zero_bd, W3_row w, Below.refl _ _⟩
  case round =>
    obtain ⟨k, A, hk, rfl, bA, Hr, hb⟩ := hrel
    have HbA := hide bA
    clear bA
    by_cases hlt : k < n
    · have hrb := hrb0 (by omega)
      obtain rfl := ha0 (by omega)
      have hb0 : Below w.heap.size w wr := (W3_below w).trans (hb.mono (by omega))
      have cF : wr.cell? ⟨rb, ro + k * 2, .none⟩ = some (.int .u8 (F k : Nat)) := by rw [hb0.cell hrb]; exact hF k hlt
      have cG : wr.cell? ⟨rb, ro + k * 2 + 1, .none⟩ = some (.int .u64 (G k)) := by rw [hb0.cell hrb]; exact hG k hlt
      have bFk := bF k hlt
      have bGk := bG k hlt
      obtain ⟨j, hj8, q1, q2, q3, q4⟩ := idx (F k) bFk
      have hj8I : (j : Int) < 8 := by omega
      have cA : wr.cell? ⟨w.heap.size + 1 + 1, j, .none⟩ = some (.int .u64 (A j)) := (unhide Hr).cell (by omega)
      have fz := (unhide Hr).frozen
      have hne : w.heap.size + 1 + 1 ≠ rb := by omega
      have hkI : (k : Int) < (n : Int) := by omega
      go_wp2_with fail
      go_region_held3 (fun w' => w'.cell? ⟨rb, ro + k * 2, .none⟩ = some (.int .u8 (F k : Nat)) ∧ w'.cell? ⟨rb, ro + k * 2 + 1, .none⟩ = some (.int .u64 (G k))) (go_keep) (fail)
      have Hr2 := hide (row_set (unhide Hr) j (G k))
      have hb2 := (hb.setCell (p := ⟨w.heap.size + 1 + 1, j, .none⟩) (Nat.le_refl _) (.int .u64 (G k))).drew
      have bA2 : ∀ q, 0 ≤ (if q = j then G k else A q) ∧ (if q = j then G k else A q) ≤ 18446744073709551615 := fun q => by
        by_cases e : q = j
        · rw [if_pos e]; exact bGk
        · rw [if_neg e]; exact unhide HbA q
      have HbA2 := hide bA2
      clear bA2 q1 q2 q3 q4 cA fz cF cG
      go_wp2_with fail
      go_roundw
      case rel => exact ⟨k + 1, fun q => if q = j then G k else A q, by omega, by go_num, unhide HbA2, unhide Hr2, hb2⟩
      case measure => simp [intOf]; omega
    · clear hF hG bF bG
      go_wp2_with fail
      go_loopw [6, 7] (fun v i wx => ∃ k : Nat, k ≤ 8 ∧ i = .int .i64 k ∧ Hid (wx.ownsRow (w.heap.size + 1 + 1) 34 2 v (pos A k) (cells A k)) ∧ Hid (v.ownBlock ≠ some (w.heap.size + 1 + 1)) ∧ Hid (wx.rowIs (w.heap.size + 1 + 1) 24 8 (fun k => .int .u64 (A k))) ∧ Below (w.heap.size + 1 + 1) (W3 w) wx) (fun _ i _ => 8 - (intOf i).toNat)
      case atStart => exact ⟨0, Nat.zero_le _, rfl, World.ownsRow_nil _ _ _ _, (show (Value.slice .none 0 0).ownBlock ≠ some (w.heap.size + 1 + 1) by simp [Value.ownBlock]), unhide Hr, hb⟩
      case round =>
        clear hb Hr
        obtain ⟨t, ht, rfl, Hown, Hblk, Hr, hb⟩ := hrel
        by_cases hlt2 : t < 8
        · have cA : wr.cell? ⟨w.heap.size + 1 + 1, t, .none⟩ = some (.int .u64 (A t)) := (unhide Hr).cell hlt2
          have ht8 : (t : Int) < 8 := by omega
          have hpt := pos_le A t
          have hsz := (unhide Hr).lt
          by_cases hz : A t = 0
          · have hzb : (A t != 0) = false := by simp [hz]
            have E := hide (And.intro (pos_succ_zero hz) (cells_succ_zero hz))
            clear hz
            go_wp2_with fail
            go_roundw
            case rel => exact ⟨t + 1, by omega, by go_num, by rw [(unhide E).1, (unhide E).2]; exact Hown, Hblk, Hr, hb⟩
            case measure => simp [intOf]; omega
          · have hzb : (A t != 0) = true := by simp [hz]
            have Hz := hide hz
            clear hz
            go_wp2_with fail
            go_region_held3 (fun w' => w'.cell? ⟨w.heap.size + 1 + 1, t, .none⟩ = some (.int .u64 (A t))) (go_keep)
              (first
                | (go_at_call 6; refine (name_c t hlt2 _).mono ?_; rintro e w' ⟨rfl, rfl⟩)
                | (refine step_append_lies _ rfl (.tmp 35) (.tmp 42) 25 rfl (w.heap.size + 1 + 1) 34 i0 _ 2 24 Yba.underlying25 hi hz0 hz1 hz2 rfl (by decide) _ _ _ rfl (by exact (unhide Hown).alloc _) ⟨wr.heap.size, 0, .none⟩ 1 1 [.string (nm t), .int .u64 (A t)] rfl rfl (by exact cell_two _ _ _ _) (two_one _ _) (by decide) (by unfold maxLen; omega) (by omega) (by simp; omega) _ rfl ?_; intro g2 cap2 w3 hown3 hgr3 hat hlt3; have c3 := far_cell hgr3 (unhide Hblk) (unhide Hr) hlt2))
            have R := hide (build_end (unhide Hown) (unhide Hblk) (unhide Hr) hb (unhide Hz) hown3 hgr3 hat (by simp))
            have e1 := (unhide R).1
            rw [e1]
            clear hown3 hgr3 hat hlt3 c3 cA e1
            go_wp2_with fail
            go_roundw
            case rel => exact ⟨t + 1, by omega, by go_num, (unhide R).2.1, (unhide R).2.2.1, (unhide R).2.2.2.1, (unhide R).2.2.2.2⟩
            case measure => simp [intOf]; omega
        · obtain rfl : t = 8 := by omega
          obtain ⟨ao, cp, hu⟩ : ∃ ao cp, u6 = .slice ao (pos A 8) cp := by
            rcases (unhide Hown).2 with ⟨h1, h2⟩ | ⟨g, cp, cur, h1, _⟩
            · exact ⟨.none, 0, by rw [h1, h2]⟩
            · exact ⟨_, cp, h1⟩
          rw [hu] at Hown Hblk ⊢
          clear hu
          have r0 : wr.cell? ⟨w.heap.size + 1 + 1, 0, .none⟩ = some (.int .u64 (A 0)) := (unhide Hr).cell (by omega)
          have r1 : wr.cell? ⟨w.heap.size + 1 + 1, 1, .none⟩ = some (.int .u64 (A 1)) := (unhide Hr).cell (by omega)
          have r2 : wr.cell? ⟨w.heap.size + 1 + 1, 2, .none⟩ = some (.int .u64 (A 2)) := (unhide Hr).cell (by omega)
          have r3 : wr.cell? ⟨w.heap.size + 1 + 1, 3, .none⟩ = some (.int .u64 (A 3)) := (unhide Hr).cell (by omega)
          have r4 : wr.cell? ⟨w.heap.size + 1 + 1, 4, .none⟩ = some (.int .u64 (A 4)) := (unhide Hr).cell (by omega)
          have r5 : wr.cell? ⟨w.heap.size + 1 + 1, 5, .none⟩ = some (.int .u64 (A 5)) := (unhide Hr).cell (by omega)
          have r6 : wr.cell? ⟨w.heap.size + 1 + 1, 6, .none⟩ = some (.int .u64 (A 6)) := (unhide Hr).cell (by omega)
          have r7 : wr.cell? ⟨w.heap.size + 1 + 1, 7, .none⟩ = some (.int .u64 (A 7)) := (unhide Hr).cell (by omega)
          have s0 : wr.cell? ⟨w.heap.size, 0, .none⟩ = some (.int .u64 0) := by rw [hb.cell (by simp; omega)]; unfold W3; go_simp
          have s1 : wr.cell? ⟨w.heap.size, 1, .none⟩ = some (.int .u64 0) := by rw [hb.cell (by simp; omega)]; unfold W3; go_simp
          have s2 : wr.cell? ⟨w.heap.size, 2, .none⟩ = some (.int .u64 0) := by rw [hb.cell (by simp; omega)]; unfold W3; go_simp
          have s3 : wr.cell? ⟨w.heap.size, 3, .none⟩ = some (.int .u64 0) := by rw [hb.cell (by simp; omega)]; unfold W3; go_simp
          have s4 : wr.cell? ⟨w.heap.size, 4, .none⟩ = some (.int .u64 0) := by rw [hb.cell (by simp; omega)]; unfold W3; go_simp
          have s5 : wr.cell? ⟨w.heap.size, 5, .none⟩ = some (.int .u64 0) := by rw [hb.cell (by simp; omega)]; unfold W3; go_simp
          have s6 : wr.cell? ⟨w.heap.size, 6, .none⟩ = some (.int .u64 0) := by rw [hb.cell (by simp; omega)]; unfold W3; go_simp
          have s7 : wr.cell? ⟨w.heap.size, 7, .none⟩ = some (.int .u64 0) := by rw [hb.cell (by simp; omega)]; unfold W3; go_simp
          have s8 : wr.cell? ⟨w.heap.size + 1, 0, .none⟩ = some (.slice .none 0 0) := by rw [hb.cell (by simp)]; unfold W3; go_simp
          have f1 : ∀ o, wr.frozen? ⟨w.heap.size, o, .none⟩ = false := fun o => by rw [hb.frozen (by simp; omega)]; unfold W3; go_simp
          have f2 : ∀ o, wr.frozen? ⟨w.heap.size + 1, o, .none⟩ = false := fun o => by rw [hb.frozen (by simp)]; unfold W3; go_simp
          have hbe := hide hb
          have hsz := (unhide Hr).lt
          clear hb
          go_wp2_with fail
          refine bodyPost_ret (v := .tuple #[.agg #[.int .u64 (A 0), .int .u64 (A 1), .int .u64 (A 2), .int .u64 (A 3), .int .u64 (A 4), .int .u64 (A 5), .int .u64 (A 6), .int .u64 (A 7)], .agg #[.slice ao (pos A 8) cp]]) ?_ rfl ⟨A, ao, cp, unhide HbA, rfl, ?_, ?_⟩
          · simp [results, Yba.results4, go_sem, s0, s1, s2, s3, s4, s5, s6, s7, s8]
          · refine owns_above (unhide Hown) ?_ (by omega)
            go_light
            repeat (first | (with_reducible exact Above.refl _ _) | (with_reducible refine Above.setCell ?_ (by dsimp only; omega) _))
          · have hbf := (W3_below w).trans ((unhide hbe).mono (by omega))
            go_light
            repeat (first | (with_reducible exact hbf) | (with_reducible refine Below.setCell ?_ (by dsimp only; omega) _))
end Go.Proofs.Ybulkejsk
