import Derived.Test.YbulkejtmMid
namespace Go.Proofs.Ybulkejtm
open Go.ChangeShapes Go.WideShapes Go.ChangeAt Go.RowKit
set_option linter.unusedSimpArgs false
set_option linter.unusedVariables false

set_option maxRecDepth 100000 in
set_option maxHeartbeats 100000000 in
theorem law_b (a0 a1 : Option Addr) (F E c0 c1 fb fo eb eo : Nat) (fn : Nat → Int) (co ha : Nat → Bool) (va : Nat → ByteArray) (en : Nat → Int) (ev : Nat → ByteArray) (fm : Int) (w : World) (A : ArgB w a0 a1 F E fb fo eb eo fn co ha va en ev) :
    Calls Yba.prog 4 #[.slice a0 F c0, .slice a1 E c1, .int .u8 fm] w fun e w' => e = .returned (.bool true) ∧ Grow w w' := by
  have hlen := A.len
  have HA := hide A
  clear A
  have hl : decide ((4096 : Int) < (F : Int) + (E : Int)) = false := decide_eq_false (by omega)
  obtain ⟨i70, hi70, hz70, hs70, hb70⟩ := info_parts Yba.info70
  obtain ⟨i4, hi4, hz4, hs4, hb4⟩ := info_parts Yba.info4
  obtain ⟨i9, hi9, hz9, hs9, hb9⟩ := info_parts Yba.info9
  obtain ⟨i5, hi5, hz5, hs5, hb5⟩ := info_parts Yba.info5
  obtain ⟨i74, hi74, hz74, hs74, hb74⟩ := info_parts Yba.info74
  go_enter Yba.func4, Yba.ntmps4
  go_wp2_with fail
  go_loopw [41] (fun ii wr => ∃ (k : Nat) (sv hv vv : Value) (bx : Nat → Nat), k ≤ F ∧ ii = .int .i64 k ∧ Hid (Bd w wr k k k 0 sv hv vv (.slice .none 0 0) bx fn co ha va en ev)) (fun ii _ => F - (intOf ii).toNat)
  case atStart =>
    refine ⟨0, .slice .none 0 0, .slice .none 0 0, .slice .none 0 0, fun _ => 0, Nat.zero_le _, rfl, ((Grow.refl w).alloc _).alloc _, by simp, by go_simp, by go_simp, by go_simp, by go_simp, by go_simp, fun o => by go_simp, fun o => by go_simp, World.ownsRow_nil _ _ _ _, World.ownsRow_nil _ _ _ _, World.ownsRow_nil _ _ _ _, World.ownsRow_nil _ _ _ _, fun j hj => absurd hj (Nat.not_lt_zero _)⟩
  case round =>
    obtain ⟨k, sv, hv, vv, bx, hk, rfl, HB⟩ := hrel
    by_cases hlt : k < F
    · obtain rfl := (unhide HA).h0 (by omega)
      have hkI : (k : Int) < (F : Int) := by omega
      have t0 := (unhide HB).g.cell ((unhide HA).f0 k hlt)
      have t1 := (unhide HB).g.cell ((unhide HA).f1 k hlt)
      have t2 := (unhide HB).g.cell ((unhide HA).f2 k hlt)
      have t3 := (unhide HB).g.cell ((unhide HA).f3 k hlt)
      obtain ⟨b0, b1⟩ := (unhide HA).b0 k hlt
      have h5 : fn k % 5 = n5 (fn k) := rfl
      have h5t : (fn k).tmod 5 = n5 (fn k) := Int.tmod_eq_emod_of_nonneg b0
      have h50 : 0 ≤ n5 (fn k) ∧ n5 (fn k) < 7 := by unfold n5; omega
      go_wp2_with fail
      have HL := hide (L4.new wr (fn k) (co k) (ha k) (va k))
      have HB0 := hide ((unhide HB).grow ((Grow.refl wr).alloc (.cells #[.int .u8 (fn k), .bool (co k), .bool (ha k), .string (va k)] 63)))
      have hLB : Hid (w.heap.size + 2 ≤ wr.heap.size ∧ wr.heap.size < (wr.alloc (.cells #[.int .u8 (fn k), .bool (co k), .bool (ha k), .string (va k)] 63)).heap.size ∧ (∀ g, sv.ownBlock = some g → g < wr.heap.size) ∧ (∀ g, hv.ownBlock = some g → g < wr.heap.size) ∧ (∀ g, vv.ownBlock = some g → g < wr.heap.size)) := ⟨(unhide HB).lt, by simp, fun g hg => (owns_lt (unhide HB).oS hg).1, fun g hg => (owns_lt (unhide HB).oH hg).1, fun g hg => (owns_lt (unhide HB).oV hg).1⟩
      clear t0 t1 t2 t3 HB
      generalize wr.alloc (.cells #[.int .u8 (fn k), .bool (co k), .bool (ha k), .string (va k)] 63) = wa at *
      generalize wr.heap.size = LB at *
      -- BEGIN r10
      refine wp_region_z 18 (fun w' => w'.cell? ⟨w.heap.size + 1, 0, .none⟩ = some sv ∧ w'.cell? ⟨LB, 0, .none⟩ = some (.int .u8 (fn k)) ∧ w'.cell? ⟨LB, 1, .none⟩ = some (.bool (co k))) (by kernel_rfl) (by exact ⟨(unhide HB0).cS0, (unhide HL).c0, (unhide HL).c1⟩) (fun hHeld => ?_)
      refine wpAnyZ_take 0 (v := .pointer (some ⟨w.heap.size + 1, 0, .none⟩)) rfl (by kernel_rfl) (by kernel_rfl) (by kernel_rfl) (by kernel_rfl) (fun _ _ _ h => h) (by assumption) ⟨by rfl, fun wz hz => by dsimp only at hz; go_simp⟩ ?_
      simp only [Act.put, List.setIfInBounds_toArray, List.set_cons_zero, List.set_cons_succ]
      refine wpAnyZ_take 1 (v := .pointer (some ⟨w.heap.size + 1, 0, .none⟩)) rfl (by kernel_rfl) (by kernel_rfl) (by kernel_rfl) (by kernel_rfl) (fun _ _ _ h => h) (by assumption) ⟨by rfl, fun wz hz => by dsimp only at hz; go_simp⟩ ?_
      simp only [Act.put, List.setIfInBounds_toArray, List.set_cons_zero, List.set_cons_succ]
      refine wpAnyZ_take 2 (v := .pointer (some ⟨w.heap.size + 1, 0, .none⟩)) rfl (by kernel_rfl) (by kernel_rfl) (by kernel_rfl) (by kernel_rfl) (fun _ _ _ h => h) (by assumption) ⟨by rfl, fun wz hz => by dsimp only at hz; go_simp⟩ ?_
      simp only [Act.put, List.setIfInBounds_toArray, List.set_cons_zero, List.set_cons_succ]
      refine wpAnyZ_take 3 (v := .pointer (some ⟨w.heap.size + 1, 0, .none⟩)) rfl (by kernel_rfl) (by kernel_rfl) (by kernel_rfl) (by kernel_rfl) (fun _ _ _ h => h) (by assumption) ⟨by rfl, fun wz hz => by dsimp only at hz; go_simp⟩ ?_
      simp only [Act.put, List.setIfInBounds_toArray, List.set_cons_zero, List.set_cons_succ]
      refine wpAnyZ_take 4 (v := sv) rfl (by kernel_rfl) (by kernel_rfl) (by kernel_rfl) (by kernel_rfl) (fun _ _ _ h => h) (by assumption) ⟨by rfl, fun wz hz => by dsimp only at hz; go_simp⟩ ?_
      simp only [Act.put, List.setIfInBounds_toArray, List.set_cons_zero, List.set_cons_succ]
      refine wpAnyZ_take 5 (v := .pointer (some ⟨LB, 0, .none⟩)) rfl (by kernel_rfl) (by kernel_rfl) (by kernel_rfl) (by kernel_rfl) (fun _ _ _ h => h) (by assumption) ⟨by rfl, fun wz hz => by dsimp only at hz; go_simp⟩ ?_
      simp only [Act.put, List.setIfInBounds_toArray, List.set_cons_zero, List.set_cons_succ]
      refine wpAnyZ_take 6 (v := .int .u8 (fn k)) rfl (by kernel_rfl) (by kernel_rfl) (by kernel_rfl) (by kernel_rfl) (fun _ _ _ h => h) (by assumption) ⟨by rfl, fun wz hz => by dsimp only at hz; go_simp⟩ ?_
      simp only [Act.put, List.setIfInBounds_toArray, List.set_cons_zero, List.set_cons_succ]
      refine wpAnyZ_take 7 (v := .int .u8 (n5 (fn k))) rfl (by kernel_rfl) (by kernel_rfl) (by kernel_rfl) (by kernel_rfl) (fun _ _ _ h => h) (by assumption) ⟨by rfl, fun wz hz => by dsimp only at hz; go_simp⟩ ?_
      simp only [Act.put, List.setIfInBounds_toArray, List.set_cons_zero, List.set_cons_succ]
      refine wpAnyZ_take 8 (v := .string (nm (n5 (fn k)))) rfl (by kernel_rfl) (by kernel_rfl) (by kernel_rfl) (by kernel_rfl) (fun _ _ _ h => h) (by assumption) ⟨by rfl, fun wz hz => by dsimp only at hz; go_simp; exact name_any (n5 (fn k)) h50.1 h50.2 wz⟩ ?_
      simp only [Act.put, List.setIfInBounds_toArray, List.set_cons_zero, List.set_cons_succ]
      refine wpAnyZ_take 9 (v := .pointer (some ⟨LB, 1, .none⟩)) rfl (by kernel_rfl) (by kernel_rfl) (by kernel_rfl) (by kernel_rfl) (fun _ _ _ h => h) (by assumption) ⟨by rfl, fun wz hz => by dsimp only at hz; go_simp⟩ ?_
      simp only [Act.put, List.setIfInBounds_toArray, List.set_cons_zero, List.set_cons_succ]
      refine wpAnyZ_take 10 (v := .bool (co k)) rfl (by kernel_rfl) (by kernel_rfl) (by kernel_rfl) (by kernel_rfl) (fun _ _ _ h => h) (by assumption) ⟨by rfl, fun wz hz => by dsimp only at hz; go_simp⟩ ?_
      simp only [Act.put, List.setIfInBounds_toArray, List.set_cons_zero, List.set_cons_succ]
      refine wpAnyZ_take 11 (v := .int .i64 k) rfl (by kernel_rfl) (by kernel_rfl) (by kernel_rfl) (by kernel_rfl) (fun _ _ _ h => h) (by assumption) ⟨by rfl, fun wz hz => by dsimp only at hz; go_simp⟩ ?_
      simp only [Act.put, List.setIfInBounds_toArray, List.set_cons_zero, List.set_cons_succ]
      refine wpAnyZ_one 12 rfl (by kernel_rfl) (by rfl) ?_
      intro K hK
      go_simp
      refine (writer_any k _).mono ?_
      rintro e w2 ⟨rfl, h2⟩
      dsimp only
      have hg2 : Grow wa w2 := by rw [h2]; exact ((Grow.refl wa).drew).alloc _
      have hbox : w2.heap[wa.heap.size]? = some (.cells #[.int .i64 k] 3 (0, 0)) := by rw [h2]; exact heap_alloc_new wa.drew _
      have hw2 : w2.heap.size = wa.heap.size + 1 := by rw [h2]; simp
      have HS2 : w2.cell? ⟨w.heap.size + 1, 0, .none⟩ = some sv ∧ w2.cell? ⟨LB, 0, .none⟩ = some (.int .u8 (fn k)) ∧ w2.cell? ⟨LB, 1, .none⟩ = some (.bool (co k)) := ⟨hg2.cell (unhide HB0).cS0, hg2.cell (unhide HL).c0, hg2.cell (unhide HL).c1⟩
      clear h2 hHeld
      refine hK _ _ (fun _ => HS2) ?_
      clear hK K
      try simp only [Act.put, List.setIfInBounds_toArray, List.set_cons_zero, List.set_cons_succ]
      refine wpAnyZ_take 13 (v := .agg #[.string (nm (n5 (fn k))), .bool (co k), .string ⟨#[]⟩, .nilFunc, .func (.func 15) #[] #[.pointer (some ⟨wa.heap.size, 0, .none⟩)], .nilFunc]) rfl (by kernel_rfl) (by kernel_rfl) (by kernel_rfl) (by kernel_rfl) (fun _ _ _ h => h) (by assumption) ⟨by rfl, fun wz hz => by dsimp only at hz; go_simp⟩ ?_
      simp only [Act.put, List.setIfInBounds_toArray, List.set_cons_zero, List.set_cons_succ]
      refine wpAnyZ_one 14 rfl (by kernel_rfl) (by rfl) ?_
      intro K hK
      go_simp
      have hg3 := hg2.alloc (.cells #[.string (nm (n5 (fn k))), .bool (co k), .string ⟨#[]⟩, .nilFunc, .func (.func 15) #[] #[.pointer (some ⟨wa.heap.size, 0, .none⟩)], .nilFunc] 70)
      have HS3 := And.intro (hg3.cell (unhide HB0).cS0) (And.intro (hg3.cell (unhide HL).c0) (hg3.cell (unhide HL).c1))
      clear HS2
      refine hK _ _ (fun _ => HS3) ?_
      clear hK K
      try simp only [Act.put, List.setIfInBounds_toArray, List.set_cons_zero, List.set_cons_succ]
      refine wpAnyZ_one 15 rfl (by kernel_rfl) (by rfl) ?_
      intro K hK
      refine wp_append_lies _ (.tmp 52) (.tmp 62) 59 rfl (w.heap.size + 2) 70 i70 _ 6 64 Yba.underlying59 hi70 hz70 hs70 hb70 rfl (by decide) sv k (rcl (fun i => fc1 (n5 (fn i)) (co i) (bx i)) k) (by rfl) (by exact hg3.owns (unhide HB0).oS) ⟨wa.heap.size + 1, 0, .none⟩ 1 1 (fc1 (n5 (fn k)) (co k) wa.heap.size) (by rfl) rfl (by exact fc1_news hw2 _ _ _) (by exact fc1_one _ _ _) (by decide) (by unfold maxLen; omega) (by omega) (by have h1 := (unhide HB0).lt; have h2 := hg3.size; omega) _ rfl ?_
      intro g cap w3 hown hgr hat hltg
      have nS : some (w.heap.size + 1) ≠ sv.ownBlock := fun e => by have := (owns_lt (unhide HB0).oS e.symm).2; omega
      have nL : some LB ≠ sv.ownBlock := fun e => by have := (unhide hLB).2.2.1 _ e.symm; omega
      have HS4 := And.intro (hgr.cell HS3.1 nS) (And.intro (hgr.cell HS3.2.1 nL) (hgr.cell HS3.2.2 nL))
      clear HS3
      refine hK _ _ (fun _ => HS4) ?_
      clear hK K
      try simp only [Act.put, List.setIfInBounds_toArray, List.set_cons_zero, List.set_cons_succ]
      refine wpAnyZ_one 16 rfl (by kernel_rfl) (by rfl) ?_
      intro K hK
      go_simp
      refine hK _ _ (fun _ => HS4) ?_
      clear hK K
      try simp only [Act.put, List.setIfInBounds_toArray, List.set_cons_zero, List.set_cons_succ]
      refine wpAnyZ_one 17 rfl (by kernel_rfl) (by rfl) ?_
      intro K hK
      go_simp
      refine hK _ _ (fun _ => HS4) ?_
      clear hK K
      try simp only [Act.put, List.setIfInBounds_toArray, List.set_cons_zero, List.set_cons_succ]
      obtain ⟨zS, hB1, hL1⟩ := r10_end (unhide HB0) (unhide HL) (unhide hLB).1 (unhide hLB).2.2.1 hg3 (by exact ((Grow.refl w2).alloc _).block (heap_lt hbox) ▸ hbox) (Nat.le_of_lt (unhide hLB).2.1) hgr hown
      have l0 := HS4.1
      have HB1 := hide hB1
      have HL1 := hide hL1
      clear hB1 hL1 hown hgr hat HS4 hg2 hg3 hbox
      refine wpAnyZ_last 18 rfl (by kernel_rfl) (by rfl) (by kernel_rfl) ?_
      intro K hK
      go_simp
      refine hK _ _ ?_
      clear hK K
      refine wpAnyZ_done (by kernel_rfl) ?_ _
      clear zS l0 HB0 HL
      generalize w3.setCell ⟨w.heap.size + 1, 0, .none⟩ (.slice (some ⟨g, 0, .none⟩) (k + 1) cap) = wb at *
      go_wp2_with fail
      -- END r10
      -- BEGIN r11
      refine wp_region_z 11 (fun w' => w'.cell? ⟨w.heap.size, 0, .none⟩ = some hv ∧ w'.cell? ⟨LB, 2, .none⟩ = some (.bool (ha k))) (by kernel_rfl) (by exact ⟨(unhide HB1).cT0, (unhide HL1).c2⟩) (fun hHeld => ?_)
      refine wpAnyZ_take 0 (v := .pointer (some ⟨w.heap.size, 0, .none⟩)) rfl (by kernel_rfl) (by kernel_rfl) (by kernel_rfl) (by kernel_rfl) (fun _ _ _ h => h) (by assumption) ⟨by rfl, fun wz hz => by dsimp only at hz; go_simp⟩ ?_
      simp only [Act.put, List.setIfInBounds_toArray, List.set_cons_zero, List.set_cons_succ]
      refine wpAnyZ_take 1 (v := .pointer (some ⟨w.heap.size, 0, .none⟩)) rfl (by kernel_rfl) (by kernel_rfl) (by kernel_rfl) (by kernel_rfl) (fun _ _ _ h => h) (by assumption) ⟨by rfl, fun wz hz => by dsimp only at hz; go_simp⟩ ?_
      simp only [Act.put, List.setIfInBounds_toArray, List.set_cons_zero, List.set_cons_succ]
      refine wpAnyZ_take 2 (v := .pointer (some ⟨w.heap.size, 0, .none⟩)) rfl (by kernel_rfl) (by kernel_rfl) (by kernel_rfl) (by kernel_rfl) (fun _ _ _ h => h) (by assumption) ⟨by rfl, fun wz hz => by dsimp only at hz; go_simp⟩ ?_
      simp only [Act.put, List.setIfInBounds_toArray, List.set_cons_zero, List.set_cons_succ]
      refine wpAnyZ_take 3 (v := .pointer (some ⟨w.heap.size, 0, .none⟩)) rfl (by kernel_rfl) (by kernel_rfl) (by kernel_rfl) (by kernel_rfl) (fun _ _ _ h => h) (by assumption) ⟨by rfl, fun wz hz => by dsimp only at hz; go_simp⟩ ?_
      simp only [Act.put, List.setIfInBounds_toArray, List.set_cons_zero, List.set_cons_succ]
      refine wpAnyZ_take 4 (v := hv) rfl (by kernel_rfl) (by kernel_rfl) (by kernel_rfl) (by kernel_rfl) (fun _ _ _ h => h) (by assumption) ⟨by rfl, fun wz hz => by dsimp only at hz; go_simp⟩ ?_
      simp only [Act.put, List.setIfInBounds_toArray, List.set_cons_zero, List.set_cons_succ]
      refine wpAnyZ_take 5 (v := .pointer (some ⟨LB, 2, .none⟩)) rfl (by kernel_rfl) (by kernel_rfl) (by kernel_rfl) (by kernel_rfl) (fun _ _ _ h => h) (by assumption) ⟨by rfl, fun wz hz => by dsimp only at hz; go_simp⟩ ?_
      simp only [Act.put, List.setIfInBounds_toArray, List.set_cons_zero, List.set_cons_succ]
      refine wpAnyZ_take 6 (v := .bool (ha k)) rfl (by kernel_rfl) (by kernel_rfl) (by kernel_rfl) (by kernel_rfl) (fun _ _ _ h => h) (by assumption) ⟨by rfl, fun wz hz => by dsimp only at hz; go_simp⟩ ?_
      simp only [Act.put, List.setIfInBounds_toArray, List.set_cons_zero, List.set_cons_succ]
      refine wpAnyZ_one 7 rfl (by kernel_rfl) (by rfl) ?_
      intro K hK
      go_simp
      have hg3 := (Grow.refl wb).drew.alloc (.cells #[.bool (ha k)] 4)
      have HS3 := And.intro (hg3.cell (unhide HB1).cT0) (hg3.cell (unhide HL1).c2)
      clear hHeld
      refine hK _ _ (fun _ => HS3) ?_
      clear hK K
      try simp only [Act.put, List.setIfInBounds_toArray, List.set_cons_zero, List.set_cons_succ]
      refine wpAnyZ_one 8 rfl (by kernel_rfl) (by rfl) ?_
      intro K hK
      refine wp_append_lies _ (.tmp 70) (.tmp 73) 53 rfl (w.heap.size + 2) 4 i4 _ 1 1 Yba.underlying53 hi4 hz4 hs4 hb4 rfl (by decide) hv k (rcl (fun i => [.bool (ha i)]) k) (by rfl) (by exact hg3.owns (unhide HB1).oH) ⟨wb.heap.size, 0, .none⟩ 1 1 [.bool (ha k)] (by rfl) rfl (by exact one_news rfl _ _) (by intro u hu; simp at hu; subst hu; rfl) (by decide) (by unfold maxLen; omega) (by omega) (by exact Nat.le_trans (unhide HB1).lt hg3.size) _ rfl ?_
      intro g4 cap4 w4 hown hgr hat hltg4
      have nT : some w.heap.size ≠ hv.ownBlock := fun e => by have := (owns_lt (unhide HB1).oH e.symm).2; omega
      have nL : some LB ≠ hv.ownBlock := fun e => by have := (unhide hLB).2.2.2.1 _ e.symm; omega
      have HS4 := And.intro (hgr.cell HS3.1 nT) (hgr.cell HS3.2 nL)
      clear HS3
      refine hK _ _ (fun _ => HS4) ?_
      clear hK K
      try simp only [Act.put, List.setIfInBounds_toArray, List.set_cons_zero, List.set_cons_succ]
      refine wpAnyZ_one 9 rfl (by kernel_rfl) (by rfl) ?_
      intro K hK
      go_simp
      refine hK _ _ (fun _ => HS4) ?_
      clear hK K
      try simp only [Act.put, List.setIfInBounds_toArray, List.set_cons_zero, List.set_cons_succ]
      refine wpAnyZ_one 10 rfl (by kernel_rfl) (by rfl) ?_
      intro K hK
      go_simp
      refine hK _ _ (fun _ => HS4) ?_
      clear hK K
      try simp only [Act.put, List.setIfInBounds_toArray, List.set_cons_zero, List.set_cons_succ]
      obtain ⟨zT, hB2, hL2⟩ := rH_end (unhide HB1) (unhide HL1) (unhide hLB).1 (unhide hLB).2.2.2.1 hg3 hgr hown
      have l0 := HS4.1
      have HB2 := hide hB2
      have HL2 := hide hL2
      clear hB2 hL2 hown hgr hat HS4 hg3 nT nL
      refine wpAnyZ_last 11 rfl (by kernel_rfl) (by rfl) (by kernel_rfl) ?_
      intro K hK
      go_simp
      refine hK _ _ ?_
      clear hK K
      refine wpAnyZ_done (by kernel_rfl) ?_ _
      clear zT l0 HB1 HL1
      generalize w4.setCell ⟨w.heap.size, 0, .none⟩ (.slice (some ⟨g4, 0, .none⟩) (k + 1) cap4) = wc at *
      go_wp2_with fail
      -- END r11
      -- BEGIN r12
      refine wp_region_z 11 (fun w' => w'.cell? ⟨w.heap.size, 1, .none⟩ = some vv ∧ w'.cell? ⟨LB, 3, .none⟩ = some (.string (va k))) (by kernel_rfl) (by exact ⟨(unhide HB2).cT1, (unhide HL2).c3⟩) (fun hHeld => ?_)
      refine wpAnyZ_take 0 (v := .pointer (some ⟨w.heap.size, 0, .none⟩)) rfl (by kernel_rfl) (by kernel_rfl) (by kernel_rfl) (by kernel_rfl) (fun _ _ _ h => h) (by assumption) ⟨by rfl, fun wz hz => by dsimp only at hz; go_simp⟩ ?_
      simp only [Act.put, List.setIfInBounds_toArray, List.set_cons_zero, List.set_cons_succ]
      refine wpAnyZ_take 1 (v := .pointer (some ⟨w.heap.size, 0, .none⟩)) rfl (by kernel_rfl) (by kernel_rfl) (by kernel_rfl) (by kernel_rfl) (fun _ _ _ h => h) (by assumption) ⟨by rfl, fun wz hz => by dsimp only at hz; go_simp⟩ ?_
      simp only [Act.put, List.setIfInBounds_toArray, List.set_cons_zero, List.set_cons_succ]
      refine wpAnyZ_take 2 (v := .pointer (some ⟨w.heap.size, 0, .none⟩)) rfl (by kernel_rfl) (by kernel_rfl) (by kernel_rfl) (by kernel_rfl) (fun _ _ _ h => h) (by assumption) ⟨by rfl, fun wz hz => by dsimp only at hz; go_simp⟩ ?_
      simp only [Act.put, List.setIfInBounds_toArray, List.set_cons_zero, List.set_cons_succ]
      refine wpAnyZ_take 3 (v := .pointer (some ⟨w.heap.size, 1, .none⟩)) rfl (by kernel_rfl) (by kernel_rfl) (by kernel_rfl) (by kernel_rfl) (fun _ _ _ h => h) (by assumption) ⟨by rfl, fun wz hz => by dsimp only at hz; go_simp⟩ ?_
      simp only [Act.put, List.setIfInBounds_toArray, List.set_cons_zero, List.set_cons_succ]
      refine wpAnyZ_take 4 (v := vv) rfl (by kernel_rfl) (by kernel_rfl) (by kernel_rfl) (by kernel_rfl) (fun _ _ _ h => h) (by assumption) ⟨by rfl, fun wz hz => by dsimp only at hz; go_simp⟩ ?_
      simp only [Act.put, List.setIfInBounds_toArray, List.set_cons_zero, List.set_cons_succ]
      refine wpAnyZ_take 5 (v := .pointer (some ⟨LB, 3, .none⟩)) rfl (by kernel_rfl) (by kernel_rfl) (by kernel_rfl) (by kernel_rfl) (fun _ _ _ h => h) (by assumption) ⟨by rfl, fun wz hz => by dsimp only at hz; go_simp⟩ ?_
      simp only [Act.put, List.setIfInBounds_toArray, List.set_cons_zero, List.set_cons_succ]
      refine wpAnyZ_take 6 (v := .string (va k)) rfl (by kernel_rfl) (by kernel_rfl) (by kernel_rfl) (by kernel_rfl) (fun _ _ _ h => h) (by assumption) ⟨by rfl, fun wz hz => by dsimp only at hz; go_simp⟩ ?_
      simp only [Act.put, List.setIfInBounds_toArray, List.set_cons_zero, List.set_cons_succ]
      refine wpAnyZ_one 7 rfl (by kernel_rfl) (by rfl) ?_
      intro K hK
      go_simp
      have hg3 := (Grow.refl wc).drew.alloc (.cells #[.string (va k)] 9)
      have HS3 := And.intro (hg3.cell (unhide HB2).cT1) (hg3.cell (unhide HL2).c3)
      clear hHeld
      refine hK _ _ (fun _ => HS3) ?_
      clear hK K
      try simp only [Act.put, List.setIfInBounds_toArray, List.set_cons_zero, List.set_cons_succ]
      refine wpAnyZ_one 8 rfl (by kernel_rfl) (by rfl) ?_
      intro K hK
      refine wp_append_lies _ (.tmp 81) (.tmp 84) 54 rfl (w.heap.size + 2) 9 i9 _ 1 16 Yba.underlying54 hi9 hz9 hs9 hb9 rfl (by decide) vv k (rcl (fun i => [.string (va i)]) k) (by rfl) (by exact hg3.owns (unhide HB2).oV) ⟨wc.heap.size, 0, .none⟩ 1 1 [.string (va k)] (by rfl) rfl (by exact one_news rfl _ _) (by intro u hu; simp at hu; subst hu; rfl) (by decide) (by unfold maxLen; omega) (by omega) (by exact Nat.le_trans (unhide HB2).lt hg3.size) _ rfl ?_
      intro g5 cap5 w5 hown hgr hat hltg5
      have nT : some w.heap.size ≠ vv.ownBlock := fun e => by have := (owns_lt (unhide HB2).oV e.symm).2; omega
      have nL : some LB ≠ vv.ownBlock := fun e => by have := (unhide hLB).2.2.2.2 _ e.symm; omega
      have HS4 := And.intro (hgr.cell HS3.1 nT) (hgr.cell HS3.2 nL)
      clear HS3
      refine hK _ _ (fun _ => HS4) ?_
      clear hK K
      try simp only [Act.put, List.setIfInBounds_toArray, List.set_cons_zero, List.set_cons_succ]
      refine wpAnyZ_one 9 rfl (by kernel_rfl) (by rfl) ?_
      intro K hK
      go_simp
      refine hK _ _ (fun _ => HS4) ?_
      clear hK K
      try simp only [Act.put, List.setIfInBounds_toArray, List.set_cons_zero, List.set_cons_succ]
      refine wpAnyZ_one 10 rfl (by kernel_rfl) (by rfl) ?_
      intro K hK
      go_simp
      refine hK _ _ (fun _ => HS4) ?_
      clear hK K
      try simp only [Act.put, List.setIfInBounds_toArray, List.set_cons_zero, List.set_cons_succ]
      obtain ⟨zT, hB3⟩ := rV_end (unhide HB2) hg3 hgr hown
      have l0 := HS4.1
      have HB3 := hide hB3
      clear hB3 hown hgr hat HS4 hg3 nT nL
      refine wpAnyZ_last 11 rfl (by kernel_rfl) (by rfl) (by kernel_rfl) ?_
      intro K hK
      go_simp
      refine hK _ _ ?_
      clear hK K
      refine wpAnyZ_done (by kernel_rfl) ?_ _
      clear zT l0 HB2 HL2
      generalize w5.setCell ⟨w.heap.size, 1, .none⟩ (.slice (some ⟨g5, 0, .none⟩) (k + 1) cap5) = wd at *
      go_wp2_with fail
      go_roundw
      case rel => exact ⟨k + 1, _, _, _, _, by omega, by go_num, unhide HB3⟩
      case measure => simp [intOf]; omega
      -- END r12
    · obtain rfl : k = F := by omega
      go_wp2_with fail
      rename_i hK2
      go_loopw [91] (fun jj wx => ∃ (j : Nat) (xv : Value), j ≤ E ∧ jj = .int .i64 j ∧ Hid (Bd w wx k k k j sv hv vv xv bx fn co ha va en ev)) (fun jj _ => E - (intOf jj).toNat)
      case atStart => exact ⟨0, _, Nat.zero_le _, rfl, unhide HB⟩
      case round =>
        clear HB
        obtain ⟨j, xv, hj, rfl, HB⟩ := hrel
        by_cases hlt2 : j < E
        · obtain rfl := (unhide HA).ein.h (by omega)
          have hjI : (j : Int) < (E : Int) := by omega
          obtain ⟨b0, b1⟩ := (unhide HA).ein.b j hlt2
          have h7 : en j % 7 = n7 (en j) := rfl
          have h7t : (en j).tmod 7 = n7 (en j) := Int.tmod_eq_emod_of_nonneg b0
          have h70 : 0 ≤ n7 (en j) ∧ n7 (en j) < 7 := by unfold n7; omega
          -- BEGIN r17
          obtain ⟨xa, xc, rfl⟩ : ∃ xa xc, xv = .slice xa j xc := by
            rcases (unhide HB).oX.2 with ⟨q1, q2⟩ | ⟨g', c', _, q1, _⟩
            · exact ⟨.none, 0, by rw [q1, q2]⟩
            · exact ⟨_, c', q1⟩
          have e0 := (unhide HB).g.cell ((unhide HA).ein.e0 j hlt2)
          have e1 := (unhide HB).g.cell ((unhide HA).ein.e1 j hlt2)
          go_wp2_with fail
          refine wp_region_z 25 (fun w' => w'.cell? ⟨w.heap.size, 2, .none⟩ = some (.slice xa j xc) ∧ w'.cell? ⟨eb, eo + j * 2, .none⟩ = some (.int .u8 (en j)) ∧ w'.cell? ⟨eb, eo + j * 2 + 1, .none⟩ = some (.string (ev j))) (by kernel_rfl) (by exact ⟨(unhide HB).cT2, e0, e1⟩) (fun hHeld => ?_)
          refine wpAnyZ_take 0 (v := .pointer (some ⟨w.heap.size, 0, .none⟩)) rfl (by kernel_rfl) (by kernel_rfl) (by kernel_rfl) (by kernel_rfl) (fun _ _ _ h => h) (by assumption) ⟨by rfl, fun wz hz => by dsimp only at hz; go_simp⟩ ?_
          simp only [Act.put, List.setIfInBounds_toArray, List.set_cons_zero, List.set_cons_succ]
          refine wpAnyZ_take 1 (v := .pointer (some ⟨w.heap.size, 0, .none⟩)) rfl (by kernel_rfl) (by kernel_rfl) (by kernel_rfl) (by kernel_rfl) (fun _ _ _ h => h) (by assumption) ⟨by rfl, fun wz hz => by dsimp only at hz; go_simp⟩ ?_
          simp only [Act.put, List.setIfInBounds_toArray, List.set_cons_zero, List.set_cons_succ]
          refine wpAnyZ_take 2 (v := .pointer (some ⟨w.heap.size, 2, .none⟩)) rfl (by kernel_rfl) (by kernel_rfl) (by kernel_rfl) (by kernel_rfl) (fun _ _ _ h => h) (by assumption) ⟨by rfl, fun wz hz => by dsimp only at hz; go_simp⟩ ?_
          simp only [Act.put, List.setIfInBounds_toArray, List.set_cons_zero, List.set_cons_succ]
          refine wpAnyZ_take 3 (v := .slice xa j xc) rfl (by kernel_rfl) (by kernel_rfl) (by kernel_rfl) (by kernel_rfl) (fun _ _ _ h => h) (by assumption) ⟨by rfl, fun wz hz => by dsimp only at hz; go_simp⟩ ?_
          simp only [Act.put, List.setIfInBounds_toArray, List.set_cons_zero, List.set_cons_succ]
          refine wpAnyZ_take 4 (v := .slice (some ⟨eb, eo, .none⟩) E c1) rfl (by kernel_rfl) (by kernel_rfl) (by kernel_rfl) (by kernel_rfl) (fun _ _ _ h => h) (by assumption) ⟨by rfl, fun wz hz => by dsimp only at hz; go_simp⟩ ?_
          simp only [Act.put, List.setIfInBounds_toArray, List.set_cons_zero, List.set_cons_succ]
          refine wpAnyZ_take 5 (v := .int .i64 j) rfl (by kernel_rfl) (by kernel_rfl) (by kernel_rfl) (by kernel_rfl) (fun _ _ _ h => h) (by assumption) ⟨by rfl, fun wz hz => by dsimp only at hz; go_simp⟩ ?_
          simp only [Act.put, List.setIfInBounds_toArray, List.set_cons_zero, List.set_cons_succ]
          refine wpAnyZ_take 6 (v := .pointer (some ⟨eb, eo + j * 2, .none⟩)) rfl (by kernel_rfl) (by kernel_rfl) (by kernel_rfl) (by kernel_rfl) (fun _ _ _ h => h) (by assumption) ⟨by rfl, fun wz hz => by dsimp only at hz; go_simp⟩ ?_
          simp only [Act.put, List.setIfInBounds_toArray, List.set_cons_zero, List.set_cons_succ]
          refine wpAnyZ_take 7 (v := .pointer (some ⟨eb, eo + j * 2, .none⟩)) rfl (by kernel_rfl) (by kernel_rfl) (by kernel_rfl) (by kernel_rfl) (fun _ _ _ h => h) (by assumption) ⟨by rfl, fun wz hz => by dsimp only at hz; go_simp⟩ ?_
          simp only [Act.put, List.setIfInBounds_toArray, List.set_cons_zero, List.set_cons_succ]
          refine wpAnyZ_take 8 (v := .int .u8 (en j)) rfl (by kernel_rfl) (by kernel_rfl) (by kernel_rfl) (by kernel_rfl) (fun _ _ _ h => h) (by assumption) ⟨by rfl, fun wz hz => by dsimp only at hz; go_simp⟩ ?_
          simp only [Act.put, List.setIfInBounds_toArray, List.set_cons_zero, List.set_cons_succ]
          refine wpAnyZ_take 9 (v := .int .u8 (n7 (en j))) rfl (by kernel_rfl) (by kernel_rfl) (by kernel_rfl) (by kernel_rfl) (fun _ _ _ h => h) (by assumption) ⟨by rfl, fun wz hz => by dsimp only at hz; go_simp⟩ ?_
          simp only [Act.put, List.setIfInBounds_toArray, List.set_cons_zero, List.set_cons_succ]
          refine wpAnyZ_take 10 (v := .string (nm (n7 (en j)))) rfl (by kernel_rfl) (by kernel_rfl) (by kernel_rfl) (by kernel_rfl) (fun _ _ _ h => h) (by assumption) ⟨by rfl, fun wz hz => by dsimp only at hz; go_simp; exact name_any (n7 (en j)) h70.1 h70.2 wz⟩ ?_
          simp only [Act.put, List.setIfInBounds_toArray, List.set_cons_zero, List.set_cons_succ]
          refine wpAnyZ_take 11 (v := .slice (some ⟨eb, eo, .none⟩) E c1) rfl (by kernel_rfl) (by kernel_rfl) (by kernel_rfl) (by kernel_rfl) (fun _ _ _ h => h) (by assumption) ⟨by rfl, fun wz hz => by dsimp only at hz; go_simp⟩ ?_
          simp only [Act.put, List.setIfInBounds_toArray, List.set_cons_zero, List.set_cons_succ]
          refine wpAnyZ_take 12 (v := .int .i64 j) rfl (by kernel_rfl) (by kernel_rfl) (by kernel_rfl) (by kernel_rfl) (fun _ _ _ h => h) (by assumption) ⟨by rfl, fun wz hz => by dsimp only at hz; go_simp⟩ ?_
          simp only [Act.put, List.setIfInBounds_toArray, List.set_cons_zero, List.set_cons_succ]
          refine wpAnyZ_take 13 (v := .pointer (some ⟨eb, eo + j * 2, .none⟩)) rfl (by kernel_rfl) (by kernel_rfl) (by kernel_rfl) (by kernel_rfl) (fun _ _ _ h => h) (by assumption) ⟨by rfl, fun wz hz => by dsimp only at hz; go_simp⟩ ?_
          simp only [Act.put, List.setIfInBounds_toArray, List.set_cons_zero, List.set_cons_succ]
          refine wpAnyZ_take 14 (v := .pointer (some ⟨eb, eo + j * 2 + 1, .none⟩)) rfl (by kernel_rfl) (by kernel_rfl) (by kernel_rfl) (by kernel_rfl) (fun _ _ _ h => h) (by assumption) ⟨by rfl, fun wz hz => by dsimp only at hz; go_simp⟩ ?_
          simp only [Act.put, List.setIfInBounds_toArray, List.set_cons_zero, List.set_cons_succ]
          refine wpAnyZ_take 15 (v := .string (ev j)) rfl (by kernel_rfl) (by kernel_rfl) (by kernel_rfl) (by kernel_rfl) (fun _ _ _ h => h) (by assumption) ⟨by rfl, fun wz hz => by dsimp only at hz; go_simp⟩ ?_
          simp only [Act.put, List.setIfInBounds_toArray, List.set_cons_zero, List.set_cons_succ]
          refine wpAnyZ_take 16 (v := valB (ev j)) rfl (by kernel_rfl) (by kernel_rfl) (by kernel_rfl) (by kernel_rfl) (fun _ _ _ h => h) (by assumption) ⟨by rfl, fun wz hz => by dsimp only at hz; go_simp⟩ ?_
          simp only [Act.put, List.setIfInBounds_toArray, List.set_cons_zero, List.set_cons_succ]
          refine wpAnyZ_take 17 (v := .agg #[.string (nm (n7 (en j))), .int .u8 3, .bool false, .string (ev j), .slice .none 0 0, .slice .none 0 0, .slice .none 0 0]) rfl (by kernel_rfl) (by kernel_rfl) (by kernel_rfl) (by kernel_rfl) (fun _ _ _ h => h) (by assumption) ⟨by rfl, fun wz hz => by dsimp only at hz; go_simp⟩ ?_
          simp only [Act.put, List.setIfInBounds_toArray, List.set_cons_zero, List.set_cons_succ]
          refine wpAnyZ_take 18 (v := .int .i64 j) rfl (by kernel_rfl) (by kernel_rfl) (by kernel_rfl) (by kernel_rfl) (fun _ _ _ h => h) (by assumption) ⟨by rfl, fun wz hz => by dsimp only at hz; go_simp⟩ ?_
          simp only [Act.put, List.setIfInBounds_toArray, List.set_cons_zero, List.set_cons_succ]
          refine wpAnyZ_one 19 rfl (by kernel_rfl) (by rfl) ?_
          intro K hK
          go_simp
          have hg3 := (Grow.refl wr).drew.alloc (.cells #[.string ⟨#[]⟩, .int .u8 0, .bool false, .string ⟨#[]⟩, .slice .none 0 0, .slice .none 0 0, .slice .none 0 0] 74)
          have HS3 := And.intro (hg3.cell (unhide HB).cT2) (And.intro (hg3.cell e0) (hg3.cell e1))
          clear hHeld
          refine hK _ _ (fun _ => HS3) ?_
          clear hK K
          try simp only [Act.put, List.setIfInBounds_toArray, List.set_cons_zero, List.set_cons_succ]
          refine wpAnyZ_one 20 rfl (by kernel_rfl) (by rfl) ?_
          intro K hK
          refine wp_append_lies _ (.tmp 97) (.tmp 113) 33 rfl (w.heap.size + 2) 74 i74 _ 7 112 Yba.underlying33 hi74 hz74 hs74 hb74 rfl (by decide) (.slice xa j xc) j (rcl (fun j => mc1 (n7 (en j), ev j)) j) (by rfl) (by exact hg3.owns (unhide HB).oX) ⟨wr.heap.size, 0, .none⟩ 1 1 zm (by rfl) rfl (by exact zm_news rfl) (by exact zm_one) (by decide) (by unfold maxLen; omega) (by omega) (by exact Nat.le_trans (unhide HB).lt hg3.size) _ rfl ?_
          intro g cap w3 hown hgr hat hltg
          have nT : some w.heap.size ≠ (Value.slice xa j xc).ownBlock := fun e => by have := (owns_lt (unhide HB).oX e.symm).2; omega
          have hebl : eb < w.heap.size := World.block_lt_of_cell? w ⟨eb, eo + j * 2, .none⟩ ((unhide HA).ein.e0 j hlt2)
          have nE : some eb ≠ (Value.slice xa j xc).ownBlock := fun e => by have := (owns_lt (unhide HB).oX e.symm).2; omega
          have HS4 := And.intro (hgr.cell HS3.1 nT) (And.intro (hgr.cell HS3.2.1 nE) (hgr.cell HS3.2.2 nE))
          clear HS3
          refine hK _ _ (fun _ => HS4) ?_
          clear hK K
          try simp only [Act.put, List.setIfInBounds_toArray, List.set_cons_zero, List.set_cons_succ]
          obtain ⟨zT, zg, cg, hgB, hBa, hBb⟩ := rX_end (unhide HB) hg3 hgr (hat.imp id (fun h => by rw [h]; exact hg3.size)) hown
          have HBa := hide hBa
          have HBb := hide hBb
          clear hBa hBb hown hgr hat hg3 HB
          have hjI1 : (j : Int) < (j : Int) + 1 := by omega
          refine wpAnyZ_takeW 21 (v := .pointer (some ⟨g, j * 7, .none⟩)) rfl (by kernel_rfl) (by kernel_rfl) (by kernel_rfl) (by kernel_rfl) (fun _ _ _ h => h) (by assumption) ⟨by rfl, fun wz hz => by clear hz; go_simp⟩ ?_
          simp only [Act.put, List.setIfInBounds_toArray, List.set_cons_zero, List.set_cons_succ]
          refine wpAnyZ_takeW 23 (v := .pointer (some ⟨w.heap.size, 0, .none⟩)) rfl (by kernel_rfl) (by kernel_rfl) (by kernel_rfl) (by kernel_rfl) (fun _ _ _ h => h) (by assumption) ⟨by rfl, fun wz hz => by clear hz; go_simp⟩ ?_
          simp only [Act.put, List.setIfInBounds_toArray, List.set_cons_zero, List.set_cons_succ]
          refine wpAnyZ_takeW 24 (v := .pointer (some ⟨w.heap.size, 2, .none⟩)) rfl (by kernel_rfl) (by kernel_rfl) (by kernel_rfl) (by kernel_rfl) (fun _ _ _ h => h) (by assumption) ⟨by rfl, fun wz hz => by clear hz; go_simp⟩ ?_
          simp only [Act.put, List.setIfInBounds_toArray, List.set_cons_zero, List.set_cons_succ]
          obtain ⟨y0, hy0⟩ := cg 0 (by decide)
          obtain ⟨y1, hy1⟩ := cg 1 (by decide)
          obtain ⟨y2, hy2⟩ := cg 2 (by decide)
          obtain ⟨y3, hy3⟩ := cg 3 (by decide)
          obtain ⟨y4, hy4⟩ := cg 4 (by decide)
          obtain ⟨y5, hy5⟩ := cg 5 (by decide)
          obtain ⟨y6, hy6⟩ := cg 6 (by decide)
          simp only [Nat.add_zero] at hy0
          clear cg
          have heg : eb ≠ g := by omega
          have hgT : w.heap.size ≠ g := by omega
          refine wpAnyZ_fork 22 25 rfl rfl (by kernel_rfl) (by rfl) (by rfl) (by kernel_rfl) ?_ ?_
          · intro K hK
            have l0 := HS4.1
            go_simp
            refine hK _ _ ⟨put7_far hgT HS4.1, put7_far heg HS4.2.1, put7_far heg HS4.2.2⟩ ?_
            clear hK K
            refine wpAnyZ_last 25 rfl (by kernel_rfl) (by rfl) (by kernel_rfl) ?_
            intro K hK
            go_simp
            refine hK _ _ ?_
            clear hK K
            refine wpAnyZ_done (by kernel_rfl) ?_ _
            go_wp2_with fail
            go_roundw
            case rel => exact ⟨j + 1, _, by omega, by go_num, unhide HBa⟩
            case measure => simp [intOf]; omega
          · intro K hK
            have l0 := HS4.1
            go_simp
            refine hK _ _ ?_
            clear hK K
            refine wpAnyZ_last 22 rfl (by kernel_rfl) (by rfl) (by kernel_rfl) ?_
            intro K hK
            go_simp
            refine hK _ _ ?_
            clear hK K
            refine wpAnyZ_done (by kernel_rfl) ?_ _
            go_wp2_with fail
            go_roundw
            case rel => exact ⟨j + 1, _, by omega, by go_num, unhide HBb⟩
            case measure => simp [intOf]; omega
          -- END r17
        · obtain rfl : j = E := by omega
          obtain ⟨FB, HB', VB, XB, sc, hc, vc, xc, sa, aa, ab, xa, hM⟩ := (unhide HB).mem fm
          have hBd := (unhide HA).bnd fm
          have HG := hide (unhide HB).g
          have HM := hide hM
          have hwl := (unhide HB).lt
          have HBn := hide hBd
          clear hM hBd HB hlt hlt2 hl hj
          generalize hdd : datB k j fn co ha va en ev fm = d at HM HBn
          have HD := hide hdd
          clear hdd
          obtain ⟨wb, hwb⟩ : ∃ x, x = wr := ⟨_, rfl⟩
          subst hwb
          have HK2 := hide hK2
          clear hK2
          go_wp2_with fail
          refine unhide HK2 _ _ ?_
          exact tailA a0 a1 k j c0 c1 fb fo eb eo fn co ha va en ev fm w wb d FB HB' VB XB sc hc vc xc sa aa ab xa bx hlen HA HG HM hwl HBn HD _ _ _ _ _ _ _ _ _ _ _ _ _ _ _ _ _ _ _ _ _ _ _ _ _ _ _ _ _ _ _ _ _ _ _ _ _ _ _ _ _ _ _ _ _ _ _ _ _ _ _ _ _ _ _ _ _ _ _ _ _ _ _ _ _ _ _ _ _ _ _ _ _ _ _ _ _ _ _ _ _ _ _ _ _ _ _ _ _ _ _ _ _ _ _ _ _ _ _ _ _ _ _ _ _ _ _ _ _ _ _ _ _ _ _ _ _ _ _ _ _ _ _ _ _ _ _ _ _ _ _ _ _ _ _ _ _ _ _ _ _ _ _ _ _ _ _ _ _ _ _ _ _ _ _ _ _ _ _ _ _ _ _ _ _ _ _ _ _ _ _ _ _ _ _ _ _ _ _ _ _ _ _ _ _ _ _ _ _ _ _ _ _ _ _ _ _ _ _ _ _ _ _ _ _ _ _ _ _ _ _ _ _ _ _ _ _ _ _ _ _ _ _ _ _ _ _ _ _ _ _ _ _ _ _ _ _ _ _ _ _ _ _ _ _ _ _ _ _ _ _ _ _ _ _ _ _ _ _ _ _ _ _ _ _ _ _ _ _ _ _ _ _ _ _ _ _ _ _ _ _ _ _ _ _ _ _ _ _ _ _ _ _ _ _ _ _ _ _ _ _ _ _ _ _ _ _ _ _ _ _ _ _ _ _ _ _ _ _ _ _ _ _ _
end Go.Proofs.Ybulkejtm
