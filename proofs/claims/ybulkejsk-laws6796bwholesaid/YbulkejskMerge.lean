import Derived.Test.YbulkejskCompare
import Derived.Deep.AppendLies
namespace Go.Proofs.Ybulkejsk
open Go.ChangeShapes Go.WideShapes Go.ChangeAt Go.RowKit

theorem Yba.info34 : (Yba.prog.info? 34).map (fun i => (i.zero, i.size, i.bytes)) = some (some (.agg #[.string ⟨#[]⟩, .int .u64 0]), 2, 24) := by kernel_rfl

theorem ret_slice {a : Option Addr} {n m cap : Nat} (h : n = m) : Ending.returned (.slice a n cap) = .returned (.slice a m cap) := by rw [h]
theorem lt_of_owns {w : World} {base g n cap : Nat} {xs : List Value} (h : w.ownsRow base 34 2 (.slice (some ⟨g, 0, .none⟩) n cap) n xs) : g < w.heap.size := by
  rcases h.2 with ⟨h', _⟩ | ⟨g', cap', cur, h', _, hg, _⟩
  · simp at h'
  · simp only [Value.slice.injEq, Option.some.injEq, Addr.mk.injEq, and_true, true_and] at h'
    obtain ⟨rfl, rfl⟩ := h'
    exact (Array.getElem?_eq_some_iff.1 hg).1
theorem owns_of_block {w w' : World} {base g n cap : Nat} {xs : List Value} (h : w.ownsRow base 34 2 (.slice (some ⟨g, 0, .none⟩) n cap) n xs) (hb : w'.heap[g]? = w.heap[g]?) : w'.ownsRow base 34 2 (.slice (some ⟨g, 0, .none⟩) n cap) n xs := by
  rcases h with ⟨hl, ⟨h', _⟩ | ⟨g', cap', cur, h', hbase, hg, r⟩⟩
  · simp at h'
  · simp only [Value.slice.injEq, Option.some.injEq, Addr.mk.injEq, and_true, true_and] at h'
    obtain ⟨rfl, rfl⟩ := h'
    exact ⟨hl, .inr ⟨g, cap, cur, rfl, hbase, hb.trans hg, r⟩⟩
theorem owns_only {w w' : World} {base g n cap p : Nat} {xs : List Value} (h : w.ownsRow base 34 2 (.slice (some ⟨g, 0, .none⟩) n cap) n xs) (ho : Only p w w') (hg : g ≠ p) : w'.ownsRow base 34 2 (.slice (some ⟨g, 0, .none⟩) n cap) n xs :=
  owns_of_block h (ho.block g hg)

theorem cell_two (w : World) (u v : Value) (t : TypeId) : ∀ (j : Nat) (z : Value), [u, v][j]? = some z → (w.alloc (.cells #[u, v] t)).cell? ((⟨w.heap.size, 0, .none⟩ : Addr).add j) = some z := by
  intro j z hj
  match j, hj with
  | 0, hj => simp at hj; subst hj; simp [Addr.add]
  | 1, hj => simp at hj; subst hj; simp [Addr.add]

theorem Pw.of_block {w w' : World} {p : Nat} {c d : Value} {i j : Int} {nd : ByteArray} {x y : Int} (h : Pw w p c d i j nd x y) (hb : w'.heap[p]? = w.heap[p]?) : Pw w' p c d i j nd x y :=
  have k : ∀ o, w'.cell? ⟨p, o, .none⟩ = w.cell? ⟨p, o, .none⟩ := fun o => World.cell?_of_block (a := ⟨p, o, .none⟩) hb
  ⟨(k _).trans h.c0, (k _).trans h.c1, (k _).trans h.c2, (k _).trans h.c3, (k _).trans h.c4, (k _).trans h.c5, (k _).trans h.c6, fun o => (World.frozen?_of_block (a := ⟨p, o, .none⟩) hb).trans (h.fr o)⟩

/-- What an append in merge's round leaves. -/
theorem round_end {M : Nat → Int} {w w2 w3 : World} {t k g cap g2 cap2 p : Nat} {o : Obj} {c d : Value} {i j : Int} {nd : ByteArray} {x y : Int}
    (hown : w2.ownsRow w.heap.size 34 2 (.slice (some ⟨g, 0, .none⟩) (pos M t) cap) (pos M t) (cells M t)) (hp : Pw w2 p c d i j nd x y) (hb : Below w.heap.size w w2) (hwp : w.heap.size ≤ w2.heap.size) (hp2 : p < w2.heap.size) (hg : g ≠ p)
    (hE : pos M k = pos M t ∧ cells M k = cells M t) (hm : M k ≠ 0)
    (hown3 : w3.ownsRow w.heap.size 34 2 (.slice (some ⟨g2, 0, .none⟩) (pos M t + 1) cap2) (pos M t + 1) (cells M t ++ [.string (nm k), .int .u64 (M k)]))
    (hgr : (w2.alloc o).grownBy w3 (Value.slice (some ⟨g, 0, .none⟩) (pos M t) cap).ownBlock) (hat : (Value.slice (some ⟨g, 0, .none⟩) (pos M t) cap).ownBlock = some g2 ∨ g2 = (w2.alloc o).heap.size) :
    pos M t + 1 = pos M (k + 1) ∧ Hid (w3.ownsRow w.heap.size 34 2 (.slice (some ⟨g2, 0, .none⟩) (pos M (k + 1)) cap2) (pos M (k + 1)) (cells M (k + 1))) ∧ Hid (g2 ≠ p) ∧ Hid (Pw w3 p c d i j nd x y) ∧ Below w.heap.size w w3 := by
  have e : pos M t + 1 = pos M (k + 1) := by rw [pos_succ_one hm, hE.1]
  have hge : w.heap.size ≤ g := by
    rcases hown.2 with ⟨h', _⟩ | ⟨g', cap', cur, h', hbase, _⟩
    · simp at h'
    · simp only [Value.slice.injEq, Option.some.injEq, Addr.mk.injEq, and_true, true_and] at h'
      obtain ⟨rfl, rfl⟩ := h'
      exact hbase
  refine ⟨e, ?_, ?_, ?_, ?_⟩
  · rw [← e, cells_succ_one hm, hE.2]; exact hown3
  · show g2 ≠ p
    rcases hat with h | h
    · simp [Value.ownBlock] at h; omega
    · simp at h; omega
  · refine hp.of_block ?_
    rw [hgr.block p (by simp; omega) (by simp [Value.ownBlock]; omega), Below.heap_alloc _ _ _ hp2]
  · exact (hb.alloc hwp o).grown hgr (by simp; omega) (fun q h => by simp [Value.ownBlock] at h; omega)

set_option maxHeartbeats 1000000 in
theorem merge_any (A B : Nat → Int) (hA : ∀ k, 0 ≤ A k) (hB : ∀ k, 0 ≤ B k) (ca da : Option Addr) (gc gd cc dc : Nat) (w : World) (hc : Ents w w.heap.size ca gc A) (hd : Ents w w.heap.size da gd B) :
    Calls Yba.prog 9 #[.slice ca (pos A 8) cc, .slice da (pos B 8) dc] w fun e w' => ∃ g cap, e = .returned (.slice (some ⟨g, 0, .none⟩) (pos (mx A B) 8) cap) ∧
      w'.ownsRow w.heap.size 34 2 (.slice (some ⟨g, 0, .none⟩) (pos (mx A B) 8) cap) (pos (mx A B) 8) (cells (mx A B) 8) ∧ Below w.heap.size w w' := by
  obtain ⟨i0, hi, hz0, hz1, hz2⟩ := info_parts Yba.info34
  have l8A := pos_le A 8
  have l8B := pos_le B 8
  have Hc := hide hc
  have Hd := hide hd
  clear hc hd
  obtain ⟨mm, m8, m1, m2⟩ : ∃ mm : Nat, mm ≤ 8 ∧ (if pos A 8 < pos B 8 then ((pos B 8 : Nat) : Int) else ((pos A 8 : Nat) : Int)) = (mm : Int) ∧ (if ((pos A 8 : Nat) : Int) < ((pos B 8 : Nat) : Int) then ((pos B 8 : Nat) : Int) else ((pos A 8 : Nat) : Int)) = (mm : Int) := by
    by_cases h : pos A 8 < pos B 8
    · exact ⟨pos B 8, l8B, if_pos h, if_pos (by omega)⟩
    · exact ⟨pos A 8, l8A, if_neg h, if_neg (by omega)⟩
  go_enter Yba.func9, Yba.ntmps9
  go_wp2_with (at_make; refine wpList_make_own _ rfl _ _ 25 rfl w.heap.size 34 i0 _ 2 Yba.underlying25 hi hz0 hz1 _ _ _ (mm + 1) rfl rfl (by omega) (by rw [hz2]; omega) (by unfold maxLen; omega) (Nat.le_refl _) ?_; intro w1 hown1 hgr1)
  have hz : w.heap.size < w1.heap.size := lt_of_owns hown1
  have hb1 : Below w.heap.size w w1 := (Below.refl _ _).grown hgr1 (Nat.le_refl _) (fun k h => by cases h)
  clear m1 m2
  go_loopg [5] 8 (fun gk v wr => ∃ (t g cap : Nat) (nd : ByteArray) (x y : Int), gk = 8 - t ∧ t ≤ 8 ∧ v = .slice (some ⟨g, 0, .none⟩) (pos (mx A B) t) cap ∧ Hid (wr.ownsRow w.heap.size 34 2 (.slice (some ⟨g, 0, .none⟩) (pos (mx A B) t) cap) (pos (mx A B) t) (cells (mx A B) t)) ∧ Hid (g ≠ w1.heap.size) ∧
      Hid (Pw wr w1.heap.size (.slice ca (pos A 8) cc) (.slice da (pos B 8) dc) (pos A t) (pos B t) nd x y) ∧ Below w.heap.size w wr)
  case atStart => exact ⟨0, w.heap.size, mm + 1, ⟨#[]⟩, 0, 0, rfl, by omega, rfl, hown1.alloc _, (show w.heap.size ≠ w1.heap.size by omega), pw_new w1 _ _, hb1.alloc (by omega) _⟩
  case round =>
    clear hown1 hgr1
    obtain ⟨t, g, cap, nd, x, y, rfl, ht, rfl, Hown, Hg, Hp, hbw⟩ := hrel
    have hsz : w1.heap.size < wr.heap.size := World.block_lt_of_cell? wr _ (unhide Hp).c0
    go_wp2_with fail
    refine (next_any A B w.heap.size w1.heap.size (by omega) ca da gc gd cc dc t ht nd x y _ (by exact (unhide Hc).below hbw (Nat.le_refl _)) (by exact (unhide Hd).below hbw (Nat.le_refl _)) (by exact unhide Hp)).mono ?_
    rintro e w2 (⟨rfl, hzz, q, rfl⟩ | ⟨k, h1, h2, h3, h4, rfl, hp1, ho⟩)
    · have e1 := skip' (C := mx A B) ht (fun j a b => (mx_zero (hA j) (hB j)).2 (hzz j a b))
      have hown8 : wr.ownsRow w.heap.size 34 2 (.slice (some ⟨g, 0, .none⟩) (pos (mx A B) 8) cap) (pos (mx A B) 8) (cells (mx A B) 8) := by rw [e1.1, e1.2]; exact unhide Hown
      have Hown8 := hide hown8
      have E1 := hide e1.1.symm
      clear e1 hown8 hzz
      go_wp2_with fail
      go_ret
      exact ⟨g, cap, ret_slice (unhide E1), unhide Hown8, below_drewN hbw _⟩
    · have hb2 : Below w.heap.size w w2 := hbw.trans (ho.below (by omega))
      have hm : mx A B k ≠ 0 := fun h => by have := (mx_zero (hA k) (hB k)).1 h; rcases h3 with h3 | h3 <;> omega
      have e1 := skip' (C := mx A B) h1 (fun j a b => (mx_zero (hA j) (hB j)).2 (h4 j a b))
      have hown2 : w2.ownsRow w.heap.size 34 2 (.slice (some ⟨g, 0, .none⟩) (pos (mx A B) t) cap) (pos (mx A B) t) (cells (mx A B) t) := owns_only (unhide Hown) ho (unhide Hg)
      have hpt := pos_le (mx A B) t
      have x4 := hp1.c4
      have x5 := hp1.c5
      have x6 := hp1.c6
      have hs2 : w1.heap.size < w2.heap.size := World.block_lt_of_cell? w2 _ hp1.c0
      have Hp1 := hide hp1
      have Hown2 := hide hown2
      have HE := hide e1
      have Hm := hide hm
      have hmx : (if A k < B k then B k else A k) = mx A B k := rfl
      clear hp1 hown2 e1 hm ho h3 h4 Hp Hown
      go_wp2_with (at_builtin; refine wpList_append_lies _ rfl _ _ 25 rfl w.heap.size 34 i0 _ 2 24 Yba.underlying25 hi hz0 hz1 hz2 rfl (by decide) _ _ _ rfl ((unhide Hown2).alloc _) ⟨w2.heap.size, 0, .none⟩ 1 1 [.string (nm k), .int .u64 (mx A B k)] rfl rfl (cell_two _ _ _ _) (by intro u hu; simp at hu; rcases hu with rfl | rfl <;> rfl) (by decide) (by unfold maxLen; omega) (by omega) (by simp; omega) _ rfl ?_; intro g2 cap2 w3 hown3 hgr3 hat hlt3)
      have R := round_end (unhide Hown2) (unhide Hp1) hb2 (by omega) hs2 (unhide Hg) (unhide HE) (unhide Hm) hown3 hgr3 hat
      have HR := hide R
      clear R hown3 hgr3 hat hlt3
      have hps : pos (mx A B) t + 1 = pos (mx A B) (k + 1) := (unhide HR).1
      rw [hps]
      clear hps
      go_wp2_with fail
      go_roundg (8 - (k + 1))
      case measure => omega
      case rel => exact ⟨k + 1, g2, cap2, nm k, A k, B k, rfl, by omega, rfl, (unhide HR).2.1, (unhide HR).2.2.1, (unhide HR).2.2.2.1, (unhide HR).2.2.2.2⟩
end Go.Proofs.Ybulkejsk
