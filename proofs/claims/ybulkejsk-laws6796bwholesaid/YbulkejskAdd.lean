import Derived.Test.YbulkejskMerge
namespace Go.Proofs.Ybulkejsk
open Go.ChangeShapes Go.WideShapes Go.ChangeAt Go.RowKit

def outc (A B : Nat → Int) : Int := if rel B A = 2 then 1 else 2

theorem outc_eq (A B : Nat → Int) : outc A B = if rel B A = 2 then 1 else 2 := rfl
theorem Ents.up {w w' : World} {B B' : Nat} {ao : Option Addr} {g : Nat} {C : Nat → Int} (h : Ents w B ao g C) (hb : Below B w w') (hB : B ≤ B') : Ents w' B' ao g C :=
  have k := h.below hb (Nat.le_refl _)
  ⟨k.here, fun q => Nat.lt_of_lt_of_le (k.lt q) hB, k.node, k.count⟩
theorem ge_of_owns {w : World} {base g n cap : Nat} {xs : List Value} (h : w.ownsRow base 34 2 (.slice (some ⟨g, 0, .none⟩) n cap) n xs) : base ≤ g := by
  rcases h.2 with ⟨h', _⟩ | ⟨g', cap', cur, h', hbase, _⟩
  · simp at h'
  · simp only [Value.slice.injEq, Option.some.injEq, Addr.mk.injEq, and_true, true_and] at h'
    obtain ⟨rfl, rfl⟩ := h'
    exact hbase
theorem owns_base {w : World} {base base' g n cap : Nat} {xs : List Value} (h : w.ownsRow base 34 2 (.slice (some ⟨g, 0, .none⟩) n cap) n xs) (hb : base' ≤ base) : w.ownsRow base' 34 2 (.slice (some ⟨g, 0, .none⟩) n cap) n xs := by
  rcases h with ⟨hl, ⟨h', _⟩ | ⟨g', cap', cur, h', hbase, r⟩⟩
  · simp at h'
  · exact ⟨hl, .inr ⟨g', cap', cur, h', Nat.le_trans hb hbase, r⟩⟩

set_option maxHeartbeats 1000000 in
theorem addition_any (A B : Nat → Int) (hA : ∀ k, 0 ≤ A k) (hB : ∀ k, 0 ≤ B k) (ca da : Option Addr) (gc gd cc dc : Nat) (w : World) (hc : Ents w w.heap.size ca gc A) (hd : Ents w w.heap.size da gd B) :
    Calls Yba.prog 5 #[.agg #[.slice ca (pos A 8) cc], .agg #[.slice da (pos B 8) dc]] w fun e w' => ∃ g cap, e = .returned (.tuple #[.agg #[.slice (some ⟨g, 0, .none⟩) (pos (mx A B) 8) cap], .int .i64 (outc A B)]) ∧
      w'.ownsRow w.heap.size 34 2 (.slice (some ⟨g, 0, .none⟩) (pos (mx A B) 8) cap) (pos (mx A B) 8) (cells (mx A B) 8) ∧ Below w.heap.size w w' := by
  have Hc := hide hc
  have Hd := hide hd
  clear hc hd
  have hb3 : Below w.heap.size w (((w.alloc (.cells #[.slice ca (pos A 8) cc] 27)).alloc (.cells #[.slice da (pos B 8) dc] 27)).alloc (.cells #[.slice .none 0 0] 27)) :=
    (((Below.refl _ _).alloc (Nat.le_refl _) _).alloc (by simp) _).alloc (by simp; omega) _
  by_cases hr : rel B A = 2
  all_goals
    have ho := hide (outc_eq A B)
    first
      | rw [if_pos hr] at ho
      | rw [if_neg hr] at ho
    first
      | (have hrb : (rel B A == 2) = true := beq_iff_eq.2 hr)
      | (have hrb : (rel B A == 2) = false := beq_eq_false_iff_ne.2 hr)
    clear hr
    go_enter Yba.func5, Yba.ntmps5
    go_wp2_with fail
    refine (compare_any B A da ca gd gc dc cc _ (by exact (unhide Hd).up hb3 (by simp; omega)) (by exact (unhide Hc).up hb3 (by simp; omega))).mono ?_
    rintro e w1 ⟨rfl, hb1⟩
    have f0 : w1.cell? ⟨w.heap.size, 0, .none⟩ = some (.slice ca (pos A 8) cc) := by rw [hb1.cell (by simp; omega)]; go_simp
    have f1 : w1.cell? ⟨w.heap.size + 1, 0, .none⟩ = some (.slice da (pos B 8) dc) := by rw [hb1.cell (by simp)]; go_simp
    have f2 : w1.cell? ⟨w.heap.size + 1 + 1, 0, .none⟩ = some (.slice .none 0 0) := by rw [hb1.cell (by simp)]; go_simp
    have fz : ∀ o, w1.frozen? ⟨w.heap.size + 1 + 1, o, .none⟩ = false := fun o => by rw [hb1.frozen (by simp)]; go_simp
    have hbw : Below w.heap.size w w1 := hb3.trans (hb1.mono (by simp; omega))
    have hs1 : w.heap.size + 1 + 1 + 1 ≤ w1.heap.size := by have := hb1.size; simp at this; omega
    clear hb1
    go_wp2_with fail
    refine (merge_any A B hA hB ca da gc gd cc dc _ (by exact (unhide Hc).up hbw (by omega)) (by exact (unhide Hd).up hbw (by omega))).mono ?_
    rintro e w2 ⟨g, cap, rfl, hown, hb2⟩
    have Hown := hide hown
    have g2 : w2.cell? ⟨w.heap.size + 1 + 1, 0, .none⟩ = some (.slice .none 0 0) := by rw [hb2.cell (by simp; omega)]; exact f2
    have gz : ∀ o, w2.frozen? ⟨w.heap.size + 1 + 1, o, .none⟩ = false := fun o => by rw [hb2.frozen (by simp; omega)]; exact fz o
    have hgg := hide (ge_of_owns hown)
    have hbe := hide (hbw.trans (hb2.mono (by omega)))
    clear hown hb2 f0 f1 f2 fz
    go_wp2_with fail
    refine bodyPost_ret (v := .tuple #[.agg #[.slice (some ⟨g, 0, .none⟩) (pos (mx A B) 8) cap], .int .i64 (outc A B)]) (by rw [unhide ho]; simp [results, Yba.results5, go_sem, g2]) rfl ⟨g, cap, rfl, ?_, ?_⟩
    · exact owns_of_block (owns_base (unhide Hown) (by omega)) (Below.heap_setCell _ _ _ _ (by have := unhide hgg; simp; omega))
    · exact (unhide hbe).setCell (by simp; omega) _
end Go.Proofs.Ybulkejsk
