import Derived.Test.YbulkejriTime2
import Derived.Test.YbulkejriLaws
namespace Go.Proofs.Ybulkejri
open Go.ChangeShapes Go.WideShapes Go.ChangeAt Go.RowKit

/-- Element i of the spans in block b runs from f to u. -/
structure Span (w : World) (b i : Nat) (f u : Int) : Prop where
  c0 : w.cell? ⟨b, i * 6, .none⟩ = some (.int .u64 (nk f))
  c1 : w.cell? ⟨b, i * 6 + 1, .none⟩ = some (.int .i64 (nx f))
  c2 : w.cell? ⟨b, i * 6 + 2, .none⟩ = some (.pointer .none)
  c3 : w.cell? ⟨b, i * 6 + 3, .none⟩ = some (.int .u64 (nk u))
  c4 : w.cell? ⟨b, i * 6 + 4, .none⟩ = some (.int .i64 (nx u))
  c5 : w.cell? ⟨b, i * 6 + 5, .none⟩ = some (.pointer .none)

theorem bcell {B : Nat} {W w1 : World} (hb : Below B W w1) : (∀ b o, b < B → w1.cell? ⟨b, o, .none⟩ = W.cell? ⟨b, o, .none⟩) ∧ (∀ b o, b < B → w1.frozen? ⟨b, o, .none⟩ = W.frozen? ⟨b, o, .none⟩) :=
  ⟨fun b o h => hb.cell (p := ⟨b, o, .none⟩) h, fun b o h => hb.frozen (p := ⟨b, o, .none⟩) h⟩

theorem Span.below {B : Nat} {W w1 : World} {b i : Nat} {f u : Int} (h : Span W b i f u) (hb : Below B W w1) (hB : b < B) : Span w1 b i f u := by
  have k := (bcell hb).1
  exact ⟨(k b _ hB).trans h.c0, (k b _ hB).trans h.c1, (k b _ hB).trans h.c2, (k b _ hB).trans h.c3, (k b _ hB).trans h.c4, (k b _ hB).trans h.c5⟩

/-- Does a span of the first k hold d? -/
def hit (F U : Nat → Int) (d : Int) (k : Nat) : Bool := (List.range k).any fun j => decide (F j ≤ d) && decide (d < U j)

theorem hit_succ (F U : Nat → Int) (d : Int) (k : Nat) : hit F U d (k + 1) = (hit F U d k || (decide (F k ≤ d) && decide (d < U k))) := by
  unfold hit; rw [List.range_succ, List.any_append]; simp
theorem hit_no (F U : Nat → Int) (d : Int) (k : Nat) (h : hit F U d k = false) (h2 : ¬ (F k ≤ d ∧ d < U k)) : hit F U d (k + 1) = false := by
  rw [hit_succ, h]
  by_cases a : F k ≤ d
  · have : ¬ d < U k := fun q => h2 ⟨a, q⟩
    simp [a, this]
  · simp [a]
theorem hit_yes (F U : Nat → Int) (d : Int) (k n : Nat) (hk : k < n) (h1 : F k ≤ d) (h2 : d < U k) : hit F U d n = true := by
  unfold hit; rw [List.any_eq_true]; exact ⟨k, List.mem_range.2 hk, by simp [h1, h2]⟩

set_option maxHeartbeats 400000 in
theorem within_any (F U : Nat → Int) (d : Int) (b n : Nat) (hn : n ≤ 1048576) (w : World) (hbw : b < w.heap.size) (hs : ∀ i, i < n → Span w b i (F i) (U i)) :
    Calls Yba.prog 5 #[.slice (some ⟨b, 0, .none⟩) n n, T d] w fun e w' => e = .returned (.bool (hit F U d n)) ∧ Below w.heap.size w w' := by
  go_enter Yba.func5, Yba.ntmps5
  go_wp2_with fail
  go_loopw [9] (fun i wr => ∃ k : Nat, k ≤ n ∧ i = .int .i64 k ∧ hit F U d k = false ∧ Below (w.heap.size + 1) (w.alloc (.cells #[.int .u64 (nk d), .int .i64 (nx d), .pointer .none] 27)) wr) (fun i _ => n - (intOf i).toNat)
  case atStart => exact ⟨0, Nat.zero_le _, rfl, rfl, Below.refl _ _⟩
  case round =>
    obtain ⟨k, hk, rfl, hh, hb⟩ := hrel
    have Hh : Hid (hit F U d k = false) := hh
    clear hh
    by_cases hlt : k < n
    · obtain ⟨c0, c1, c2, c3, c4, c5⟩ := ((hs k hlt).below (((Below.refl w.heap.size w).alloc (Nat.le_refl _) _).trans (hb.mono (by omega))) hbw)
      have hwz : w.heap.size < wr.heap.size := by have := hb.size; simp at this; omega
      have d0 : ∀ o, (wr.alloc o).cell? ⟨w.heap.size, 0, .none⟩ = some (.int .u64 (nk d)) := fun o => by rw [World.cell?_alloc_lt _ _ _ hwz, hb.cell (by simp)]; go_simp
      have d1 : ∀ o, (wr.alloc o).cell? ⟨w.heap.size, 1, .none⟩ = some (.int .i64 (nx d)) := fun o => by rw [World.cell?_alloc_lt _ _ _ hwz, hb.cell (by simp)]; go_simp
      have d2 : ∀ o, (wr.alloc o).cell? ⟨w.heap.size, 2, .none⟩ = some (.pointer .none) := fun o => by rw [World.cell?_alloc_lt _ _ _ hwz, hb.cell (by simp)]; go_simp
      have fin : ∀ (o : Obj) (w1 : World), Below (wr.alloc o).heap.size (wr.alloc o) w1 → Below (w.heap.size + 1) (w.alloc (.cells #[.int .u64 (nk d), .int .i64 (nx d), .pointer .none] 27)) w1 :=
        fun _ _ h => (hb.alloc (by omega) _).trans (h.mono (by simp; omega))
      have Fin := hide fin
      clear fin
      by_cases hF : d < F k
      · have hnx := hide (hit_no F U d k Hh.out (by omega))
        go_wp2_with fail
        refine (before_yes _ _ hF _).mono ?_
        rintro e w1 ⟨rfl, hb1⟩
        go_wp2_with fail
        go_roundw
        case rel => exact ⟨k + 1, by omega, by go_num, unhide hnx, unhide Fin _ _ hb1⟩
        case measure => simp [intOf]; omega
      · go_wp2_with fail
        refine (before_no _ _ (by omega) _).mono ?_
        rintro e w1 ⟨rfl, hb1⟩
        have e0 : w1.cell? ⟨w.heap.size, 0, .none⟩ = some (.int .u64 (nk d)) := by rw [hb1.cell (by simp; omega)]; exact d0 _
        have e1 : w1.cell? ⟨w.heap.size, 1, .none⟩ = some (.int .i64 (nx d)) := by rw [hb1.cell (by simp; omega)]; exact d1 _
        have e2 : w1.cell? ⟨w.heap.size, 2, .none⟩ = some (.pointer .none) := by rw [hb1.cell (by simp; omega)]; exact d2 _
        have g3 : w1.cell? ⟨wr.heap.size, 3, .none⟩ = some (.int .u64 (nk (U k))) := by rw [hb1.cell (by simp)]; go_simp
        have g4 : w1.cell? ⟨wr.heap.size, 4, .none⟩ = some (.int .i64 (nx (U k))) := by rw [hb1.cell (by simp)]; go_simp
        have g5 : w1.cell? ⟨wr.heap.size, 5, .none⟩ = some (.pointer .none) := by rw [hb1.cell (by simp)]; go_simp
        by_cases hU : d < U k
        · have hy := hide (hit_yes F U d k n hlt (by omega) hU)
          go_wp2_with fail
          refine (before_yes _ _ hU _).mono ?_
          rintro e w2 ⟨rfl, hb2⟩
          go_wp2_with fail
          go_ret
          exact ⟨ret_bool (unhide hy).symm, ((Below.refl w.heap.size w).alloc (Nat.le_refl _) _).trans (((unhide Fin _ _ hb1).trans (hb2.mono (by have := hb1.size; simp at this; omega))).mono (by omega))⟩
        · have hnx := hide (hit_no F U d k Hh.out (by omega))
          go_wp2_with fail
          refine (before_no _ _ (by omega) _).mono ?_
          rintro e w2 ⟨rfl, hb2⟩
          go_wp2_with fail
          go_roundw
          case rel => exact ⟨k + 1, by omega, by go_num, unhide hnx, (unhide Fin _ _ hb1).trans (hb2.mono (by have := hb1.size; simp at this; omega))⟩
          case measure => simp [intOf]; omega
    · go_wp2_with fail
      go_ret
      obtain rfl : k = n := by omega
      exact ⟨ret_bool Hh.out.symm, ((Below.refl w.heap.size w).alloc (Nat.le_refl _) _).trans (hb.mono (by omega))⟩
end Go.Proofs.Ybulkejri
