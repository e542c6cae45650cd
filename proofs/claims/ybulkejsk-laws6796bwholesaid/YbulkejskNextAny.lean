import Derived.Test.YbulkejskPlain
import Derived.Test.YbulkejskNextA
import Derived.Test.YbulkejskNextB
import Derived.Test.YbulkejskNextC
import Derived.Test.YbulkejskNextD
import Derived.Test.YbulkejskNextE
namespace Go.Proofs.Ybulkejsk
open Go.ChangeShapes Go.WideShapes Go.ChangeAt Go.RowKit

/-- A slice at address ao holds the entries of the counters C, in block g, below B. -/
structure Ents (w : World) (B : Nat) (ao : Option Addr) (g : Nat) (C : Nat → Int) : Prop where
  here : 0 < pos C 8 → ao = some ⟨g, 0, .none⟩
  lt : 0 < pos C 8 → g < B
  node : ∀ k, k < 8 → C k ≠ 0 → w.cell? ⟨g, pos C k * 2, .none⟩ = some (.string (nm k))
  count : ∀ k, k < 8 → C k ≠ 0 → w.cell? ⟨g, pos C k * 2 + 1, .none⟩ = some (.int .u64 (C k))

theorem Ents.below {w w' : World} {B B' : Nat} {ao : Option Addr} {g : Nat} {C : Nat → Int} (h : Ents w B ao g C) (hb : Below B' w w') (hB : B ≤ B') : Ents w' B ao g C :=
  ⟨h.here, h.lt, fun k hk hz => by rw [hb.cell (show g < B' from Nat.lt_of_lt_of_le (h.lt (Nat.lt_of_le_of_lt (Nat.zero_le _) (pos_lt hk hz))) hB)]; exact h.node k hk hz,
   fun k hk hz => by rw [hb.cell (show g < B' from Nat.lt_of_lt_of_le (h.lt (Nat.lt_of_le_of_lt (Nat.zero_le _) (pos_lt hk hz))) hB)]; exact h.count k hk hz⟩

theorem next_any (C D : Nat → Int) (B p : Nat) (hB : B ≤ p) (ca da : Option Addr) (gc gd cc dc t : Nat) (ht : t ≤ 8) (nd : ByteArray) (x y : Int) (w : World) (hc : Ents w B ca gc C) (hd : Ents w B da gd D)
    (hp : Pw w p (.slice ca (pos C 8) cc) (.slice da (pos D 8) dc) (pos C t) (pos D t) nd x y) :
    Calls Yba.prog 10 #[.pointer (some ⟨p, 0, .none⟩)] w fun e w' =>
      (e = .returned (.bool false) ∧ (∀ j, t ≤ j → j < 8 → C j = 0 ∧ D j = 0) ∧ ∃ q, w' = w.drewN q) ∨
      (∃ k, t ≤ k ∧ k < 8 ∧ (C k ≠ 0 ∨ D k ≠ 0) ∧ (∀ j, t ≤ j → j < k → C j = 0 ∧ D j = 0) ∧ e = .returned (.bool true) ∧
        Pw w' p (.slice ca (pos C 8) cc) (.slice da (pos D 8) dc) (pos C (k + 1)) (pos D (k + 1)) (nm k) (C k) (D k) ∧ Only p w w') := by
  have l8C := pos_le C 8
  have l8D := pos_le D 8
  have ex : ∀ {E : Nat → Int} {k : Nat}, k < 8 → E k ≠ 0 → 0 < pos E 8 := fun hk hz => Nat.lt_of_le_of_lt (Nat.zero_le _) (pos_lt hk hz)
  have s1 : ∀ (E : Nat → Int) (k : Nat), E k ≠ 0 → ((pos E (k + 1) : Nat) : Int) = (pos E k : Int) + 1 := fun E k hz => by rw [pos_succ_one hz]; omega
  rcases first8 C t ht with zC | ⟨kc, c1, c2, c3, c4⟩
  · have eC := (skip' ht zC).1
    rcases first8 D t ht with zD | ⟨kd, d1, d2, d3, d4⟩
    · have eD := (skip' ht zD).1
      rw [← eC, ← eD] at hp
      refine (next_end ca da _ cc _ dc p nd x y w hp).mono ?_
      rintro e w' ⟨rfl, q, rfl⟩
      exact .inl ⟨rfl, fun j h1 h2 => ⟨zC j h1 h2, zD j h1 h2⟩, q, rfl⟩
    · have eD := (skip' d1 d4).1
      have hz : C kd = 0 := zC kd d1 d2
      have eC2 : pos C (kd + 1) = pos C 8 := by rw [pos_succ_zero hz, (skip' d1 (fun j h1 h2 => zC j h1 (by omega))).1, eC]
      rw [← eC, ← eD, hd.here (ex d2 d3)] at hp
      have hg := hd.lt (ex d2 d3)
      refine (next_d_end ca gd _ cc _ _ dc p (pos_lt d2 d3) l8D nd x y _ _ (by omega) w hp (hd.node kd d2 d3) (hd.count kd d2 d3)).mono ?_
      rintro e w' ⟨rfl, hp', ho⟩
      refine .inr ⟨kd, d1, d2, .inr d3, fun j h1 h2 => ⟨zC j h1 (by omega), d4 j h1 h2⟩, rfl, ?_, ho⟩
      rw [eC2, hz, hd.here (ex d2 d3), s1 D kd d3]; exact hp'
  · have eC := (skip' c1 c4).1
    rcases first8 D t ht with zD | ⟨kd, d1, d2, d3, d4⟩
    · have eD := (skip' ht zD).1
      have hz : D kc = 0 := zD kc c1 c2
      have eD2 : pos D (kc + 1) = pos D 8 := by rw [pos_succ_zero hz, (skip' c1 (fun j h1 h2 => zD j h1 (by omega))).1, eD]
      rw [← eC, ← eD, hc.here (ex c2 c3)] at hp
      have hg := hc.lt (ex c2 c3)
      refine (next_c_end da gc _ cc _ _ dc p (pos_lt c2 c3) l8C nd x y _ _ (by omega) w hp (hc.node kc c2 c3) (hc.count kc c2 c3)).mono ?_
      rintro e w' ⟨rfl, hp', ho⟩
      refine .inr ⟨kc, c1, c2, .inl c3, fun j h1 h2 => ⟨c4 j h1 h2, zD j h1 (by omega)⟩, rfl, ?_, ho⟩
      rw [eD2, hz, hc.here (ex c2 c3), s1 C kc c3]; exact hp'
    · have eD := (skip' d1 d4).1
      have hg := hc.lt (ex c2 c3)
      have hg' := hd.lt (ex d2 d3)
      have hcmp := cmp_names kc c2 kd d2
      rw [← eC, ← eD, hc.here (ex c2 c3), hd.here (ex d2 d3)] at hp
      by_cases h1 : kc < kd
      · rw [if_pos h1] at hcmp
        have hz : D kc = 0 := d4 kc c1 h1
        have eD2 : pos D (kc + 1) = pos D kd := by rw [pos_succ_zero hz, (skip' c1 (fun j h1 h2 => d4 j h1 (by omega))).1, eD]
        refine (next_lt gc gd _ cc _ _ _ dc p (pos_lt c2 c3) l8C (pos_lt d2 d3) l8D nd x y _ _ _ _ (by omega) (by omega) hcmp w hp (hc.node kc c2 c3) (hc.count kc c2 c3) (hd.node kd d2 d3) (hd.count kd d2 d3)).mono ?_
        rintro e w' ⟨rfl, hp', ho⟩
        refine .inr ⟨kc, c1, c2, .inl c3, fun j h3 h2 => ⟨c4 j h3 h2, d4 j h3 (by omega)⟩, rfl, ?_, ho⟩
        rw [eD2, hz, hc.here (ex c2 c3), hd.here (ex d2 d3), s1 C kc c3]; exact hp'
      · rw [if_neg h1] at hcmp
        by_cases h2 : kd < kc
        · rw [if_pos h2] at hcmp
          have hz : C kd = 0 := c4 kd d1 h2
          have eC2 : pos C (kd + 1) = pos C kc := by rw [pos_succ_zero hz, (skip' d1 (fun j h1 h2 => c4 j h1 (by omega))).1, eC]
          refine (next_gt gc gd _ cc _ _ _ dc p (pos_lt c2 c3) l8C (pos_lt d2 d3) l8D nd x y _ _ _ _ (by omega) (by omega) hcmp w hp (hc.node kc c2 c3) (hc.count kc c2 c3) (hd.node kd d2 d3) (hd.count kd d2 d3)).mono ?_
          rintro e w' ⟨rfl, hp', ho⟩
          refine .inr ⟨kd, d1, d2, .inr d3, fun j h3 h2 => ⟨c4 j h3 (by omega), d4 j h3 h2⟩, rfl, ?_, ho⟩
          rw [eC2, hz, hc.here (ex c2 c3), hd.here (ex d2 d3), s1 D kd d3]; exact hp'
        · rw [if_neg h2] at hcmp
          obtain rfl : kc = kd := by omega
          refine (next_eq gc gd _ cc _ _ _ dc p (pos_lt c2 c3) l8C (pos_lt d2 d3) l8D nd x y _ _ _ _ (by omega) (by omega) hcmp w hp (hc.node kc c2 c3) (hc.count kc c2 c3) (hd.node kc d2 d3) (hd.count kc d2 d3)).mono ?_
          rintro e w' ⟨rfl, hp', ho⟩
          refine .inr ⟨kc, c1, c2, .inl c3, fun j h3 h2 => ⟨c4 j h3 h2, d4 j h3 h2⟩, rfl, ?_, ho⟩
          rw [hc.here (ex c2 c3), hd.here (ex d2 d3), s1 C kc c3, s1 D kc d3]; exact hp'
end Go.Proofs.Ybulkejsk
