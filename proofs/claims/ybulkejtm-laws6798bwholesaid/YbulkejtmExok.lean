import Derived.Test.YbulkejtmWrite
namespace Go.Proofs.Ybulkejtm
open Go.ChangeShapes Go.WideShapes Go.ChangeAt Go.RowKit

/-! ### A region that draws, whose operations read and whose callees only add memory: one walk -/
structure GW (w : World) where
  x : World
  g : Grow w x
instance gw_nonempty (w : World) : Nonempty (GW w) := ⟨⟨w, Grow.refl w⟩⟩
theorem wp_region_grow {P : Program} {id : Nat} {Q : Exit → Act → World → Prop} {a : Act} {w : World} {l : List Oper} (hm : P.follows .mixedOrders = true) (hB : Region.lexB .any l.toArray = true)
    (h : wpQuiet P l.toArray (fun w' => ∃ y : GW w, w' = y.x) (fun a' => ∀ w', (∃ y : GW w, w' = y.x) → Q .normal a' w') l a) : (Code.region id l.toArray true).wp P Q a w :=
  wp_region_quiet (C := fun w' => ∃ y : GW w, w' = y.x) hm hB ⟨⟨w.drew, (Grow.refl w).drew⟩, rfl⟩ (by simpa using h)
theorem GW.cell {w : World} {a : Addr} {v : Value} (h : w.cell? a = some v) (y : GW w) : y.x.cell? a = some v := y.g.cell h
theorem name_gw {w : World} (n : Int) (h0 : 0 ≤ n) (h1 : n < 7) (y : GW w) : Calls Yba.prog 10 #[.int .u8 n] y.x fun e w'' => e = .returned (.string (nm n)) ∧ ∃ y' : GW w, w'' = y'.x :=
  (name_any n h0 h1 y.x).mono fun _ _ ⟨he, h⟩ => ⟨he, y, h⟩
theorem eq_gw {w : World} (t : ByteArray) (y : GW w) : Calls Yba.prog 13 #[valB t, .string t] y.x fun e w'' => e = .returned (.bool true) ∧ ∃ y' : GW w, w'' = y'.x :=
  (eq_any t y.x).mono fun _ w' ⟨he, h⟩ => ⟨he, ⟨w', y.g.trans h⟩, rfl⟩

def n7 (k : Int) : Int := k % 7
def n5 (k : Int) : Int := k % 5

/-- How the extra members that came in read. -/
structure Ein (w : World) (E : Nat) (a1 : Option Addr) (eb eo : Nat) (en : Nat → Int) (ev : Nat → ByteArray) : Prop where
  h : 0 < E → a1 = some ⟨eb, eo, .none⟩
  e0 : ∀ j, j < E → w.cell? ⟨eb, eo + j * 2, .none⟩ = some (.int .u8 (en j))
  e1 : ∀ j, j < E → w.cell? ⟨eb, eo + j * 2 + 1, .none⟩ = some (.string (ev j))
  b : ∀ j, j < E → 0 ≤ en j ∧ en j ≤ 255
theorem Ein.grow {w w' : World} {E : Nat} {a1 : Option Addr} {eb eo : Nat} {en : Nat → Int} {ev : Nat → ByteArray} (h : Ein w E a1 eb eo en ev) (g : Grow w w') : Ein w' E a1 eb eo en ev :=
  ⟨h.h, fun j hj => g.cell (h.e0 j hj), fun j hj => g.cell (h.e1 j hj), h.b⟩

set_option maxRecDepth 100000 in
set_option maxHeartbeats 4000000 in
theorem extraok_any (T XB eb eo : Nat) (xa a1 : Option Addr) (E xc c1 : Nat) (en : Nat → Int) (ev : Nat → ByteArray) (w : World) (cT : w.cell? ⟨T, 2, .none⟩ = some (.slice xa E xc)) (hX : 0 < E → xa = some ⟨XB, 0, .none⟩) (mc : ∀ j, j < E → MC w XB (j * 7) (n7 (en j)) (ev j)) (I : Ein w E a1 eb eo en ev) (hE : E ≤ 4096) :
    Calls Yba.prog 14 #[.pointer (some ⟨T, 0, .none⟩), .slice a1 E c1] w fun e w' => e = .returned (.bool true) ∧ Grow w w' := by
  have HC := hide cT
  have HM := hide mc
  have HI := hide I
  clear mc I
  go_enter Yba.func14, Yba.ntmps14
  go_wp2_with fail
  go_loopw [16] (fun ii wr => ∃ k : Nat, k ≤ E ∧ ii = .int .i64 k ∧ Hid (Grow w wr)) (fun ii _ => E - (intOf ii).toNat)
  case atStart => exact ⟨0, Nat.zero_le _, rfl, Grow.refl _⟩
  case round =>
    clear cT
    obtain ⟨k, hk, rfl, HG⟩ := hrel
    by_cases hlt : k < E
    · obtain rfl := hX (by omega)
      obtain rfl := (unhide HI).h (by omega)
      have hkI : (k : Int) < (E : Int) := by omega
      have c := (unhide HG).cell (unhide HC)
      obtain ⟨q0, q1, q2, q3, q4, q5, q6⟩ := (unhide HM k hlt).grow (unhide HG)
      have t0 := (unhide HG).cell ((unhide HI).e0 k hlt)
      have t1 := (unhide HG).cell ((unhide HI).e1 k hlt)
      obtain ⟨b0, b1⟩ := (unhide HI).b k hlt
      have h7 : en k % 7 = n7 (en k) := rfl
      have h70 : 0 ≤ n7 (en k) ∧ n7 (en k) < 7 := by unfold n7; omega
      go_wp2_with fail
      replace c := GW.cell c
      replace q0 := GW.cell q0
      replace q1 := GW.cell q1
      replace q2 := GW.cell q2
      replace q3 := GW.cell q3
      replace q4 := GW.cell q4
      replace q5 := GW.cell q5
      replace q6 := GW.cell q6
      replace t0 := GW.cell t0
      replace t1 := GW.cell t1
      refine wp_region_grow (by kernel_rfl) (by kernel_rfl) ?_
      repeat (go_big_quiet_step (first | exact name_gw (n7 (en k)) h70.1 h70.2 _ | exact eq_gw (ev k) _))
      refine wpQuiet_nil ?_
      rintro _ ⟨yq, rfl⟩
      clear c q0 q1 q2 q3 q4 q5 q6 t0 t1
      go_wp2_with fail
      go_roundw
      case rel => exact ⟨k + 1, by omega, by go_num, Grow.trans (unhide HG) yq.g⟩
      case measure => simp [intOf]; omega
    · obtain rfl : k = E := by omega
      go_wp2_with fail
      go_ret
      exact ⟨rfl, unhide HG⟩
end Go.Proofs.Ybulkejtm
