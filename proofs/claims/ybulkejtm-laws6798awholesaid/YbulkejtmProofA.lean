import Derived.Test.YbulkejtmLawA
import Derived.WalkKit
import Derived.ProofKit
import Derived.OpenShut
import Derived.ShutString
import Derived.ChangeOld
import Derived.Below
import Derived.Carry
import Derived.Deep.SlicePairs
import Derived.Deep.Strs
namespace Go.Proofs.Ybulkejtm.lawS6798AWhole
open Go.ChangeShapes Go.WideShapes Go.ChangeAt Go.RowKit
open Go.ChangeMaps (open_string shut_string)
set_option linter.unusedVariables false

theorem own : ownKnob Yba.prog.godebug = none := by kernel_rfl
theorem laidOut : laidOutB Yba.prog = true := by kernel_rfl

/-- What the walk is told of the start path's steps that came in. -/
def IsSegs (w : World) (a : Option Addr) (len : Nat) (sn : Nat → ByteArray) (si : Nat → Int) : Prop :=
  len = 0 ∨ ∃ x, a = some x ∧ ∀ i, i < len → w.cell? (x.add (i * 2)) = some (.string (sn i)) ∧ w.cell? (x.add (i * 2 + 1)) = some (.int .i64 (si i))
/-- What the walk is told of the items that came in. -/
def IsItems (w : World) (a : Option Addr) (len : Nat) (kd : Nat → Int) (bl : Nat → Bool) (tx : Nat → ByteArray) : Prop :=
  len = 0 ∨ ∃ x, a = some x ∧ ∀ i, i < len → w.cell? (x.add (i * 3)) = some (.int .u8 (kd i)) ∧ w.cell? (x.add (i * 3 + 1)) = some (.bool (bl i)) ∧ w.cell? (x.add (i * 3 + 2)) = some (.string (tx i)) ∧ (Lit.int .u8 (kd i)).wf = true

theorem plain_addr {w : World} {x : Addr} {v : Value} (h : w.cell? (x.add 0) = some v) : ∃ b o, x = ⟨b, o, .none⟩ ∧ b < w.heap.size := by
  obtain ⟨b, off, spot⟩ := x
  have hspot : spot = .none := by simpa [Addr.add] using World.cell?_spot h
  subst hspot
  exact ⟨b, off, rfl, World.block_lt_of_cell? w ⟨b, off, .none⟩ (by simpa [Addr.add] using h)⟩

theorem args_of {w : World} {a0 a1 : Option Addr} {n m : Nat} {sn : Nat → ByteArray} {si : Nat → Int} {kd : Nat → Int} {bl : Nat → Bool} {tx : Nat → ByteArray} (h0 : IsSegs w a0 n sn si) (h1 : IsItems w a1 m kd bl tx) (hn : n ≤ 65536) (hm : m ≤ 65536) :
    ∃ sb so ib io, Args w a0 a1 n m sb so ib io sn si kd bl tx := by
  have e : ∀ (b off j : Nat), (⟨b, off, .none⟩ : Addr).add j = ⟨b, off + j, .none⟩ := fun b off j => Go.WideShapes.add_plain _ _ _
  obtain ⟨sb, so, x1, x2, x3, x4⟩ : ∃ sb so, (0 < n → a0 = some ⟨sb, so, .none⟩) ∧ (0 < n → sb < w.heap.size) ∧ (∀ j, j < n → w.cell? ⟨sb, so + j * 2, .none⟩ = some (.string (sn j))) ∧ (∀ j, j < n → w.cell? ⟨sb, so + j * 2 + 1, .none⟩ = some (.int .i64 (si j))) := by
    by_cases hz : n = 0
    · subst hz; exact ⟨0, 0, fun q => by omega, fun q => by omega, fun j q => by omega, fun j q => by omega⟩
    · rcases h0 with h | ⟨x, rfl, hx⟩
      · exact absurd h hz
      · obtain ⟨b, off, rfl, hb⟩ := plain_addr (by simpa using (hx 0 (by omega)).1)
        exact ⟨b, off, fun _ => rfl, fun _ => hb, fun j hj => by have := (hx j hj).1; rw [e] at this; exact this, fun j hj => by have := (hx j hj).2; rw [e] at this; exact this⟩
  obtain ⟨ib, io, y1, y2, y3, y4, y5, y6⟩ : ∃ ib io, (0 < m → a1 = some ⟨ib, io, .none⟩) ∧ (0 < m → ib < w.heap.size) ∧ (∀ j, j < m → w.cell? ⟨ib, io + j * 3, .none⟩ = some (.int .u8 (kd j))) ∧ (∀ j, j < m → w.cell? ⟨ib, io + j * 3 + 1, .none⟩ = some (.bool (bl j))) ∧
      (∀ j, j < m → w.cell? ⟨ib, io + j * 3 + 2, .none⟩ = some (.string (tx j))) ∧ (∀ j, j < m → 0 ≤ kd j ∧ kd j ≤ 255) := by
    by_cases hz : m = 0
    · subst hz; exact ⟨0, 0, fun q => by omega, fun q => by omega, fun j q => by omega, fun j q => by omega, fun j q => by omega, fun j q => by omega⟩
    · rcases h1 with h | ⟨x, rfl, hx⟩
      · exact absurd h hz
      · obtain ⟨b, off, rfl, hb⟩ := plain_addr (by simpa using (hx 0 (by omega)).1)
        exact ⟨b, off, fun _ => rfl, fun _ => hb, fun j hj => by have := (hx j hj).1; rw [e] at this; exact this, fun j hj => by have := (hx j hj).2.1; rw [e] at this; exact this, fun j hj => by have := (hx j hj).2.2.1; rw [e] at this; exact this, fun j hj => bounds_u8 (hx j hj).2.2.2⟩
  exact ⟨sb, so, ib, io, ⟨hn, hm, x1, y1, x2, y2, x3, x4, y3, y4, y5, y6⟩⟩

set_option maxRecDepth 100000 in
theorem long0 (a0 a1 : Option Addr) (n0 n1 c0 c1 : Nat) (h : 65536 < n0) (w : World) :
    Calls Yba.prog 3 #[.slice a0 n0 c0, .slice a1 n1 c1] w fun e w' => e = .returned (.bool true) ∧ Below w.heap.size w w' := by
  have hlen : decide ((65536 : Int) < (n0 : Int)) = true := decide_eq_true (by omega)
  go_enter Yba.func3, Yba.ntmps3
  go_wp2_with fail
  go_ret
  exact ⟨rfl, Below.refl _ _⟩
set_option maxRecDepth 100000 in
theorem long1 (a0 a1 : Option Addr) (n0 n1 c0 c1 : Nat) (h0 : n0 ≤ 65536) (h : 65536 < n1) (w : World) :
    Calls Yba.prog 3 #[.slice a0 n0 c0, .slice a1 n1 c1] w fun e w' => e = .returned (.bool true) ∧ Below w.heap.size w w' := by
  have hlen0 : decide ((65536 : Int) < (n0 : Int)) = false := decide_eq_false (by omega)
  have hlen : decide ((65536 : Int) < (n1 : Int)) = true := decide_eq_true (by omega)
  go_enter Yba.func3, Yba.ntmps3
  go_wp2_with fail
  go_ret
  exact ⟨rfl, Below.refl _ _⟩

theorem walk (a0 : Option Addr) (len0 cap0 : Nat) (sn : Nat → ByteArray) (si : Nat → Int) (a1 : Option Addr) (len1 cap1 : Nat) (kd : Nat → Int) (bl : Nat → Bool) (tx : Nat → ByteArray) (w : World) (w0 : IsSegs w a0 len0 sn si) (w1 : IsItems w a1 len1 kd bl tx) :
    Calls Yba.prog 3 #[.slice a0 len0 cap0, .slice a1 len1 cap1] w fun e w' => e = .returned (.bool true) ∧ Below w.heap.size w w' := by
  by_cases h0 : 65536 < len0
  · exact long0 a0 a1 len0 len1 cap0 cap1 h0 w
  · by_cases h1 : 65536 < len1
    · exact long1 a0 a1 len0 len1 cap0 cap1 (by omega) h1 w
    · obtain ⟨sb, so, ib, io, hA⟩ := args_of w0 w1 (by omega) (by omega)
      exact law_a a0 a1 len0 len1 cap0 cap1 sb so ib io sn si kd bl tx w hA

/-! ### THE ROW's STEP: WRITTEN OUT: LEAVE IT -/
set_option maxRecDepth 100000 in
theorem lifted (os : Os) (started : os.Started) (H : Type) (enc : TypeId × Value → H) :
    ReturnsInHanded {} Yba.checked os 3 .any (Rows.lawS6798AWholeSpec.pre6 enc Yba.prog Yba.f3 Rows.lawS6798AWholeRow.domain false) (Rows.lawS6798AWholeSpec.post enc Yba.prog Yba.f3 false true false false) := by
  refine returnsInHanded_of_change (C := Yba.checked) own started (by kernel_rfl) Yba.func3
    (ChangeSpec.witness6 (enc := enc) (C := Yba.checked) false ⟨#[], #[.slice none 0 0, .slice none 0 0], []⟩ 8 (by kernel_rfl) (by kernel_rfl) (by kernel_rfl) (by kernel_rfl)) ?_
  intro W base args ds gs before hval0 hW hcnd _
  have hval : ∀ (j : Nat) t v, Yba.f3.params[j]? = some t → args[j]? = some v → Value.okWide Yba.prog W .any base t v := hval0
  have hW' := hW
  obtain ⟨p, q, hA0, hV, rfl, hfz, hnd⟩ := hW
  have hA : DataW.TrodAll enc Yba.prog W 0 (fun _ => true) true Yba.f3.params.toList args.toList ds p := hA0
  rw [Yba.params3] at hA hval
  obtain ⟨v0, vs0, d0, ds0, p0, q0, hargs, rfl, rfl, h0, r0⟩ := trodAll_cons hA
  obtain ⟨v1, vs1, d1, ds1, p1, q1, rfl, rfl, rfl, h1, r1⟩ := trodAll_cons r0
  obtain ⟨rfl, rfl, rfl⟩ := trodAll_nil r1
  obtain rfl : args = #[v0, v1] := by cases args; simp_all
  obtain ⟨rfl, rfl⟩ := trodVars_none hV
  obtain ⟨a0, len0, cap0, rfl⟩ := okWide_slice Yba.underlying22 (hval 0 22 v0 rfl rfl)
  have k0 := h0
  have lt0 : ∀ x ∈ p0, x.block < W.heap.size := by obtain ⟨m, hm⟩ := k0; exact DataW.trod_lt m _ _ _ hm
  obtain ⟨sn, si, w0⟩ : ∃ sn si, IsSegs W a0 len0 sn si := by
    obtain ⟨fuel, hf⟩ := h0
    rcases Go.Deep.open_slice_pairs Yba.underlying22 Yba.underlying27 (by kernel_rfl) rfl rfl (by kernel_rfl) (by kernel_rfl) hf with ⟨hcs, _⟩ | ⟨x, l, c, m, n, V0, V1, D0, D1, P0, P1, hcs, _, hl, hm, hmm, _, hx⟩
    · simp [Value.cells] at hcs
      exact ⟨fun _ => ⟨#[]⟩, fun _ => 0, .inl hcs.2.1⟩
    · simp [Value.cells] at hcs
      obtain ⟨rfl, rfl, rfl⟩ := hcs
      have each : ∀ i, i < len0 → ∃ y : ByteArray × Int, W.cell? (x.add (i * 2)) = some (.string y.1) ∧ W.cell? (x.add (i * 2 + 1)) = some (.int .i64 y.2) := fun i hi => by
        have him : i < m := by rw [hmm]; split <;> omega
        obtain ⟨g0, g1, t0, t1⟩ := hx i him
        obtain ⟨q0, e0, _, _⟩ := DataW.trod_string Yba.underlying9 t0
        obtain ⟨q1, e1, _, _⟩ := DataW.trod_int Yba.underlying3 t1
        simp at e0 e1
        rw [e0] at g0
        rw [e1] at g1
        exact ⟨(q0, q1), g0, g1⟩
      obtain ⟨y, hy⟩ := Go.Deep.choose_lt each
      exact ⟨fun i => (y i).1, fun i => (y i).2, .inr ⟨x, rfl, hy⟩⟩
  obtain ⟨a1, len1, cap1, rfl⟩ := okWide_slice Yba.underlying23 (hval 1 23 v1 rfl rfl)
  have k1 := h1
  have lt1 : ∀ x ∈ p1, x.block < W.heap.size := by obtain ⟨m, hm⟩ := k1; exact DataW.trod_lt m _ _ _ hm
  obtain ⟨kd, bl, tx, w1⟩ : ∃ kd bl tx, IsItems W a1 len1 kd bl tx := by
    obtain ⟨fuel, hf⟩ := h1
    rcases Go.Deep.open_slice Yba.underlying23 hf with ⟨hcs, _⟩ | ⟨x, l, c, m, n, D, Pl, hcs, _, hl, hm, hmm, _, hx⟩
    · simp [Value.cells] at hcs
      exact ⟨fun _ => 0, fun _ => false, fun _ => ⟨#[]⟩, .inl hcs.2.1⟩
    · simp [Value.cells] at hcs
      obtain ⟨rfl, rfl, rfl⟩ := hcs
      have ce : Yba.prog.cellsOf 39 = 3 := by kernel_rfl
      have c5 : Yba.prog.cellsOf 5 = 1 := by kernel_rfl
      have c4 : Yba.prog.cellsOf 4 = 1 := by kernel_rfl
      have c9 : Yba.prog.cellsOf 9 = 1 := by kernel_rfl
      have each : ∀ i, i < len1 → ∃ y : Int × Bool × ByteArray, W.cell? (x.add (i * 3)) = some (.int .u8 y.1) ∧ W.cell? (x.add (i * 3 + 1)) = some (.bool y.2.1) ∧ W.cell? (x.add (i * 3 + 2)) = some (.string y.2.2) ∧ (Lit.int .u8 y.1).wf = true := fun i hi => by
        have him : i < m := by rw [hmm]; split <;> omega
        obtain ⟨cs', h1', h2'⟩ := hx i him
        rw [ce] at h1'
        obtain ⟨_, hlen, hcell⟩ := World.cells?_some h1'
        obtain ⟨y0, y1, y2, k, _, _, g0, g1, g2⟩ := Go.Deep.trod_struct3 Yba.underlying39 h2'
        match cs', hlen with
        | [v0, v1, v2], _ =>
          simp [c5, c4, c9] at g0 g1 g2
          have e0 := hcell 0 (by omega)
          have e1 := hcell 1 (by omega)
          have e2 := hcell 2 (by omega)
          rw [Go.Deep.add_add] at e0 e1 e2
          obtain ⟨q0, r0, _, f0⟩ := DataW.trod_int Yba.underlying5 g0
          obtain ⟨q1, r1, _⟩ := DataW.trod_bool Yba.underlying4 g1
          obtain ⟨q2, r2, _, _⟩ := DataW.trod_string Yba.underlying9 g2
          simp at r0 r1 r2
          subst r0 r1 r2
          exact ⟨(q0, q1, q2), by simpa using e0, by simpa using e1, by simpa using e2, f0⟩
      obtain ⟨y, hy⟩ := Go.Deep.choose_lt each
      exact ⟨fun i => (y i).1, fun i => (y i).2.1, fun i => (y i).2.2, .inr ⟨x, rfl, hy⟩⟩
  clear hA0 hval0
  refine (walk a0 len0 cap0 sn si a1 len1 cap1 kd bl tx W w0 w1).mono fun e W' ⟨he, bel⟩ => ?_
  subst he
  exact ⟨_, rfl, _, _, _, [], _, [], hW', trodAll_mk1 (shut_bool Yba.underlying4 _), (trodAll_cons_mk (Below.trod laidOut (by kernel_rfl) (of_decide_eq_true (by kernel_rfl)) k0 bel lt0) (trodAll_cons_mk (Below.trod laidOut (by kernel_rfl) (of_decide_eq_true (by kernel_rfl)) k1 bel lt1) trodAll_mk0)), rfl, bel.frame _, fun h => by cases h⟩

theorem over : Rows.lawS6798AWholeRow.holds Yba.pinned (OpenSpec.ofChange Rows.lawS6798AWholeSpec) :=
  OpenClaim.holds_of_wide 3 Yba.f3 rfl rfl rfl rfl rfl rfl rfl ⟨rfl, rfl, rfl, rfl, rfl⟩ rfl rfl rfl rfl rfl (by kernel_rfl) Yba.func3 (by kernel_rfl)
    (of_decide_eq_true (by kernel_rfl)) (by unfold Func.isWrapper; first | (rw [if_pos (by decide +kernel)]; kernel_rfl) | (rw [if_neg (by decide +kernel)]; exact ⟨rfl, rfl⟩))
    (fun os started H enc _ => lifted os started H enc)

/-- ████ THE STATEMENT ████ -/
theorem proved : Rows.LawS6798AWholeSaid := over
end Go.Proofs.Ybulkejtm.lawS6798AWhole
