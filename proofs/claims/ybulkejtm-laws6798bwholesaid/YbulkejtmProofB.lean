import Derived.Test.YbulkejtmBuild
import Derived.WalkKit
import Derived.ProofKit
import Derived.OpenShut
import Derived.ShutString
import Derived.ChangeOld
import Derived.Below
import Derived.Carry
import Derived.SizedLaws
import Derived.Deep.SlicePairs
import Derived.Deep.Strs
namespace Go.Proofs.Ybulkejtm.lawS6798BWhole
open Go.ChangeShapes Go.WideShapes Go.ChangeAt Go.RowKit
open Go.ChangeMaps (open_string shut_string)
set_option linter.unusedVariables false

theorem own : ownKnob Yba.prog.godebug = none := by kernel_rfl
theorem laidOut : laidOutB Yba.prog = true := by kernel_rfl

/-- What the walk is told of the fields that came in. -/
def IsFields (w : World) (a : Option Addr) (len : Nat) (fn : Nat → Int) (co ha : Nat → Bool) (va : Nat → ByteArray) : Prop :=
  len = 0 ∨ ∃ x, a = some x ∧ ∀ i, i < len → w.cell? (x.add (i * 4)) = some (.int .u8 (fn i)) ∧ w.cell? (x.add (i * 4 + 1)) = some (.bool (co i)) ∧ w.cell? (x.add (i * 4 + 2)) = some (.bool (ha i)) ∧ w.cell? (x.add (i * 4 + 3)) = some (.string (va i)) ∧ (Lit.int .u8 (fn i)).wf = true
/-- What the walk is told of the extra members that came in. -/
def IsMems (w : World) (a : Option Addr) (len : Nat) (en : Nat → Int) (ev : Nat → ByteArray) : Prop :=
  len = 0 ∨ ∃ x, a = some x ∧ ∀ i, i < len → w.cell? (x.add (i * 2)) = some (.int .u8 (en i)) ∧ w.cell? (x.add (i * 2 + 1)) = some (.string (ev i)) ∧ (Lit.int .u8 (en i)).wf = true

theorem bnd8 {n : Int} (h : (Lit.int .u8 n).wf = true) : 0 ≤ n ∧ n ≤ 255 := bounds_u8 h
theorem plain_addr {w : World} {x : Addr} {v : Value} (h : w.cell? (x.add 0) = some v) : ∃ b o, x = ⟨b, o, .none⟩ := by
  obtain ⟨b, off, spot⟩ := x
  have hspot : spot = .none := by simpa [Addr.add] using World.cell?_spot h
  subst hspot
  exact ⟨b, off, rfl⟩

theorem args_of {w : World} {a0 a1 : Option Addr} {n m : Nat} {fn : Nat → Int} {co ha : Nat → Bool} {va : Nat → ByteArray} {en : Nat → Int} {ev : Nat → ByteArray} (h0 : IsFields w a0 n fn co ha va) (h1 : IsMems w a1 m en ev) (hn : n + m ≤ 4096) :
    ∃ fb fo eb eo, ArgB w a0 a1 n m fb fo eb eo fn co ha va en ev := by
  have e : ∀ (b off j : Nat), (⟨b, off, .none⟩ : Addr).add j = ⟨b, off + j, .none⟩ := fun b off j => Go.WideShapes.add_plain _ _ _
  obtain ⟨fb, fo, x1, x2, x3, x4, x5, x6⟩ : ∃ fb fo, (0 < n → a0 = some ⟨fb, fo, .none⟩) ∧ (∀ j, j < n → w.cell? ⟨fb, fo + j * 4, .none⟩ = some (.int .u8 (fn j))) ∧ (∀ j, j < n → w.cell? ⟨fb, fo + j * 4 + 1, .none⟩ = some (.bool (co j))) ∧ (∀ j, j < n → w.cell? ⟨fb, fo + j * 4 + 2, .none⟩ = some (.bool (ha j))) ∧
      (∀ j, j < n → w.cell? ⟨fb, fo + j * 4 + 3, .none⟩ = some (.string (va j))) ∧ (∀ j, j < n → 0 ≤ fn j ∧ fn j ≤ 255) := by
    by_cases hz : n = 0
    · subst hz; exact ⟨0, 0, fun q => by omega, fun j q => by omega, fun j q => by omega, fun j q => by omega, fun j q => by omega, fun j q => by omega⟩
    · rcases h0 with h | ⟨x, rfl, hx⟩
      · exact absurd h hz
      · obtain ⟨b, off, rfl⟩ := plain_addr (by simpa using (hx 0 (by omega)).1)
        exact ⟨b, off, fun _ => rfl, fun j hj => by have := (hx j hj).1; rw [e] at this; exact this, fun j hj => by have := (hx j hj).2.1; rw [e] at this; exact this, fun j hj => by have := (hx j hj).2.2.1; rw [e] at this; exact this, fun j hj => by have := (hx j hj).2.2.2.1; rw [e] at this; exact this, fun j hj => bnd8 (hx j hj).2.2.2.2⟩
  obtain ⟨eb, eo, y1, y2, y3, y4⟩ : ∃ eb eo, (0 < m → a1 = some ⟨eb, eo, .none⟩) ∧ (∀ j, j < m → w.cell? ⟨eb, eo + j * 2, .none⟩ = some (.int .u8 (en j))) ∧ (∀ j, j < m → w.cell? ⟨eb, eo + j * 2 + 1, .none⟩ = some (.string (ev j))) ∧ (∀ j, j < m → 0 ≤ en j ∧ en j ≤ 255) := by
    by_cases hz : m = 0
    · subst hz; exact ⟨0, 0, fun q => by omega, fun j q => by omega, fun j q => by omega, fun j q => by omega⟩
    · rcases h1 with h | ⟨x, rfl, hx⟩
      · exact absurd h hz
      · obtain ⟨b, off, rfl⟩ := plain_addr (by simpa using (hx 0 (by omega)).1)
        exact ⟨b, off, fun _ => rfl, fun j hj => by have := (hx j hj).1; rw [e] at this; exact this, fun j hj => by have := (hx j hj).2.1; rw [e] at this; exact this, fun j hj => bnd8 (hx j hj).2.2⟩
  exact ⟨fb, fo, eb, eo, ⟨hn, x1, x2, x3, x4, x5, x6, ⟨y1, y2, y3, y4⟩⟩⟩

set_option maxRecDepth 100000 in
set_option maxHeartbeats 4000000 in
theorem long (a0 a1 : Option Addr) (n0 n1 c0 c1 : Nat) (fm : Int) (hc : 4096 < n0 + n1) (h0 : n0 ≤ 140737488355328) (h1 : n1 ≤ 140737488355328) (w : World) :
    Calls Yba.prog 4 #[.slice a0 n0 c0, .slice a1 n1 c1, .int .u8 fm] w fun e w' => e = .returned (.bool true) ∧ Below w.heap.size w w' := by
  have hl : decide ((4096 : Int) < (n0 : Int) + (n1 : Int)) = true := decide_eq_true (by omega)
  go_enter Yba.func4, Yba.ntmps4
  go_wp2_with fail
  go_ret
  exact ⟨rfl, Below.refl _ _⟩

theorem walk (a0 : Option Addr) (len0 cap0 : Nat) (fn : Nat → Int) (co ha : Nat → Bool) (va : Nat → ByteArray) (a1 : Option Addr) (len1 cap1 : Nat) (en : Nat → Int) (ev : Nat → ByteArray) (a2 : Int) (w : World) (w0 : IsFields w a0 len0 fn co ha va) (w1 : IsMems w a1 len1 en ev) (m0 : len0 ≤ 140737488355328) (m1 : len1 ≤ 140737488355328) :
    Calls Yba.prog 4 #[.slice a0 len0 cap0, .slice a1 len1 cap1, .int .u8 a2] w fun e w' => e = .returned (.bool true) ∧ Below w.heap.size w w' := by
  by_cases h0 : 4096 < len0 + len1
  · exact long a0 a1 len0 len1 cap0 cap1 a2 h0 m0 m1 w
  · obtain ⟨fb, fo, eb, eo, hA⟩ := args_of w0 w1 (by omega)
    exact law_b a0 a1 len0 len1 cap0 cap1 fb fo eb eo fn co ha va en ev a2 w hA

/-! ### THE ROW's STEP: WRITTEN OUT: LEAVE IT -/
set_option maxRecDepth 100000 in
theorem lifted (os : Os) (started : os.Started) (H : Type) (enc : TypeId × Value → H) :
    ReturnsInHanded {} Yba.checked os 4 .any (Rows.lawS6798BWholeSpec.pre6 enc Yba.prog Yba.f4 Rows.lawS6798BWholeRow.domain false) (Rows.lawS6798BWholeSpec.post enc Yba.prog Yba.f4 false true false false) := by
  refine returnsInHanded_of_change_sized (C := Yba.checked) own started (by kernel_rfl) Yba.func4
    (ChangeSpec.witness6 (enc := enc) (C := Yba.checked) false ⟨#[], #[.slice none 0 0, .slice none 0 0, .int .u8 0], []⟩ 8 (by kernel_rfl) (by kernel_rfl) (by kernel_rfl) (by kernel_rfl)) ?_
  intro W base args ds gs before hval0 hW hcnd hsz0 _
  have hval : ∀ (j : Nat) t v, Yba.f4.params[j]? = some t → args[j]? = some v → Value.okWide Yba.prog W .any base t v := hval0
  have hW' := hW
  obtain ⟨p, q, hA0, hV, rfl, hfz, hnd⟩ := hW
  have hA : DataW.TrodAll enc Yba.prog W 0 (fun _ => true) true Yba.f4.params.toList args.toList ds p := hA0
  have hsz : (DataW.weightsEach Yba.prog (Yba.f4.params.toList ++ Rows.lawS6798BWholeSpec.plain.varTypes Yba.prog) (ds ++ gs)).all (· ≤ reachBytes) = true := hsz0
  rw [Yba.params4] at hA hval hsz
  obtain ⟨v0, vs0, d0, ds0, p0, q0, hargs, rfl, rfl, h0, r0⟩ := trodAll_cons hA
  obtain ⟨v1, vs1, d1, ds1, p1, q1, rfl, rfl, rfl, h1, r1⟩ := trodAll_cons r0
  obtain ⟨v2, vs2, d2, ds2, p2, q2, rfl, rfl, rfl, h2, r2⟩ := trodAll_cons r1
  obtain ⟨rfl, rfl, rfl⟩ := trodAll_nil r2
  obtain rfl : args = #[v0, v1, v2] := by cases args; simp_all
  obtain ⟨rfl, rfl⟩ := trodVars_none hV
  obtain ⟨a0, len0, cap0, rfl⟩ := okWide_slice Yba.underlying49 (hval 0 49 v0 rfl rfl)
  have k0 := h0
  have lt0 : ∀ x ∈ p0, x.block < W.heap.size := by obtain ⟨m, hm⟩ := k0; exact DataW.trod_lt m _ _ _ hm
  obtain ⟨m0, fn, co, ha, va, w0⟩ : len0 ≤ 140737488355328 ∧ ∃ fn co ha va, IsFields W a0 len0 fn co ha va := by
    obtain ⟨fuel, hf⟩ := h0
    rcases Go.Deep.open_slice Yba.underlying49 hf with ⟨hcs, _⟩ | ⟨x, l, c, m, n, D, Pl, hcs, _, hl, hm, hmm, hd, hx⟩
    · simp [Value.cells] at hcs
      exact ⟨by rw [hcs.2.1]; exact Nat.zero_le _, fun _ => 0, fun _ => false, fun _ => false, fun _ => ⟨#[]⟩, .inl hcs.2.1⟩
    · simp [Value.cells] at hcs
      obtain ⟨rfl, rfl, rfl⟩ := hcs
      have hd0 := congrArg Prod.fst hd
      dsimp only at hd0
      have hz := sized_slice hsz (j := 0) (t := 49) (e := 63) rfl (by exact congrArg some hd0) Yba.underlying49
      have b63 : Yba.prog.bytesOf 63 = 24 := by kernel_rfl
      rw [b63] at hz
      simp only [List.length_map, List.length_range, reachBytes] at hz
      have ce : Yba.prog.cellsOf 63 = 4 := by kernel_rfl
      have c5 : Yba.prog.cellsOf 5 = 1 := by kernel_rfl
      have c4 : Yba.prog.cellsOf 4 = 1 := by kernel_rfl
      have c9 : Yba.prog.cellsOf 9 = 1 := by kernel_rfl
      have each : ∀ i, i < len0 → ∃ y : Int × Bool × Bool × ByteArray, W.cell? (x.add (i * 4)) = some (.int .u8 y.1) ∧ W.cell? (x.add (i * 4 + 1)) = some (.bool y.2.1) ∧ W.cell? (x.add (i * 4 + 2)) = some (.bool y.2.2.1) ∧ W.cell? (x.add (i * 4 + 3)) = some (.string y.2.2.2) ∧ (Lit.int .u8 y.1).wf = true := fun i hi => by
        have him : i < m := by rw [hmm]; split <;> omega
        obtain ⟨cs', h1', h2'⟩ := hx i him
        rw [ce] at h1'
        obtain ⟨_, hlen, hcell⟩ := World.cells?_some h1'
        obtain ⟨ys, k, _, _, _, hyl, hg⟩ := DataW.trod_struct Yba.underlying63 h2'
        match cs', hlen with
        | [v0, v1, v2, v3], _ =>
          have g0 := hg 0 _ rfl
          have g1 := hg 1 _ rfl
          have g2 := hg 2 _ rfl
          have g3 := hg 3 _ rfl
          match ys, hyl with
          | [s0, s1, s2, s3], _ =>
            simp [c5, c4, c9] at g0 g1 g2 g3
            have e0 := hcell 0 (by omega)
            have e1 := hcell 1 (by omega)
            have e2 := hcell 2 (by omega)
            have e3 := hcell 3 (by omega)
            rw [Go.Deep.add_add] at e0 e1 e2 e3
            obtain ⟨q0, r0, _, f0⟩ := DataW.trod_int Yba.underlying5 g0
            obtain ⟨q1, r1, _⟩ := DataW.trod_bool Yba.underlying4 g1
            obtain ⟨q2, r2, _⟩ := DataW.trod_bool Yba.underlying4 g2
            obtain ⟨q3, r3, _, _⟩ := DataW.trod_string Yba.underlying9 g3
            simp at r0 r1 r2 r3
            subst r0 r1 r2 r3
            exact ⟨(q0, q1, q2, q3), by simpa using e0, by simpa using e1, by simpa using e2, by simpa using e3, f0⟩
      obtain ⟨y, hy⟩ := Go.Deep.choose_lt each
      exact ⟨by omega, fun i => (y i).1, fun i => (y i).2.1, fun i => (y i).2.2.1, fun i => (y i).2.2.2, .inr ⟨x, rfl, hy⟩⟩
  obtain ⟨a1, len1, cap1, rfl⟩ := okWide_slice Yba.underlying50 (hval 1 50 v1 rfl rfl)
  have k1 := h1
  have lt1 : ∀ x ∈ p1, x.block < W.heap.size := by obtain ⟨m, hm⟩ := k1; exact DataW.trod_lt m _ _ _ hm
  obtain ⟨m1, en, ev, w1⟩ : len1 ≤ 140737488355328 ∧ ∃ en ev, IsMems W a1 len1 en ev := by
    obtain ⟨fuel, hf⟩ := h1
    rcases Go.Deep.open_slice_pairs Yba.underlying50 Yba.underlying72 (by kernel_rfl) rfl rfl (by kernel_rfl) (by kernel_rfl) hf with ⟨hcs, _⟩ | ⟨x, l, c, m, n, V0, V1, D0, D1, P0, P1, hcs, _, hl, hm, hmm, hd, hx⟩
    · simp [Value.cells] at hcs
      exact ⟨by rw [hcs.2.1]; exact Nat.zero_le _, fun _ => 0, fun _ => ⟨#[]⟩, .inl hcs.2.1⟩
    · simp [Value.cells] at hcs
      obtain ⟨rfl, rfl, rfl⟩ := hcs
      have hd1 := congrArg Prod.fst hd
      dsimp only at hd1
      have hz := sized_slice hsz (j := 1) (t := 50) (e := 72) rfl (by exact congrArg some hd1) Yba.underlying50
      have b72 : Yba.prog.bytesOf 72 = 24 := by kernel_rfl
      rw [b72] at hz
      simp only [List.length_map, List.length_range, reachBytes] at hz
      have each : ∀ i, i < len1 → ∃ y : Int × ByteArray, W.cell? (x.add (i * 2)) = some (.int .u8 y.1) ∧ W.cell? (x.add (i * 2 + 1)) = some (.string y.2) ∧ (Lit.int .u8 y.1).wf = true := fun i hi => by
        have him : i < m := by rw [hmm]; split <;> omega
        obtain ⟨g0, g1, t0, t1⟩ := hx i him
        obtain ⟨q0, e0, _, f0⟩ := DataW.trod_int Yba.underlying5 t0
        obtain ⟨q1, e1, _, _⟩ := DataW.trod_string Yba.underlying9 t1
        simp at e0 e1
        rw [e0] at g0
        rw [e1] at g1
        exact ⟨(q0, q1), g0, g1, f0⟩
      obtain ⟨y, hy⟩ := Go.Deep.choose_lt each
      exact ⟨by omega, fun i => (y i).1, fun i => (y i).2, .inr ⟨x, rfl, hy⟩⟩
  obtain ⟨a2, rfl, rfl, rfl, w2⟩ := open_int Yba.underlying5 (hval 2 5 v2 rfl rfl) h2
  clear hA0 hval0 hsz hsz0
  refine (walk a0 len0 cap0 fn co ha va a1 len1 cap1 en ev a2 W w0 w1 m0 m1).mono fun e W' ⟨he, bel⟩ => ?_
  subst he
  exact ⟨_, rfl, _, _, _, [], _, [], hW', trodAll_mk1 (shut_bool Yba.underlying4 _), (trodAll_cons_mk (Below.trod laidOut (by kernel_rfl) (of_decide_eq_true (by kernel_rfl)) k0 bel lt0) (trodAll_cons_mk (Below.trod laidOut (by kernel_rfl) (of_decide_eq_true (by kernel_rfl)) k1 bel lt1) (trodAll_cons_mk (shut_int Yba.underlying5 w2) trodAll_mk0))), rfl, bel.frame _, fun h => by cases h⟩

theorem over : Rows.lawS6798BWholeRow.holds Yba.pinned (OpenSpec.ofChange Rows.lawS6798BWholeSpec) :=
  OpenClaim.holds_of_wide 4 Yba.f4 rfl rfl rfl rfl rfl rfl rfl ⟨rfl, rfl, rfl, rfl, rfl⟩ rfl rfl rfl rfl rfl (by kernel_rfl) Yba.func4 (by kernel_rfl)
    (of_decide_eq_true (by kernel_rfl)) (by unfold Func.isWrapper; first | (rw [if_pos (by decide +kernel)]; kernel_rfl) | (rw [if_neg (by decide +kernel)]; exact ⟨rfl, rfl⟩))
    (fun os started H enc _ => lifted os started H enc)

/-- ████ THE STATEMENT ████ -/
theorem proved : Rows.LawS6798BWholeSaid := over
end Go.Proofs.Ybulkejtm.lawS6798BWhole
