import Derived.Test.YbulkejtmExok
import Derived.OrdersHeld
namespace Go.Proofs.Ybulkejtm
open Go.ChangeShapes Go.WideShapes Go.ChangeAt Go.RowKit

/-! ### Orders of a region whose last store z writes what the region reads: what is read is asked to stay while z has not come up -/
section
variable {P : Program} {ops : Array Oper} {Q : Exit → Act → World → Prop} {md : Region.Mode} {S : World → Prop} {z : Nat}

/-- In every world that meets S the operation yields v and leaves the world as it is (a call too). -/
def YQ (P : Program) (ops : Array Oper) (S : World → Prop) (o : Oper) (v : Value) (a : Act) : Prop :=
  Region.wanted o (yielded ops a.tmps) = true ∧ ∀ w, S w → o.quietAt P a (fun w' => w' = w) w v

theorem YQ.same {o : Oper} {v : Value} {a a' : Act} (hy : YQ P ops S o v a) (he : execOp a'.eval o = execOp a.eval o)
    (hw : Region.wanted o (yielded ops a'.tmps) = Region.wanted o (yielded ops a.tmps)) : YQ P ops S o v a' := by
  refine ⟨hw.trans hy.1, fun w hs => ?_⟩
  have h := hy.2 w hs
  unfold Oper.quietAt at *
  rw [he]
  exact h

theorem YQ.run {o : Oper} {v : Value} {a : Act} {K : Act → World → Prop} {w : World} (hy : YQ P ops S o v a) (hS : S w) (h : K (a.put o.dst v) w) : o.wp P a w K Q :=
  Oper.wp_of_quiet (C := fun w' => w' = w) (K := fun a' => a' = a.put o.dst v) rfl (fun _ _ e1 e2 => by subst e1 e2; exact h) ⟨v, fun w0 e0 => by subst e0; exact hy.2 w0 hS, rfl⟩

theorem YQ.op {i : Nat} {o : Oper} {v : Value} {a : Act} (hi : ops[i]? = some o) (hy : YQ P ops S o v a) {K : Act → World → Prop} {w : World} (hS : S w) (h : K (a.put o.dst v) w) : wpOp P ops Q i K a w := by
  unfold wpOp
  simp only [hi, hy.1, if_true]
  exact .inl (hy.run hS h)

/-- An operation apart from oi: whether oi's value lies there already makes no difference to it. -/
theorem put_far {j : Nat} {oi oj : Oper} {v : Value} (hj : ops[j]? = some oj) (hap : oi.apart ops oj = true) (hsi : ∀ cs b, oi.op ≠ .select cs b) (hsj : ∀ cs b, oj.op ≠ .select cs b)
    (hQ : ∀ c a w, Q (.panic c) (a.put oi.dst v) w → Q (.panic c) a w) {K : Act → World → Prop} {a : Act} {w : World} (hy : YQ P ops S oi v a) (h : wpOp P ops Q j K (a.put oi.dst v) w) :
    wpOp P ops Q j (fun a' w' => YQ P ops S oi v a' ∧ K (a'.put oi.dst v) w') a w := by
  obtain ⟨p1, p2, p3⟩ := Oper.apart_spec hap
  have st : ∀ (b : Act) (u : Value), YQ P ops S oi v b → YQ P ops S oi v (b.put oj.dst u) := fun b u hb => hb.same (execOp_put oi hsi b oj.dst u p3) (wanted_put oi b oj.dst u p3)
  unfold wpOp at h ⊢
  simp only [hj] at h ⊢
  rw [wanted_put oj a oi.dst v p1] at h
  by_cases hw : Region.wanted oj (yielded ops a.tmps) = true
  · rw [if_pos hw] at h ⊢
    rcases h with h | ⟨ha, hl⟩
    · left
      unfold Oper.wp at h ⊢
      rw [execOp_put oj hsj a oi.dst v p1] at h
      revert h
      cases hr : (execOp a.eval oj).run P w with
      | ok n w' =>
        intro h
        cases n with
        | value u => exact ⟨st a u hy, by rw [← Act.put_comm a v u p2]; exact h⟩
        | skip => exact ⟨st a undef hy, by rw [← Act.put_comm a v undef p2]; exact h⟩
        | defer d =>
          refine ⟨st _ undef (hy.same rfl rfl), ?_⟩
          show K _ _
          rw [← Act.put_comm _ v undef p2, ← Act.put_defers]
          exact h
        | enter f args =>
          refine Calls.mono h fun e w'' he => ?_
          cases e with
          | returned u => exact ⟨st a u hy, by rw [← Act.put_comm a v u p2]; exact he⟩
          | panicked c => exact hQ _ _ _ he
          | outgrown => exact he
        | row row args => exact Rows.mono h fun u w'' he => ⟨st a u hy, by rw [← Act.put_comm a v u p2]; exact he⟩
        | _ => exact h
      | halt x w' =>
        intro h
        cases x with
        | panic u => exact hQ _ _ _ h
        | _ => exact h
    · right
      refine ⟨?_, hl⟩
      unfold Oper.asks at ha ⊢
      rw [execOp_put oj hsj a oi.dst v p1] at ha
      exact ha
  · rw [if_neg hw] at h ⊢
    exact ⟨st a undef hy, by rw [← Act.put_comm a v undef p2]; exact h⟩

def wpAnyZ (P : Program) (md : Region.Mode) (ops : Array Oper) (Q : Exit → Act → World → Prop) (S : World → Prop) (z : Nat) : Nat → Array Bool → Act → World → Prop
  | 0, listed, a, w => Region.ready md ops listed = [] ∧ Q .normal a w
  | fuel + 1, listed, a, w =>
    (Region.ready md ops listed = [] → Q .normal a w) ∧
    ∀ i ∈ Region.ready md ops listed, wpOp P ops Q i (fun a' w' => ((listed.setIfInBounds i true).getD z true = false → S w') ∧ wpAnyZ P md ops Q S z fuel (listed.setIfInBounds i true) a' w') a w

theorem wpAny_of_z : ∀ (fuel : Nat) (listed : Array Bool) (a : Act) (w : World), wpAnyZ P md ops Q S z fuel listed a w → wpAny P md ops Q fuel listed a w
  | 0, _, _, _, h => h
  | fuel + 1, _, _, _, h => ⟨h.1, fun i hi => wpOp_mono (fun a' w' h' => wpAny_of_z fuel _ a' w' h'.2) (h.2 i hi)⟩

theorem wpAnyZ_first {i : Nat} {oi oz : Oper} {v : Value} (hi : ops[i]? = some oi) (hsel : ∀ (j : Nat) (o : Oper) cs b, ops[j]? = some o → o.op ≠ .select cs b)
    (hQ : ∀ c a w, Q (.panic c) (a.put oi.dst v) w → Q (.panic c) a w) (hz : ops[z]? = some oz) (hzw : ∃ e ∈ oz.after, Region.binds md e = true ∧ e.on = i) (hzi : z ≠ i) :
    ∀ (fuel : Nat) (listed : Array Bool) (a : Act) (w : World),
      (∀ j oj, ops[j]? = some oj → j ≠ i → listed.getD j true = false → (∀ e ∈ oj.after, Region.binds md e = true → e.on ≠ i) → oi.apart ops oj = true) →
      i ∈ Region.ready md ops listed → YQ P ops S oi v a → S w → listed.getD z true = false →
      wpAnyZ P md ops Q S z fuel (listed.setIfInBounds i true) (a.put oi.dst v) w → wpAnyZ P md ops Q S z (fuel + 1) listed a w := by
  intro fuel
  induction fuel with
  | zero =>
    intro listed a w _ hr hy hS hzl H
    refine ⟨fun h => (by rw [h] at hr; cases hr), fun j hj => ?_⟩
    by_cases hji : j = i
    · subst hji; exact hy.op hi hS ⟨fun _ => hS, H⟩
    · have q := ready_mono hj hji
      rw [H.1] at q
      cases q
  | succ fuel ih =>
    intro listed a w hfree hr hy hS hzl H
    refine ⟨fun h => (by rw [h] at hr; cases hr), fun j hj => ?_⟩
    by_cases hji : j = i
    · subst hji; exact hy.op hi hS ⟨fun _ => hS, H⟩
    · have h1 := H.2 j (ready_mono hj hji)
      obtain ⟨hjun, oj, hoj, hall⟩ := mem_ready.1 hj
      have hnot : ∀ e ∈ oj.after, Region.binds md e = true → e.on ≠ i := fun e he hb heq => by
        have q1 := hall e he hb
        have q0 := (mem_ready.1 hr).1
        rw [heq] at q1
        rcases Nat.lt_or_ge i listed.size with h' | h'
        · simp [h'] at q0 q1; rw [q0] at q1; cases q1
        · simp [Array.getElem?_eq_none h'] at q1
      have hjz : j ≠ z := fun e => by
        subst e
        rw [hz] at hoj
        cases hoj
        obtain ⟨e, he, hb, hei⟩ := hzw
        exact hnot e he hb hei
      have h2 := put_far hoj (hfree j oj hoj hji hjun hnot) (fun cs b => hsel i oi cs b hi) (fun cs b => hsel j oj cs b hoj) hQ hy h1
      have hfree' : ∀ k ok, ops[k]? = some ok → k ≠ i → (listed.setIfInBounds j true).getD k true = false →
          (∀ e ∈ ok.after, Region.binds md e = true → e.on ≠ i) → oi.apart ops ok = true := fun k ok hk hki hun hno => by
        refine hfree k ok hk hki ?_ hno
        by_cases hjk : j = k
        · subst hjk; exact hjun
        · rw [getD_set_ne true hjk] at hun; exact hun
      have hzj : (listed.setIfInBounds j true).getD z true = false := by rw [getD_set_ne true hjz]; exact hzl
      have hzij : ((listed.setIfInBounds i true).setIfInBounds j true).getD z true = false := by rw [getD_set_ne true hjz, getD_set_ne true (Ne.symm hzi)]; exact hzl
      refine wpOp_mono (fun a' w' h3 => ⟨fun _ => h3.2.1 hzij, ih (listed.setIfInBounds j true) a' w' hfree' (ready_mono hr (Ne.symm hji)) h3.1 (h3.2.1 hzij) hzj ?_⟩) h2
      rw [Array.setIfInBounds_comm _ _ hji]
      exact h3.2.2

/-- Does z wait for i, and has it not come up? -/
def zWaits (md : Region.Mode) (ops : Array Oper) (listed : Array Bool) (z i : Nat) : Bool :=
  (match ops[z]? with | some oz => oz.after.any fun e => Region.binds md e && e.on == i | .none => false) && z != i && !listed.getD z true

theorem wpAnyZ_take (i : Nat) {oi : Oper} {v : Value} {fuel : Nat} {listed : Array Bool} {a : Act} {w : World} (hi : ops[i]? = some oi) (hs : Region.noSelect ops = true) (hf : Region.free md ops listed i = true) (hr : (Region.ready md ops listed).contains i = true) (hzw : zWaits md ops listed z i = true)
    (hQ : ∀ c a w, Q (.panic c) (a.put oi.dst v) w → Q (.panic c) a w) (hS : S w) (hy : YQ P ops S oi v a)
    (h : wpAnyZ P md ops Q S z fuel (listed.setIfInBounds i true) (a.put oi.dst v) w) : wpAnyZ P md ops Q S z (fuel + 1) listed a w := by
  unfold zWaits at hzw
  cases hz : ops[z]? with
  | none => simp [hz] at hzw
  | some oz =>
    simp [hz] at hzw
    obtain ⟨⟨hx, hne⟩, hl⟩ := hzw
    refine wpAnyZ_first hi (Region.noSelect_spec hs) hQ hz ?_ hne fuel listed a w (Region.free_spec hi hf) (by simpa using hr) hy hS (by simpa using hl) h
    obtain ⟨k, hk, hb, he⟩ := hx
    exact ⟨oz.after[k], Array.getElem_mem hk, hb, he⟩

/-- One operation alone may come up: it is carried out. -/
theorem wpAnyZ_one (i : Nat) {o : Oper} {fuel : Nat} {listed : Array Bool} {a : Act} {w : World} (hi : ops[i]? = some o) (hr : Region.ready md ops listed = [i]) (hw : Region.wanted o (yielded ops a.tmps) = true)
    (h : ∀ K : Act → World → Prop, (∀ a' w', ((listed.setIfInBounds i true).getD z true = false → S w') → wpAnyZ P md ops Q S z fuel (listed.setIfInBounds i true) a' w' → K a' w') → o.wp P a w K Q) : wpAnyZ P md ops Q S z (fuel + 1) listed a w := by
  refine ⟨fun e => (by rw [hr] at e; cases e), fun j hj => ?_⟩
  rw [hr] at hj
  obtain rfl : j = i := by simpa using hj
  unfold wpOp
  simp only [hi, hw, if_true]
  exact .inl (h _ fun _ _ h1 h2 => ⟨h1, h2⟩)
theorem wpAnyZ_two (i j : Nat) {oi oj : Oper} {fuel : Nat} {listed : Array Bool} {a : Act} {w : World} (hi : ops[i]? = some oi) (hj : ops[j]? = some oj) (hr : Region.ready md ops listed = [i, j]) (hwi : Region.wanted oi (yielded ops a.tmps) = true) (hwj : Region.wanted oj (yielded ops a.tmps) = true)
    (h1 : ∀ K : Act → World → Prop, (∀ a' w', ((listed.setIfInBounds i true).getD z true = false → S w') → wpAnyZ P md ops Q S z fuel (listed.setIfInBounds i true) a' w' → K a' w') → oi.wp P a w K Q)
    (h2 : ∀ K : Act → World → Prop, (∀ a' w', ((listed.setIfInBounds j true).getD z true = false → S w') → wpAnyZ P md ops Q S z fuel (listed.setIfInBounds j true) a' w' → K a' w') → oj.wp P a w K Q) : wpAnyZ P md ops Q S z (fuel + 1) listed a w := by
  refine ⟨fun e => (by rw [hr] at e; cases e), fun k hk => ?_⟩
  rw [hr] at hk
  simp at hk
  rcases hk with rfl | rfl
  · unfold wpOp
    simp only [hi, hwi, if_true]
    exact .inl (h1 _ fun _ _ q1 q2 => ⟨q1, q2⟩)
  · unfold wpOp
    simp only [hj, hwj, if_true]
    exact .inl (h2 _ fun _ _ q1 q2 => ⟨q1, q2⟩)
theorem wpAnyZ_done {listed : Array Bool} {a : Act} {w : World} (hr : Region.ready md ops listed = []) (h : Q .normal a w) : ∀ fuel, wpAnyZ P md ops Q S z fuel listed a w
  | 0 => ⟨hr, h⟩
  | _ + 1 => ⟨fun _ => h, by rw [hr]; simp⟩

/-- What yields in whatever world may be taken first, whether or not z waits for it. -/
theorem wpAnyZ_firstW {i : Nat} {oi : Oper} {v : Value} (hi : ops[i]? = some oi) (hsel : ∀ (j : Nat) (o : Oper) cs b, ops[j]? = some o → o.op ≠ .select cs b)
    (hQ : ∀ c a w, Q (.panic c) (a.put oi.dst v) w → Q (.panic c) a w) (hzi : z ≠ i) :
    ∀ (fuel : Nat) (listed : Array Bool) (a : Act) (w : World),
      (∀ j oj, ops[j]? = some oj → j ≠ i → listed.getD j true = false → (∀ e ∈ oj.after, Region.binds md e = true → e.on ≠ i) → oi.apart ops oj = true) →
      i ∈ Region.ready md ops listed → YQ P ops (fun _ => True) oi v a → (listed.getD z true = false → S w) →
      wpAnyZ P md ops Q S z fuel (listed.setIfInBounds i true) (a.put oi.dst v) w → wpAnyZ P md ops Q S z (fuel + 1) listed a w := by
  intro fuel
  induction fuel with
  | zero =>
    intro listed a w _ hr hy hS H
    refine ⟨fun h => (by rw [h] at hr; cases hr), fun j hj => ?_⟩
    by_cases hji : j = i
    · subst hji; exact hy.op hi trivial ⟨fun q => hS (by rwa [getD_set_ne true (Ne.symm hzi)] at q), H⟩
    · have q := ready_mono hj hji
      rw [H.1] at q
      cases q
  | succ fuel ih =>
    intro listed a w hfree hr hy hS H
    refine ⟨fun h => (by rw [h] at hr; cases hr), fun j hj => ?_⟩
    by_cases hji : j = i
    · subst hji; exact hy.op hi trivial ⟨fun q => hS (by rwa [getD_set_ne true (Ne.symm hzi)] at q), H⟩
    · have h1 := H.2 j (ready_mono hj hji)
      obtain ⟨hjun, oj, hoj, hall⟩ := mem_ready.1 hj
      have hnot : ∀ e ∈ oj.after, Region.binds md e = true → e.on ≠ i := fun e he hb heq => by
        have q1 := hall e he hb
        have q0 := (mem_ready.1 hr).1
        rw [heq] at q1
        rcases Nat.lt_or_ge i listed.size with h' | h'
        · simp [h'] at q0 q1; rw [q0] at q1; cases q1
        · simp [Array.getElem?_eq_none h'] at q1
      have h2 := put_far hoj (hfree j oj hoj hji hjun hnot) (fun cs b => hsel i oi cs b hi) (fun cs b => hsel j oj cs b hoj) hQ hy h1
      have hfree' : ∀ k ok, ops[k]? = some ok → k ≠ i → (listed.setIfInBounds j true).getD k true = false →
          (∀ e ∈ ok.after, Region.binds md e = true → e.on ≠ i) → oi.apart ops ok = true := fun k ok hk hki hun hno => by
        refine hfree k ok hk hki ?_ hno
        by_cases hjk : j = k
        · subst hjk; exact hjun
        · rw [getD_set_ne true hjk] at hun; exact hun
      have hsame : ((listed.setIfInBounds i true).setIfInBounds j true).getD z true = (listed.setIfInBounds j true).getD z true := by
        rw [Array.setIfInBounds_comm _ _ (Ne.symm hji), getD_set_ne true (Ne.symm hzi)]
      refine wpOp_mono (fun a' w' h3 => ⟨fun q => h3.2.1 (hsame.trans q), ih (listed.setIfInBounds j true) a' w' hfree' (ready_mono hr (Ne.symm hji)) h3.1 (fun q => h3.2.1 (hsame.trans q)) ?_⟩) h2
      rw [Array.setIfInBounds_comm _ _ hji]
      exact h3.2.2
theorem wpAnyZ_takeW (i : Nat) {oi : Oper} {v : Value} {fuel : Nat} {listed : Array Bool} {a : Act} {w : World} (hi : ops[i]? = some oi) (hs : Region.noSelect ops = true) (hf : Region.free md ops listed i = true) (hr : (Region.ready md ops listed).contains i = true) (hzi : (z != i) = true)
    (hQ : ∀ c a w, Q (.panic c) (a.put oi.dst v) w → Q (.panic c) a w) (hS : S w) (hy : YQ P ops (fun _ => True) oi v a)
    (h : wpAnyZ P md ops Q S z fuel (listed.setIfInBounds i true) (a.put oi.dst v) w) : wpAnyZ P md ops Q S z (fuel + 1) listed a w :=
  wpAnyZ_firstW hi (Region.noSelect_spec hs) hQ (by simpa using hzi) fuel listed a w (Region.free_spec hi hf) (by simpa using hr) hy (fun _ => hS) h
/-- Two stores, the second of which is z, in either order. -/
theorem wpAnyZ_fork (i j : Nat) {oi oj : Oper} {fuel : Nat} {listed : Array Bool} {a : Act} {w : World} (hi : ops[i]? = some oi) (hj : ops[j]? = some oj) (hr : Region.ready md ops listed = [i, j]) (hwi : Region.wanted oi (yielded ops a.tmps) = true) (hwj : Region.wanted oj (yielded ops a.tmps) = true) (hz : (listed.setIfInBounds j true).getD z true = true)
    (h1 : ∀ K : Act → World → Prop, (∀ a' w', S w' → wpAnyZ P md ops Q S z fuel (listed.setIfInBounds i true) a' w' → K a' w') → oi.wp P a w K Q)
    (h2 : ∀ K : Act → World → Prop, (∀ a' w', wpAnyZ P md ops Q S z fuel (listed.setIfInBounds j true) a' w' → K a' w') → oj.wp P a w K Q) : wpAnyZ P md ops Q S z (fuel + 1) listed a w :=
  wpAnyZ_two i j hi hj hr hwi hwj (fun K hK => Oper.wp_mono (fun _ _ h => h) (h1 K fun a' w' hs h => hK a' w' (fun _ => hs) h)) (fun K hK => h2 K fun a' w' h => hK a' w' (fun q => by rw [hz] at q; cases q) h)

theorem wp_region_z (z : Nat) (S : World → Prop) {id : Nat} {a : Act} {w : World} (hm : P.follows .mixedOrders = true) (hS : S w.drew)
    (h : S w.drew → wpAnyZ P .any ops Q S z ops.size (Array.replicate ops.size false) a w.drew) : (Code.region id ops true).wp P Q a w :=
  wp_region_any hm (wpAny_of_z _ _ _ _ (h hS))
end
end Go.Proofs.Ybulkejtm
