import Derived.Test.YbulkejtmLook
import Derived.ArgAppend
namespace Go.Proofs.Ybulkejtm
open Go.ChangeShapes Go.WideShapes Go.ChangeAt Go.RowKit

/-! ### The plain model -/
structure Dat where
  F : Nat
  E : Nat
  nf : Nat → Int
  co : Nat → Bool
  ha : Nat → Bool
  va : Nat → ByteArray
  ne : Nat → Int
  ev : Nat → ByteArray
  fm : Int
def kn (d : Dat) (i : Nat) : Bool := kn1 (d.co i) d.fm
def viaX (d : Dat) (n : Int) : Option Nat → List (Int × ByteArray)
  | some j => [(n, d.ev j)]
  | .none => []
/-- What field i writes. -/
def st1 (d : Dat) (i : Nat) : List (Int × ByteArray) :=
  bif d.ha i then [(d.nf i, d.va i)] else bif kn d i then viaX d (d.nf i) (fst d.ne (d.nf i) d.E) else []
def o1 (d : Dat) : Nat → List (Int × ByteArray)
  | 0 => []
  | i + 1 => o1 d i ++ st1 d i
/-- The names written that the format does not know. -/
def uw (d : Dat) : Nat → List Int
  | 0 => []
  | i + 1 => uw d i ++ (bif d.ha i && !kn d i then [d.nf i] else [])
def rest2 (d : Dat) (j : Nat) : Bool := !Ks d.nf (kn d) (d.ne j) d.F && !decide (d.ne j ∈ uw d d.F)
def o2 (d : Dat) : Nat → List (Int × ByteArray)
  | 0 => []
  | j + 1 => o2 d j ++ (bif rest2 d j then [(d.ne j, d.ev j)] else [])
theorem o1_len (d : Dat) : ∀ i, (o1 d i).length ≤ i
  | 0 => Nat.le_refl _
  | i + 1 => by
    have := o1_len d i
    have h : (st1 d i).length ≤ 1 := by
      unfold st1
      cases d.ha i <;> cases kn d i <;> simp
      cases fst d.ne (d.nf i) d.E <;> simp [viaX]
    simp [o1]; omega
theorem uw_len (d : Dat) : ∀ i, (uw d i).length ≤ i
  | 0 => Nat.le_refl _
  | i + 1 => by
    have := uw_len d i
    simp [uw]
    cases (d.ha i && !kn d i) <;> simp <;> omega
theorem o2_len (d : Dat) : ∀ i, (o2 d i).length ≤ i
  | 0 => Nat.le_refl _
  | i + 1 => by
    have := o2_len d i
    simp [o2]
    cases rest2 d i <;> simp <;> omega
/-- The data's bounds. -/
structure Bnd (d : Dat) : Prop where
  len : d.F + d.E ≤ 4096
  nf : ∀ i, i < d.F → 0 ≤ d.nf i ∧ d.nf i < 7
  ne : ∀ j, j < d.E → 0 ≤ d.ne j ∧ d.ne j < 7
theorem uw_bnd {d : Dat} (h : Bnd d) : ∀ {i}, i ≤ d.F → ∀ u ∈ uw d i, 0 ≤ u ∧ u < 7
  | 0, _, u, hu => by simp [uw] at hu
  | i + 1, hi, u, hu => by
    simp only [uw, List.mem_append] at hu
    rcases hu with hu | hu
    · exact uw_bnd h (by omega) u hu
    · cases hc : (d.ha i && !kn d i) <;> simp [hc] at hu
      subst hu; exact h.nf i (by omega)

/-- The cells of a member, and of members. -/
def mc1 (p : Int × ByteArray) : List Value := [.string (nm p.1), .int .u8 3, .bool false, .string p.2, .slice .none 0 0, .slice .none 0 0, .slice .none 0 0]
def mcl : List (Int × ByteArray) → List Value
  | [] => []
  | p :: l => mc1 p ++ mcl l
theorem mcl_len : ∀ l, (mcl l).length = l.length * 7
  | [] => rfl
  | p :: l => by simp [mcl, mc1, mcl_len l]; omega
theorem mcl_append : ∀ l m, mcl (l ++ m) = mcl l ++ mcl m
  | [], _ => rfl
  | p :: l, m => by simp [mcl, mcl_append l m]
theorem mcl_one (l : List (Int × ByteArray)) (p : Int × ByteArray) : mcl (l ++ [p]) = mcl l ++ mc1 p := by simp [mcl_append, mcl]
theorem mc1_one (p : Int × ByteArray) : ∀ u ∈ mc1 p, u.oneCell' = true := by
  intro u hu; simp [mc1] at hu; rcases hu with rfl | rfl | rfl | rfl | rfl <;> rfl
theorem mcl_ones : ∀ l, ∀ u ∈ mcl l, u.oneCell' = true
  | [], u, hu => by simp [mcl] at hu
  | p :: l, u, hu => by
    simp only [mcl, List.mem_append] at hu
    exact hu.elim (mc1_one p u) (mcl_ones l u)
theorem mcl_at : ∀ {l : List (Int × ByteArray)} {i : Nat} {p : Int × ByteArray}, l[i]? = some p → ∀ k, k < 7 → (mcl l)[i * 7 + k]? = (mc1 p)[k]?
  | [], i, p, h, _, _ => by simp at h
  | q :: l, 0, p, h, k, hk => by
    simp at h; subst h
    simp only [mcl, Nat.zero_mul, Nat.zero_add]
    rw [List.getElem?_append_left (by simp [mc1]; omega)]
  | q :: l, i + 1, p, h, k, hk => by
    simp at h
    have := mcl_at h k hk
    rw [mcl, List.getElem?_append_right (by simp [mc1]; omega)]
    rw [show (i + 1) * 7 + k - (mc1 q).length = i * 7 + k by simp [mc1]; omega]
    exact this

/-! ### A row of members whose block may be the array that came first -/
def Acc (w : World) (G : Nat) (v : Value) (m : Nat) (ks : List Value) : Prop :=
  ks.length = m * 7 ∧ ∃ g cap tag cur, v = .slice (some ⟨g, 0, .none⟩) m cap ∧ G ≤ g ∧ (tag = 81 ∨ tag = 74) ∧ w.heap[g]? = some (.cells cur tag (0, 0)) ∧ m ≤ cap ∧ cap ≤ maxLen ∧ cur.size = cap * 7 ∧ cur.toList.take (m * 7) = ks
theorem Acc.shape {w : World} {G : Nat} {v : Value} {m : Nat} {ks : List Value} (h : Acc w G v m ks) : ∃ g cap, v = .slice (some ⟨g, 0, .none⟩) m cap ∧ G ≤ g ∧ g < w.heap.size := by
  obtain ⟨_, g, cap, tag, cur, rfl, h1, _, h2, _⟩ := h
  exact ⟨g, cap, rfl, h1, (Array.getElem?_eq_some_iff.1 h2).1⟩
theorem Acc.of {w w' : World} {G : Nat} {v : Value} {m : Nat} {ks : List Value} (h : Acc w G v m ks) (hb : ∀ g, v.ownBlock = some g → w'.heap[g]? = w.heap[g]?) : Acc w' G v m ks := by
  obtain ⟨hl, g, cap, tag, cur, rfl, h1, ht, h2, r⟩ := h
  exact ⟨hl, g, cap, tag, cur, rfl, h1, ht, (hb g rfl).trans h2, r⟩
theorem Acc.grow {w w' : World} {G : Nat} {v : Value} {m : Nat} {ks : List Value} (h : Acc w G v m ks) (hg : Grow w w') : Acc w' G v m ks :=
  h.of (fun g e => by
    obtain ⟨g', cap, rfl, _, hl⟩ := h.shape
    simp [Value.ownBlock] at e; subst e
    exact hg.block hl)
theorem Acc.cells {w : World} {G g cap : Nat} {m : Nat} {ks : List Value} (h : Acc w G (.slice (some ⟨g, 0, .none⟩) m cap) m ks) : ∀ j u, ks[j]? = some u → w.cell? ⟨g, j, .none⟩ = some u := by
  obtain ⟨hl, g', cap', tag, cur, he, h1, ht, h2, h3, h4, h5, h6⟩ := h
  simp at he
  obtain ⟨rfl, rfl⟩ := he
  intro j u hu
  have hj : j < m * 7 := by
    have := (List.getElem?_eq_some_iff.1 hu).1; omega
  rw [cell_of_row w g j cur tag (0, 0) h2, ← Array.getElem?_toList]
  rw [← h6, List.getElem?_take, if_pos hj] at hu
  exact hu
/-- Such a row and a row of strings are never the same block. -/
theorem Acc.ne {w : World} {G B : Nat} {v u : Value} {m n : Nat} {ks xs : List Value} (h : Acc w G v m ks) (k : w.ownsRow B 9 1 u n xs) : ∀ g, v.ownBlock = some g → u.ownBlock ≠ some g := by
  intro g hg hu
  obtain ⟨hl, g', cap', tag, cur, rfl, h1, ht, h2, _⟩ := h
  simp [Value.ownBlock] at hg; subst hg
  rcases k.2 with ⟨rfl, _⟩ | ⟨g2, cap2, cur2, rfl, _, q, _⟩
  · simp [Value.ownBlock] at hu
  · simp [Value.ownBlock] at hu; subst hu
    rw [h2] at q; simp at q
    rcases ht with rfl | rfl <;> simp at q

/-- The arm of append that has room, whatever the block's tag. -/
theorem append_room_tag {P : Program} (w : World) (t ty e tag : TypeId) (i : TypeInfo) (ht : P.underlying t = some (.slice e)) (hi : P.info? e = some i)
    (g sLen sCap : Nat) (cur : Array Value) (hg : w.heap[g]? = some (.cells cur tag (0, 0)))
    (a : Addr) (m c : Nat) (news : List Value) (hl : news.length = m * i.size) (hnews : ∀ j u, news[j]? = some u → w.cell? (a.add j) = some u) (h1 : ∀ u ∈ news, u.oneCell' = true)
    (hroom : sLen + m ≤ sCap) (hfit : sLen * i.size + news.length ≤ cur.size) :
    (Builtin.append_ #[t, t] ty #[.slice (some ⟨g, 0, .none⟩) sLen sCap, .slice (some a) m c]).run P w =
      .ok (.slice (some ⟨g, 0, .none⟩) (sLen + m) sCap) (w.setRow g (cur.toList.take (sLen * i.size) ++ news ++ cur.toList.drop (sLen * i.size + news.length)).toArray) := by
  have hf := run_firstCells_some (P := P) w i.size m a m c news hl hnews
  have hst := run_storeCells_at P g (sLen * i.size) tag news 0 cur w hg (by simpa using hfit) h1
  simp only [Nat.add_zero] at hst
  simp [Builtin.append_, run_underlying ht, sizeOf, typeInfo, hi, Builtin.lenOf, hroom, hf, Addr.add_lit, hst]

theorem run_append_acc {w : World} {G : Nat} {v : Value} {m : Nat} {ks : List Value} (ty : TypeId) (h : Acc w G v m ks) (hG : G ≤ w.heap.size) (ad : Addr) (c : Nat) (news : List Value) (hl : news.length = 7) (hnews : ∀ j u, news[j]? = some u → w.cell? (ad.add j) = some u) (h1 : ∀ u ∈ news, u.oneCell' = true) (hm : m ≤ 4096) :
    ∃ v' w', (Builtin.append_ #[32, 32] ty #[v, .slice (some ad) 1 c]).run Yba.prog w = .ok v' w' ∧ Acc w' G v' (m + 1) (ks ++ news) ∧ w.grownBy w' v.ownBlock := by
  obtain ⟨i0, hi, hz0, hz1, hz2⟩ := info_parts Yba.info74
  obtain ⟨hkl, g, cap, tag, cur, rfl, hGg, htag, hg, hmc, hcm, hcs, htake⟩ := h
  have hlen : (ks ++ news).length = (m + 1) * 7 := by rw [List.length_append, hkl, hl]; omega
  by_cases hr : m + 1 ≤ cap
  · have hrun := append_room_tag (P := Yba.prog) w 32 ty 74 tag i0 Yba.underlying32 hi g m cap cur hg ad 1 c news (by rw [hz1]; omega) hnews h1 hr (by rw [hz1]; omega)
    rw [hz1] at hrun
    refine ⟨_, _, hrun, ⟨hlen, g, cap, tag, _, rfl, hGg, htag, setRow_heap w g cur _ tag _ hg, hr, hcm, ?_, ?_⟩, ⟨rfl, rfl, rfl, by simp, fun k _ hk => setRow_other w g k _ (fun e => hk (by simp [e, Value.ownBlock]))⟩⟩
    · simp only [List.size_toArray, List.length_append, List.length_take, List.length_drop, Array.length_toList]
      omega
    · rw [htake, ← hlen]
      exact List.take_left
  · obtain ⟨v', w', hrun, r1, r2⟩ := run_append_arg_grows (P := Yba.prog) w 32 ty 74 i0 _ 7 112 Yba.underlying32 hi hz0 hz1 hz2 rfl (by decide) ⟨g, 0, .none⟩ m cap ks hkl (fun j u hu => by
        have e : (⟨g, 0, .none⟩ : Addr).add j = ⟨g, j, .none⟩ := by rw [Addr.add_lit, Nat.zero_add]
        rw [e]
        exact Acc.cells (G := G) ⟨hkl, g, cap, tag, cur, rfl, hGg, htag, hg, hmc, hcm, hcs, htake⟩ j u hu) ad 1 c news (by omega) hnews (by omega) (by unfold maxLen; omega) (by omega)
    refine ⟨v', w', hrun, ?_, ⟨r2.os, r2.tape, r2.output, r2.size, fun k hk _ => r2.block k hk (by simp)⟩⟩
    rcases r1.2 with ⟨_, h0⟩ | ⟨g', cap', cur', rfl, q1, q2, q3, q4, q5, q6⟩
    · omega
    · exact ⟨hlen, g', cap', 74, cur', rfl, by omega, .inr rfl, q2, q3, q4, q5, q6⟩

theorem wpList_append_acc {w : World} {ops : Array Oper} {rest : List Oper} {o : Oper} {a : Act} {Q : Exit → Act → World → Prop} (hgd : o.guard = none) (s x : Operand)
    (ho : o.op = .call { callee := .builtin .append, args := #[s, x], argTypes := #[32, 32] }) {G : Nat} {v : Value} {m : Nat} {ks : List Value} (hs : a.eval s = v) (h : Acc w G v m ks) (hG : G ≤ w.heap.size)
    (ad : Addr) (c : Nat) (news : List Value) (hx : a.eval x = .slice (some ad) 1 c) (hl : news.length = 7) (hnews : ∀ j u, news[j]? = some u → w.cell? (ad.add j) = some u) (h1 : ∀ u ∈ news, u.oneCell' = true) (hm : m ≤ 4096)
    (hK : ∀ v' w', Acc w' G v' (m + 1) (ks ++ news) → w.grownBy w' v.ownBlock → wpList Yba.prog ops Q rest (a.put o.dst v') w') : wpList Yba.prog ops Q (o :: rest) a w := by
  refine wpList_plain hgd fun K hK' => ?_
  obtain ⟨v', w', hrun, r1, r2⟩ := run_append_acc o.type h hG ad c news hl hnews h1 hm
  unfold Oper.wp
  simp [execOp, ho, resolve, invoke, builtin, hs, hx, hrun, Result.andThen]
  exact hK' _ _ (hK v' w' r1 r2)

/-- 'append(S{}, xs...)': a copy in a row of its own. -/
theorem run_clone {w : World} (ty : TypeId) (g cap m : Nat) (e0 : Nat) (ks : List Value) (hl : ks.length = m * 7) (hnews : ∀ j u, ks[j]? = some u → w.cell? ⟨g, j, .none⟩ = some u) (h1 : ∀ u ∈ ks, u.oneCell' = true) (hm : m ≤ 4096)
    (B : Nat) (hB : B ≤ e0) (hB2 : B ≤ w.heap.size) (he : w.heap[e0]? = some (.cells #[] 74 (0, 0))) :
    ∃ v' w', (Builtin.append_ #[32, 32] ty #[.slice (some ⟨e0, 0, .none⟩) 0 0, .slice (some ⟨g, 0, .none⟩) m cap]).run Yba.prog w = .ok v' w' ∧ w'.ownsRow B 74 7 v' m ks ∧ w.grownBy w' (some e0) := by
  obtain ⟨i0, hi, hz0, hz1, hz2⟩ := info_parts Yba.info74
  have hown : w.ownsRow B 74 7 (.slice (some ⟨e0, 0, .none⟩) 0 0) 0 [] := ⟨rfl, .inr ⟨e0, 0, #[], rfl, hB, he, Nat.le_refl _, Nat.zero_le _, rfl, rfl⟩⟩
  obtain ⟨v', w', hr, h2, h3, h4⟩ := run_append_own (P := Yba.prog) w B 32 ty 74 i0 _ 7 112 Yba.underlying32 hi hz0 hz1 hz2 rfl (by decide) _ 0 [] hown ⟨g, 0, .none⟩ m cap ks hl (fun j u hu => by rw [Addr.add_lit, Nat.zero_add]; exact hnews j u hu) h1 (by unfold maxLen; omega) (by omega) hB2
  simp only [Nat.zero_add, List.nil_append] at h2
  exact ⟨v', w', hr, h2, h3⟩
theorem wpList_cloneM {w : World} {ops : Array Oper} {rest : List Oper} {o : Oper} {a : Act} {Q : Exit → Act → World → Prop} (hgd : o.guard = none) (s x : Operand)
    (ho : o.op = .call { callee := .builtin .append, args := #[s, x], argTypes := #[32, 32] }) (g cap m e0 : Nat) (ks : List Value) (hs : a.eval s = .slice (some ⟨e0, 0, .none⟩) 0 0) (hx : a.eval x = .slice (some ⟨g, 0, .none⟩) m cap)
    (hl : ks.length = m * 7) (hnews : ∀ j u, ks[j]? = some u → w.cell? ⟨g, j, .none⟩ = some u) (h1 : ∀ u ∈ ks, u.oneCell' = true) (hm : m ≤ 4096)
    (B : Nat) (hB : B ≤ e0) (hB2 : B ≤ w.heap.size) (he : w.heap[e0]? = some (.cells #[] 74 (0, 0)))
    (hK : ∀ v' w', w'.ownsRow B 74 7 v' m ks → w.grownBy w' (some e0) → wpList Yba.prog ops Q rest (a.put o.dst v') w') : wpList Yba.prog ops Q (o :: rest) a w := by
  refine wpList_plain hgd fun K hK' => ?_
  obtain ⟨v', w', hrun, r1, r2⟩ := run_clone o.type g cap m e0 ks hl hnews h1 hm B hB hB2 he
  unfold Oper.wp
  simp [execOp, ho, resolve, invoke, builtin, hs, hx, hrun, Result.andThen]
  exact hK' _ _ (hK v' w' r1 r2)

theorem nnil32 (a : Addr) (m c : Nat) (w : World) : (binOp .eql 32 (.slice (some a) m c) (.slice .none 0 0)).run Yba.prog w = .ok (.bool false) w := by kernel_rfl

set_option maxHeartbeats 800000 in
theorem clone_any (g cap m : Nat) (ks : List Value) (w : World) (hl : ks.length = m * 7) (hx : ∀ j u, ks[j]? = some u → w.cell? ⟨g, j, .none⟩ = some u) (h1 : ∀ u ∈ ks, u.oneCell' = true) (hm : m ≤ 4096) :
    Calls Yba.prog 20 #[.slice (some ⟨g, 0, .none⟩) m cap] w fun e w' => ∃ v, e = .returned v ∧ w'.ownsRow w.heap.size 74 7 v m ks ∧ Grow w w' := by
  have Hx := hide hx
  have H1 := hide h1
  clear hx h1
  have nn := nnil32
  go_enter Yba.func20, Yba.ntmps20
  have hg0 : Hid (Grow w (w.alloc (.cells #[] 74))) := (Grow.refl w).alloc _
  go_wp2_with (at_builtin; refine wpList_cloneM rfl _ _ rfl g cap m w.heap.size ks rfl rfl hl (fun j u hu => (unhide hg0).cell (unhide Hx j u hu)) (unhide H1) hm w.heap.size (Nat.le_refl _) (unhide hg0).size (heap_alloc_new w _) ?_; intro v' w2 hown hgr)
  go_ret
  exact ⟨_, rfl, hown, ⟨hgr.os, hgr.tape, hgr.output, Nat.le_trans (unhide hg0).size hgr.size, fun x hx => (hgr.block x (Nat.lt_of_lt_of_le hx (unhide hg0).size) (by simp; omega)).trans ((unhide hg0).block hx)⟩⟩
end Go.Proofs.Ybulkejtm
