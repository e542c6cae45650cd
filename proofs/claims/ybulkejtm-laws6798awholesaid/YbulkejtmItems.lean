import Derived.Test.YbulkejtmInv
namespace Go.Proofs.Ybulkejtm
open Go.ChangeShapes Go.WideShapes Go.ChangeAt Go.RowKit

/-- Element i of a row of values in block L. -/
structure VCell (w : World) (L i : Nat) (k : Int) (b : Bool) (t : ByteArray) : Prop where
  c0 : w.cell? ⟨L, i * 6, .none⟩ = some (.int .u8 (k6 k))
  c1 : w.cell? ⟨L, i * 6 + 1, .none⟩ = some (.bool b)
  c2 : w.cell? ⟨L, i * 6 + 2, .none⟩ = some (.string t)
  c3 : w.cell? ⟨L, i * 6 + 3, .none⟩ = some (.slice .none 0 0)
  c4 : w.cell? ⟨L, i * 6 + 4, .none⟩ = some (.slice .none 0 0)
  c5 : w.cell? ⟨L, i * 6 + 5, .none⟩ = some (.slice .none 0 0)
theorem VCell.keep {S : Nat → Prop} {w w' : World} {L i : Nat} {k : Int} {b : Bool} {t : ByteArray} (h : VCell w L i k b t) (hk : Kept S w w') (hs : ¬ S L) : VCell w' L i k b t :=
  ⟨hk.cell h.c0 hs, hk.cell h.c1 hs, hk.cell h.c2 hs, hk.cell h.c3 hs, hk.cell h.c4 hs, hk.cell h.c5 hs⟩

theorem Inv.drew {wst wr : World} {GV CV GP CK P n i : Nat} {kd : Nat → Int} {bl : Nat → Bool} {tx : Nat → ByteArray} {pcells : List Value} {ga pa : Option Addr} {gc pc pb cap : Nat} {q : Nat → Nat} (h : Inv wst wr GV CV GP CK P n i kd bl tx pcells ga pa gc pc pb cap q) :
    Inv wst wr.drew GV CV GP CK P n i kd bl tx pcells ga pa gc pc pb cap q :=
  ⟨h.kept.drew, h.cGV, h.fGV, h.oGV, h.cGP, h.fGP, h.oGP, h.cCK, h.cCF, h.fCK, h.oCK, h.pbok, h.dis, h.d1, h.d2, h.cp⟩
theorem six_new {wr w3 : World} {o2 : Obj} {c0 c1 c2 c3 c4 c5 : Value} (h : w3.heap[wr.heap.size]? = ((wr.alloc (.cells #[c0, c1, c2, c3, c4, c5] 36)).alloc o2).heap[wr.heap.size]?) :
    w3.cell? ⟨wr.heap.size, 0, .none⟩ = some c0 ∧ w3.cell? ⟨wr.heap.size, 1, .none⟩ = some c1 ∧ w3.cell? ⟨wr.heap.size, 2, .none⟩ = some c2 ∧ w3.cell? ⟨wr.heap.size, 3, .none⟩ = some c3 ∧ w3.cell? ⟨wr.heap.size, 4, .none⟩ = some c4 ∧ w3.cell? ⟨wr.heap.size, 5, .none⟩ = some c5 := by
  have k : ∀ o, w3.cell? ⟨wr.heap.size, o, .none⟩ = ((wr.alloc (.cells #[c0, c1, c2, c3, c4, c5] 36)).alloc o2).cell? ⟨wr.heap.size, o, .none⟩ := fun o => World.cell?_of_block (a := ⟨wr.heap.size, o, .none⟩) h
  rw [k, k, k, k, k, k]
  refine ⟨?_, ?_, ?_, ?_, ?_, ?_⟩ <;> go_simp

theorem two_new (W : World) (u v : Value) (t : TypeId) : ∀ (j : Nat) (z : Value), [u, v][j]? = some z → (W.alloc (.cells #[u, v] t)).cell? ((⟨W.heap.size, 0, .none⟩ : Addr).add j) = some z :=
  World.news_of_block (cs := #[u, v]) (heap_alloc_new W _)
theorem items_new (wr : World) (o : Obj) (z : Int) : ∀ (j : Nat) (y : Value), [Value.string ⟨#[]⟩, .int .i64 z][j]? = some y → ((wr.alloc o).alloc (.cells #[.string ⟨#[]⟩, .int .i64 z] 29)).cell? ((⟨wr.heap.size + 1, 0, .none⟩ : Addr).add j) = some y := by
  have := two_new (wr.alloc o) (.string ⟨#[]⟩) (.int .i64 z) 29
  rwa [World.size_alloc] at this
theorem two_one (s : ByteArray) (z : Int) : ∀ u ∈ [Value.string s, .int .i64 z], u.oneCell' = true := by
  intro u hu; simp at hu; rcases hu with rfl | rfl <;> rfl

set_option maxRecDepth 100000 in
set_option maxHeartbeats 2000000 in
theorem items_any (wst : World) (GV CV GP CK P L n m cap0 : Nat) (kd : Nat → Int) (bl : Nat → Bool) (tx : Nat → ByteArray) (pcells : List Value) (hn : n ≤ 65536) (hm : m ≤ 65536) (N : Nums wst GV CV GP CK P) (hL : ∀ i, i < m → VCell wst L i (kd i) (bl i) (tx i)) (sL : ¬ (L = GV ∨ L = GP ∨ L = CK ∨ L = P)) (hp : ∀ u ∈ pcells, u.oneCell' = true)
    (I0 : Inv wst wst GV CV GP CK P n 0 kd bl tx pcells .none .none 0 0 P cap0 (fun _ => 0)) :
    Calls Yba.prog 6 #[.pointer (some ⟨CK, 0, .none⟩), .slice (some ⟨L, 0, .none⟩) m m, .func (.func 7) #[] #[.pointer (some ⟨GV, 0, .none⟩), .pointer (some ⟨CV, 0, .none⟩), .pointer (some ⟨GP, 0, .none⟩)]] wst fun e w' => e = .returned (.tuple #[]) ∧
      ∃ ga pa gc pc pb cap q, Inv wst w' GV CV GP CK P n m kd bl tx pcells ga pa gc pc pb cap q := by
  obtain ⟨i1, hi1, hy0, hy1, hy2⟩ := info_parts Yba.info29
  have HN := hide N
  have HL := hide hL
  have HS := hide sL
  have Hp := hide hp
  have HI0 := hide I0
  clear N hL sL hp I0
  go_enter Yba.func6, Yba.ntmps6
  go_wp2_with fail
  go_loopw [10] (fun ii wr => ∃ (i : Nat) (ga pa : Option Addr) (gc pc pb cap : Nat) (q : Nat → Nat), i ≤ m ∧ ii = .int .i64 i ∧ Hid (Inv wst wr GV CV GP CK P n i kd bl tx pcells ga pa gc pc pb cap q)) (fun ii _ => m - (intOf ii).toNat)
  case atStart => exact ⟨0, .none, .none, 0, 0, P, cap0, _, by omega, rfl, unhide HI0⟩
  case round =>
    clear HI0
    obtain ⟨i, ga, pa, gc, pc, pb, cap, q, him, rfl, HI⟩ := hrel
    by_cases hlt : i < m
    · obtain ⟨v0, v1, v2, v3, v4, v5⟩ := (unhide HL i hlt).keep (unhide HI).kept (unhide HS)
      have cK := (unhide HI).cCK
      have cK1 : ∀ o, (wr.alloc o).cell? ⟨CK, 0, .none⟩ = some (.slice (some ⟨pb, 0, .none⟩) n cap) := fun o => ((Grow.refl wr).alloc o).cell cK
      have hlI : (i : Int) < (m : Int) := by omega
      go_wp2_with (first
        | (at_builtin; refine wpList_append_lies _ rfl _ _ 25 rfl 0 29 i1 _ 2 24 Yba.underlying25 hi1 hy0 hy1 hy2 rfl (by decide) (.slice (some ⟨pb, 0, .none⟩) n cap) n pcells rfl (by exact ((unhide HI).oCK.alloc _).alloc _) ⟨wr.heap.size + 1, 0, .none⟩ 1 1 [.string ⟨#[]⟩, .int .i64 (i : Int)] rfl rfl (by exact items_new _ _ _) (by exact two_one _ _) (by decide) (by unfold maxLen; omega) (by omega) (Nat.zero_le _) _ rfl ?_; intro g' cap' w3 hown3 hgr3 hat3 hlt3; have R := round_pre (unhide HN) (unhide HI) (unhide Hp) hown3 hgr3 hat3; obtain ⟨t1, t2, t3, t4, t5, t6, t7⟩ := R; have HM := hide t6; have HPre := hide t7; have X := six_new (t3 wr.heap.size (by omega) (by have := (owns_lt (unhide HI).oCK (g := pb) rfl).1; omega)); obtain ⟨x0, x1, x2, x3, x4, x5⟩ := X; clear t3 t6 t7 hown3 hgr3 hat3))
      refine (clos_any (unhide HN) (by exact unhide HPre) (by omega) hn (kd i) (bl i) (tx i)).mono ?_
      rintro e w5 ⟨rfl, hpost⟩
      have R2 := round_post (unhide HN) (unhide HI) (unhide HM) (unhide HPre).cCK hpost
      obtain ⟨y1, y2, ga', pa', gc', pc', q', HI'⟩ := R2
      have HI2 := hide HI'
      clear hpost HI' HM HPre x0 x1 x2 x3 x4 x5 t1 t2 v0 v1 v2 v3 v4 v5 cK cK1
      have hn1 : (n : Int) ≤ (cap' : Int) := by omega
      go_wp2_with fail
      go_region
      all_goals
        go_wp2_with fail
        go_roundw
        case rel => exact ⟨i + 1, ga', pa', gc', pc', g', cap', q', by omega, by go_num, (unhide HI2).drew⟩
        case measure => simp [intOf]; omega
    · obtain rfl : i = m := by omega
      go_wp2_with fail
      go_end0
      exact ⟨rfl, ga, pa, gc, pc, pb, cap, q, unhide HI⟩
end Go.Proofs.Ybulkejtm
