import Derived.Test.YbulkejtmAcc
import Derived.Deep.Onto
namespace Go.Proofs.Ybulkejtm
open Go.ChangeShapes Go.WideShapes Go.ChangeAt Go.RowKit

/-- Where the shape and the value lie. -/
structure Loc where
  T : Nat
  S : Nat
  FB : Nat
  HB : Nat
  VB : Nat
  XB : Nat
  sc : Nat
  hc : Nat
  vc : Nat
  xc : Nat
  sa : Option Addr
  aa : Option Addr
  ab : Option Addr
  xa : Option Addr
  bx : Nat → Nat
structure Mem (w : World) (L : Loc) (d : Dat) : Prop where
  cS0 : w.cell? ⟨L.S, 0, .none⟩ = some (.slice L.sa d.F L.sc)
  cS1 : w.cell? ⟨L.S, 1, .none⟩ = some (.func (.func 9) #[] #[])
  cT0 : w.cell? ⟨L.T, 0, .none⟩ = some (.slice L.aa d.F L.hc)
  cT1 : w.cell? ⟨L.T, 1, .none⟩ = some (.slice L.ab d.F L.vc)
  cT2 : w.cell? ⟨L.T, 2, .none⟩ = some (.slice L.xa d.E L.xc)
  hS : 0 < d.F → L.sa = some ⟨L.FB, 0, .none⟩
  hA : 0 < d.F → L.aa = some ⟨L.HB, 0, .none⟩
  hV : 0 < d.F → L.ab = some ⟨L.VB, 0, .none⟩
  hX : 0 < d.E → L.xa = some ⟨L.XB, 0, .none⟩
  fc : ∀ j, j < d.F → FC w L.FB (j * 6) (d.nf j) (d.co j) (L.bx j)
  bc : ∀ j, j < d.F → w.cell? ⟨L.bx j, 0, .none⟩ = some (.int .i64 j)
  hc : ∀ j, j < d.F → w.cell? ⟨L.HB, j, .none⟩ = some (.bool (d.ha j))
  vc : ∀ j, j < d.F → w.cell? ⟨L.VB, j, .none⟩ = some (.string (d.va j))
  mc : ∀ j, j < d.E → MC w L.XB (j * 7) (d.ne j) (d.ev j)
theorem Mem.grow {w w' : World} {L : Loc} {d : Dat} (h : Mem w L d) (g : Grow w w') : Mem w' L d :=
  ⟨g.cell h.cS0, g.cell h.cS1, g.cell h.cT0, g.cell h.cT1, g.cell h.cT2, h.hS, h.hA, h.hV, h.hX, fun j hj => (h.fc j hj).grow g, fun j hj => g.cell (h.bc j hj), fun j hj => g.cell (h.hc j hj), fun j hj => g.cell (h.vc j hj), fun j hj => (h.mc j hj).grow g⟩

def outp (d : Dat) : List (Int × ByteArray) := o1 d d.F ++ o2 d d.E
def ucl (l : List Int) : List Value := l.map fun n => .string (nm n)

theorem z81 : ((Yba.prog.info? 81).bind (·.zero)).map (fun v => match v with | .agg cs => decide (cs.size = 112) | _ => false) = some true := by kernel_rfl
theorem zero81 : ∃ cs : Array Value, cs.size = 112 ∧ ∀ w, (zeroValue 81).run Yba.prog w = .ok (.agg cs) w := by
  have h := z81
  cases hi : Yba.prog.info? 81 with
  | none => simp [hi] at h
  | some i =>
    cases hz : i.zero with
    | none => simp [hi, hz] at h
    | some v =>
      cases v <;> simp [hi, hz] at h
      rename_i cs
      exact ⟨cs, h, fun w => by simp [zeroValue, typeInfo, hi, hz]⟩

/-- What the first loop holds at field k. -/
structure W1 (w wr : World) (d : Dat) (k k' : Nat) (o u : Value) : Prop where
  g : Grow w wr
  lt : w.heap.size < wr.heap.size
  acc : Acc wr w.heap.size o (o1 d k).length (mcl (o1 d k))
  own : wr.ownsRow w.heap.size 9 1 u (uw d k').length (ucl (uw d k'))
theorem W1.grow {w wr W : World} {d : Dat} {k k' : Nat} {o u : Value} (h : W1 w wr d k k' o u) (g : Grow wr W) : W1 w W d k k' o u :=
  ⟨h.g.trans g, Nat.lt_of_lt_of_le h.lt g.size, h.acc.grow g, g.owns h.own⟩
theorem uw_same {d : Dat} {k : Nat} (h : (d.ha k && !kn d k) = false) : uw d (k + 1) = uw d k := by simp [uw, h]
theorem uw_more {d : Dat} {k : Nat} (h : d.ha k = true) (h2 : kn d k = false) : uw d (k + 1) = uw d k ++ [d.nf k] := by simp [uw, h, h2]
theorem W1.usame {w W : World} {d : Dat} {k : Nat} {o u : Value} (h : W1 w W d k k o u) (hu : uw d (k + 1) = uw d k) : W1 w W d k (k + 1) o u := ⟨h.g, h.lt, h.acc, by rw [hu]; exact h.own⟩
theorem grow_grown {w W W' : World} {row : Option Nat} (h : Grow w W) (g : W.grownBy W' row) (hr : ∀ k, row = some k → w.heap.size ≤ k) : Grow w W' :=
  ⟨g.os.trans (Below.os h), g.tape.trans (Below.tape h), g.output.trans (Below.output h), Nat.le_trans h.size g.size, fun x hx => (g.block x (Nat.lt_of_lt_of_le hx h.size) (fun e => by have := hr x e.symm; omega)).trans (h.block hx)⟩
theorem Acc.own {w : World} {G : Nat} {v : Value} {m : Nat} {ks : List Value} (h : Acc w G v m ks) : ∀ k, v.ownBlock = some k → G ≤ k ∧ k < w.heap.size := by
  intro k hk
  obtain ⟨g, cap, rfl, h1, h2⟩ := h.shape
  simp [Value.ownBlock] at hk; subst hk
  exact ⟨h1, h2⟩
theorem set6_grow {wr w4 : World} {V : Nat} (g : Grow wr w4) (h : wr.heap.size ≤ V) (c0 c1 c2 c3 c4 c5 : Value) : Grow wr ((((((w4.setCell ⟨V, 0, .none⟩ c0).setCell ⟨V, 1, .none⟩ c1).setCell ⟨V, 2, .none⟩ c2).setCell ⟨V, 3, .none⟩ c3).setCell ⟨V, 4, .none⟩ c4).setCell ⟨V, 5, .none⟩ c5) :=
  (((((g.setCell (p := ⟨V, 0, .none⟩) h c0).setCell (p := ⟨V, 1, .none⟩) h c1).setCell (p := ⟨V, 2, .none⟩) h c2).setCell (p := ⟨V, 3, .none⟩) h c3).setCell (p := ⟨V, 4, .none⟩) h c4).setCell (p := ⟨V, 5, .none⟩) h c5
theorem W1.app {w W W' : World} {d : Dat} {k : Nat} {o u v' : Value} {p : Int × ByteArray} (h : W1 w W d k (k + 1) o u) (hst : st1 d k = [p]) (hacc : Acc W' w.heap.size v' ((o1 d k).length + 1) (mcl (o1 d k) ++ mc1 p)) (hgr : W.grownBy W' o.ownBlock) : W1 w W' d (k + 1) (k + 1) v' u := by
  have e1 : o1 d (k + 1) = o1 d k ++ [p] := by rw [o1, hst]
  refine ⟨grow_grown h.g hgr (fun x hx => (h.acc.own x hx).1), Nat.lt_of_lt_of_le h.lt hgr.size, ?_, owns_of h.own (fun x hx => hgr.block x (owns_lt h.own hx).1 (fun e => h.acc.ne h.own x e.symm hx))⟩
  rw [e1, mcl_one, List.length_append]
  exact hacc
theorem W1.skip {w W : World} {d : Dat} {k : Nat} {o u : Value} (h : W1 w W d k (k + 1) o u) (hst : st1 d k = []) : W1 w W d (k + 1) (k + 1) o u :=
  ⟨h.g, h.lt, by rw [o1, hst, List.append_nil]; exact h.acc, h.own⟩
theorem W1.umore {w W W' : World} {d : Dat} {k : Nat} {o u v' : Value} (h : W1 w W d k k o u) (hu : uw d (k + 1) = uw d k ++ [d.nf k]) (hown : W'.ownsRow w.heap.size 9 1 v' ((uw d k).length + 1) (ucl (uw d k) ++ [.string (nm (d.nf k))])) (hgr : W.grownBy W' u.ownBlock) : W1 w W' d k (k + 1) o v' := by
  refine ⟨grow_grown h.g hgr (fun x hx => (owns_lt h.own hx).2), Nat.lt_of_lt_of_le h.lt hgr.size, h.acc.of (fun x hx => hgr.block x (h.acc.own x hx).2 (fun e => h.acc.ne h.own x hx e.symm)), ?_⟩
  rw [hu, List.length_append]
  simpa [ucl] using hown
/-- What the second loop holds at extra member k. -/
structure W2 (w wr : World) (d : Dat) (k : Nat) (o u : Value) : Prop where
  g : Grow w wr
  lt : w.heap.size < wr.heap.size
  acc : Acc wr w.heap.size o (o1 d d.F ++ o2 d k).length (mcl (o1 d d.F ++ o2 d k))
  own : wr.ownsRow w.heap.size 9 1 u (uw d d.F).length (ucl (uw d d.F))
theorem W2.grow {w wr W : World} {d : Dat} {k : Nat} {o u : Value} (h : W2 w wr d k o u) (g : Grow wr W) : W2 w W d k o u :=
  ⟨h.g.trans g, Nat.lt_of_lt_of_le h.lt g.size, h.acc.grow g, g.owns h.own⟩
theorem W2.skip {w W : World} {d : Dat} {k : Nat} {o u : Value} (h : W2 w W d k o u) (hr : rest2 d k = false) : W2 w W d (k + 1) o u :=
  ⟨h.g, h.lt, by rw [o2, hr]; simpa using h.acc, h.own⟩
theorem W2.app {w W W' : World} {d : Dat} {k : Nat} {o u v' : Value} (h : W2 w W d k o u) (hr : rest2 d k = true) (hacc : Acc W' w.heap.size v' ((o1 d d.F ++ o2 d k).length + 1) (mcl (o1 d d.F ++ o2 d k) ++ mc1 (d.ne k, d.ev k))) (hgr : W.grownBy W' o.ownBlock) : W2 w W' d (k + 1) v' u := by
  have e1 : o1 d d.F ++ o2 d (k + 1) = (o1 d d.F ++ o2 d k) ++ [(d.ne k, d.ev k)] := by rw [o2, hr]; simp
  refine ⟨grow_grown h.g hgr (fun x hx => (h.acc.own x hx).1), Nat.lt_of_lt_of_le h.lt hgr.size, ?_, owns_of h.own (fun x hx => hgr.block x (owns_lt h.own hx).1 (fun e => h.acc.ne h.own x e.symm hx))⟩
  rw [e1, mcl_one, List.length_append (bs := [(d.ne k, d.ev k)])]
  exact hacc
/-- How the row of names reads. -/
theorem uw_read {wr : World} {B : Nat} {u : Value} {l : List Int} (h : wr.ownsRow B 9 1 u l.length (ucl l)) : ∃ a b cap, u = .slice a l.length cap ∧ (0 < l.length → a = some ⟨b, 0, .none⟩) ∧ ∀ W, Grow wr W → ∀ j x, l[j]? = some x → W.cell? ⟨b, j, .none⟩ = some (.string (nm x)) := by
  rcases h.2 with ⟨rfl, h0⟩ | ⟨g, cap, cur, rfl, _, _⟩
  · refine ⟨.none, 0, 0, by rw [h0], fun q => by omega, fun W _ j x hx => ?_⟩
    have := (List.getElem?_eq_some_iff.1 hx).1
    omega
  · refine ⟨_, g, cap, rfl, fun _ => rfl, fun W hg j x hx => hg.cell ?_⟩
    have := (List.getElem?_eq_some_iff.1 hx).1
    rw [h.cellAt j (by omega)]
    simp [ucl, hx]
theorem mc1_news {W : World} {H : Nat} (hH : W.heap.size = H) (n : Int) (t : ByteArray) : ∀ (j : Nat) (u : Value), (mc1 (n, t))[j]? = some u → (W.alloc (.cells #[.string (nm n), .int .u8 3, .bool false, .string t, .slice .none 0 0, .slice .none 0 0, .slice .none 0 0] 74)).cell? ((⟨H, 0, .none⟩ : Addr).add j) = some u := by
  subst hH
  exact World.news_of_block (cs := #[.string (nm n), .int .u8 3, .bool false, .string t, .slice .none 0 0, .slice .none 0 0, .slice .none 0 0]) (heap_alloc_new W _)
theorem nm_news {W : World} {H : Nat} (hH : W.heap.size = H) (n : Int) : ∀ (j : Nat) (u : Value), [Value.string (nm n)][j]? = some u → (W.alloc (.cells #[.string (nm n)] 9)).cell? ((⟨H, 0, .none⟩ : Addr).add j) = some u := by
  subst hH
  exact World.news_of_block (cs := #[.string (nm n)]) (heap_alloc_new W _)

set_option maxRecDepth 100000 in
set_option maxHeartbeats 4000000 in
theorem write_any (L : Loc) (d : Dat) (w : World) (M : Mem w L d) (bd : Bnd d) :
    Calls Yba.prog 12 #[.pointer (some ⟨L.S, 0, .none⟩), .pointer (some ⟨L.T, 0, .none⟩), .int .u8 d.fm] w fun e w' => ∃ v, e = .returned v ∧ w'.ownsRow w.heap.size 74 7 v (outp d).length (mcl (outp d)) ∧ Grow w w' := by
  obtain ⟨T, S, FB, HB, VB, XB, sc, hc, vc, xc, sa, aa, ab, xa, bx⟩ := L
  have cS0 : w.cell? ⟨S, 0, .none⟩ = some (.slice sa d.F sc) := M.cS0
  have cS1 : w.cell? ⟨S, 1, .none⟩ = some (.func (.func 9) #[] #[]) := M.cS1
  have cT2 : w.cell? ⟨T, 2, .none⟩ = some (.slice xa d.E xc) := M.cT2
  have HM := hide M
  clear M
  have hlen := bd.len
  obtain ⟨cs, hcs, hz81⟩ := zero81
  go_enter Yba.func12, Yba.ntmps12
  go_wp2_with fail
  refine (extra_any T _).mono ?_
  rintro e w' ⟨rfl, h'⟩
  obtain rfl := h'.symm
  clear h'
  have dS0 : ∀ o, (w.alloc o).cell? ⟨S, 0, .none⟩ = some (.slice sa d.F sc) := fun o => ((Grow.refl w).alloc o).cell cS0
  go_wp2_with fail
  go_loopw [9, 10, 31] (fun o u ii wr => ∃ k : Nat, k ≤ d.F ∧ ii = .int .i64 k ∧ Hid (W1 w wr d k k o u)) (fun _ _ ii _ => d.F - (intOf ii).toNat)
  case atStart =>
    refine ⟨0, Nat.zero_le _, rfl, (Grow.refl w).alloc _, by simp, ⟨rfl, w.heap.size, 16, 81, cs, rfl, Nat.le_refl _, .inl rfl, heap_alloc_new w _, by simp [o1], by decide, hcs, by simp [mcl, o1]⟩, World.ownsRow_nil _ _ _ _⟩
  case round =>
    clear dS0 cS0 cS1 cT2 hz81 hcs
    obtain ⟨k, hk, rfl, HW⟩ := hrel
    by_cases hlt : k < d.F
    · obtain rfl : sa = some ⟨FB, 0, .none⟩ := (unhide HM).hS (by show 0 < d.F; omega)
      obtain rfl : aa = some ⟨HB, 0, .none⟩ := (unhide HM).hA (by show 0 < d.F; omega)
      obtain rfl : ab = some ⟨VB, 0, .none⟩ := (unhide HM).hV (by show 0 < d.F; omega)
      have hkI : (k : Int) < (d.F : Int) := by omega
      obtain ⟨q0, q1, q2, q3, q4, q5⟩ : FC wr FB (k * 6) (d.nf k) (d.co k) (bx k) := ((unhide HM).grow (unhide HW).g).fc k hlt
      have HMa : ∀ o, Hid (Mem (wr.alloc o) ⟨T, S, FB, HB, VB, XB, sc, hc, vc, xc, _, _, _, xa, bx⟩ d) := fun o => ((unhide HM).grow ((unhide HW).g.alloc o))
      go_wp2_with fail
      refine (clos_any T HB VB (bx k) k d.F hc vc d.fm (d.ha k) (d.va k) _ hlt (by exact (unhide (HMa _)).cT0) (by exact (unhide (HMa _)).cT1) (by exact (unhide (HMa _)).bc k hlt) (by exact (unhide (HMa _)).hc k hlt) (by exact (unhide (HMa _)).vc k hlt)).mono ?_
      rintro e w2 ⟨rfl, hg2⟩
      have hFL : Hid (wr.heap.size < w2.heap.size) := by have := hg2.size; simp at this; exact this
      have G2 : Hid (Grow wr w2) := Grow.trans ((Grow.refl wr).alloc _) hg2
      have f0 : w2.cell? ⟨wr.heap.size, 0, .none⟩ = some (.string (nm (d.nf k))) := hg2.cell (by go_simp)
      have f1 : w2.cell? ⟨wr.heap.size, 1, .none⟩ = some (.bool (d.co k)) := hg2.cell (by go_simp)
      have f0a : ∀ o, (w2.alloc o).cell? ⟨wr.heap.size, 0, .none⟩ = some (.string (nm (d.nf k))) := fun o => ((Grow.refl w2).alloc o).cell f0
      have f1a : ∀ o, (w2.alloc o).cell? ⟨wr.heap.size, 1, .none⟩ = some (.bool (d.co k)) := fun o => ((Grow.refl w2).alloc o).cell f1
      clear hg2 q0 q1 q2 q3 q4 q5 HMa f0 f1
      have hV : Hid (∀ x, u10.ownBlock = some x → x < wr.heap.size) := fun x hx => (owns_lt (unhide HW).own hx).1
      have K2 : ∀ a, Hid (W1 w (w2.alloc a) d k k u9 u10) := fun a => (unhide HW).grow ((unhide G2).alloc a)
      have K3 : ∀ a b, Hid (W1 w ((w2.alloc a).alloc b) d k k u9 u10) := fun a b => (unhide HW).grow (((unhide G2).alloc a).alloc b)
      have hol := o1_len d k
      have hul := uw_len d k
      cases hha : d.ha k
      · have hu : uw d (k + 1) = uw d k := uw_same (by simp [hha])
        go_wp2_with fail
        refine (known_any wr.heap.size 0 (d.co k) d.fm _ (by exact f1a _)).mono ?_
        rintro e w4 ⟨rfl, h4⟩
        cases hkn : kn1 (d.co k) d.fm
        · subst h4
          have hst : st1 d k = [] := by simp [st1, hha, kn, hkn]
          go_wp2_with fail
          go_roundw
          case rel => exact ⟨k + 1, by omega, by go_num, ((unhide (K2 _)).usame hu).skip hst⟩
          case measure => simp [intOf]; omega
        · subst h4
          go_wp2_with fail
          refine (get_any xa d.E xc XB d.ne d.ev (d.nf k) _ (by exact (unhide HM).hX) (by exact ((unhide HM).grow (unhide (K2 _)).g).mc) (bd.nf k hlt) bd.ne (by omega)).mono ?_
          rintro e w4 ⟨rfl, hg4⟩
          have hV4 : Hid (w2.heap.size < w4.heap.size) := by have := hg4.size; simp at this; exact this
          have f4 : w4.cell? ⟨wr.heap.size, 0, .none⟩ = some (.string (nm (d.nf k))) := hg4.cell (f0a _)
          have v0 : w4.cell? ⟨w2.heap.size, 0, .none⟩ = some (.int .u8 0) := hg4.cell (by go_simp)
          have v1 : w4.cell? ⟨w2.heap.size, 1, .none⟩ = some (.bool false) := hg4.cell (by go_simp)
          have v2 : w4.cell? ⟨w2.heap.size, 2, .none⟩ = some (.string ⟨#[]⟩) := hg4.cell (by go_simp)
          have v3 : w4.cell? ⟨w2.heap.size, 3, .none⟩ = some (.slice .none 0 0) := hg4.cell (by go_simp)
          have v4 : w4.cell? ⟨w2.heap.size, 4, .none⟩ = some (.slice .none 0 0) := hg4.cell (by go_simp)
          have v5 : w4.cell? ⟨w2.heap.size, 5, .none⟩ = some (.slice .none 0 0) := hg4.cell (by go_simp)
          have vf : ∀ o, w4.frozen? ⟨w2.heap.size, o, .none⟩ = false := fun o => by
            rw [World.frozen?_of_block (a := ⟨w2.heap.size, o, .none⟩) (hg4.block (by simp))]; go_simp
          have hne : wr.heap.size ≠ w2.heap.size := by have := unhide hFL; omega
          have K4 := hide ((unhide (K2 _)).grow hg4)
          have G4 := hide (Grow.trans ((unhide G2).alloc _) hg4)
          clear K2 K3 hg4 f0a f1a
          have G6 : ∀ c0 c1 c2 c3 c4 c5, Hid (W1 w ((((((w4.setCell ⟨w2.heap.size, 0, .none⟩ c0).setCell ⟨w2.heap.size, 1, .none⟩ c1).setCell ⟨w2.heap.size, 2, .none⟩ c2).setCell ⟨w2.heap.size, 3, .none⟩ c3).setCell ⟨w2.heap.size, 4, .none⟩ c4).setCell ⟨w2.heap.size, 5, .none⟩ c5) d k (k + 1) u9 u10) := fun c0 c1 c2 c3 c4 c5 =>
            ((unhide HW).grow (set6_grow (unhide G4) (Nat.le_of_lt (unhide hFL)) c0 c1 c2 c3 c4 c5)).usame hu
          clear K4 G4
          cases hf : fst d.ne (d.nf k) d.E with
          | none =>
            -- BEGIN a1
            have hst : st1 d k = [] := by simp [st1, hha, kn, hkn, hf, viaX]
            unfold getV
            go_wp2_with fail
            go_roundw
            case rel => exact ⟨k + 1, by omega, by go_num, (unhide (G6 _ _ _ _ _ _)).skip hst⟩
            case measure => simp [intOf]; omega
            -- END a1
          | some j =>
            -- BEGIN a2
            have hst : st1 d k = [(d.nf k, d.ev j)] := by simp [st1, hha, kn, hkn, hf, viaX]
            have G7 : ∀ c0 c1 c2 c3 c4 c5 b, Hid (W1 w (((((((w4.setCell ⟨w2.heap.size, 0, .none⟩ c0).setCell ⟨w2.heap.size, 1, .none⟩ c1).setCell ⟨w2.heap.size, 2, .none⟩ c2).setCell ⟨w2.heap.size, 3, .none⟩ c3).setCell ⟨w2.heap.size, 4, .none⟩ c4).setCell ⟨w2.heap.size, 5, .none⟩ c5).alloc b) d k (k + 1) u9 u10) := fun c0 c1 c2 c3 c4 c5 b => (unhide (G6 c0 c1 c2 c3 c4 c5)).grow ((Grow.refl _).alloc b)
            unfold getV
            go_wp2_with (at_builtin; refine wpList_append_acc rfl _ _ rfl rfl (by exact (unhide (G7 _ _ _ _ _ _ _)).acc) (by exact (unhide (G7 _ _ _ _ _ _ _)).g.size) ⟨w4.heap.size, 0, .none⟩ 1 (mc1 (d.nf k, d.ev j)) rfl rfl (by exact mc1_news (by simp) _ _) (mc1_one _) (by omega) ?_; intro v' w5 hacc hgr)
            go_roundw
            case rel => exact ⟨k + 1, by omega, by go_num, (unhide (G7 _ _ _ _ _ _ _)).app hst hacc hgr⟩
            case measure => simp [intOf]; omega
            -- END a2
      · go_wp2_with fail
        refine (known_any wr.heap.size 0 (d.co k) d.fm _ (by exact f1a _)).mono ?_
        rintro e w4 ⟨rfl, h4⟩
        cases hkn : kn1 (d.co k) d.fm
        · subst h4
          have hst : st1 d k = [(d.nf k, d.va k)] := by simp [st1, hha]
          have hu : uw d (k + 1) = uw d k ++ [d.nf k] := uw_more hha hkn
          obtain ⟨i9, hi, hz0, hz1, hz2⟩ := info_parts Yba.info9
          have f0b : ∀ a b, ((w2.alloc a).alloc b).cell? ⟨wr.heap.size, 0, .none⟩ = some (.string (nm (d.nf k))) := fun a b => ((Grow.refl _).alloc b).cell (f0a a)
          have p0 : ∀ b, ((w2.alloc (.cells #[.int .u8 3, .bool false, .string (d.va k), .slice .none 0 0, .slice .none 0 0, .slice .none 0 0] 36)).alloc b).cell? ⟨w2.heap.size, 0, .none⟩ = some (.int .u8 3) := fun b => ((Grow.refl _).alloc b).cell (by go_simp)
          have p1 : ∀ b, ((w2.alloc (.cells #[.int .u8 3, .bool false, .string (d.va k), .slice .none 0 0, .slice .none 0 0, .slice .none 0 0] 36)).alloc b).cell? ⟨w2.heap.size, 1, .none⟩ = some (.bool false) := fun b => ((Grow.refl _).alloc b).cell (by go_simp)
          have p2 : ∀ b, ((w2.alloc (.cells #[.int .u8 3, .bool false, .string (d.va k), .slice .none 0 0, .slice .none 0 0, .slice .none 0 0] 36)).alloc b).cell? ⟨w2.heap.size, 2, .none⟩ = some (.string (d.va k)) := fun b => ((Grow.refl _).alloc b).cell (by go_simp)
          have p3 : ∀ b, ((w2.alloc (.cells #[.int .u8 3, .bool false, .string (d.va k), .slice .none 0 0, .slice .none 0 0, .slice .none 0 0] 36)).alloc b).cell? ⟨w2.heap.size, 3, .none⟩ = some (.slice .none 0 0) := fun b => ((Grow.refl _).alloc b).cell (by go_simp)
          have p4 : ∀ b, ((w2.alloc (.cells #[.int .u8 3, .bool false, .string (d.va k), .slice .none 0 0, .slice .none 0 0, .slice .none 0 0] 36)).alloc b).cell? ⟨w2.heap.size, 4, .none⟩ = some (.slice .none 0 0) := fun b => ((Grow.refl _).alloc b).cell (by go_simp)
          have p5 : ∀ b, ((w2.alloc (.cells #[.int .u8 3, .bool false, .string (d.va k), .slice .none 0 0, .slice .none 0 0, .slice .none 0 0] 36)).alloc b).cell? ⟨w2.heap.size, 5, .none⟩ = some (.slice .none 0 0) := fun b => ((Grow.refl _).alloc b).cell (by go_simp)
          have P0 := hide p0
          have P1 := hide p1
          have P2 := hide p2
          have P3 := hide p3
          have P4 := hide p4
          have P5 := hide p5
          have F0 := hide f0b
          clear p0 p1 p2 p3 p4 p5 f0b
          have n1 : Hid (some wr.heap.size ≠ u10.ownBlock) := fun e => by have := unhide hV _ e.symm; omega
          have n2 : Hid (some w2.heap.size ≠ u10.ownBlock) := fun e => by have := unhide hV _ e.symm; have := unhide hFL; omega
          go_wp2_with (first
            | (at_builtin; refine wpList_append_lies _ rfl _ _ 54 rfl w.heap.size 9 i9 _ 1 16 Yba.underlying54 hi hz0 hz1 hz2 rfl (by decide) u10 (uw d k).length (ucl (uw d k)) rfl (by exact (unhide (K3 _ _)).own) ⟨w2.heap.size + 1, 0, .none⟩ 1 1 [.string (nm (d.nf k))] rfl rfl (by exact nm_news (by simp) _) (by intro u hu; simp at hu; subst hu; rfl) (by decide) (by unfold maxLen; omega) (by omega) (by exact (unhide (K3 _ _)).g.size) _ rfl ?_; intro g3 cap3 w3 hown3 hgr3 hat3 hlt3; have y := hgr3.cell (unhide F0 _ _) (unhide n1); have y0 := hgr3.cell (unhide P0 _) (unhide n2); have y1 := hgr3.cell (unhide P1 _) (unhide n2); have y2 := hgr3.cell (unhide P2 _) (unhide n2); have y3 := hgr3.cell (unhide P3 _) (unhide n2); have y4 := hgr3.cell (unhide P4 _) (unhide n2); have y5 := hgr3.cell (unhide P5 _) (unhide n2); have K5 := hide ((unhide (K3 _ _)).umore hu hown3 hgr3); clear hown3 hgr3 hat3)
            | (at_builtin; refine wpList_append_acc rfl _ _ rfl rfl (by exact ((unhide K5).grow ((Grow.refl _).alloc _)).acc) (by exact ((unhide K5).grow ((Grow.refl _).alloc _)).g.size) ⟨w3.heap.size, 0, .none⟩ 1 (mc1 (d.nf k, d.va k)) rfl rfl (by exact mc1_news (by simp) _ _) (mc1_one _) (by omega) ?_; intro v' w5 hacc hgr))
          go_roundw
          case rel => exact ⟨k + 1, by omega, by go_num, ((unhide K5).grow ((Grow.refl _).alloc _)).app hst hacc hgr⟩
          case measure => simp [intOf]; omega
        · subst h4
          have hst : st1 d k = [(d.nf k, d.va k)] := by simp [st1, hha]
          have hu : uw d (k + 1) = uw d k := uw_same (by simp [kn, hkn])
          go_wp2_with (at_builtin; refine wpList_append_acc rfl _ _ rfl rfl (by exact (unhide (K3 _ _)).acc) (by exact (unhide (K3 _ _)).g.size) ⟨w2.heap.size + 1, 0, .none⟩ 1 (mc1 (d.nf k, d.va k)) rfl rfl (by exact mc1_news (by simp) _ _) (mc1_one _) (by omega) ?_; intro v' w5 hacc hgr)
          go_roundw
          case rel => exact ⟨k + 1, by omega, by go_num, ((unhide (K3 _ _)).usame hu).app hst hacc hgr⟩
          case measure => simp [intOf]; omega
    · obtain rfl : k = d.F := by omega
      go_wp2_with fail
      go_loopw [9, 80] (fun o ii wx => ∃ k : Nat, k ≤ d.E ∧ ii = .int .i64 k ∧ Hid (W2 w wx d k o u10)) (fun _ ii _ => d.E - (intOf ii).toNat)
      case atStart => exact ⟨0, Nat.zero_le _, rfl, (unhide HW).g, (unhide HW).lt, by simpa [o2] using (unhide HW).acc, (unhide HW).own⟩
      case round =>
        clear HW
        obtain ⟨j, hj, rfl, HW⟩ := hrel
        have hol := o1_len d d.F
        have hol2 := o2_len d j
        have hul := uw_len d d.F
        have hsum : (o1 d d.F ++ o2 d j).length ≤ 4096 := by rw [List.length_append]; omega
        by_cases hlt2 : j < d.E
        · obtain rfl : xa = some ⟨XB, 0, .none⟩ := (unhide HM).hX (by show 0 < d.E; omega)
          obtain ⟨ua, UB, ucap, rfl, hua, hucell⟩ := uw_read (unhide HW).own
          have hjI : (j : Int) < (d.E : Int) := by omega
          have Hu := hide hucell
          clear hucell
          obtain ⟨q0, q1, q2, q3, q4, q5, q6⟩ : MC wr XB (j * 7) (d.ne j) (d.ev j) := ((unhide HM).grow (unhide HW).g).mc j hlt2
          have K2 : ∀ a, Hid (W2 w (wr.alloc a) d j u9 (.slice ua (uw d d.F).length ucap)) := fun a => (unhide HW).grow ((Grow.refl wr).alloc a)
          have K3 : ∀ a b, Hid (W2 w ((wr.alloc a).alloc b) d j u9 (.slice ua (uw d d.F).length ucap)) := fun a b => (unhide HW).grow (((Grow.refl wr).alloc a).alloc b)
          go_wp2_with fail
          refine (field_any S sa d.F sc FB d.nf d.co bx (d.ne j) d.fm _ (by exact ((unhide HM).grow (unhide (K2 _)).g).cS0) (by exact (unhide HM).hS) (by exact ((unhide HM).grow (unhide (K2 _)).g).fc) (bd.ne j hlt2) bd.nf (by omega)).mono ?_
          rintro e w4 ⟨⟨pp, rfl, hpp⟩, h4⟩
          subst h4
          cases pp with
          | some pa =>
            have hr : rest2 d j = false := by
              have : Ks d.nf (kn d) (d.ne j) d.F = true := hpp.symm
              simp [rest2, this]
            go_wp2_with fail
            go_roundw
            case rel => exact ⟨j + 1, by omega, by go_num, (unhide (K2 _)).skip hr⟩
            case measure => simp [intOf]; omega
          | none =>
            have hks : Ks d.nf (kn d) (d.ne j) d.F = false := hpp.symm
            go_wp2_with fail
            refine (contains_any ua (uw d d.F).length ucap UB (uw d d.F) (d.ne j) _ rfl hua (by exact unhide Hu _ ((Grow.refl wr).alloc _)) (bd.ne j hlt2) (uw_bnd bd (Nat.le_refl _)) (by omega)).mono ?_
            rintro e w4 ⟨rfl, h4⟩
            subst h4
            cases hd : decide (d.ne j ∈ uw d d.F) with
            | true =>
              have hr : rest2 d j = false := by unfold rest2; rw [hd, hks]; rfl
              go_wp2_with fail
              go_roundw
              case rel => exact ⟨j + 1, by omega, by go_num, (unhide (K2 _)).skip hr⟩
              case measure => simp [intOf]; omega
            | false =>
              have hr : rest2 d j = true := by unfold rest2; rw [hd, hks]; rfl
              go_wp2_with (at_builtin; refine wpList_append_acc rfl _ _ rfl rfl (by exact (unhide (K3 _ _)).acc) (by exact (unhide (K3 _ _)).g.size) ⟨wr.heap.size + 1, 0, .none⟩ 1 (mc1 (d.ne j, d.ev j)) rfl rfl (by exact mc1_news (by simp) _ _) (mc1_one _) hsum ?_; intro v' w5 hacc hgr)
              go_roundw
              case rel => exact ⟨j + 1, by omega, by go_num, (unhide (K3 _ _)).app hr hacc hgr⟩
              case measure => simp [intOf]; omega
        · obtain rfl : j = d.E := by omega
          obtain ⟨m, hm⟩ : ∃ m, m = (o1 d d.F ++ o2 d d.E).length := ⟨_, rfl⟩
          have HA : Hid (Acc wr w.heap.size u9 m (mcl (outp d))) := by rw [hm]; exact (unhide HW).acc
          obtain ⟨g, cap, rfl, hg1, hg2⟩ := (unhide HA).shape
          rw [← hm] at hsum
          have Hm := hide hm
          clear hm
          go_wp2_with fail
          refine (clone_any g cap m (mcl (outp d)) _ (by rw [unhide Hm]; exact mcl_len _) (by exact (unhide HA).cells) (by exact mcl_ones _) hsum).mono ?_
          rintro e w4 ⟨v, rfl, hown, hg4⟩
          have hfin := hide (And.intro (hown.mono (unhide HW).g.size) (Grow.trans (unhide HW).g hg4))
          clear hown hg4
          go_wp2_with fail
          go_ret
          exact ⟨_, rfl, by rw [show (outp d).length = m from (unhide Hm).symm]; exact (unhide hfin).1, (unhide hfin).2⟩
end Go.Proofs.Ybulkejtm
