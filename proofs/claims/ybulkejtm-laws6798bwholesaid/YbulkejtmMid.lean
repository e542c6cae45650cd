import Derived.Test.YbulkejtmTail
namespace Go.Proofs.Ybulkejtm
open Go.ChangeShapes Go.WideShapes Go.ChangeAt Go.RowKit
set_option linter.unusedSimpArgs false
set_option linter.unusedVariables false

set_option maxRecDepth 100000 in
set_option maxHeartbeats 100000000 in
theorem tailA (a0 a1 : Option Addr) (k j c0 c1 fb fo eb eo : Nat) (fn : Nat → Int) (co ha : Nat → Bool) (va : Nat → ByteArray) (en : Nat → Int) (ev : Nat → ByteArray) (fm : Int) (w wb : World) (d : Dat) (FB HB' VB XB sc hc vc xc : Nat) (sa aa ab xa : Option Addr) (bx : Nat → Nat)
    (hlen : k + j ≤ 4096) (HA : Hid (ArgB w a0 a1 k j fb fo eb eo fn co ha va en ev)) (HG : Hid (Grow w wb)) (HM : Hid (Mem wb ⟨w.heap.size, w.heap.size + 1, FB, HB', VB, XB, sc, hc, vc, xc, sa, aa, ab, xa, bx⟩ d)) (hwl : w.heap.size + 2 ≤ wb.heap.size) (HBn : Hid (Bnd d)) (HD : Hid (datB k j fn co ha va en ev fm = d)) 
    (s3 s4 s5 s6 s10 s11 s12 s13 s14 s15 s16 s17 s18 s19 s20 s21 s22 s23 s24 s25 s26 s27 s28 s29 s30 s31 s32 s33 s34 s35 s36 s37 s38 s39 s40 s41 s42 s43 s44 s45 s46 s47 s48 s49 s50 s51 s52 s53 s54 s55 s56 s57 s58 s59 s60 s61 s62 s63 s64 s65 s66 s67 s68 s69 s70 s71 s72 s73 s74 s75 s76 s77 s78 s79 s80 s81 s82 s83 s84 s85 s86 s87 s88 s89 s90 s91 s92 s93 s94 s95 s96 s97 s98 s99 s100 s101 s102 s103 s104 s105 s106 s107 s108 s109 s110 s111 s112 s113 s114 s115 s116 s117 s118 s119 s120 s121 s122 s123 s124 s125 s126 s127 s128 s129 s130 s131 s132 s133 s134 s135 s136 s137 s138 s139 s140 s141 s142 s143 s144 s145 s146 s147 s148 s149 s150 s151 s152 s153 s154 s155 s156 s157 s158 s159 s160 s161 s162 s163 s164 s165 s166 s167 s168 s169 s170 s171 s172 s173 s174 s175 s176 s177 s178 s179 s180 s181 s182 s183 s184 s185 s186 s187 s188 s189 s190 s191 s192 s193 s194 s195 s196 s197 s198 s199 s200 s201 s202 s203 s204 s205 s206 s207 s208 s209 s210 s211 s212 s213 s214 s215 s216 s217 s218 s219 s220 s221 s222 s223 s224 s225 s226 s227 s228 s229 s230 s231 s232 s233 s234 s235 s236 s237 s238 s239 s240 s241 s242 s243 s244 s245 s246 s247 s248 s249 s250 s251 s252 s253 s254 s255 s256 s257 s258 s259 s260 s261 s262 s263 s264 s265 s266 s267 s268 s269 s270 s271 s272 s273 s274 s275 s276 s277 s278 s279 s280 s281 s282 s283 s284 s285 s286 s287 s288 s289 s290 s291 s292 s293 s294 s295 s296 s297 s298 s299 s300 s301 s302 s303 s304 s305 s306 s307 s308 s309 s310 s311 s312 s313 s314 s315 s316 s317 s318 s319 s320 s321 s322 s323 s324 s325 s326 s327 s328 s329 : Value) :
    Code.wp Yba.prog codeA (bodyPost Yba.prog Yba.f4 fun e w' => e = .returned (.bool true) ∧ Grow w w') ⟨#[.slice a0 k c0, .slice a1 j c1, .int .u8 fm, s3, s4, s5, s6, .int .u8 fm, .pointer (some ⟨w.heap.size, 0, .none⟩), .pointer (some ⟨w.heap.size + 1, 0, .none⟩), s10, s11, s12, s13, s14, s15, s16, s17, s18, s19, s20, s21, s22, s23, s24, s25, s26, s27, s28, s29, s30, s31, s32, s33, s34, s35, s36, s37, s38, s39, s40, s41, s42, s43, s44, s45, s46, s47, s48, s49, s50, s51, s52, s53, s54, s55, s56, s57, s58, s59, s60, s61, s62, s63, s64, s65, s66, s67, s68, s69, s70, s71, s72, s73, s74, s75, s76, s77, s78, s79, s80, s81, s82, s83, s84, s85, s86, s87, s88, s89, s90, s91, s92, s93, s94, s95, s96, s97, s98, s99, s100, s101, s102, s103, s104, s105, s106, s107, s108, s109, s110, s111, s112, s113, s114, s115, s116, s117, s118, s119, s120, s121, s122, s123, s124, s125, s126, s127, s128, s129, s130, s131, s132, s133, s134, s135, s136, s137, s138, s139, s140, s141, s142, s143, s144, s145, s146, s147, s148, s149, s150, s151, s152, s153, s154, s155, s156, s157, s158, s159, s160, s161, s162, s163, s164, s165, s166, s167, s168, s169, s170, s171, s172, s173, s174, s175, s176, s177, s178, s179, s180, s181, s182, s183, s184, s185, s186, s187, s188, s189, s190, s191, s192, s193, s194, s195, s196, s197, s198, s199, s200, s201, s202, s203, s204, s205, s206, s207, s208, s209, s210, s211, s212, s213, s214, s215, s216, s217, s218, s219, s220, s221, s222, s223, s224, s225, s226, s227, s228, s229, s230, s231, s232, s233, s234, s235, s236, s237, s238, s239, s240, s241, s242, s243, s244, s245, s246, s247, s248, s249, s250, s251, s252, s253, s254, s255, s256, s257, s258, s259, s260, s261, s262, s263, s264, s265, s266, s267, s268, s269, s270, s271, s272, s273, s274, s275, s276, s277, s278, s279, s280, s281, s282, s283, s284, s285, s286, s287, s288, s289, s290, s291, s292, s293, s294, s295, s296, s297, s298, s299, s300, s301, s302, s303, s304, s305, s306, s307, s308, s309, s310, s311, s312, s313, s314, s315, s316, s317, s318, s319, s320, s321, s322, s323, s324, s325, s326, s327, s328, s329], []⟩ wb := by
  obtain ⟨i9, hi9, hz9, hs9, hb9⟩ := info_parts Yba.info9
  obtain ⟨i5, hi5, hz5, hs5, hb5⟩ := info_parts Yba.info5
  conv => arg 2; whnf
  go_wp2_with fail
  rename_i hK3
  go_loopw [15, 16, 121] (fun nv vv ii wx => ∃ i : Nat, i ≤ k ∧ ii = .int .i64 i ∧ Hid (Wn wb wx ((o1 d i).map (·.1)) ((o1 d i).map (·.2)) nv vv (fun n => Ks d.nf (kn d) n i) (fun n => decide ((n : Int) ∈ uw d i)))) (fun _ _ ii _ => k - (intOf ii).toNat)
  case atStart => exact ⟨0, Nat.zero_le _, rfl, Wn.start wb _ _ (fun _ => rfl) (fun _ => by simp [uw])⟩
  case round =>
    obtain ⟨i, hik, rfl, HW⟩ := hrel
    obtain ⟨nv, hnv⟩ : ∃ x, x = u15 := ⟨_, rfl⟩
    subst hnv
    obtain ⟨vv, hvv⟩ : ∃ x, x = u16 := ⟨_, rfl⟩
    subst hvv
    by_cases hlt : i < k
    · -- BEGIN l3
      obtain rfl := (unhide HA).h0 (by omega)
      have hiI : (i : Int) < (k : Int) := by omega
      have hG1 := (unhide HG).trans (unhide HW).g
      have t0 := hG1.cell ((unhide HA).f0 i hlt)
      have t1 := hG1.cell ((unhide HA).f1 i hlt)
      have t2 := hG1.cell ((unhide HA).f2 i hlt)
      have t3 := hG1.cell ((unhide HA).f3 i hlt)
      obtain ⟨b0, b1⟩ := (unhide HA).b0 i hlt
      have h5 : fn i % 5 = n5 (fn i) := rfl
      have h5t : (fn i).tmod 5 = n5 (fn i) := Int.tmod_eq_emod_of_nonneg b0
      have h50 : 0 ≤ n5 (fn i) ∧ n5 (fn i) < 7 := by unfold n5; omega
      clear hG1
      have hlt5 := (unhide HW).lt
      have hneK : wb.heap.size ≠ wr.heap.size := by omega
      have hneU : wb.heap.size + 1 ≠ wr.heap.size := by omega
      have kK : ∀ o, (wr.alloc o).cell? ⟨wb.heap.size, (n5 (fn i)).toNat, .none⟩ = _ := fun o => ((Grow.refl wr).alloc o).cell ((unhide HW).cK (n5 (fn i)).toNat (by omega))
      have kU : ∀ o, (wr.alloc o).cell? ⟨wb.heap.size + 1, (n5 (fn i)).toNat, .none⟩ = _ := fun o => ((Grow.refl wr).alloc o).cell ((unhide HW).cU (n5 (fn i)).toNat (by omega))
      have zK : ∀ o p, (wr.alloc o).frozen? ⟨wb.heap.size, p, .none⟩ = false := fun o p => ((unhide HW).grow ((Grow.refl wr).alloc o)).zK p
      have zU : ∀ o p, (wr.alloc o).frozen? ⟨wb.heap.size + 1, p, .none⟩ = false := fun o p => ((unhide HW).grow ((Grow.refl wr).alloc o)).zU p
      have hha : ha i = true ∨ ha i = false := by cases ha i <;> simp
      have hol := o1_len d i
      have hml1 : ((o1 d i).map (·.1)).length ≤ 4096 := by rw [List.length_map]; omega
      have hml2 : ((o1 d i).map (·.2)).length ≤ 4096 := by rw [List.length_map]; omega
      have nL : some wr.heap.size ≠ nv.ownBlock := fun e => by have := (owns_lt (unhide HW).oN e.symm).1; omega
      have HW0 : Hid (∀ o, W3 wb (wr.alloc o) d i nv vv) := fun o => (unhide HW).grow ((Grow.refl wr).alloc o)
      have HWk : Hid (∀ o, Wn wb ((wr.alloc o).setCell ⟨wb.heap.size, (n5 (fn i)).toNat, .none⟩ (.bool true)) ((o1 d i).map (·.1)) ((o1 d i).map (·.2)) nv vv (fun n => Ks d.nf (kn d) n i || decide (n = (n5 (fn i)).toNat)) (fun n => decide ((n : Int) ∈ uw d i))) := fun o => (unhide HW0 o).know (by omega)
      clear hol
      rcases kcases (co i) fm with ⟨q1, q0⟩ | ⟨q1, q2, q0⟩ | ⟨q1, q2, q3, q0⟩ | ⟨q1, q2, q3, q0⟩
      · have q4 : (fm != 2) = false := by simp at q1; simp [q1]
        rcases hha with p | p
        · -- BEGIN c1t
          go_wp2_with (first | (at_builtin; refine wpList_append_lies _ rfl _ _ 34 rfl (wb.heap.size + 2) 5 i5 _ 1 1 Yba.underlying34 hi5 hz5 hs5 hb5 rfl (by decide) nv ((o1 d i).map (·.1)).length (((o1 d i).map (·.1)).map fun n => .int .u8 n) rfl (by exact ((unhide HW0 _).grow ((Grow.refl _).alloc _)).oN) ⟨wr.heap.size + 1, 0, .none⟩ 1 1 [.int .u8 (n5 (fn i))] rfl rfl (by exact one_news (by simp) _ _) (by intro u hu; simp at hu; subst hu; rfl) (by decide) (by unfold maxLen; omega) (by omega) (by exact ((unhide HW0 _).grow ((Grow.refl _).alloc _)).lt) _ rfl ?_; intro g3 cap3 w3 hown hgr hat hlt3; have HW3 := hide ((unhide HW0 _).appN ((Grow.refl _).alloc _) hgr hown); have c3 := hgr.cell (a := ⟨wr.heap.size, 3, .none⟩) (v := .string (va i)) (by go_simp) nL; clear hown hgr hat hlt3) | (at_builtin; refine wpList_append_lies _ rfl _ _ 54 rfl (wb.heap.size + 2) 9 i9 _ 1 16 Yba.underlying54 hi9 hz9 hs9 hb9 rfl (by decide) vv ((o1 d i).map (·.2)).length (((o1 d i).map (·.2)).map .string) rfl (by exact ((unhide HW3).grow ((Grow.refl _).alloc _)).oV) ⟨w3.heap.size, 0, .none⟩ 1 1 [.string (va i)] rfl rfl (by exact one_news rfl _ _) (by intro u hu; simp at hu; subst hu; rfl) (by decide) (by unfold maxLen; omega) (by omega) (by exact ((unhide HW3).grow ((Grow.refl _).alloc _)).lt) _ rfl ?_; intro g4 cap4 w4 hown hgr hat hlt4; have HW4 := hide ((unhide HW3).appV ((Grow.refl _).alloc _) hgr hown); have kU4 := (unhide HW4).cU (n5 (fn i)).toNat (by omega); have zU4 := (unhide HW4).zU; clear hown hgr hat hlt4))
          simp only [List.length_map] at HW4
          exact ⟨⟨i + 1, by omega, by go_num, fin2 (unhide HD) p q0 ((unhide HW4).unkn (by omega))⟩, by simp [intOf]; omega⟩
          -- END c1t
        · -- BEGIN c1f
          go_wp2_with fail
          exact ⟨⟨i + 1, by omega, by go_num, fin3 (unhide HD) p q0 (unhide HW0 _)⟩, by simp [intOf]; omega⟩
          -- END c1f
      · have q4 : (fm != 2) = true := by simp at q1; simp [q1]
        rcases hha with p | p
        · -- BEGIN c2t
          go_wp2_with (first | (at_builtin; refine wpList_append_lies _ rfl _ _ 34 rfl (wb.heap.size + 2) 5 i5 _ 1 1 Yba.underlying34 hi5 hz5 hs5 hb5 rfl (by decide) nv ((o1 d i).map (·.1)).length (((o1 d i).map (·.1)).map fun n => .int .u8 n) rfl (by exact ((unhide HWk _).grow ((Grow.refl _).alloc _)).oN) ⟨wr.heap.size + 1, 0, .none⟩ 1 1 [.int .u8 (n5 (fn i))] rfl rfl (by exact one_news (by simp) _ _) (by intro u hu; simp at hu; subst hu; rfl) (by decide) (by unfold maxLen; omega) (by omega) (by exact ((unhide HWk _).grow ((Grow.refl _).alloc _)).lt) _ rfl ?_; intro g3 cap3 w3 hown hgr hat hlt3; have HW3 := hide ((unhide HWk _).appN ((Grow.refl _).alloc _) hgr hown); have c3 := hgr.cell (a := ⟨wr.heap.size, 3, .none⟩) (v := .string (va i)) (by go_simp) nL; clear hown hgr hat hlt3) | (at_builtin; refine wpList_append_lies _ rfl _ _ 54 rfl (wb.heap.size + 2) 9 i9 _ 1 16 Yba.underlying54 hi9 hz9 hs9 hb9 rfl (by decide) vv ((o1 d i).map (·.2)).length (((o1 d i).map (·.2)).map .string) rfl (by exact ((unhide HW3).grow ((Grow.refl _).alloc _)).oV) ⟨w3.heap.size, 0, .none⟩ 1 1 [.string (va i)] rfl rfl (by exact one_news rfl _ _) (by intro u hu; simp at hu; subst hu; rfl) (by decide) (by unfold maxLen; omega) (by omega) (by exact ((unhide HW3).grow ((Grow.refl _).alloc _)).lt) _ rfl ?_; intro g4 cap4 w4 hown hgr hat hlt4; have HW4 := hide ((unhide HW3).appV ((Grow.refl _).alloc _) hgr hown); clear hown hgr hat hlt4))
          simp only [List.length_map] at HW4
          exact ⟨⟨i + 1, by omega, by go_num, fin1 (unhide HD) p q0 (unhide HW4)⟩, by simp [intOf]; omega⟩
          -- END c2t
        · -- BEGIN c2f
          go_wp2_with fail
          have HWj := hide (unhide HWk (.cells #[.int .u8 (fn i), .bool false, .bool false, .string (va i)] 63))
          clear kK kU zK zU HW0 HWk t0 t1 t2 t3 nL
          generalize (wr.alloc (.cells #[.int .u8 (fn i), .bool false, .bool false, .string (va i)] 63)).setCell ⟨wb.heap.size, (n5 (fn i)).toNat, .none⟩ (.bool true) = wk at *
          generalize wr.heap.size = LB at *
          go_loopw [15, 16, 163] (fun nv' vv' jj wz => ∃ m : Nat, m ≤ j ∧ jj = .int .i64 m ∧ Hid (∀ x, x < m → n7 (en x) ≠ n5 (fn i)) ∧ nv' = nv ∧ vv' = vv ∧ wz = wk) (fun _ _ jj _ => j - (intOf jj).toNat)
          case atStart => exact ⟨0, Nat.zero_le _, rfl, fun x hx => absurd hx (Nat.not_lt_zero _), rfl, rfl, rfl⟩
          case round =>
            obtain ⟨m, hmj, rfl, HF, rfl, rfl, rfl⟩ := hrel
            by_cases hlt2 : m < j
            · obtain rfl := (unhide HA).ein.h (by omega)
              have hmI : (m : Int) < (j : Int) := by omega
              obtain ⟨b2, b3⟩ := (unhide HA).ein.b m hlt2
              have h7 : en m % 7 = n7 (en m) := rfl
              have h7t : (en m).tmod 7 = n7 (en m) := Int.tmod_eq_emod_of_nonneg b2
              have hG1 := (unhide HG).trans (unhide HWj).g
              have e0 := hG1.cell ((unhide HA).ein.e0 m hlt2)
              have e1 := hG1.cell ((unhide HA).ein.e1 m hlt2)
              clear hG1
              by_cases hq : n7 (en m) = n5 (fn i)
              · have hq1 : (n7 (en m) == n5 (fn i)) = true := by simp [hq]
                have HQ := hide hq
                clear hq
                have hebl : eb < w.heap.size := World.block_lt_of_cell? w ⟨eb, eo + m * 2, .none⟩ ((unhide HA).ein.e0 m hlt2)
                have nE : some eb ≠ u15.ownBlock := fun e => by
                  have h1 := (owns_lt (unhide HWj).oN e.symm).2
                  have h2 := (unhide HG).size
                  omega
                go_wp2_with (first | (at_builtin; refine wpList_append_lies _ rfl _ _ 34 rfl (wb.heap.size + 2) 5 i5 _ 1 1 Yba.underlying34 hi5 hz5 hs5 hb5 rfl (by decide) u15 ((o1 d i).map (·.1)).length (((o1 d i).map (·.1)).map fun n => .int .u8 n) rfl (by exact ((unhide HWj).grow ((Grow.refl _).alloc _)).oN) ⟨wr.heap.size, 0, .none⟩ 1 1 [.int .u8 (n5 (fn i))] rfl rfl (by exact one_news (by simp) _ _) (by intro u hu; simp at hu; subst hu; rfl) (by decide) (by unfold maxLen; omega) (by omega) (by exact ((unhide HWj).grow ((Grow.refl _).alloc _)).lt) _ rfl ?_; intro g3 cap3 w3 hown hgr hat hlt3; have HW3 := hide ((unhide HWj).appN ((Grow.refl _).alloc _) hgr hown); have c3 := hgr.cell (((Grow.refl _).alloc _).cell e1) nE; clear hown hgr hat hlt3) | (at_builtin; refine wpList_append_lies _ rfl _ _ 54 rfl (wb.heap.size + 2) 9 i9 _ 1 16 Yba.underlying54 hi9 hz9 hs9 hb9 rfl (by decide) u16 ((o1 d i).map (·.2)).length (((o1 d i).map (·.2)).map .string) rfl (by exact ((unhide HW3).grow ((Grow.refl _).alloc _)).oV) ⟨w3.heap.size, 0, .none⟩ 1 1 [.string (ev m)] rfl rfl (by exact one_news rfl _ _) (by intro u hu; simp at hu; subst hu; rfl) (by decide) (by unfold maxLen; omega) (by omega) (by exact ((unhide HW3).grow ((Grow.refl _).alloc _)).lt) _ rfl ?_; intro g4 cap4 w4 hown hgr hat hlt4; have HW4 := hide ((unhide HW3).appV ((Grow.refl _).alloc _) hgr hown); clear hown hgr hat hlt4))
                simp only [List.length_map] at HW4
                exact ⟨⟨i + 1, by omega, by go_num, fin4 (unhide HD) p q0 hlt2 (unhide HF) (unhide HQ) (unhide HW4)⟩, by simp [intOf]; omega⟩
              · have hq1 : (n7 (en m) == n5 (fn i)) = false := by simp [hq]
                have HQ := hide hq
                clear hq
                go_wp2_with fail
                refine ⟨⟨m + 1, by omega, by go_num, fun x hx => ?_, rfl, rfl, trivial⟩, by simp [intOf]; omega⟩
                by_cases e : x = m
                · subst e; exact unhide HQ
                · exact unhide HF x (by omega)
            · obtain rfl : m = j := by omega
              go_wp2_with fail
              exact ⟨⟨i + 1, by omega, by go_num, fin5 (unhide HD) p q0 (unhide HF) (unhide HWj)⟩, by simp [intOf]; omega⟩
          -- END c2f
      · have q4 : (fm != 2) = true := by simp at q1; simp [q1]
        have q5 : (fm == 1) = true := by simp at q3; simp [q3]
        rcases hha with p | p
        · -- BEGIN c3t
          go_wp2_with (first | (at_builtin; refine wpList_append_lies _ rfl _ _ 34 rfl (wb.heap.size + 2) 5 i5 _ 1 1 Yba.underlying34 hi5 hz5 hs5 hb5 rfl (by decide) nv ((o1 d i).map (·.1)).length (((o1 d i).map (·.1)).map fun n => .int .u8 n) rfl (by exact ((unhide HWk _).grow ((Grow.refl _).alloc _)).oN) ⟨wr.heap.size + 1, 0, .none⟩ 1 1 [.int .u8 (n5 (fn i))] rfl rfl (by exact one_news (by simp) _ _) (by intro u hu; simp at hu; subst hu; rfl) (by decide) (by unfold maxLen; omega) (by omega) (by exact ((unhide HWk _).grow ((Grow.refl _).alloc _)).lt) _ rfl ?_; intro g3 cap3 w3 hown hgr hat hlt3; have HW3 := hide ((unhide HWk _).appN ((Grow.refl _).alloc _) hgr hown); have c3 := hgr.cell (a := ⟨wr.heap.size, 3, .none⟩) (v := .string (va i)) (by go_simp) nL; clear hown hgr hat hlt3) | (at_builtin; refine wpList_append_lies _ rfl _ _ 54 rfl (wb.heap.size + 2) 9 i9 _ 1 16 Yba.underlying54 hi9 hz9 hs9 hb9 rfl (by decide) vv ((o1 d i).map (·.2)).length (((o1 d i).map (·.2)).map .string) rfl (by exact ((unhide HW3).grow ((Grow.refl _).alloc _)).oV) ⟨w3.heap.size, 0, .none⟩ 1 1 [.string (va i)] rfl rfl (by exact one_news rfl _ _) (by intro u hu; simp at hu; subst hu; rfl) (by decide) (by unfold maxLen; omega) (by omega) (by exact ((unhide HW3).grow ((Grow.refl _).alloc _)).lt) _ rfl ?_; intro g4 cap4 w4 hown hgr hat hlt4; have HW4 := hide ((unhide HW3).appV ((Grow.refl _).alloc _) hgr hown); clear hown hgr hat hlt4))
          simp only [List.length_map] at HW4
          exact ⟨⟨i + 1, by omega, by go_num, fin1 (unhide HD) p q0 (unhide HW4)⟩, by simp [intOf]; omega⟩
          -- END c3t
        · -- BEGIN c3f
          go_wp2_with fail
          have HWj := hide (unhide HWk (.cells #[.int .u8 (fn i), .bool true, .bool false, .string (va i)] 63))
          clear kK kU zK zU HW0 HWk t0 t1 t2 t3 nL
          generalize (wr.alloc (.cells #[.int .u8 (fn i), .bool true, .bool false, .string (va i)] 63)).setCell ⟨wb.heap.size, (n5 (fn i)).toNat, .none⟩ (.bool true) = wk at *
          generalize wr.heap.size = LB at *
          go_loopw [15, 16, 163] (fun nv' vv' jj wz => ∃ m : Nat, m ≤ j ∧ jj = .int .i64 m ∧ Hid (∀ x, x < m → n7 (en x) ≠ n5 (fn i)) ∧ nv' = nv ∧ vv' = vv ∧ wz = wk) (fun _ _ jj _ => j - (intOf jj).toNat)
          case atStart => exact ⟨0, Nat.zero_le _, rfl, fun x hx => absurd hx (Nat.not_lt_zero _), rfl, rfl, rfl⟩
          case round =>
            obtain ⟨m, hmj, rfl, HF, rfl, rfl, rfl⟩ := hrel
            by_cases hlt2 : m < j
            · obtain rfl := (unhide HA).ein.h (by omega)
              have hmI : (m : Int) < (j : Int) := by omega
              obtain ⟨b2, b3⟩ := (unhide HA).ein.b m hlt2
              have h7 : en m % 7 = n7 (en m) := rfl
              have h7t : (en m).tmod 7 = n7 (en m) := Int.tmod_eq_emod_of_nonneg b2
              have hG1 := (unhide HG).trans (unhide HWj).g
              have e0 := hG1.cell ((unhide HA).ein.e0 m hlt2)
              have e1 := hG1.cell ((unhide HA).ein.e1 m hlt2)
              clear hG1
              by_cases hq : n7 (en m) = n5 (fn i)
              · have hq1 : (n7 (en m) == n5 (fn i)) = true := by simp [hq]
                have HQ := hide hq
                clear hq
                have hebl : eb < w.heap.size := World.block_lt_of_cell? w ⟨eb, eo + m * 2, .none⟩ ((unhide HA).ein.e0 m hlt2)
                have nE : some eb ≠ u15.ownBlock := fun e => by
                  have h1 := (owns_lt (unhide HWj).oN e.symm).2
                  have h2 := (unhide HG).size
                  omega
                go_wp2_with (first | (at_builtin; refine wpList_append_lies _ rfl _ _ 34 rfl (wb.heap.size + 2) 5 i5 _ 1 1 Yba.underlying34 hi5 hz5 hs5 hb5 rfl (by decide) u15 ((o1 d i).map (·.1)).length (((o1 d i).map (·.1)).map fun n => .int .u8 n) rfl (by exact ((unhide HWj).grow ((Grow.refl _).alloc _)).oN) ⟨wr.heap.size, 0, .none⟩ 1 1 [.int .u8 (n5 (fn i))] rfl rfl (by exact one_news (by simp) _ _) (by intro u hu; simp at hu; subst hu; rfl) (by decide) (by unfold maxLen; omega) (by omega) (by exact ((unhide HWj).grow ((Grow.refl _).alloc _)).lt) _ rfl ?_; intro g3 cap3 w3 hown hgr hat hlt3; have HW3 := hide ((unhide HWj).appN ((Grow.refl _).alloc _) hgr hown); have c3 := hgr.cell (((Grow.refl _).alloc _).cell e1) nE; clear hown hgr hat hlt3) | (at_builtin; refine wpList_append_lies _ rfl _ _ 54 rfl (wb.heap.size + 2) 9 i9 _ 1 16 Yba.underlying54 hi9 hz9 hs9 hb9 rfl (by decide) u16 ((o1 d i).map (·.2)).length (((o1 d i).map (·.2)).map .string) rfl (by exact ((unhide HW3).grow ((Grow.refl _).alloc _)).oV) ⟨w3.heap.size, 0, .none⟩ 1 1 [.string (ev m)] rfl rfl (by exact one_news rfl _ _) (by intro u hu; simp at hu; subst hu; rfl) (by decide) (by unfold maxLen; omega) (by omega) (by exact ((unhide HW3).grow ((Grow.refl _).alloc _)).lt) _ rfl ?_; intro g4 cap4 w4 hown hgr hat hlt4; have HW4 := hide ((unhide HW3).appV ((Grow.refl _).alloc _) hgr hown); clear hown hgr hat hlt4))
                simp only [List.length_map] at HW4
                exact ⟨⟨i + 1, by omega, by go_num, fin4 (unhide HD) p q0 hlt2 (unhide HF) (unhide HQ) (unhide HW4)⟩, by simp [intOf]; omega⟩
              · have hq1 : (n7 (en m) == n5 (fn i)) = false := by simp [hq]
                have HQ := hide hq
                clear hq
                go_wp2_with fail
                refine ⟨⟨m + 1, by omega, by go_num, fun x hx => ?_, rfl, rfl, trivial⟩, by simp [intOf]; omega⟩
                by_cases e : x = m
                · subst e; exact unhide HQ
                · exact unhide HF x (by omega)
            · obtain rfl : m = j := by omega
              go_wp2_with fail
              exact ⟨⟨i + 1, by omega, by go_num, fin5 (unhide HD) p q0 (unhide HF) (unhide HWj)⟩, by simp [intOf]; omega⟩
          -- END c3f
      · have q4 : (fm != 2) = true := by simp at q1; simp [q1]
        have q5 : (fm == 1) = false := by simp at q3; simp [q3]
        rcases hha with p | p
        · -- BEGIN c4t
          go_wp2_with (first | (at_builtin; refine wpList_append_lies _ rfl _ _ 34 rfl (wb.heap.size + 2) 5 i5 _ 1 1 Yba.underlying34 hi5 hz5 hs5 hb5 rfl (by decide) nv ((o1 d i).map (·.1)).length (((o1 d i).map (·.1)).map fun n => .int .u8 n) rfl (by exact ((unhide HW0 _).grow ((Grow.refl _).alloc _)).oN) ⟨wr.heap.size + 1, 0, .none⟩ 1 1 [.int .u8 (n5 (fn i))] rfl rfl (by exact one_news (by simp) _ _) (by intro u hu; simp at hu; subst hu; rfl) (by decide) (by unfold maxLen; omega) (by omega) (by exact ((unhide HW0 _).grow ((Grow.refl _).alloc _)).lt) _ rfl ?_; intro g3 cap3 w3 hown hgr hat hlt3; have HW3 := hide ((unhide HW0 _).appN ((Grow.refl _).alloc _) hgr hown); have c3 := hgr.cell (a := ⟨wr.heap.size, 3, .none⟩) (v := .string (va i)) (by go_simp) nL; clear hown hgr hat hlt3) | (at_builtin; refine wpList_append_lies _ rfl _ _ 54 rfl (wb.heap.size + 2) 9 i9 _ 1 16 Yba.underlying54 hi9 hz9 hs9 hb9 rfl (by decide) vv ((o1 d i).map (·.2)).length (((o1 d i).map (·.2)).map .string) rfl (by exact ((unhide HW3).grow ((Grow.refl _).alloc _)).oV) ⟨w3.heap.size, 0, .none⟩ 1 1 [.string (va i)] rfl rfl (by exact one_news rfl _ _) (by intro u hu; simp at hu; subst hu; rfl) (by decide) (by unfold maxLen; omega) (by omega) (by exact ((unhide HW3).grow ((Grow.refl _).alloc _)).lt) _ rfl ?_; intro g4 cap4 w4 hown hgr hat hlt4; have HW4 := hide ((unhide HW3).appV ((Grow.refl _).alloc _) hgr hown); have kU4 := (unhide HW4).cU (n5 (fn i)).toNat (by omega); have zU4 := (unhide HW4).zU; clear hown hgr hat hlt4))
          simp only [List.length_map] at HW4
          exact ⟨⟨i + 1, by omega, by go_num, fin2 (unhide HD) p q0 ((unhide HW4).unkn (by omega))⟩, by simp [intOf]; omega⟩
          -- END c4t
        · -- BEGIN c4f
          go_wp2_with fail
          exact ⟨⟨i + 1, by omega, by go_num, fin3 (unhide HD) p q0 (unhide HW0 _)⟩, by simp [intOf]; omega⟩
          -- END c4f
      -- END l3
    · obtain rfl : i = k := by omega
      have HK3 := hide hK3
      clear hK3
      go_wp2_with fail
      refine unhide HK3 _ _ ?_
      exact tailB a0 a1 i j c0 c1 fb fo eb eo fn co ha va en ev fm w wb d FB HB' VB XB sc hc vc xc sa aa ab xa bx hlen HA HG HM hwl HBn HD nv vv wr HW _ _ _ _ _ _ _ _ _ _ _ _ _ _ _ _ _ _ _ _ _ _ _ _ _ _ _ _ _ _ _ _ _ _ _ _ _ _ _ _ _ _ _ _ _ _ _ _ _ _ _ _ _ _ _ _ _ _ _ _ _ _ _ _ _ _ _ _ _ _ _ _ _ _ _ _ _ _ _ _ _ _ _ _ _ _ _ _ _ _ _ _ _ _ _ _ _ _ _ _ _ _ _ _ _ _ _ _ _ _ _ _ _ _ _ _ _ _ _ _ _ _ _ _ _ _ _ _ _ _ _ _ _ _ _ _ _ _ _ _ _ _ _ _ _ _ _ _ _ _ _ _ _ _ _ _ _ _ _ _ _ _ _ _ _ _ _ _ _ _ _ _ _ _ _ _ _ _ _ _ _ _ _ _ _ _ _ _ _ _ _ _ _ _ _ _ _ _ _ _ _ _ _ _ _ _ _ _ _ _ _ _ _ _ _ _ _ _ _ _ _ _ _ _ _ _ _ _ _ _ _ _ _ _ _ _ _ _ _ _ _ _ _ _ _ _ _ _ _ _ _ _ _ _ _ _ _ _ _ _ _ _ _ _ _ _ _ _ _ _ _ _ _ _ _ _ _ _ _ _ _ _ _ _ _ _ _ _ _ _ _ _ _ _ _ _ _ _ _ _ _ _ _ _ _ _ _ _ _ _ _ _ _ _ _ _ _ _ _ _
end Go.Proofs.Ybulkejtm
