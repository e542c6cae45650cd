import Derived.Test.YbulkejtmEnds
namespace Go.Proofs.Ybulkejtm
open Go.ChangeShapes Go.WideShapes Go.ChangeAt Go.RowKit
set_option linter.unusedSimpArgs false
set_option linter.unusedVariables false

set_option maxRecDepth 100000 in
set_option maxHeartbeats 100000000 in
theorem tailB (a0 a1 : Option Addr) (i j c0 c1 fb fo eb eo : Nat) (fn : Nat → Int) (co ha : Nat → Bool) (va : Nat → ByteArray) (en : Nat → Int) (ev : Nat → ByteArray) (fm : Int) (w wb : World) (d : Dat) (FB HB' VB XB sc hc vc xc : Nat) (sa aa ab xa : Option Addr) (bx : Nat → Nat)
    (hlen : i + j ≤ 4096) (HA : Hid (ArgB w a0 a1 i j fb fo eb eo fn co ha va en ev)) (HG : Hid (Grow w wb)) (HM : Hid (Mem wb ⟨w.heap.size, w.heap.size + 1, FB, HB', VB, XB, sc, hc, vc, xc, sa, aa, ab, xa, bx⟩ d)) (hwl : w.heap.size + 2 ≤ wb.heap.size) (HBn : Hid (Bnd d)) (HD : Hid (datB i j fn co ha va en ev fm = d)) (nv vv : Value) (wr : World) (HW : Hid (W3 wb wr d i nv vv))
    (s3 s4 s5 s6 s10 s11 s12 s17 s18 s19 s20 s21 s22 s23 s24 s25 s26 s27 s28 s29 s30 s31 s32 s33 s34 s35 s36 s37 s38 s39 s40 s41 s42 s43 s44 s45 s46 s47 s48 s49 s50 s51 s52 s53 s54 s55 s56 s57 s58 s59 s60 s61 s62 s63 s64 s65 s66 s67 s68 s69 s70 s71 s72 s73 s74 s75 s76 s77 s78 s79 s80 s81 s82 s83 s84 s85 s86 s87 s88 s89 s90 s91 s92 s93 s94 s95 s96 s97 s98 s99 s100 s101 s102 s103 s104 s105 s106 s107 s108 s109 s110 s111 s112 s113 s114 s115 s116 s117 s118 s119 s120 s121 s122 s123 s124 s125 s126 s127 s128 s129 s130 s131 s132 s133 s134 s135 s136 s137 s138 s139 s140 s141 s142 s143 s144 s145 s146 s147 s148 s149 s150 s151 s152 s153 s154 s155 s156 s157 s158 s159 s160 s161 s162 s163 s164 s165 s166 s167 s168 s169 s170 s171 s172 s173 s174 s175 s176 s177 s178 s179 s180 s181 s182 s183 s184 s185 s186 s187 s188 s189 s190 s191 s192 s193 s194 s195 s196 s197 s198 s199 s200 s201 s202 s203 s204 s205 s206 s207 s208 s209 s210 s211 s212 s213 s214 s215 s216 s217 s218 s219 s220 s221 s222 s223 s224 s225 s226 s227 s228 s229 s230 s231 s232 s233 s234 s235 s236 s237 s238 s239 s240 s241 s242 s243 s244 s245 s246 s247 s248 s249 s250 s251 s252 s253 s254 s255 s256 s257 s258 s259 s260 s261 s262 s263 s264 s265 s266 s267 s268 s269 s270 s271 s272 s273 s274 s275 s276 s277 s278 s279 s280 s281 s282 s283 s284 s285 s286 s287 s288 s289 s290 s291 s292 s293 s294 s295 s296 s297 s298 s299 s300 s301 s302 s303 s304 s305 s306 s307 s308 s309 s310 s311 s312 s313 s314 s315 s316 s317 s318 s319 s320 s321 s322 s323 s324 s325 s326 s327 s328 s329 : Value) :
    Code.wp Yba.prog codeB (bodyPost Yba.prog Yba.f4 fun e w' => e = .returned (.bool true) ∧ Grow w w') ⟨#[.slice a0 i c0, .slice a1 j c1, .int .u8 fm, s3, s4, s5, s6, .int .u8 fm, .pointer (some ⟨w.heap.size, 0, .none⟩), .pointer (some ⟨w.heap.size + 1, 0, .none⟩), s10, s11, s12, .pointer (some ⟨wb.heap.size, 0, .none⟩), .pointer (some ⟨wb.heap.size + 1, 0, .none⟩), nv, vv, s17, s18, s19, s20, s21, s22, s23, s24, s25, s26, s27, s28, s29, s30, s31, s32, s33, s34, s35, s36, s37, s38, s39, s40, s41, s42, s43, s44, s45, s46, s47, s48, s49, s50, s51, s52, s53, s54, s55, s56, s57, s58, s59, s60, s61, s62, s63, s64, s65, s66, s67, s68, s69, s70, s71, s72, s73, s74, s75, s76, s77, s78, s79, s80, s81, s82, s83, s84, s85, s86, s87, s88, s89, s90, s91, s92, s93, s94, s95, s96, s97, s98, s99, s100, s101, s102, s103, s104, s105, s106, s107, s108, s109, s110, s111, s112, s113, s114, s115, s116, s117, s118, s119, s120, s121, s122, s123, s124, s125, s126, s127, s128, s129, s130, s131, s132, s133, s134, s135, s136, s137, s138, s139, s140, s141, s142, s143, s144, s145, s146, s147, s148, s149, s150, s151, s152, s153, s154, s155, s156, s157, s158, s159, s160, s161, s162, s163, s164, s165, s166, s167, s168, s169, s170, s171, s172, s173, s174, s175, s176, s177, s178, s179, s180, s181, s182, s183, s184, s185, s186, s187, s188, s189, s190, s191, s192, s193, s194, s195, s196, s197, s198, s199, s200, s201, s202, s203, s204, s205, s206, s207, s208, s209, s210, s211, s212, s213, s214, s215, s216, s217, s218, s219, s220, s221, s222, s223, s224, s225, s226, s227, s228, s229, s230, s231, s232, s233, s234, s235, s236, s237, s238, s239, s240, s241, s242, s243, s244, s245, s246, s247, s248, s249, s250, s251, s252, s253, s254, s255, s256, s257, s258, s259, s260, s261, s262, s263, s264, s265, s266, s267, s268, s269, s270, s271, s272, s273, s274, s275, s276, s277, s278, s279, s280, s281, s282, s283, s284, s285, s286, s287, s288, s289, s290, s291, s292, s293, s294, s295, s296, s297, s298, s299, s300, s301, s302, s303, s304, s305, s306, s307, s308, s309, s310, s311, s312, s313, s314, s315, s316, s317, s318, s319, s320, s321, s322, s323, s324, s325, s326, s327, s328, s329], []⟩ wr := by
  obtain ⟨i9, hi9, hz9, hs9, hb9⟩ := info_parts Yba.info9
  obtain ⟨i5, hi5, hz5, hs5, hb5⟩ := info_parts Yba.info5
  conv => arg 2; whnf
  have HW5 := hide (W5.start (unhide HD) (unhide HW))
  clear HW
  go_wp2_with fail
  go_loopw [15, 16, 190] (fun nv' vv' jj wz => ∃ m : Nat, m ≤ j ∧ jj = .int .i64 m ∧ Hid (W5 wb wz d m nv' vv')) (fun _ _ jj _ => j - (intOf jj).toNat)
  case atStart => exact ⟨0, Nat.zero_le _, rfl, unhide HW5⟩
  case round =>
    clear HW5
    obtain ⟨m, hmj, rfl, HW⟩ := hrel
    obtain ⟨nv, hnv⟩ : ∃ x, x = u15 := ⟨_, rfl⟩
    subst hnv
    obtain ⟨vv, hvv⟩ : ∃ x, x = u16 := ⟨_, rfl⟩
    subst hvv
    by_cases hlt2 : m < j
    · -- BEGIN l5
      obtain rfl := (unhide HA).ein.h (by omega)
      have hmI : (m : Int) < (j : Int) := by omega
      obtain ⟨b2, b3⟩ := (unhide HA).ein.b m hlt2
      have h7 : en m % 7 = n7 (en m) := rfl
      have h7t : (en m).tmod 7 = n7 (en m) := Int.tmod_eq_emod_of_nonneg b2
      have h70 : 0 ≤ n7 (en m) ∧ n7 (en m) < 7 := by unfold n7; omega
      have hG1 := (unhide HG).trans (unhide HW).g
      have e0 := hG1.cell ((unhide HA).ein.e0 m hlt2)
      have e1 := hG1.cell ((unhide HA).ein.e1 m hlt2)
      clear hG1
      obtain ⟨x, y, kx, ky, hr⟩ := W5.cells (unhide HD) (unhide HW)
      have HR := hide hr
      clear hr
      cases x
      · cases y
        · have hol := o1_len d d.F
          have hol2 := o2_len d m
          have hdF : d.F = i := by rw [← unhide HD]; rfl
          have hml1 : ((o1 d d.F ++ o2 d m).map (·.1)).length ≤ 4096 := by rw [List.length_map, List.length_append]; omega
          have hml2 : ((o1 d d.F ++ o2 d m).map (·.2)).length ≤ 4096 := by rw [List.length_map, List.length_append]; omega
          clear hol hol2 hdF
          have hebl : eb < w.heap.size := World.block_lt_of_cell? w ⟨eb, eo + m * 2, .none⟩ ((unhide HA).ein.e0 m hlt2)
          have nE : some eb ≠ nv.ownBlock := fun e => by
            have h1 := (owns_lt (unhide HW).oN e.symm).2
            have h2 := (unhide HG).size
            omega
          go_wp2_with (first | (at_builtin; refine wpList_append_lies _ rfl _ _ 34 rfl (wb.heap.size + 2) 5 i5 _ 1 1 Yba.underlying34 hi5 hz5 hs5 hb5 rfl (by decide) nv ((o1 d d.F ++ o2 d m).map (·.1)).length (((o1 d d.F ++ o2 d m).map (·.1)).map fun n => .int .u8 n) rfl (by exact ((unhide HW).grow ((Grow.refl _).alloc _)).oN) ⟨wr.heap.size, 0, .none⟩ 1 1 [.int .u8 (n7 (en m))] rfl rfl (by exact one_news (by simp) _ _) (by intro u hu; simp at hu; subst hu; rfl) (by decide) (by unfold maxLen; omega) (by omega) (by exact ((unhide HW).grow ((Grow.refl _).alloc _)).lt) _ rfl ?_; intro g3 cap3 w3 hown hgr hat hlt3; have HW3 := hide ((unhide HW).appN ((Grow.refl _).alloc _) hgr hown); have c3 := hgr.cell (((Grow.refl _).alloc _).cell e1) nE; clear hown hgr hat hlt3) | (at_builtin; refine wpList_append_lies _ rfl _ _ 54 rfl (wb.heap.size + 2) 9 i9 _ 1 16 Yba.underlying54 hi9 hz9 hs9 hb9 rfl (by decide) vv ((o1 d d.F ++ o2 d m).map (·.2)).length (((o1 d d.F ++ o2 d m).map (·.2)).map .string) rfl (by exact ((unhide HW3).grow ((Grow.refl _).alloc _)).oV) ⟨w3.heap.size, 0, .none⟩ 1 1 [.string (ev m)] rfl rfl (by exact one_news rfl _ _) (by intro u hu; simp at hu; subst hu; rfl) (by decide) (by unfold maxLen; omega) (by omega) (by exact ((unhide HW3).grow ((Grow.refl _).alloc _)).lt) _ rfl ?_; intro g4 cap4 w4 hown hgr hat hlt4; have HW4 := hide ((unhide HW3).appV ((Grow.refl _).alloc _) hgr hown); clear hown hgr hat hlt4))
          simp only [List.length_map, List.length_append] at HW4
          exact ⟨⟨m + 1, by omega, by go_num, W5.app (unhide HD) (unhide HR) (unhide HW4)⟩, by simp [intOf]; omega⟩
        · go_wp2_with fail
          exact ⟨⟨m + 1, by omega, by go_num, W5.skip (unhide HW) (unhide HR)⟩, by simp [intOf]; omega⟩
      · go_wp2_with fail
        exact ⟨⟨m + 1, by omega, by go_num, W5.skip (unhide HW) (unhide HR)⟩, by simp [intOf]; omega⟩
      -- END l5
    · obtain rfl : m = j := by omega
      have hdE : d.E = m := by rw [← unhide HD]; rfl
      have hfm : d.fm = fm := by rw [← unhide HD]; rfl
      have h5 : W5 wb wr d d.E nv vv := by rw [hdE]; exact unhide HW
      have hwr := write_any _ d wr ((unhide HM).grow (unhide HW).g) (unhide HBn)
      rw [hfm] at hwr
      have H5 := hide h5
      have HWR := hide hwr
      clear h5 hfm hwr
      obtain ⟨wq, hwq⟩ : ∃ x, x = wr := ⟨_, rfl⟩
      subst hwq
      go_wp2_with fail
      refine (unhide HWR).mono ?_
      rintro e wg ⟨v, rfl, hown, hgg⟩
      obtain ⟨n, ga, GB, gc, na, NB, nc, sb, WB, wc, px, pt, hn4, rfl, rfl, rfl, hp, hgot, xs, hox⟩ := got_of (unhide H5) (unhide HBn) hown hgg
      have HO := hide hox
      have HT := hide hgot
      have HGG := hide hgg
      have HP := hide hp
      clear hown hgg hox hgot hp H5 HWR
      have HMq := hide ((unhide HM).grow (unhide HW).g)
      have HGq0 := hide ((unhide HG).trans (unhide HW).g)
      have hd1 : d.F = i := by rw [← unhide HD]; rfl
      have Hd1 := hide hd1
      have HdE := hide hdE
      have HhA : Hid (∀ x, d.ha x = ha x) := fun x => by rw [← unhide HD]; rfl
      have HvA : Hid (∀ x, d.va x = va x) := fun x => by rw [← unhide HD]; rfl
      have HmX : Hid (∀ x, x < m → MC wq XB (x * 7) (n7 (en x)) (ev x)) := fun x hx => by
        have h1 := (unhide HMq).mc x (by rw [hdE]; exact hx)
        have h2 : d.ne x = n7 (en x) := by rw [← unhide HD]; rfl
        have h3 : d.ev x = ev x := by rw [← unhide HD]; rfl
        rw [h2, h3] at h1
        exact h1
      have HcX : Hid (wq.cell? ⟨w.heap.size, 2, .none⟩ = some (.slice xa m xc)) := by
        have h1 := (unhide HMq).cT2
        rw [hdE] at h1
        exact h1
      have HhX : Hid (0 < m → xa = some ⟨XB, 0, .none⟩) := by
        have h1 := (unhide HMq).hX
        rw [hdE] at h1
        exact h1
      clear hd1 hdE HM HW HG
      go_wp2_with fail
      go_loopw [233] (fun ii wz => ∃ q : Nat, q ≤ n ∧ ii = .int .i64 q ∧ Hid (Grow wg wz)) (fun ii _ => n - (intOf ii).toNat)
      case atStart => exact ⟨0, Nat.zero_le _, rfl, Grow.refl _⟩
      case round =>
        obtain ⟨q, hqn, rfl, HGq⟩ := hrel
        by_cases hlt3 : q < n
        · -- BEGIN l6
          obtain ⟨rfl, rfl, rfl⟩ := unhide HP (by omega)
          have hqI : (q : Int) < (n : Int) := by omega
          obtain ⟨m0, m1, m2, m3, m4, m5, m6⟩ := ((unhide HT).mc q hlt3).grow (unhide HGq)
          have t0 := (unhide HGq).cell ((unhide HT).nc q hlt3)
          have t1 := (unhide HGq).cell ((unhide HT).vc q hlt3)
          have hb := (unhide HT).b q hlt3
          go_wp2_with fail
          replace m0 := GW.cell m0
          replace m1 := GW.cell m1
          replace m2 := GW.cell m2
          replace m3 := GW.cell m3
          replace m4 := GW.cell m4
          replace m5 := GW.cell m5
          replace m6 := GW.cell m6
          replace t0 := GW.cell t0
          replace t1 := GW.cell t1
          refine wp_region_grow (by kernel_rfl) (by kernel_rfl) ?_
          repeat (go_big_quiet_step (first | exact name_gw (px q) hb.1 hb.2 _ | exact eq_gw (pt q) _))
          refine wpQuiet_nil ?_
          rintro _ ⟨yq, rfl⟩
          clear m0 m1 m2 m3 m4 m5 m6 t0 t1
          go_wp2_with fail
          go_roundw
          case rel => exact ⟨q + 1, by omega, by go_num, Grow.trans (unhide HGq) yq.g⟩
          case measure => simp [intOf]; omega
          -- END l6
        · have cT0 := (unhide HGq).cell ((unhide HGG).cell (unhide HMq).cT0)
          have cT1 := (unhide HGq).cell ((unhide HGG).cell (unhide HMq).cT1)
          rw [unhide Hd1] at cT0 cT1
          go_wp2_with fail
          clear cT0 cT1
          go_loopw [281] (fun ii wz => ∃ q : Nat, q ≤ i ∧ ii = .int .i64 q ∧ Hid (Grow wg wz)) (fun ii _ => i - (intOf ii).toNat)
          case atStart => exact ⟨0, Nat.zero_le _, rfl, unhide HGq⟩
          case round =>
            clear HGq hqn hlt3
            obtain ⟨p, hpn, rfl, HGp⟩ := hrel
            by_cases hlt4 : p < i
            · -- BEGIN l7
              have hpF : p < d.F := by rw [unhide Hd1]; exact hlt4
              have hpI : (p : Int) < (i : Int) := by omega
              obtain rfl := (unhide HA).h0 (by omega)
              obtain rfl : aa = some ⟨HB', 0, .none⟩ := (unhide HMq).hA (by show 0 < d.F; omega)
              obtain rfl : ab = some ⟨VB, 0, .none⟩ := (unhide HMq).hV (by show 0 < d.F; omega)
              have hGp := (unhide HGG).trans (unhide HGp)
              have cT0 := hGp.cell (unhide HMq).cT0
              have cT1 := hGp.cell (unhide HMq).cT1
              have cH := hGp.cell ((unhide HMq).hc p hpF)
              have cV := hGp.cell ((unhide HMq).vc p hpF)
              have t2 := ((unhide HGq0).trans hGp).cell ((unhide HA).f2 p hlt4)
              have t3 := ((unhide HGq0).trans hGp).cell ((unhide HA).f3 p hlt4)
              rw [unhide Hd1] at cT0 cT1
              rw [unhide HhA p] at cH
              rw [unhide HvA p] at cV
              clear hGp hpF
              go_wp2_with fail
              replace cT0 := GW.cell cT0
              replace cT1 := GW.cell cT1
              replace cH := GW.cell cH
              replace cV := GW.cell cV
              replace t2 := GW.cell t2
              replace t3 := GW.cell t3
              refine wp_region_grow (by kernel_rfl) (by kernel_rfl) ?_
              repeat (go_big_quiet_step (fail))
              refine wpQuiet_nil ?_
              rintro _ ⟨yq, rfl⟩
              clear cT0 cT1 cH cV t2 t3
              go_wp2_with fail
              go_roundw
              case rel => exact ⟨p + 1, by omega, by go_num, Grow.trans (unhide HGp) yq.g⟩
              case measure => simp [intOf]; omega
              -- END l7
            · have HO2 := hide ((unhide HGp).owns (unhide HO))
              have hGp := (unhide HGG).trans (unhide HGp)
              have HGp2 := hide hGp
              have hex := extraok_any w.heap.size XB eb eo xa a1 m xc c1 en ev _ (hGp.cell (unhide HcX)) (unhide HhX) (fun x hx => (unhide HmX x hx).grow hGp) ((unhide HA).ein.grow ((unhide HGq0).trans hGp)) (by omega)
              have HEX := hide hex
              clear hGp hex
              go_wp2_with fail
              refine (unhide HEX).mono ?_
              rintro e wy ⟨rfl, hgy⟩
              have HGy := hide ((unhide HGp2).trans hgy)
              have HOy := hide (hgy.owns (unhide HO2))
              clear hgy HEX HGp2 HO2
              go_wp2_with fail
              go_loopw [319] (fun ii wz => ∃ q : Nat, q ≤ n ∧ ii = .int .i64 q ∧ Hid (∃ ys, wz.ownsRow wq.heap.size 74 7 (.slice ga n gc) n ys) ∧ Hid (Grow wq wz)) (fun ii _ => n - (intOf ii).toNat)
              case atStart => exact ⟨0, Nat.zero_le _, rfl, ⟨_, unhide HOy⟩, unhide HGy⟩
              case round =>
                clear HGp hpn hlt4 HOy HGy
                obtain ⟨q, hqn, rfl, HOz, HGz⟩ := hrel
                by_cases hlt5 : q < n
                · -- BEGIN l8
                  obtain ⟨rfl, rfl, rfl⟩ := unhide HP (by omega)
                  have hqI : (q : Int) < (n : Int) := by omega
                  obtain ⟨ys, hys⟩ := unhide HOz
                  have hzf := hys.frozenAt
                  have cg := own_cells hys hlt5
                  obtain ⟨y0, hy0⟩ := cg 0 (by decide)
                  obtain ⟨y1, hy1⟩ := cg 1 (by decide)
                  obtain ⟨y2, hy2⟩ := cg 2 (by decide)
                  obtain ⟨y3, hy3⟩ := cg 3 (by decide)
                  obtain ⟨y4, hy4⟩ := cg 4 (by decide)
                  obtain ⟨y5, hy5⟩ := cg 5 (by decide)
                  obtain ⟨y6, hy6⟩ := cg 6 (by decide)
                  simp only [Nat.add_zero] at hy0
                  have HYS := hide hys
                  clear cg hys HOz
                  go_wp2_with fail
                  exact ⟨⟨q + 1, by omega, by go_num, own_put7 (unhide HYS) (unhide HGz) _ _ _ _ _ _ _ _ _ _ _ _ _ _⟩, by simp [intOf]; omega⟩
                  -- END l8
                · have hGz := unhide HGz
                  have hex := extraok_any w.heap.size XB eb eo xa a1 m xc c1 en ev _ (hGz.cell (unhide HcX)) (unhide HhX) (fun x hx => (unhide HmX x hx).grow hGz) ((unhide HA).ein.grow ((unhide HGq0).trans hGz)) (by omega)
                  have HEX := hide hex
                  clear hGz hex
                  go_wp2_with fail
                  refine (unhide HEX).mono ?_
                  rintro e wv ⟨rfl, hgv⟩
                  have HGv := hide (((unhide HGq0).trans (unhide HGz)).trans hgv)
                  clear hgv HEX
                  go_wp2_with fail
                  go_ret
                  exact ⟨rfl, unhide HGv⟩
end Go.Proofs.Ybulkejtm
