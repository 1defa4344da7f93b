import Derived.Test.Qxb6604323aWalksV
import Derived.Deep.RegionHeld3
namespace Go.Proofs.Qxb6604323a
open Go.ChangeShapes Go.WideShapes Go.ChangeAt Go.RowKit Go.Maps

set_option maxHeartbeats 16000000 in
set_option maxRecDepth 100000 in
theorem trimL_Acts (h t : Int) (ac : Option Addr) (nc cc : Nat) (zs : List Cm) (a : Option Addr) (n cap : Nat) (ss : List St) (g : Int) (w : World) (hnc : nc ≤ 9223372036854775807) (hn : n ≤ 9223372036854775807) (hcs : CS w ac nc cc zs) (hss : SS w a n cap ss) (hwz : WfL zs) (hws : WfSS n ss)
    (g0 : 0 ≤ g) (hA : g ≤ h) (hB : t < g) (hC : g ≤ 18446744073709551614) :
    Calls Try.prog 7 #[.int .u64 h, .int .u64 t, .slice ac nc cc, .slice a n cap, .int .u64 g] w fun e w' => e = .returned (.bool true) ∧ Below w.heap.size w w' := by
  have z1 : (g == 18446744073709551615) = false := by simp; omega
  have z2 : decide (g ≤ h) = true := by simp; omega
  have z3 : decide (t < g) = true := by simp; omega
  have d1 : decide (h < g) = false := by simp; omega
  have d2 : decide (g ≤ t) = false := by simp; omega
  clear hA hB
  have HS := hide hss
  have HX := hide hws.max63
  have HWS := hide hws
  have HWZ := hide hwz
  have HC := hide hcs
  have hlen := hss.1
  have hzl := hcs.1
  clear hss hcs hws hwz
  go_enter Try.func7, Try.ntmps7
  go_wp2_with fail
  refine (zz34_walk h t ac nc cc a n cap ss g w hnc hn (unhide HS) (unhide HX)).mono ?_
  rintro e w' ⟨bz, rfl, hw⟩
  have hw2 := hw.symm
  clear hw
  subst hw2
  cases bz
  · go_wp2
    go_ret
    exact ⟨rfl, Below.refl _ _⟩
  go_wp2_with fail
  refine (tooBig_walk ac nc cc a n cap ss 0 w hn hnc (by omega) (by omega) (unhide HS) (unhide HX)).mono ?_
  rintro e w' ⟨bb, rfl, hbig, q, rfl⟩
  cases bb
  rotate_left
  · go_wp2
    go_ret
    exact ⟨rfl, below_drewN (Below.refl _ w) q⟩
  obtain ⟨hmod, hnc2, -⟩ := hbig rfl
  clear hbig HX
  have hn14 := hmod.1
  have Hmod := hide hmod
  clear hmod hn hnc
  go_wp2_with fail
  refine (allOrd_walk ac nc cc zs a n cap ss (w.drewN q) (by omega) ((unhide HC).drewN q) ((unhide HS).drewN q) (unhide Hmod) (unhide HWZ) (unhide HWS)).mono ?_
  rintro e wo ⟨bo, rfl, hord, hbo⟩
  have Hbo : Hid (Below w.heap.size w wo) := hide ((below_drewN (Below.refl _ w) q).trans hbo)
  clear hbo
  cases bo
  · clear hord
    go_wp2
    go_ret
    exact ⟨rfl, unhide Hbo⟩
  have Hord := hide (hord rfl)
  have HC1 := hide ((unhide HC).below (unhide Hbo))
  have HS1 := hide ((unhide HS).below (unhide Hbo))
  clear hord HC HS
  go_wp2_with fail
  refine (clone_walk ac nc cc zs wo (by omega) (unhide HC1)).mono ?_
  rintro e w0 ⟨ac0, rfl, hcs0, hb0⟩
  have Hb0 : Hid (Below w.heap.size w w0) := hide ((unhide Hbo).trans (hb0.mono (unhide Hbo).size))
  have Hcs0 := hide hcs0
  have HS0 := hide ((unhide HS1).below hb0)
  clear hcs0 hb0 HC1 HS1 Hbo
  go_wp2_with fail
  refine (cloneS_walk a n cap ss w0 (unhide HS0) (unhide Hmod)).mono ?_
  rintro e w1 ⟨a1, rfl, hss1, hb1⟩
  have Hss1 := hide hss1
  have Hcs1 := hide ((unhide Hcs0).below hb1)
  have Hb1 : Hid (Below w.heap.size w w1) := hide ((unhide Hb0).trans (hb1.mono (unhide Hb0).size))
  clear hss1 hb1 HS0 Hb0 Hcs0
  go_wp2_with fail
  refine (build_walk h t ac0 nc nc zs a1 n n ss w1 (by omega) (unhide Hcs1) (unhide Hss1) (unhide Hmod)).mono ?_
  rintro e w2 ⟨sp, rfl, tag, hst, hb2⟩
  have HCM : Hid (∀ j, j < n → ∃ b1 off1, a1 = some ⟨b1, off1, none⟩ ∧ b1 < w1.heap.size ∧ ∃ ar nr cr ac nc cc, StAt w1 b1 (off1 + j * 6) (ss.getD j st0) ar nr cr ac nc cc) := hide (by
    intro j hj
    obtain ⟨b1, off1, had, hbw1, hcm⟩ := (unhide Hss1).2.2.2 (by omega)
    exact ⟨b1, off1, had, hbw1, hcm j hj⟩)
  have Htrim := hide (trimS_walk w2 tag _ sp h t zs (ss.map St.ls) 0 g hst (by simp [hlen]; omega) ⟨by omega, unhide HWZ, (unhide Hord).1⟩ (fun i hi => by
    have hi' : i < n := by simpa [hlen] using hi
    rw [ls_getD_map ss i (by omega)]
    exact ⟨((unhide Hmod).2 i hi').2, (unhide HWS i hi').2.2.2.1, (unhide Hord).2 i hi'⟩) g0 hC d1 d2)
  have Hb2 := hide hb2
  clear hst hb2
  go_wp2_with fail
  refine (unhide Htrim).mono ?_
  rintro e w3 ⟨rfl, ⟨T, hst3⟩, hb3⟩
  have Hb3 : Hid (Below w1.heap.size w1 w3) := hide ((unhide Hb2).trans hb3)
  rw [trim_model g zs (unhide Hord).1 (unhide HWZ)] at hst3
  obtain ⟨M, hMeq⟩ : ∃ M, M = (ss.map St.ls).map (Ls.trim g) := ⟨_, rfl⟩
  have HMl : Hid (M.length = n) := hide (by rw [hMeq]; simp [hlen])
  have HMj : Hid (∀ j, j < n → M.getD j ls0 = (ss.getD j st0).ls.trim g) := hide (fun j hj => by rw [hMeq]; exact trims_getD g ss j (by omega))
  rw [← hMeq] at hst3
  have Hst3 := hide hst3
  have HZL := hide (model_le g zs (unhide Hord).1 (unhide HWZ))
  clear hst3 hb3 Htrim hMeq Hb2
  have HH := hide (highest_walk w3 T _ sp h g (modelT g zs) M _ (unhide Hst3))
  have Hcs3 := hide ((unhide Hcs1).below (unhide Hb3))
  go_wp2_with (go_at_call 16; refine (unhide HH).mono ?_; rintro e w' ⟨rfl, hw⟩; have hw2 := hw.symm; clear hw; subst hw2)
  refine (toCut_walk ac0 nc nc zs w3 (by omega) (unhide Hcs3)).mono ?_
  rintro e w4 ⟨a5, rfl, hcs5, hb4⟩
  have Hcs5 := hide hcs5
  have Hb4 := hide hb4
  have Hcs4 := hide ((unhide Hcs3).below hb4)
  clear hcs5 hb4 HH Hcs3
  go_wp2_with fail
  refine (model_walk ac0 nc nc zs g w4 (by omega) (unhide Hcs4) (unhide HWZ) (unhide Hord).1 g0 hC).mono ?_
  intro e w6 hpost
  obtain ⟨a6, cap6, rfl, hcs6, hb6⟩ := model_is hpost
  have Hb6 : Hid (Below w3.heap.size w3 w6) := hide ((unhide Hb4).trans (hb6.mono (unhide Hb4).size))
  have Hcs6 := hide hcs6
  clear hpost hcs6 hb6 Hcs5 Hcs4 Hb4
  have Hst6 := hide ((unhide Hst3).keep (P := fun _ => False) (Keep.of_below (unhide Hb6)) (fun t h => h.elim))
  have HT := hide (trimmed_walk w6 T _ sp h g (modelT g zs) M _ (unhide Hst6))
  have HSC := hide (stateCms_walk w6 T _ sp h g (modelT g zs) M _ (unhide Hst6))
  go_wp2_with (go_at_call 17; refine (unhide HT).mono ?_; rintro e w' ⟨rfl, hw⟩; have hw2 := hw.symm; clear hw; subst hw2)
  refine (unhide HSC).mono ?_
  intro e w' hpost
  obtain ⟨a7, c7, rfl, hw, hcs7⟩ := cms_is hpost
  have hw2 := hw.symm
  clear hw hpost
  subst hw2
  have Hcs7 := hide hcs7
  clear hcs7 HSC HT
  go_wp2_with fail
  refine (same_walk a7 a6 _ c7 cap6 (modelT g zs) w6 (by have := unhide HZL; omega) (unhide Hcs7) (unhide Hcs6)).mono ?_
  rintro e w' ⟨rfl, q2, rfl⟩
  have Hb15 : Hid (Below w1.heap.size w1 (w6.drewN q2)) := hide (below_drewN ((unhide Hb3).trans ((unhide Hb6).mono (unhide Hb3).size)) q2)
  have Hst5 : Hid (StateIs (w6.drewN q2) T w1.heap.size sp h g (modelT g zs) M 0) := hide ((unhide Hst6).keep (P := fun _ => False) (Keep.of_below (below_drewN (Below.refl _ _) q2)) (fun t h => h.elim))
  clear Hcs6 Hcs7 Hb6 Hb3 Hst6 Hst3 Hcs1 Hss1
  generalize w6.drewN q2 = w5 at *
  go_wp2
  go_loopw [16] (fun x wr => ∃ j : Nat, j ≤ n ∧ x = .int .i64 j ∧ Hid (Below w5.heap.size w5 wr)) (fun x _ => n - (intOf x).toNat)
  case atStart => exact ⟨0, Nat.zero_le _, rfl, hide (Below.refl _ _)⟩
  case round =>
    obtain ⟨j, hj, rfl, hbr⟩ := hrel
    by_cases hlt : ¬ j < n
    · have Hbf : Hid (Below w.heap.size w wr) := hide ((unhide Hb1).trans (((unhide Hb15).trans ((unhide hbr).mono (unhide Hb15).size)).mono (unhide Hb1).size))
      go_wp2
      go_ret
      exact ⟨rfl, unhide Hbf⟩
    have hlt := Classical.not_not.1 hlt
    have hstr := (unhide Hst5).keep (P := fun _ => False) (Keep.of_below (unhide hbr)) (fun t h => h.elim)
    have hb1r : Below w1.heap.size w1 wr := (unhide Hb15).trans ((unhide hbr).mono (unhide Hb15).size)
    obtain ⟨b1, off1, had, hbw1, arj, nrj, crj, acj, ncj, ccj, hstj⟩ := unhide HCM j hlt
    subst had
    obtain ⟨g0', g1, g2, g3, g4, g5, husj, hcsj⟩ := hstj.below hb1r hbw1
    have hml := (unhide Hmod).2 j hlt
    have hws := unhide HWS j hlt
    have hbj : b1 < wr.heap.size := Nat.lt_of_lt_of_le hbw1 hb1r.size
    have hnrj := husj.1
    have hncj := hcsj.1
    subst hnrj hncj
    have hML := unhide HMj j hlt
    have hoj := (unhide Hord).2 j hlt
    generalize hsd : ss.getD j st0 = s at *
    clear hsd hstj hb1r hbw1
    have HSC : Hid (∀ wx, Below wr.heap.size wr wx → Calls Try.prog 23 #[.pointer (some ⟨sp, 0, none⟩), .int .i64 j] wx fun e w' => CmsPost wx (modelT g s.cms) e w') := hide (fun wx hbx => by
      have := streamCms_walk wx T _ sp h g (modelT g zs) M 0 j (hstr.keep (P := fun _ => False) (Keep.of_below hbx) (fun t h => h.elim)) (by rw [unhide HMl]; exact hlt)
      rw [hML] at this
      rw [← trim_model g s.cms hoj hws.2.2.2.1]
      exact this)
    have HLOG : Hid (∀ wx, Below wr.heap.size wr wx → Calls Try.prog 21 #[.pointer (some ⟨sp, 0, none⟩), .int .u32 ((j : Int) + 1)] wx fun e w' => LogT wx j s (IntKind.u64.wrap (s.trm + trimN g s.cms)) e w') := hide (fun wx hbx => by
      have := log_walk wx T _ sp h g (modelT g zs) M 0 j (hstr.keep (P := fun _ => False) (Keep.of_below hbx) (fun t h => h.elim)) (by rw [unhide HMl]; exact hlt) (by rw [unhide HMl]; omega) (by rw [hML]; exact hml.1)
      rw [hML] at this
      exact this.mono fun e w' hp => log_trim hp)
    have Husj := hide husj
    have Hcsj := hide hcsj
    have hmr := hml.1
    have hmc := hml.2
    have hcv : IntKind.u32.wrap ((j : Int) + 1) = (j : Int) + 1 := by rw [IntWalk.u32_in _ ⟨by omega, by omega⟩]
    have hF := fell_eq g s.cms hoj hws.2.2.2.1
    have HLM := hide (model_le g s.cms hoj hws.2.2.2.1)
    have HMOD : Hid (∀ wx, CS wx acj s.cms.length ccj s.cms → Calls Try.prog 32 #[.slice acj s.cms.length ccj, .int .u64 g] wx fun e w' => ∃ a' m cap', e = .returned (.slice a' m cap') ∧ CO w' wx.heap.size a' m cap' (modelT g s.cms) ∧ Below wx.heap.size wx w') := hide (fun wx hc => model_walk acj _ ccj s.cms g wx hmc hc hws.2.2.2.1 hoj g0 hC)
    have hSA : ∃ A, A = sumU s.cms := ⟨_, rfl⟩
    have hSB : ∃ A, A = sumU (modelT g s.cms) := ⟨_, rfl⟩
    obtain ⟨SA, hSA⟩ := hSA
    obtain ⟨SB, hSB⟩ := hSB
    rw [← hSA, ← hSB] at hF
    generalize trimN g s.cms = F at *
    generalize hX : IntKind.u64.wrap (s.trm + F) = X at *
    have HSA := hide hSA
    have HSB := hide hSB
    clear hSA hSB hoj
    clear hML hstr hml husj hcsj hws
    go_wp2_with fail
    refine (toCut_walk acj _ ccj s.cms wr hmc (unhide Hcsj)).mono ?_
    rintro e w8 ⟨a8, rfl, hcs8, hb8⟩
    have Hb8 := hide hb8
    have Hcs8 := hide hcs8
    have Hcsj8 := hide ((unhide Hcsj).below hb8)
    have c0 := (hb8.cell (p := ⟨b1, off1 + j * 6, none⟩) hbj).trans g0'
    have c1 := (hb8.cell (p := ⟨b1, off1 + j * 6 + 1, none⟩) hbj).trans g1
    have c2 := (hb8.cell (p := ⟨b1, off1 + j * 6 + 2, none⟩) hbj).trans g2
    have c3 := (hb8.cell (p := ⟨b1, off1 + j * 6 + 3, none⟩) hbj).trans g3
    have c4 := (hb8.cell (p := ⟨b1, off1 + j * 6 + 4, none⟩) hbj).trans g4
    have c5 := (hb8.cell (p := ⟨b1, off1 + j * 6 + 5, none⟩) hbj).trans g5
    have hbj8 : b1 < w8.heap.size := Nat.lt_of_lt_of_le hbj hb8.size
    clear hcs8 hb8 g0' g1 g2 g3 g4 g5 Hcsj
    go_wp2_with fail
    refine (unhide HMOD w8 (unhide Hcsj8)).mono ?_
    intro e w9 hpost
    obtain ⟨a9, cap9, rfl, hcs9, hb9⟩ := model_is hpost
    have Hb9 : Hid (Below wr.heap.size wr w9) := hide ((unhide Hb8).trans (hb9.mono (unhide Hb8).size))
    have hs8 := sum_walk a8 s.cms.length s.cms.length s.cms w9 hmc ((unhide Hcs8).below hb9)
    have hs9 := sum_walk a9 _ cap9 (modelT g s.cms) w9 (by have := unhide HLM; omega) hcs9
    rw [← unhide HSA] at hs8
    rw [← unhide HSB] at hs9
    have HS8 := hide hs8
    have HS9 := hide hs9
    have Hcs9 := hide hcs9
    have e0 := (hb9.cell (p := ⟨b1, off1 + j * 6, none⟩) hbj8).trans c0
    have e1 := (hb9.cell (p := ⟨b1, off1 + j * 6 + 1, none⟩) hbj8).trans c1
    have e2 := (hb9.cell (p := ⟨b1, off1 + j * 6 + 2, none⟩) hbj8).trans c2
    have e3 := (hb9.cell (p := ⟨b1, off1 + j * 6 + 3, none⟩) hbj8).trans c3
    have e4 := (hb9.cell (p := ⟨b1, off1 + j * 6 + 4, none⟩) hbj8).trans c4
    have e5 := (hb9.cell (p := ⟨b1, off1 + j * 6 + 5, none⟩) hbj8).trans c5
    have hbj9 : b1 < w9.heap.size := Nat.lt_of_lt_of_le hbj8 hb9.size
    clear hpost hcs9 hb9 hs8 hs9 c0 c1 c2 c3 c4 c5 Hb8 Hcs8 Hcsj8 HMOD hbj8
    go_wp2_with fail
    refine (unhide HS8).mono ?_
    rintro e w' ⟨rfl, hw⟩
    have hw2 := hw.symm
    clear hw
    subst hw2
    go_wp2_with fail
    refine (unhide HS9).mono ?_
    rintro e w' ⟨rfl, hw⟩
    have hw2 := hw.symm
    clear hw
    subst hw2
    have Hc23 := hide (unhide HSC w9 (unhide Hb9))
    go_wp2_with fail
    refine (unhide Hc23).mono ?_
    intro e w' hpost
    obtain ⟨a10, c10, rfl, hw, hcs10⟩ := cms_is hpost
    have hw2 := hw.symm
    clear hw hpost
    subst hw2
    have Hcs10 := hide hcs10
    clear hcs10 HSC Hc23
    go_wp2_with fail
    refine (same_walk a10 a9 _ c10 cap9 (modelT g s.cms) w9 (by have := unhide HLM; omega) (unhide Hcs10) (unhide Hcs9)).mono ?_
    rintro e w' ⟨rfl, q3, rfl⟩
    have Hb11 : Hid (Below wr.heap.size wr (w9.drewN q3)) := hide (below_drewN (unhide Hb9) q3)
    have r0 : (w9.drewN q3).cell? ⟨b1, off1 + j * 6, none⟩ = some (.slice arj s.reps.length crj) := e0
    have r1 : (w9.drewN q3).cell? ⟨b1, off1 + j * 6 + 1, none⟩ = some (.int .u64 s.com) := e1
    have r2 : (w9.drewN q3).cell? ⟨b1, off1 + j * 6 + 2, none⟩ = some (.int .u64 s.trm) := e2
    have r3 : (w9.drewN q3).cell? ⟨b1, off1 + j * 6 + 3, none⟩ = some (.bool s.sld) := e3
    have r4 : (w9.drewN q3).cell? ⟨b1, off1 + j * 6 + 4, none⟩ = some (.bool s.tran) := e4
    have r5 : (w9.drewN q3).cell? ⟨b1, off1 + j * 6 + 5, none⟩ = some (.slice acj s.cms.length ccj) := e5
    have hbj11 : b1 < (w9.drewN q3).heap.size := hbj9
    clear Hcs10 Hcs9 e0 e1 e2 e3 e4 e5 hbj9 Hb9
    generalize w9.drewN q3 = w11 at *
    have Hlog := hide (unhide HLOG w11 (unhide Hb11))
    have Husj11 := hide ((unhide Husj).below (unhide Hb11))
    clear HLOG Husj
    go_wp2_with fail
    refine (unhide Hlog).mono ?_
    rintro e w12 ⟨ap, capp, rfl, hus12, hb12⟩
    have hal : Below w12.heap.size w12 (w12.alloc (.cells #[.int .u32 ((j : Int) + 1), .slice ap s.reps.length capp, .int .u64 s.com, .int .u64 X, .bool s.sld, .bool s.tran] 44)) := (Below.refl _ _).alloc (Nat.le_refl _) _
    have hb13 : Below w11.heap.size w11 (w12.alloc (.cells #[.int .u32 ((j : Int) + 1), .slice ap s.reps.length capp, .int .u64 s.com, .int .u64 X, .bool s.sld, .bool s.tran] 44)) := hb12.trans (hal.mono hb12.size)
    have Hus13 := hide (hus12.below hal)
    have Husj13 := hide ((unhide Husj11).below hb13)
    have Hb13 : Hid (Below w5.heap.size w5 (w12.alloc (.cells #[.int .u32 ((j : Int) + 1), .slice ap s.reps.length capp, .int .u64 s.com, .int .u64 X, .bool s.sld, .bool s.tran] 44))) := hide ((unhide hbr).trans (((unhide Hb11).trans (hb13.mono (unhide Hb11).size)).mono (unhide hbr).size))
    have hsx := Sx.made w12 44 (.int .u32 ((j : Int) + 1)) (.slice ap s.reps.length capp) (.int .u64 s.com) (.int .u64 X) (.bool s.sld) (.bool s.tran)
    have v0 := (hb13.cell (p := ⟨b1, off1 + j * 6, none⟩) hbj11).trans r0
    have v1 := (hb13.cell (p := ⟨b1, off1 + j * 6 + 1, none⟩) hbj11).trans r1
    have v2 := (hb13.cell (p := ⟨b1, off1 + j * 6 + 2, none⟩) hbj11).trans r2
    have v3 := (hb13.cell (p := ⟨b1, off1 + j * 6 + 3, none⟩) hbj11).trans r3
    have v4 := (hb13.cell (p := ⟨b1, off1 + j * 6 + 4, none⟩) hbj11).trans r4
    have v5 := (hb13.cell (p := ⟨b1, off1 + j * 6 + 5, none⟩) hbj11).trans r5
    clear hal hb12 hus12 Hlog r0 r1 r2 r3 r4 r5 hbj11 hb13 Husj11
    go_wp2
    generalize w12.alloc (.cells #[.int .u32 ((j : Int) + 1), .slice ap s.reps.length capp, .int .u64 s.com, .int .u64 X, .bool s.sld, .bool s.tran] 44) = w13 at *
    generalize w12.heap.size = p at *
    obtain ⟨⟨s0, s1, s2, s3, s4, s5⟩, -⟩ := hsx
    have Hsame : Hid (∀ A x, Calls Try.prog 26 #[.slice ap s.reps.length capp, .slice arj s.reps.length crj] (w13.drewN (A + x)) fun e w' => e = .returned (.bool true) ∧ ∃ m, w' = w13.drewN (A + m)) := hide (fun A x => (sameU_walk _ _ _ _ _ s.reps _ hmr ((unhide Hus13).drewN (A + x)) ((unhide Husj13).drewN (A + x))).mono fun e w' ⟨he, m, hm⟩ => ⟨he, x + m, by rw [hm, World.drewN_drewN, Nat.add_assoc]⟩)
    go_quiet (fail)
    go_wp2
    go_quiet (fail)
    go_wp2
    go_quiet ((go_at_call 26; exact unhide Hsame _ _))
    go_wp2
    go_roundw
    case rel => exact ⟨j + 1, by omega, by go_num, hide (below_drewN (unhide Hb13) _)⟩
    case measure => simp [intOf]; omega
end Go.Proofs.Qxb6604323a
