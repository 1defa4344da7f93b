import Derived.Test.Qxb6604323aWalksV
import Derived.Deep.RegionHeld3
namespace Go.Proofs.Qxb6604323a
open Go.ChangeShapes Go.WideShapes Go.ChangeAt Go.RowKit Go.Maps

set_option maxHeartbeats 16000000 in
set_option maxRecDepth 100000 in
theorem trimL_NoC (h t : Int) (ac : Option Addr) (nc cc : Nat) (zs : List Cm) (a : Option Addr) (n cap : Nat) (ss : List St) (g : Int) (w : World) (hnc : nc ≤ 9223372036854775807) (hn : n ≤ 9223372036854775807) (hcs : CS w ac nc cc zs) (hss : SS w a n cap ss) (hwz : WfL zs) (hws : WfSS n ss)
    (hA : g < 18446744073709551615) (hB : g ≤ h) (hC : g ≤ t) :
    Calls Try.prog 7 #[.int .u64 h, .int .u64 t, .slice ac nc cc, .slice a n cap, .int .u64 g] w fun e w' => e = .returned (.bool true) ∧ Below w.heap.size w w' := by
  have z1 : (g == 18446744073709551615) = false := by simp; omega
  have z2 : decide (g ≤ h) = true := by simp; omega
  have z3 : decide (t < g) = false := by simp; omega
  have HNO : Hid (h < g ∨ g ≤ t) := hide (by omega)
  clear hA hB hC
  have HS := hide hss
  have HX := hide hws.max63
  have HWS := hide hws
  have HWZ := hide hwz
  have HC := hide hcs
  have hlen := hss.1
  have hzl := hcs.1
  clear hss hcs hws hwz
  go_enter Try.func7, Try.ntmps7
  go_wp2_with fail
  refine (zz34_walk h t ac nc cc a n cap ss g w hnc hn (unhide HS) (unhide HX)).mono ?_
  rintro e w' ⟨bz, rfl, hw⟩
  have hw2 := hw.symm
  clear hw
  subst hw2
  cases bz
  · go_wp2
    go_ret
    exact ⟨rfl, Below.refl _ _⟩
  go_wp2_with fail
  refine (tooBig_walk ac nc cc a n cap ss 0 w hn hnc (by omega) (by omega) (unhide HS) (unhide HX)).mono ?_
  rintro e w' ⟨bb, rfl, hbig, q, rfl⟩
  cases bb
  rotate_left
  · go_wp2
    go_ret
    exact ⟨rfl, below_drewN (Below.refl _ w) q⟩
  obtain ⟨hmod, hnc2, -⟩ := hbig rfl
  clear hbig HX
  have hn14 := hmod.1
  have Hmod := hide hmod
  clear hmod hn hnc
  go_wp2_with fail
  refine (allOrd_walk ac nc cc zs a n cap ss (w.drewN q) (by omega) ((unhide HC).drewN q) ((unhide HS).drewN q) (unhide Hmod) (unhide HWZ) (unhide HWS)).mono ?_
  rintro e wo ⟨bo, rfl, hord, hbo⟩
  have Hbo : Hid (Below w.heap.size w wo) := hide ((below_drewN (Below.refl _ w) q).trans hbo)
  clear hbo
  cases bo
  · clear hord
    go_wp2
    go_ret
    exact ⟨rfl, unhide Hbo⟩
  have Hord := hide (hord rfl)
  have HC1 := hide ((unhide HC).below (unhide Hbo))
  have HS1 := hide ((unhide HS).below (unhide Hbo))
  clear hord HC HS
  go_wp2_with fail
  refine (clone_walk ac nc cc zs wo (by omega) (unhide HC1)).mono ?_
  rintro e w0 ⟨ac0, rfl, hcs0, hb0⟩
  have Hb0 : Hid (Below w.heap.size w w0) := hide ((unhide Hbo).trans (hb0.mono (unhide Hbo).size))
  have Hcs0 := hide hcs0
  have HS0 := hide ((unhide HS1).below hb0)
  clear hcs0 hb0 HC1 HS1 Hbo
  go_wp2_with fail
  refine (cloneS_walk a n cap ss w0 (unhide HS0) (unhide Hmod)).mono ?_
  rintro e w1 ⟨a1, rfl, hss1, hb1⟩
  have Hss1 := hide hss1
  have Hcs1 := hide ((unhide Hcs0).below hb1)
  have Hb1 : Hid (Below w.heap.size w w1) := hide ((unhide Hb0).trans (hb1.mono (unhide Hb0).size))
  clear hss1 hb1 HS0 Hb0 Hcs0
  go_wp2_with fail
  refine (build_walk h t ac0 nc nc zs a1 n n ss w1 (by omega) (unhide Hcs1) (unhide Hss1) (unhide Hmod)).mono ?_
  rintro e w2 ⟨sp, rfl, tag, hst, hb2⟩
  have HCM : Hid (∀ j, j < n → ∃ b1 off1, a1 = some ⟨b1, off1, none⟩ ∧ b1 < w1.heap.size ∧ ∃ ar nr cr ac nc cc, StAt w1 b1 (off1 + j * 6) (ss.getD j st0) ar nr cr ac nc cc) := hide (by
    intro j hj
    obtain ⟨b1, off1, had, hbw1, hcm⟩ := (unhide Hss1).2.2.2 (by omega)
    exact ⟨b1, off1, had, hbw1, hcm j hj⟩)
  have Htrim := hide (trimS_no w2 tag _ sp h t zs (ss.map St.ls) 0 g hst (unhide HNO))
  obtain ⟨M, hMeq⟩ : ∃ M, M = ss.map St.ls := ⟨_, rfl⟩
  have HMl : Hid (M.length = n) := hide (by rw [hMeq]; simp [hlen])
  have HMj : Hid (∀ j, j < n → M.getD j ls0 = (ss.getD j st0).ls) := hide (fun j hj => by rw [hMeq]; exact ls_getD_map ss j (by omega))
  rw [← hMeq] at hst
  have Hst3 := hide hst
  have Hb3 := hide hb2
  clear hst hb2 hMeq
  go_wp2_with fail
  refine (unhide Htrim).mono ?_
  rintro e wz ⟨rfl, hw⟩
  have hw2 := hw.symm
  clear hw
  subst hw2
  have HZL : Hid (zs.length ≤ zs.length) := hide (Nat.le_refl _)
  clear Htrim
  have HH := hide (highest_walk w2 tag _ sp h t zs M _ (unhide Hst3))
  have Hcs3 := hide ((unhide Hcs1).below (unhide Hb3))
  go_wp2_with (go_at_call 16; refine (unhide HH).mono ?_; rintro e w' ⟨rfl, hw⟩; have hw2 := hw.symm; clear hw; subst hw2)
  refine (toCut_walk ac0 nc nc zs w2 (by omega) (unhide Hcs3)).mono ?_
  rintro e w4 ⟨a5, rfl, hcs5, hb4⟩
  have Hcs5 := hide hcs5
  have Hb4 := hide hb4
  have Hcs4 := hide ((unhide Hcs3).below hb4)
  clear hcs5 hb4 HH Hcs3
  have Hb6 := Hb4
  have Hcs6 := Hcs5
  clear Hb4 Hcs5 Hcs4
  have Hst6 := hide ((unhide Hst3).keep (P := fun _ => False) (Keep.of_below (unhide Hb6)) (fun t h => h.elim))
  have HT := hide (trimmed_walk w4 tag _ sp h t zs M _ (unhide Hst6))
  have HSC := hide (stateCms_walk w4 tag _ sp h t zs M _ (unhide Hst6))
  go_wp2_with (go_at_call 17; refine (unhide HT).mono ?_; rintro e w' ⟨rfl, hw⟩; have hw2 := hw.symm; clear hw; subst hw2)
  refine (unhide HSC).mono ?_
  intro e w' hpost
  obtain ⟨a7, c7, rfl, hw, hcs7⟩ := cms_is hpost
  have hw2 := hw.symm
  clear hw hpost
  subst hw2
  have Hcs7 := hide hcs7
  clear hcs7 HSC HT
  rw [hzl] at Hcs7 ⊢
  go_wp2_with fail
  refine (same_walk a7 a5 _ c7 nc zs w4 (by have := unhide HZL; omega) (unhide Hcs7) (unhide Hcs6)).mono ?_
  rintro e w' ⟨rfl, q2, rfl⟩
  have Hb15 : Hid (Below w1.heap.size w1 (w4.drewN q2)) := hide (below_drewN ((unhide Hb3).trans ((unhide Hb6).mono (unhide Hb3).size)) q2)
  have Hst5 : Hid (StateIs (w4.drewN q2) tag w1.heap.size sp h t zs M 0) := hide ((unhide Hst6).keep (P := fun _ => False) (Keep.of_below (below_drewN (Below.refl _ _) q2)) (fun t h => h.elim))
  clear Hcs6 Hcs7 Hb6 Hb3 Hst6 Hst3 Hcs1 Hss1
  generalize w4.drewN q2 = w5 at *
  go_wp2
  go_loopw [16] (fun x wr => ∃ j : Nat, j ≤ n ∧ x = .int .i64 j ∧ Hid (Below w5.heap.size w5 wr)) (fun x _ => n - (intOf x).toNat)
  case atStart => exact ⟨0, Nat.zero_le _, rfl, hide (Below.refl _ _)⟩
  case round =>
    obtain ⟨j, hj, rfl, hbr⟩ := hrel
    by_cases hlt : ¬ j < n
    · have Hbf : Hid (Below w.heap.size w wr) := hide ((unhide Hb1).trans (((unhide Hb15).trans ((unhide hbr).mono (unhide Hb15).size)).mono (unhide Hb1).size))
      go_wp2
      go_ret
      exact ⟨rfl, unhide Hbf⟩
    have hlt := Classical.not_not.1 hlt
    have hstr := (unhide Hst5).keep (P := fun _ => False) (Keep.of_below (unhide hbr)) (fun t h => h.elim)
    have hb1r : Below w1.heap.size w1 wr := (unhide Hb15).trans ((unhide hbr).mono (unhide Hb15).size)
    obtain ⟨b1, off1, had, hbw1, arj, nrj, crj, acj, ncj, ccj, hstj⟩ := unhide HCM j hlt
    subst had
    obtain ⟨g0', g1, g2, g3, g4, g5, husj, hcsj⟩ := hstj.below hb1r hbw1
    have hml := (unhide Hmod).2 j hlt
    have hws := unhide HWS j hlt
    have hbj : b1 < wr.heap.size := Nat.lt_of_lt_of_le hbw1 hb1r.size
    have hnrj := husj.1
    have hncj := hcsj.1
    subst hnrj hncj
    have hML := unhide HMj j hlt
    generalize hsd : ss.getD j st0 = s at *
    clear hsd hstj hb1r hbw1
    have HSC : Hid (∀ wx, Below wr.heap.size wr wx → Calls Try.prog 23 #[.pointer (some ⟨sp, 0, none⟩), .int .i64 j] wx fun e w' => CmsPost wx s.cms e w') := hide (fun wx hbx => by
      have := streamCms_walk wx tag _ sp h t zs M 0 j (hstr.keep (P := fun _ => False) (Keep.of_below hbx) (fun t h => h.elim)) (by rw [unhide HMl]; exact hlt)
      rw [hML] at this
      exact this)
    have HLOG : Hid (∀ wx, Below wr.heap.size wr wx → Calls Try.prog 21 #[.pointer (some ⟨sp, 0, none⟩), .int .u32 ((j : Int) + 1)] wx fun e w' => LogT wx j s s.trm e w') := hide (fun wx hbx => by
      have := log_walk wx tag _ sp h t zs M 0 j (hstr.keep (P := fun _ => False) (Keep.of_below hbx) (fun t h => h.elim)) (by rw [unhide HMl]; exact hlt) (by rw [unhide HMl]; omega) (by rw [hML]; exact hml.1)
      rw [hML] at this
      exact this.mono fun e w' hp => log_kept hp)
    have Husj := hide husj
    have Hcsj := hide hcsj
    have hmr := hml.1
    have hmc := hml.2
    have hcv : IntKind.u32.wrap ((j : Int) + 1) = (j : Int) + 1 := by rw [IntWalk.u32_in _ ⟨by omega, by omega⟩]
    have hX : IntKind.u64.wrap (s.trm + 0) = s.trm := by rw [IntWalk.u64_in _ ⟨by have := hws.2.2.2.2.2.1; omega, by have := hws.2.2.2.2.2.2; omega⟩]; omega
    have hX2 : IntKind.u64.wrap s.trm = s.trm := by rw [IntWalk.u64_in _ ⟨hws.2.2.2.2.2.1, hws.2.2.2.2.2.2⟩]
    clear hML hstr hml husj hcsj hws
    go_wp2_with fail
    refine (toCut_walk acj _ ccj s.cms wr hmc (unhide Hcsj)).mono ?_
    rintro e w8 ⟨a8, rfl, hcs8, hb8⟩
    have Hb8 := hide hb8
    have Hcs8 := hide hcs8
    have Hcsj8 := hide ((unhide Hcsj).below hb8)
    have c0 := (hb8.cell (p := ⟨b1, off1 + j * 6, none⟩) hbj).trans g0'
    have c1 := (hb8.cell (p := ⟨b1, off1 + j * 6 + 1, none⟩) hbj).trans g1
    have c2 := (hb8.cell (p := ⟨b1, off1 + j * 6 + 2, none⟩) hbj).trans g2
    have c3 := (hb8.cell (p := ⟨b1, off1 + j * 6 + 3, none⟩) hbj).trans g3
    have c4 := (hb8.cell (p := ⟨b1, off1 + j * 6 + 4, none⟩) hbj).trans g4
    have c5 := (hb8.cell (p := ⟨b1, off1 + j * 6 + 5, none⟩) hbj).trans g5
    have hbj8 : b1 < w8.heap.size := Nat.lt_of_lt_of_le hbj hb8.size
    clear hcs8 hb8 g0' g1 g2 g3 g4 g5 Hcsj
    have e0 := c0
    have e1 := c1
    have e2 := c2
    have e3 := c3
    have e4 := c4
    have e5 := c5
    have Hb9 := Hb8
    have Hcs9 := Hcs8
    have hbj9 := hbj8
    clear c0 c1 c2 c3 c4 c5 Hb8 Hcs8 Hcsj8 hbj8
    have Hc23 := hide (unhide HSC w8 (unhide Hb9))
    go_wp2_with fail
    refine (unhide Hc23).mono ?_
    intro e w' hpost
    obtain ⟨a10, c10, rfl, hw, hcs10⟩ := cms_is hpost
    have hw2 := hw.symm
    clear hw hpost
    subst hw2
    have Hcs10 := hide hcs10
    clear hcs10 HSC Hc23
    go_wp2_with fail
    refine (same_walk a10 a8 _ c10 s.cms.length s.cms w8 (by omega) (unhide Hcs10) (unhide Hcs9)).mono ?_
    rintro e w' ⟨rfl, q3, rfl⟩
    have Hb11 : Hid (Below wr.heap.size wr (w8.drewN q3)) := hide (below_drewN (unhide Hb9) q3)
    have r0 : (w8.drewN q3).cell? ⟨b1, off1 + j * 6, none⟩ = some (.slice arj s.reps.length crj) := e0
    have r1 : (w8.drewN q3).cell? ⟨b1, off1 + j * 6 + 1, none⟩ = some (.int .u64 s.com) := e1
    have r2 : (w8.drewN q3).cell? ⟨b1, off1 + j * 6 + 2, none⟩ = some (.int .u64 s.trm) := e2
    have r3 : (w8.drewN q3).cell? ⟨b1, off1 + j * 6 + 3, none⟩ = some (.bool s.sld) := e3
    have r4 : (w8.drewN q3).cell? ⟨b1, off1 + j * 6 + 4, none⟩ = some (.bool s.tran) := e4
    have r5 : (w8.drewN q3).cell? ⟨b1, off1 + j * 6 + 5, none⟩ = some (.slice acj s.cms.length ccj) := e5
    have hbj11 : b1 < (w8.drewN q3).heap.size := hbj9
    clear Hcs10 Hcs9 e0 e1 e2 e3 e4 e5 hbj9 Hb9
    generalize w8.drewN q3 = w11 at *
    have Hlog := hide (unhide HLOG w11 (unhide Hb11))
    have Husj11 := hide ((unhide Husj).below (unhide Hb11))
    clear HLOG Husj
    go_wp2_with fail
    refine (unhide Hlog).mono ?_
    rintro e w12 ⟨ap, capp, rfl, hus12, hb12⟩
    have hal : Below w12.heap.size w12 (w12.alloc (.cells #[.int .u32 ((j : Int) + 1), .slice ap s.reps.length capp, .int .u64 s.com, .int .u64 s.trm, .bool s.sld, .bool s.tran] 44)) := (Below.refl _ _).alloc (Nat.le_refl _) _
    have hb13 : Below w11.heap.size w11 (w12.alloc (.cells #[.int .u32 ((j : Int) + 1), .slice ap s.reps.length capp, .int .u64 s.com, .int .u64 s.trm, .bool s.sld, .bool s.tran] 44)) := hb12.trans (hal.mono hb12.size)
    have Hus13 := hide (hus12.below hal)
    have Husj13 := hide ((unhide Husj11).below hb13)
    have Hb13 : Hid (Below w5.heap.size w5 (w12.alloc (.cells #[.int .u32 ((j : Int) + 1), .slice ap s.reps.length capp, .int .u64 s.com, .int .u64 s.trm, .bool s.sld, .bool s.tran] 44))) := hide ((unhide hbr).trans (((unhide Hb11).trans (hb13.mono (unhide Hb11).size)).mono (unhide hbr).size))
    have hsx := Sx.made w12 44 (.int .u32 ((j : Int) + 1)) (.slice ap s.reps.length capp) (.int .u64 s.com) (.int .u64 s.trm) (.bool s.sld) (.bool s.tran)
    have v0 := (hb13.cell (p := ⟨b1, off1 + j * 6, none⟩) hbj11).trans r0
    have v1 := (hb13.cell (p := ⟨b1, off1 + j * 6 + 1, none⟩) hbj11).trans r1
    have v2 := (hb13.cell (p := ⟨b1, off1 + j * 6 + 2, none⟩) hbj11).trans r2
    have v3 := (hb13.cell (p := ⟨b1, off1 + j * 6 + 3, none⟩) hbj11).trans r3
    have v4 := (hb13.cell (p := ⟨b1, off1 + j * 6 + 4, none⟩) hbj11).trans r4
    have v5 := (hb13.cell (p := ⟨b1, off1 + j * 6 + 5, none⟩) hbj11).trans r5
    clear hal hb12 hus12 Hlog r0 r1 r2 r3 r4 r5 hbj11 hb13 Husj11
    go_wp2
    generalize w12.alloc (.cells #[.int .u32 ((j : Int) + 1), .slice ap s.reps.length capp, .int .u64 s.com, .int .u64 s.trm, .bool s.sld, .bool s.tran] 44) = w13 at *
    generalize w12.heap.size = p at *
    obtain ⟨⟨s0, s1, s2, s3, s4, s5⟩, -⟩ := hsx
    have Hsame : Hid (∀ A x, Calls Try.prog 26 #[.slice ap s.reps.length capp, .slice arj s.reps.length crj] (w13.drewN (A + x)) fun e w' => e = .returned (.bool true) ∧ ∃ m, w' = w13.drewN (A + m)) := hide (fun A x => (sameU_walk _ _ _ _ _ s.reps _ hmr ((unhide Hus13).drewN (A + x)) ((unhide Husj13).drewN (A + x))).mono fun e w' ⟨he, m, hm⟩ => ⟨he, x + m, by rw [hm, World.drewN_drewN, Nat.add_assoc]⟩)
    go_quiet (fail)
    go_wp2
    go_quiet (fail)
    go_wp2
    go_quiet ((go_at_call 26; exact unhide Hsame _ _))
    go_wp2
    go_roundw
    case rel => exact ⟨j + 1, by omega, by go_num, hide (below_drewN (unhide Hb13) _)⟩
    case measure => simp [intOf]; omega
end Go.Proofs.Qxb6604323a
