import Derived.Test.Qxb6604323aWalksS
import Derived.Deep.RegionHeld3
namespace Go.Proofs.Qxb6604323a
open Go.ChangeShapes Go.WideShapes Go.ChangeAt Go.RowKit Go.Maps
attribute [local go_sem] len49

set_option maxHeartbeats 16000000 in
set_option maxRecDepth 100000 in
theorem agree_miss (h t : Int) (ac : Option Addr) (nc cc : Nat) (zs : List Cm) (a : Option Addr) (n cap : Nat) (ss : List St) (i : Nat) (old nw : Int) (w : World) (hnc : nc ≤ 9223372036854775807) (hn : n ≤ 9223372036854775807) (hcs : CS w ac nc cc zs) (hss : SS w a n cap ss) (hmax : Max63 n ss)
    (i1 : (i : Int) + 1 ≤ 4294967295) (hin : i < n) (hf : fidx old (ss.getD i st0).reps = -1) :
    Calls Try.prog 3 #[.int .u64 h, .int .u64 t, .slice ac nc cc, .slice a n cap, .int .u32 ((i : Int) + 1), .int .u32 old, .int .u32 nw] w fun e w' => e = .returned (.bool true) ∧ Below w.heap.size w w' := by
  have HS := hide hss
  have HX := hide hmax
  have HC := hide hcs
  have HF := hide hf
  have hlen := hss.1
  have hzl := hcs.1
  clear hss hmax hcs hf
  go_enter Try.func3, Try.ntmps3
  go_wp2_with fail
  refine (zz8_walk h t ac nc cc a n cap ss _ old nw w hnc hn (unhide HS) (unhide HX)).mono ?_
  rintro e w' ⟨bz, rfl, hw⟩
  have hw2 := hw.symm
  clear hw
  subst hw2
  cases bz
  · go_wp2
    go_ret
    exact ⟨rfl, Below.refl _ _⟩
  go_wp2_with fail
  refine (tooBig_walk ac nc cc a n cap ss 0 w hn hnc (by omega) (by omega) (unhide HS) (unhide HX)).mono ?_
  rintro e w' ⟨bb, rfl, hbig, q, rfl⟩
  cases bb
  rotate_left
  · go_wp2
    go_ret
    exact ⟨rfl, below_drewN (Below.refl _ w) q⟩
  obtain ⟨hmod, hnc2, -⟩ := hbig rfl
  clear hbig HX
  have hn14 := hmod.1
  have Hmod := hide hmod
  clear hmod hn hnc
  go_wp2_with fail
  refine (clone_walk ac nc cc zs _ (by omega) ((unhide HC).drewN q)).mono ?_
  rintro e w0 ⟨ac0, rfl, hcs0, hb0⟩
  have Hb0 : Hid (Below w.heap.size w w0) := hide ((below_drewN (Below.refl _ w) q).trans hb0)
  have Hcs0 := hide hcs0
  have HS0 := hide ((unhide HS).below (unhide Hb0))
  clear hcs0 hb0 HC HS
  go_wp2_with fail
  refine (cloneS_walk a n cap ss w0 (unhide HS0) (unhide Hmod)).mono ?_
  rintro e w1 ⟨a1, rfl, hss1, hb1⟩
  have Hss1 := hide hss1
  have Hcs1 := hide ((unhide Hcs0).below hb1)
  have Hb1 : Hid (Below w.heap.size w w1) := hide ((unhide Hb0).trans (hb1.mono (unhide Hb0).size))
  clear hss1 hb1 HS0 Hb0 Hcs0
  go_wp2_with fail
  refine (build_walk h t ac0 nc nc zs a1 n n ss w1 (by omega) (unhide Hcs1) (unhide Hss1) (unhide Hmod)).mono ?_
  rintro e w2 ⟨sp, rfl, tag, hst, hb2⟩
  have Hst := hide hst
  have Hb2 := hide hb2
  clear hst hb2
  have hdec : (decide ((1 : Int) ≤ (i : Int) + 1) && decide ((i : Int) + 1 ≤ n)) = true := by simp; omega
  obtain ⟨b1, off1, had, hbw1, hcm⟩ := (unhide Hss1).2.2.2 (by omega)
  obtain ⟨ar, nr, cr, ac', nc', cc', hst1⟩ := hcm i hin
  have hst1' := hst1.below (unhide Hb2) hbw1
  have hus := hst1'.2.2.2.2.2.2.1
  have g0 := hst1'.1
  have hrl := (unhide Hmod).2 i hin
  have hnr6 : nr ≤ 1048576 := by have := hus.1; omega
  have ck := fidx_walk ar nr cr (ss.getD i st0).reps old w2 hnr6 hus
  rw [unhide HF] at ck
  have CK := hide ck
  have HGR : Hid (((ss.map St.ls).getD i ls0).reps = (ss.getD i st0).reps) := hide (by rw [ls_getD_map ss i (by omega)]; rfl)
  have HM := hide (replace_miss w2 tag _ sp h t zs (ss.map St.ls) 0 i old nw (unhide Hst) (by simp [hlen]; exact hin) (by simp [hlen]; omega) (by rw [unhide HGR]; exact hrl.1) (by rw [unhide HGR]; exact unhide HF))
  have HBW1 := hide hbw1
  have HCM := hide hcm
  clear hcm hst1 hst1' hus hrl ck hbw1 HGR
  subst had
  go_wp2_with (go_at_call 13; refine (holds_walk n _ _ (by omega) (by omega) i1).mono ?_; rintro e w' ⟨rfl, hw⟩; have hw2 := hw.symm; clear hw; subst hw2)
  refine (unhide CK).mono ?_
  rintro e w' ⟨rfl, hw⟩
  have hw2 := hw.symm
  clear hw
  subst hw2
  clear CK g0 hdec hnr6
  go_wp2_with fail
  refine (unhide HM).mono ?_
  rintro e wz ⟨rfl, hw⟩
  have hw2 := hw.symm
  clear hw
  subst hw2
  clear HM
  have Hb3 := Hb2
  obtain ⟨tag3, htag3⟩ : ∃ tag3, tag3 = tag := ⟨_, rfl⟩
  subst htag3
  have Hst3 := Hst
  obtain ⟨M, hMeq⟩ : ∃ M, M = ss.map St.ls := ⟨_, rfl⟩
  have HMl : Hid (M.length = n) := hide (by rw [hMeq]; simp [hlen])
  have HMj : Hid (∀ j, j < n → M.getD j ls0 = (ss.getD j st0).ls) := hide (fun j hj => by rw [hMeq]; exact ls_getD_map ss j (by omega))
  rw [← hMeq] at Hst3
  clear hMeq Hst Hb2
  have HH := hide (highest_walk w2 tag3 _ sp h t zs M _ (unhide Hst3))
  have HT := hide (trimmed_walk w2 tag3 _ sp h t zs M _ (unhide Hst3))
  have HSC := hide (stateCms_walk w2 tag3 _ sp h t zs M _ (unhide Hst3))
  have Hcs3 := hide ((unhide Hcs1).below (unhide Hb3))
  go_wp2_with (first
    | (go_at_call 16; refine (unhide HH).mono ?_; rintro e w' ⟨rfl, hw⟩; have hw2 := hw.symm; clear hw; subst hw2)
    | (go_at_call 17; refine (unhide HT).mono ?_; rintro e w' ⟨rfl, hw⟩; have hw2 := hw.symm; clear hw; subst hw2))
  refine (unhide HSC).mono ?_
  intro e w' hpost
  obtain ⟨a4, c4, rfl, hw, hcs4⟩ := cms_is hpost
  have hw2 := hw.symm
  clear hw hpost
  subst hw2
  rw [hzl] at hcs4 ⊢
  have Hcs4 := hide hcs4
  clear hcs4 HSC HH HT
  go_wp2_with fail
  refine (toCut_walk ac0 nc nc zs w2 (by omega) (unhide Hcs3)).mono ?_
  rintro e w4 ⟨a5, rfl, hcs5, hb4⟩
  have Hcs5 := hide hcs5
  have Hb4 := hide hb4
  clear hcs5 hb4
  go_wp2_with fail
  refine (same_walk a4 a5 nc c4 nc zs w4 (by omega) ((unhide Hcs4).below (unhide Hb4)) (unhide Hcs5)).mono ?_
  rintro e w' ⟨rfl, q2, rfl⟩
  have Hb5 : Hid (Below w2.heap.size w2 (w4.drewN q2)) := hide (below_drewN (unhide Hb4) q2)
  have Hb15 : Hid (Below w1.heap.size w1 (w4.drewN q2)) := hide ((unhide Hb3).trans ((unhide Hb5).mono (unhide Hb3).size))
  have Hst5 := hide ((unhide Hst3).keep (P := fun _ => False) (Keep.of_below (unhide Hb5)) (fun t h => h.elim))
  clear Hcs4 Hcs5 Hcs3 Hcs1 Hb4 Hb5 Hb3 Hst3
  generalize w4.drewN q2 = w5 at *
  go_wp2
  go_loopw [18] (fun x wr => ∃ j : Nat, j ≤ n ∧ x = .int .i64 j ∧ Hid (Below w5.heap.size w5 wr)) (fun x _ => n - (intOf x).toNat)
  case atStart => exact ⟨0, Nat.zero_le _, rfl, hide (Below.refl _ _)⟩
  case round =>
    obtain ⟨j, hj, rfl, hbr⟩ := hrel
    by_cases hlt : ¬ j < n
    · have Hbf : Hid (Below w.heap.size w wr) := hide ((unhide Hb1).trans (((unhide Hb15).trans ((unhide hbr).mono (unhide Hb15).size)).mono (unhide Hb1).size))
      go_wp2
      go_ret
      exact ⟨rfl, unhide Hbf⟩
    have hlt := Classical.not_not.1 hlt
    have hstr := (unhide Hst5).keep (P := fun _ => False) (Keep.of_below (unhide hbr)) (fun t h => h.elim)
    have hb1r : Below w1.heap.size w1 wr := (unhide Hb15).trans ((unhide hbr).mono (unhide Hb15).size)
    obtain ⟨arj, nrj, crj, acj, ncj, ccj, hstj⟩ := unhide HCM j hlt
    obtain ⟨g0, g1, g2, g3, g4, g5, husj, hcsj⟩ := hstj.below hb1r (unhide HBW1)
    have hml := (unhide Hmod).2 j hlt
    have hbj : b1 < wr.heap.size := Nat.lt_of_lt_of_le (unhide HBW1) hb1r.size
    have hnrj := husj.1
    have hncj := hcsj.1
    subst hnrj hncj
    clear hstj hb1r
    have hML := unhide HMj j hlt
    generalize hsd : ss.getD j st0 = s at *
    clear hsd
    have HSC : Hid (∀ wx, Below wr.heap.size wr wx → Calls Try.prog 23 #[.pointer (some ⟨sp, 0, none⟩), .int .i64 j] wx fun e w' => CmsPost wx s.cms e w') := hide (fun wx hbx => by
      have := streamCms_walk wx tag3 _ sp h t zs M 0 j (hstr.keep (P := fun _ => False) (Keep.of_below hbx) (fun t h => h.elim)) (by rw [unhide HMl]; exact hlt)
      rw [hML] at this
      exact this)
    have HRC : Hid (∀ wx, Below wr.heap.size wr wx → Calls Try.prog 24 #[.pointer (some ⟨sp, 0, none⟩), .int .i64 j] wx fun e w' => RecPost wx none 0 e w') := hide (fun wx hbx => by
      have := rec_walk wx tag3 _ sp h t zs M 0 j (hstr.keep (P := fun _ => False) (Keep.of_below hbx) (fun t h => h.elim)) (by rw [unhide HMl]; exact hlt)
      rw [hML] at this
      exact this)
    have hlog := log_walk wr tag3 _ sp h t zs M 0 j hstr (by rw [unhide HMl]; exact hlt) (by rw [unhide HMl]; omega) (by rw [hML]; exact hml.1)
    rw [hML] at hlog
    have Hlog : Hid (Calls Try.prog 21 #[.pointer (some ⟨sp, 0, none⟩), .int .u32 ((j : Int) + 1)] wr fun e w' => LogIs wr j s s.reps.length s.reps e w') := hide (hlog.mono fun e w' hp => log_same hp)
    have Husj := hide husj
    have Hcsj := hide hcsj
    have hmr := hml.1
    have hmc := hml.2
    have hcv : IntKind.u32.wrap ((j : Int) + 1) = (j : Int) + 1 := by rw [IntWalk.u32_in _ ⟨by omega, by omega⟩]
    clear hlog hML hstr hml husj hcsj
    go_wp2_with fail
    refine (unhide Hlog).mono ?_
    rintro e w6 ⟨a6, cap6, rfl, hus6, hb6⟩
    have hal : Below w6.heap.size w6 (w6.alloc (.cells #[.int .u32 ((j : Int) + 1), .slice a6 s.reps.length cap6, .int .u64 s.com, .int .u64 s.trm, .bool s.sld, .bool s.tran] 44)) := (Below.refl _ _).alloc (Nat.le_refl _) _
    have hb7 : Below wr.heap.size wr (w6.alloc (.cells #[.int .u32 ((j : Int) + 1), .slice a6 s.reps.length cap6, .int .u64 s.com, .int .u64 s.trm, .bool s.sld, .bool s.tran] 44)) := hb6.trans (hal.mono hb6.size)
    have hus7 := hus6.below hal
    have hsx := Sx.made w6 44 (.int .u32 ((j : Int) + 1)) (.slice a6 s.reps.length cap6) (.int .u64 s.com) (.int .u64 s.trm) (.bool s.sld) (.bool s.tran)
    have hpl : w6.heap.size < (w6.alloc (.cells #[.int .u32 ((j : Int) + 1), .slice a6 s.reps.length cap6, .int .u64 s.com, .int .u64 s.trm, .bool s.sld, .bool s.tran] 44)).heap.size := by simp
    have c0 := (hb7.cell (p := ⟨b1, off1 + j * 6, none⟩) hbj).trans g0
    have c1 := (hb7.cell (p := ⟨b1, off1 + j * 6 + 1, none⟩) hbj).trans g1
    have c2 := (hb7.cell (p := ⟨b1, off1 + j * 6 + 2, none⟩) hbj).trans g2
    have c3 := (hb7.cell (p := ⟨b1, off1 + j * 6 + 3, none⟩) hbj).trans g3
    have c4 := (hb7.cell (p := ⟨b1, off1 + j * 6 + 4, none⟩) hbj).trans g4
    have c5 := (hb7.cell (p := ⟨b1, off1 + j * 6 + 5, none⟩) hbj).trans g5
    have hb7l : b1 < (w6.alloc (.cells #[.int .u32 ((j : Int) + 1), .slice a6 s.reps.length cap6, .int .u64 s.com, .int .u64 s.trm, .bool s.sld, .bool s.tran] 44)).heap.size := Nat.lt_of_lt_of_le hbj hb7.size
    clear hal hb6 hus6 Hlog g0 g1 g2 g3 g4 g5 hbj
    go_wp2
    generalize w6.alloc (.cells #[.int .u32 ((j : Int) + 1), .slice a6 s.reps.length cap6, .int .u64 s.com, .int .u64 s.trm, .bool s.sld, .bool s.tran] 44) = w7 at *
    generalize w6.heap.size = p at *
    obtain ⟨⟨s0, s1, s2, s3, s4, s5⟩, -⟩ := hsx
    have Hb7 := hide hb7
    have Hus7 := hide hus7
    clear hb7 hus7
    go_region_held3 (fun w' => w'.cell? ⟨p, 0, none⟩ = some (.int .u32 ((j : Int) + 1)) ∧ w'.cell? ⟨p, 1, none⟩ = some (.slice a6 s.reps.length cap6) ∧ w'.cell? ⟨p, 2, none⟩ = some (.int .u64 s.com) ∧ w'.cell? ⟨p, 3, none⟩ = some (.int .u64 s.trm) ∧ w'.cell? ⟨p, 4, none⟩ = some (.bool s.sld) ∧ w'.cell? ⟨p, 5, none⟩ = some (.bool s.tran) ∧ w'.cell? ⟨b1, off1 + j * 6, none⟩ = some (.slice arj s.reps.length crj) ∧ w'.cell? ⟨b1, off1 + j * 6 + 1, none⟩ = some (.int .u64 s.com) ∧ w'.cell? ⟨b1, off1 + j * 6 + 2, none⟩ = some (.int .u64 s.trm) ∧ w'.cell? ⟨b1, off1 + j * 6 + 3, none⟩ = some (.bool s.sld) ∧ w'.cell? ⟨b1, off1 + j * 6 + 4, none⟩ = some (.bool s.tran) ∧ w'.cell? ⟨b1, off1 + j * 6 + 5, none⟩ = some (.slice acj s.cms.length ccj)) (go_keep)
      (first
        | (go_at_call 22; refine (sameFields_walk _ _ _ _ _ _ _ _ _ _ _ _ _ _ _).mono ?_; rintro e w8 ⟨rfl, hb8'⟩; have hb8 : Below w7.heap.size w7 w8 := (Below.refl _ _).drew.trans hb8'; have k0 := (hb8.cell (p := ⟨p, 0, none⟩) hpl).trans s0; have k1 := (hb8.cell (p := ⟨p, 1, none⟩) hpl).trans s1; have k2 := (hb8.cell (p := ⟨p, 2, none⟩) hpl).trans s2; have k3 := (hb8.cell (p := ⟨p, 3, none⟩) hpl).trans s3; have k4 := (hb8.cell (p := ⟨p, 4, none⟩) hpl).trans s4; have k5 := (hb8.cell (p := ⟨p, 5, none⟩) hpl).trans s5; have l0 := (hb8.cell (p := ⟨b1, off1 + j * 6, none⟩) hb7l).trans c0; have l1 := (hb8.cell (p := ⟨b1, off1 + j * 6 + 1, none⟩) hb7l).trans c1; have l2 := (hb8.cell (p := ⟨b1, off1 + j * 6 + 2, none⟩) hb7l).trans c2; have l3 := (hb8.cell (p := ⟨b1, off1 + j * 6 + 3, none⟩) hb7l).trans c3; have l4 := (hb8.cell (p := ⟨b1, off1 + j * 6 + 4, none⟩) hb7l).trans c4; have l5 := (hb8.cell (p := ⟨b1, off1 + j * 6 + 5, none⟩) hb7l).trans c5; have Hb8 := hide hb8; have hb8l := Nat.lt_of_lt_of_le hb7l hb8.size; clear hb8' hb8))
    have Hus8 := hide ((unhide Hus7).below (unhide Hb8))
    have Hb78 : Hid (Below wr.heap.size wr w8) := hide ((unhide Hb7).trans ((unhide Hb8).mono (unhide Hb7).size))
    have Husj8 := hide ((unhide Husj).below (unhide Hb78))
    have Hcsj8 := hide ((unhide Hcsj).below (unhide Hb78))
    clear s0 s1 s2 s3 s4 s5 c0 c1 c2 c3 c4 c5 Hus7 Husj Hcsj Hb7 Hb8 hb7l hpl
    go_wp2
    go_loop [24] (fun x => ∃ l : Nat, l ≤ s.reps.length ∧ x = .int .i64 l) (fun x => s.reps.length - (intOf x).toNat)
    case atStart => exact ⟨0, Nat.zero_le _, rfl⟩
    case round =>
      obtain ⟨l, hl, rfl⟩ := hrel
      by_cases hll : l < s.reps.length
      · obtain ⟨bw, ow, haw, hx1, hcw⟩ := (unhide Husj8).2.2.2 (by omega)
        obtain ⟨bp, op, hap, hx2, hcp⟩ := (unhide Hus8).2.2.2 (by omega)
        have v1 := hcw l hll
        have v2 := hcp l hll
        clear hcw hcp hx1 hx2 HSC HRC
        subst haw hap
        generalize s.reps.getD l 0 = c at *
        go_wp2
        go_round
        case rel => exact ⟨l + 1, by omega, by go_num⟩
        case measure => simp [intOf]; omega
      · go_wp2
        go_region_held3 (fun w' => w'.cell? ⟨b1, off1 + j * 6 + 5, none⟩ = some (.slice acj s.cms.length ccj)) (go_keep)
          (first
            | (go_at_call 23; refine (unhide HSC _ ?_).mono ?_; exact (unhide Hb78).drew; intro e w' hpost; obtain ⟨a9, c9, he, hw, hcs9⟩ := cms_is hpost; subst he; have hw2 := hw.symm; clear hw hpost; subst hw2; have Hcs9 := hide hcs9; clear hcs9)
            | (go_at_call 20; refine (toCut_walk acj _ ccj s.cms _ hmc ?_).mono ?_; exact (unhide Hcsj8).drewN 1; rintro e w10 ⟨a10, rfl, hcs10, hb10⟩; have hb10' : Below w8.heap.size w8 w10 := (Below.refl _ _).drew.trans hb10; have m5 := (hb10'.cell (p := ⟨b1, off1 + j * 6 + 5, none⟩) hb8l).trans l5; have Hcs10 := hide hcs10; have Hcs9' := hide ((unhide Hcs9).below hb10); have Hb10 := hide hb10'; clear hcs10 hb10 hb10')
            | (go_at_call 18; refine (same_walk a9 a10 _ c9 _ s.cms _ hmc (unhide Hcs9') (unhide Hcs10)).mono ?_; rintro e w' ⟨rfl, q3, rfl⟩; have m5' : (w10.drewN q3).cell? ⟨b1, off1 + j * 6 + 5, none⟩ = some (.slice acj s.cms.length ccj) := m5))
        have Hb11 : Hid (Below wr.heap.size wr (w10.drewN q3)) := hide (below_drewN ((unhide Hb78).trans ((unhide Hb10).mono (unhide Hb78).size)) q3)
        have Hrc := hide (unhide HRC _ (unhide Hb11))
        have Hrd : Hid (Below w5.heap.size w5 (w10.drewN q3)) := hide ((unhide hbr).trans ((unhide Hb11).mono (unhide hbr).size))
        clear Hcs9 Hcs9' Hcs10 Hb10 Hb78 m5 m5' HSC HRC Hus8 Husj8 Hcsj8 k0 k1 k2 k3 k4 k5 l0 l1 l2 l3 l4 l5 Hb11
        go_wp2_with fail
        refine (unhide Hrc).mono ?_
        rintro e w' ⟨mv, rfl, hw, hm⟩
        have hw2 := hw.symm
        clear hw
        subst hw2
        clear Hrc
        obtain rfl : mv = none := by
          rcases hm with ⟨hm, _⟩ | ⟨_, _, _, hm, _⟩
          · exact hm
          · cases hm
        clear hm
        go_wp2
        go_roundw
        case rel => exact ⟨j + 1, by omega, by go_num, Hrd⟩
        case measure => simp [intOf]; omega
end Go.Proofs.Qxb6604323a
