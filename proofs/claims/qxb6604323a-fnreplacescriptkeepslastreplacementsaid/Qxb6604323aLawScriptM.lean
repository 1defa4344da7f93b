import Derived.Test.Qxb6604323aWalksX
import Derived.Deep.RegionHeld3
namespace Go.Proofs.Qxb6604323a
open Go.ChangeShapes Go.WideShapes Go.ChangeAt Go.RowKit Go.Maps
attribute [local go_sem] len49

set_option maxHeartbeats 32000000 in
set_option maxRecDepth 100000 in
theorem script_main (a : Option Addr) (n cap : Nat) (ss : List St) (ai : Option Addr) (ci : Nat) (ids : List Int) (ao : Option Addr) (co : Nat) (olds : List Int) (aw : Option Addr) (nn cn : Nat) (news : List Int) (w : World) (hn : n ≤ 9223372036854775807) (h4096 : nn ≤ 4096)
    (hss : SS w a n cap ss) (hmax : Max63 n ss) (hi : US w ai nn ci ids) (ho : US w ao nn co olds) (hw : US w aw nn cn news) (wi : WfU ids) (wo : WfU olds) (ww : WfU news) :
    Calls Try.prog 5 #[.slice a n cap, .slice ai nn ci, .slice ao nn co, .slice aw nn cn] w fun e w' => e = .returned (.bool true) ∧ Below w.heap.size w w' := by
  obtain ⟨i0, hi0, hz0, hz1, hz2⟩ := info_parts info34
  obtain ⟨i25, hi25, hy0, hy1, hy2⟩ := info_parts info25
  have HS := hide hss
  have HX := hide hmax
  have HI := hide hi
  have HO := hide ho
  have HW := hide hw
  have WI := hide wi
  have WO := hide wo
  have WW := hide ww
  have hlen := hss.1
  have li := hi.1
  have lo := ho.1
  have lw := hw.1
  clear hss hmax hi ho hw wi wo ww
  go_enter Try.func5, Try.ntmps5
  go_wp2_with fail
  refine (zz27_walk a n cap ss ai nn ci ao nn co aw nn cn w hn (by omega) (by omega) (by omega) (unhide HS) (unhide HX)).mono ?_
  rintro e w' ⟨bz, rfl, hw⟩
  have hw2 := hw.symm
  clear hw
  subst hw2
  cases bz
  · go_wp2
    go_ret
    exact ⟨rfl, Below.refl _ _⟩
  have d1 : decide ((4096 : Int) < nn) = false := by simp; omega
  go_wp2_with fail
  refine (tooBig_walk none 0 0 a n cap ss _ w hn (by omega) (by omega) (by omega) (unhide HS) (unhide HX)).mono ?_
  rintro e w' ⟨bb, rfl, hbig, q, rfl⟩
  cases bb
  rotate_left
  · go_wp2
    go_ret
    exact ⟨rfl, below_drewN (Below.refl _ w) q⟩
  obtain ⟨hmod, -, -⟩ := hbig rfl
  clear hbig HX
  have hn14 := hmod.1
  have Hmod := hide hmod
  clear hmod hn
  go_wp2_with fail
  refine (cloneS_walk a n cap ss _ ((unhide HS).drewN q) (unhide Hmod)).mono ?_
  rintro e wa ⟨a1, rfl, hssa, hba⟩
  have Hssa := hide hssa
  have Hba : Hid (Below w.heap.size w wa) := hide ((below_drewN (Below.refl _ w) q).trans hba)
  have HIa := hide ((unhide HI).below (unhide Hba))
  have HOa := hide ((unhide HO).below (unhide Hba))
  have HWa := hide ((unhide HW).below (unhide Hba))
  clear hssa hba HS HI HO HW
  go_wp2_with fail
  refine (cloneU_walk ai _ ci ids wa (by omega) (unhide HIa)).mono ?_
  rintro e wb ⟨bi, rfl, hIb, hbb⟩
  have HIb := hide hIb.us
  have Hbb : Hid (Below w.heap.size w wb) := hide ((unhide Hba).trans (hbb.mono (unhide Hba).size))
  have HOb := hide ((unhide HOa).below hbb)
  have HWb := hide ((unhide HWa).below hbb)
  have Hssb := hide ((unhide Hssa).below hbb)
  clear hIb hbb HIa HOa HWa Hssa Hba
  go_wp2_with fail
  refine (cloneU_walk ao _ co olds wb (by omega) (unhide HOb)).mono ?_
  rintro e wc ⟨bo, rfl, hOc, hbc⟩
  have HOc := hide hOc.us
  have Hbc : Hid (Below w.heap.size w wc) := hide ((unhide Hbb).trans (hbc.mono (unhide Hbb).size))
  have HIc := hide ((unhide HIb).below hbc)
  have HWc := hide ((unhide HWb).below hbc)
  have Hssc := hide ((unhide Hssb).below hbc)
  clear hOc hbc HIb HOb HWb Hssb Hbb
  go_wp2_with fail
  refine (cloneU_walk aw _ cn news wc (by omega) (unhide HWc)).mono ?_
  rintro e w1 ⟨bw, rfl, hWd, hbd⟩
  have HW1 := hide hWd.us
  have Hb1 : Hid (Below w.heap.size w w1) := hide ((unhide Hbc).trans (hbd.mono (unhide Hbc).size))
  have HI1 := hide ((unhide HIc).below hbd)
  have HO1 := hide ((unhide HOc).below hbd)
  have Hss1 := hide ((unhide Hssc).below hbd)
  clear hWd hbd HIc HOc HWc Hssc Hbc
  go_wp2_with fail
  refine (build_walk 0 0 none 0 0 [] a1 n n ss w1 (by omega) (CS.nil _) (unhide Hss1) (unhide Hmod)).mono ?_
  rintro e w2 ⟨sp, rfl, tag, hst, hb2⟩
  have Hst := hide hst
  have Hb2 := hide hb2
  clear hst hb2
  go_wp2_with (first
    | (at_make; refine wpList_make_full w2 rfl _ _ 56 rfl w2.heap.size 34 i0 _ 1 Try.underlying56 hi0 hz0 hz1 _ _ _ _ n rfl rfl rfl rfl (by rw [hz2]; omega) (by unfold maxLen; omega) (Nat.le_refl _) ?_; intro w3 hown3 hgrow3; have hB3 := made_blk hown3; have hb3 : Below w2.heap.size w2 w3 := (Below.refl _ _).grown hgrow3 (Nat.le_refl _) (fun k h => by cases h); clear hown3 hgrow3; have HB3 := hide hB3; have Hb3 := hide hb3; clear hB3 hb3)
    | (at_make; refine wpList_make_full w3 rfl _ _ 56 rfl w3.heap.size 34 i0 _ 1 Try.underlying56 hi0 hz0 hz1 _ _ _ _ n rfl rfl rfl rfl (by rw [hz2]; omega) (by unfold maxLen; omega) (Nat.le_refl _) ?_; intro w4 hown4 hgrow4; have hB4 := made_blk hown4; have hb4 : Below w3.heap.size w3 w4 := (Below.refl _ _).grown hgrow4 (Nat.le_refl _) (fun k h => by cases h); clear hown4 hgrow4; have HB4 := hide hB4; have Hb4 := hide hb4; clear hB4 hb4)
    | (at_make; refine wpList_make_full w4 rfl _ _ 56 rfl w4.heap.size 34 i0 _ 1 Try.underlying56 hi0 hz0 hz1 _ _ _ _ n rfl rfl rfl rfl (by rw [hz2]; omega) (by unfold maxLen; omega) (Nat.le_refl _) ?_; intro w5 hown5 hgrow5; have hB5 := made_blk hown5; have hb5 : Below w4.heap.size w4 w5 := (Below.refl _ _).grown hgrow5 (Nat.le_refl _) (fun k h => by cases h); clear hown5 hgrow5; have HB5 := hide hB5; have Hb5 := hide hb5; clear hB5 hb5))
  have Hscr := hide (scr_start (unhide Hst) (unhide Hb3) (unhide HB3) (unhide Hb4) (unhide HB4) (unhide Hb5) (unhide HB5))
  have Hb15 : Hid (Below w1.heap.size w1 w5) := hide (by
    have s2 := (unhide Hb2).size
    have s3 := (unhide Hb3).size
    have s4 := (unhide Hb4).size
    exact (((unhide Hb2).trans ((unhide Hb3).mono s2)).trans ((unhide Hb4).mono (by omega))).trans ((unhide Hb5).mono (by omega)))
  clear Hst Hb2 Hb3 HB3 Hb4 HB4 Hb5 HB5
  generalize w2.heap.size = R at *
  generalize w3.heap.size = K at *
  generalize w4.heap.size = V at *
  go_loopw [13] (fun x wr => ∃ k : Nat, k ≤ n ∧ x = .int .i64 k ∧ Hid (Below w1.heap.size w1 wr) ∧ Hid (∃ T, Scr wr T w1.heap.size sp n R K V 0 (ss.map St.ls) (rowsTo ss k) (fun _ => []) (fun _ => []))) (fun x _ => n - (intOf x).toNat)
  case atStart => exact ⟨0, Nat.zero_le _, rfl, Hb15, by rw [rowsTo_zero]; exact Hscr⟩
  case round =>
    obtain ⟨k, hk, rfl, hbr, hsc⟩ := hrel
    clear Hscr Hb15
    by_cases hlt : k < n
    · obtain ⟨T, hs⟩ := unhide hsc
      obtain ⟨b1, off1, had, hbw1, hcm⟩ := (unhide Hss1).2.2.2 (by omega)
      obtain ⟨ar, nr, cr, ac, nc, cc, hst⟩ := hcm k hlt
      have hst' := hst.below (unhide hbr) hbw1
      subst had
      have g0 := hst'.1
      have hus := hst'.2.2.2.2.2.2.1
      have hm1 := ((unhide Hmod).2 k hlt).1
      have hnr := hus.1
      have CALL := hide (cloneU_walk ar nr cr _ wr (by omega) hus)
      have HSC := hide hs
      have HST := hide (rowsTo_step ss k)
      generalize (ss.getD k st0).reps = us at *
      clear hcm hst hst' hus hm1 hnr hs hsc hbw1
      go_wp2_with fail
      refine (unhide CALL).mono ?_
      rintro e w6 ⟨a6, rfl, huo, hb6⟩
      obtain ⟨x0, e0, f0, hT, hB⟩ := (unhide HSC).lay hlt hb6 huo
      rw [unhide HST] at hT
      have HT := hide hT
      have HB := hide (hB _ (unhide hbr))
      clear hT hB huo hb6 CALL HSC HST g0
      go_wp2
      go_roundw
      case rel => exact ⟨k + 1, by omega, by go_num, HB, HT⟩
      case measure => simp [intOf]; omega
    have hkn : k = n := by omega
    subst hkn
    have H0 : Hid (∃ T N M rr rk rv, N ≤ 0 ∧ Scr wr T w1.heap.size sp k R K V N M rr rk rv ∧ ScrOk k N M rr rk rv) := hide (by
      obtain ⟨T, hs⟩ := unhide hsc
      exact ⟨T, 0, _, _, _, _, Nat.le_refl _, hs, scrOk_start hlen (unhide Hmod)⟩)
    clear hsc hlt hk
    go_wp2
    go_loopw [14] (fun x wr => ∃ t : Nat, t ≤ nn ∧ x = .int .i64 t ∧ Hid (Below w1.heap.size w1 wr) ∧ Hid (∃ T N M rr rk rv, N ≤ t ∧ Scr wr T w1.heap.size sp k R K V N M rr rk rv ∧ ScrOk k N M rr rk rv)) (fun x _ => nn - (intOf x).toNat)
    case atStart => exact ⟨0, Nat.zero_le _, rfl, hbr, H0⟩
    case round =>
      obtain ⟨t, ht, rfl, hbx, hinv⟩ := hrel
      clear H0 hbr
      by_cases hlt : t < nn
      · obtain ⟨T, N, M, rr, rk, rv, hN, hs, hok⟩ := unhide hinv
        obtain ⟨bI, oI, hI, hIl, hIc⟩ := (unhide HI1).2.2.2 (by omega)
        obtain ⟨bO, oO, hO, hOl, hOc⟩ := (unhide HO1).2.2.2 (by omega)
        obtain ⟨bW, oW, hW, hWl, hWc⟩ := (unhide HW1).2.2.2 (by omega)
        subst hI hO hW
        have cI := ((unhide hbx).cell (p := ⟨bI, oI + t, none⟩) hIl).trans (hIc t hlt)
        have cO := ((unhide hbx).cell (p := ⟨bO, oO + t, none⟩) hOl).trans (hOc t hlt)
        have cW := ((unhide hbx).cell (p := ⟨bW, oW + t, none⟩) hWl).trans (hWc t hlt)
        obtain ⟨i0', i1'⟩ := unhide WI t (by omega)
        obtain ⟨o0, o1⟩ := unhide WO t (by omega)
        obtain ⟨x0, x1⟩ := unhide WW t (by omega)
        generalize ids.getD t 0 = id at *
        generalize olds.getD t 0 = old at *
        generalize news.getD t 0 = nw at *
        have HSC := hide hs
        have HOK := hide hok
        have hlM := hok.len
        clear hIc hOc hWc hs hok hinv hIl hOl hWl
        by_cases hA : id < 1 ∨ (k : Int) < id
        · have hdec : (decide (1 ≤ id) && decide (id ≤ k)) = false := by simp; omega
          have CR := hide (replace_no wr T _ sp 0 0 [] M N id old nw (unhide HSC).st i0' i1' (by rw [hlM]; exact hA))
          clear hA
          go_wp2_with (first
            | (go_at_call 13; refine (holds_walk k _ _ (by omega) i0' i1').mono ?_; rintro e w' ⟨rfl, hw⟩; have hw2 := hw.symm; clear hw; subst hw2)
            | (go_at_call 15; refine (unhide CR).mono ?_; rintro e w' ⟨rfl, hw⟩; have hw2 := hw.symm; clear hw; subst hw2))
          go_roundw
          case rel => exact ⟨t + 1, by omega, by go_num, hbx, hide ⟨T, N, M, rr, rk, rv, by omega, unhide HSC, unhide HOK⟩⟩
          case measure => simp [intOf]; omega
        obtain ⟨i, rfl⟩ : ∃ i : Nat, id = (i : Int) + 1 := ⟨(id - 1).toNat, by omega⟩
        have hin : i < k := by omega
        have hdec : (decide ((1 : Int) ≤ (i : Int) + 1) && decide ((i : Int) + 1 ≤ k)) = true := by simp; omega
        obtain ⟨ar, mr, cr, eR, hut⟩ := (unhide HSC).reps.row hin
        obtain ⟨r1, r2, r3, r4, r5⟩ := (unhide HOK).row i hin
        have hmr := hut.1
        have hrng := fidx_range old (rr i)
        have CF := hide (fidx_walk ar mr cr (rr i) old wr (by omega) hut.us)
        clear hA
        by_cases hko : fidx old (rr i) < 0
        · have hm1 : fidx old (rr i) = -1 := by omega
          have CR := hide (replace_miss wr T _ sp 0 0 [] M N i old nw (unhide HSC).st (by rw [hlM]; exact hin) (by rw [hlM]; omega) (by rw [← r1]; exact r2) (by rw [← r1]; exact hm1))
          rw [hm1] at CF
          clear hut r1 r2 r3 r4 r5 hko hm1 hrng hmr
          go_wp2_with (go_at_call 13; refine (holds_walk k _ _ (by omega) i0' i1').mono ?_; rintro e w' ⟨rfl, hw⟩; have hw2 := hw.symm; clear hw; subst hw2)
          refine (unhide CF).mono ?_
          rintro e w' ⟨rfl, hw⟩
          have hw2 := hw.symm
          clear hw
          subst hw2
          go_wp2_with (go_at_call 15; refine (unhide CR).mono ?_; rintro e w' ⟨rfl, hw⟩; have hw2 := hw.symm; clear hw; subst hw2)
          go_roundw
          case rel => exact ⟨t + 1, by omega, by go_num, hbx, hide ⟨T, N, M, rr, rk, rv, by omega, unhide HSC, unhide HOK⟩⟩
          case measure => simp [intOf]; omega
        obtain ⟨p, hp⟩ : ∃ p : Nat, fidx old (rr i) = p := ⟨(fidx old (rr i)).toNat, by omega⟩
        have CR := hide (replace_hit wr T _ sp 0 0 [] M N i p old nw (unhide HSC).st (by rw [hlM]; exact hin) (by rw [hlM]; omega) (by rw [← r1]; exact r2) (by omega) (by rw [← r1]; exact hp) o0 o1 x0 x1)
        rw [hp] at CF
        have hpl : p < (rr i).length := (fidx_hit old _ p hp).1
        have hrng2 := fidx_range old (rk i)
        have HKV := hide r3
        have HOKF : Hid (∀ pp : Nat, fidx old (rk i) = pp → ScrOk k (N + 1) (M.set i ((M.getD i ls0).repl p old nw)) (upd rr i ((rr i).set p nw)) rk (upd rv i ((rv i).set pp nw))) := hide (fun pp h => (unhide HOK).found hin hpl h)
        have HOKN : Hid (fidx old (rk i) = -1 → ScrOk k (N + 1) (M.set i ((M.getD i ls0).repl p old nw)) (upd rr i ((rr i).set p nw)) (upd rk i (rk i ++ [old])) (upd rv i (rv i ++ [nw]))) := hide (fun h => (unhide HOK).fresh hin hpl h o0 o1)
        have HR5 := hide r5
        have HPL := hide hpl
        have HRNG2 := hide hrng2
        clear hut r1 r2 r3 r4 r5 hko hp hrng hmr hpl hrng2
        go_wp2_with (go_at_call 13; refine (holds_walk k _ _ (by omega) i0' i1').mono ?_; rintro e w' ⟨rfl, hw⟩; have hw2 := hw.symm; clear hw; subst hw2)
        refine (unhide CF).mono ?_
        rintro e w' ⟨rfl, hw⟩
        have hw2 := hw.symm
        clear hw
        subst hw2
        go_wp2_with fail
        refine (unhide CR).mono ?_
        rintro e w6 ⟨rfl, T6, hst6, htg6, hk6⟩
        have hs6 := (unhide HSC).replaced hst6 htg6 hk6
        have hb6 : Below w1.heap.size w1 w6 := repl_below' (unhide HSC).st htg6 hk6 (unhide hbx) (unhide HSC).base
        obtain ⟨r, m, c, q1, q2, q3, q4, q5, q6, q7⟩ := hs6.putR hin (unhide HPL)
        obtain ⟨hs7, hb7⟩ := q7 nw
        have Hb7 := hide (hb7 _ hb6)
        have Hs7 := hide hs7
        obtain ⟨ak, mk, ck, y1, y2, y3, y4⟩ := hs7.keys.row hin
        have y0 : w6.cell? ⟨K, i, none⟩ = some (.slice ak mk ck) := (World.cell?_setCell_far w6 ⟨r, p, none⟩ ⟨K, i, none⟩ _ q6).symm.trans y1
        have hpm : p < m := by have := unhide HPL; omega
        have hmk : mk ≤ 4096 := by have := unhide HR5; omega
        have CF2 := hide (fidx_walk ak mk ck (rk i) old _ (by omega) y3)
        have Y4 := hide y4
        generalize (rr i).getD p 0 = vold at *
        clear hst6 htg6 hk6 hs6 hb6 q7 hs7 hb7 y3 y4 CF CR eR HSC HOK q2 q3 hdec
        by_cases hkk : fidx old (rk i) < 0
        · have hm1 : fidx old (rk i) = -1 := by have := unhide HRNG2; omega
          rw [hm1] at CF2
          have HOK7 := hide (unhide HOKN hm1)
          clear hkk hm1 HOKF HOKN y2
          go_wp2_with fail
          refine (unhide CF2).mono ?_
          rintro e w' ⟨rfl, hw⟩
          have hw2 := hw.symm
          clear hw
          subst hw2
          generalize w6.setCell ⟨r, p, none⟩ (.int .u32 nw) = w7 at *
          clear q1 q4 q5 y0 CF2
          have H25 := hide (unhide Hs7).base
          go_wp2_with (first
            | (at_builtin; refine wpList_append_lies _ rfl (.tmp 173) (.tmp 175) 34 rfl w1.heap.size 25 i25 _ 1 4 Try.underlying34 hi25 hy0 hy1 hy2 rfl (by decide) (.slice ak mk ck) mk (ucells (rk i)) rfl (by exact World.ownsRow.alloc (unhide Y4) _) ⟨w7.heap.size, 0, none⟩ 1 1 [.int .u32 old] rfl rfl (by intro j u hj; match j, hj with | 0, hj => simp at hj; subst hj; simp [Addr.add]) (by intro u hu; simp at hu; subst hu; rfl) (by omega) (by unfold maxLen; omega) (by omega) (by have := unhide H25; simp; omega) _ rfl ?_; intro g8 cap8 w8 hown8 hgrow8 hat8 hlt8; obtain ⟨f8, e8, ⟨T9, hs9⟩, hb9⟩ := (unhide Hs7).appK hin y1 _ hown8 hgrow8 (by simpa using hat8); obtain ⟨av, mv, cv, z1, z2, z3, z4⟩ := hs9.vals.row hin; have hmv : mv ≤ 4096 := (by have := (unhide HKV).len; have := unhide HR5; omega); have Hb9 := hide (hb9 _ (unhide Hb7)); have Hs9 := hide hs9; have Z4 := hide z4; have H26 := hide hs9.base; clear hown8 hgrow8 hat8 hlt8 hs9 hb9 z2 z3 z4)
            | (at_builtin; refine wpList_append_lies _ rfl (.tmp 183) (.tmp 185) 34 rfl w1.heap.size 25 i25 _ 1 4 Try.underlying34 hi25 hy0 hy1 hy2 rfl (by decide) (.slice av mv cv) mv (ucells (rv i)) rfl (by exact World.ownsRow.alloc (unhide Z4) _) ⟨w8.heap.size, 0, none⟩ 1 1 [.int .u32 nw] rfl rfl (by exact news1 _ w8.heap.size nw 25 (by simp)) (by intro u hu; simp at hu; subst hu; rfl) (by omega) (by unfold maxLen; omega) (by omega) (by have := unhide H26; simp at this; simp; omega) _ rfl ?_; intro g10 cap10 w10 hown10 hgrow10 hat10 hlt10; obtain ⟨f10, e10, hs11, hb11⟩ := (unhide Hs9).appV hin z1 _ hown10 hgrow10 (by simpa using hat10); have Hb11 := hide (hb11 _ (unhide Hb9)); have Hs11 := hide hs11; clear hown10 hgrow10 hat10 hlt10 hs11 hb11))
          go_roundw
          case rel =>
            refine ⟨t + 1, by omega, by go_num, Hb11, hide ?_⟩
            obtain ⟨T11, hs11⟩ := unhide Hs11
            exact ⟨T11, N + 1, _, _, _, _, by omega, hs11, unhide HOK7⟩
          case measure => simp [intOf]; omega
        obtain ⟨pp, hpp⟩ : ∃ pp : Nat, fidx old (rk i) = pp := ⟨(fidx old (rk i)).toNat, by omega⟩
        rw [hpp] at CF2
        have HOK7 := hide (unhide HOKF pp hpp)
        have hppl : pp < (rv i).length := by have := (fidx_hit old _ pp hpp).1; have := (unhide HKV).len; omega
        obtain ⟨r1, mv, cv, z1, z2, z3, z4, z5, z6⟩ := (unhide Hs7).putV hin hppl
        obtain ⟨hs8, hb8⟩ := z6 nw
        have Hs8 := hide hs8
        have Hb8 := hide (hb8 _ (unhide Hb7))
        have hpv : pp < mv := by omega
        generalize (rv i).getD pp 0 = vo2 at *
        clear hkk hpp HOKF HOKN y2 z2 z3 z6 hs8 hb8 hppl
        go_wp2_with fail
        refine (unhide CF2).mono ?_
        rintro e w' ⟨rfl, hw⟩
        have hw2 := hw.symm
        clear hw
        subst hw2
        generalize w6.setCell ⟨r, p, none⟩ (.int .u32 nw) = w7 at *
        clear q1 q4 q5 y0 CF2
        go_wp2
        go_roundw
        case rel => exact ⟨t + 1, by omega, by go_num, Hb8, hide ⟨T6, N + 1, _, _, _, _, by omega, unhide Hs8, unhide HOK7⟩⟩
        case measure => simp [intOf]; omega
      obtain ⟨T, N, M, rr, rk, rv, hN, hs, hok⟩ := unhide hinv
      have HSC := hide hs
      have HOK := hide hok
      have hlM := hok.len
      have htn : t = nn := by omega
      subst htn
      clear hs hok hinv hlt ht
      generalize wr = wx at *
      go_wp2
      go_loopw [21] (fun x wr => ∃ j : Nat, j ≤ k ∧ x = .int .i64 j ∧ Hid (Below wx.heap.size wx wr)) (fun x _ => k - (intOf x).toNat)
      case atStart => exact ⟨0, Nat.zero_le _, rfl, hide (Below.refl _ _)⟩
      case round =>
        obtain ⟨j, hj, rfl, hby⟩ := hrel
        by_cases hjl : ¬ j < k
        · have Hbf : Hid (Below w.heap.size w wr) := hide ((unhide Hb1).trans (((unhide hbx).trans ((unhide hby).mono (unhide HSC).base)).mono (unhide Hb1).size))
          go_wp2
          go_ret
          exact ⟨rfl, unhide Hbf⟩
        have hjl := Classical.not_not.1 hjl
        have hsy := (unhide HSC).below (unhide hby)
        obtain ⟨r1, r2, r3, r4, r5⟩ := (unhide HOK).row j hjl
        obtain ⟨ar, mr, cr, eR, hut⟩ := hsy.reps.row hjl
        obtain ⟨ak, mk, ck, eK, lK, uK, -⟩ := hsy.keys.row hjl
        obtain ⟨av, mv, cv, eV, lV, uV, -⟩ := hsy.vals.row hjl
        have hlog := log_walk wr T _ sp 0 0 [] M N j hsy.st (by rw [hlM]; exact hjl) (by rw [hlM]; omega) (by rw [← r1]; exact r2)
        have HRC : Hid (∀ wz, Below wr.heap.size wr wz → Calls Try.prog 24 #[.pointer (some ⟨sp, 0, none⟩), .int .i64 j] wz fun e w' => RecPost wz (M.getD j ls0).rcd N e w') := hide (fun wz hbz =>
          rec_walk wz T _ sp 0 0 [] M N j (hsy.below hbz).st (by rw [hlM]; exact hjl))
        generalize M.getD j ls0 = L at *
        rw [r1] at hut r2
        have hmr := hut.1
        subst hmr
        have lRk := lK
        have lRv := lV
        rw [← r3.len, lK] at lV
        subst lV
        have tb1 : R < wr.heap.size := World.block_lt_of_cell? wr ⟨R, j, none⟩ eR
        have tb2 : K < wr.heap.size := World.block_lt_of_cell? wr ⟨K, j, none⟩ eK
        have tb3 : V < wr.heap.size := World.block_lt_of_cell? wr ⟨V, j, none⟩ eV
        have Hus := hide hut.us
        have HuK := hide uK
        have HuV := hide uV
        have Hlog := hide hlog
        have HKV := hide r3
        have HW4 := hide r4
        have hmk : mk ≤ 4096 := by omega
        have hcv : IntKind.u32.wrap ((j : Int) + 1) = (j : Int) + 1 := by rw [IntWalk.u32_in _ ⟨by omega, by omega⟩]
        have HLK := hide lK
        clear hut uK uV hlog hsy r1 r3 r4 r5 lRk lRv lK
        go_wp2_with fail
        refine (unhide Hlog).mono ?_
        rintro e w12 ⟨ap, capp, rfl, hus12, hb12⟩
        have hal : Below w12.heap.size w12 (w12.alloc (.cells #[.int .u32 ((j : Int) + 1), .slice ap L.reps.length capp, .int .u64 L.com, .int .u64 L.trm, .bool L.sld, .bool L.tran] 44)) := (Below.refl _ _).alloc (Nat.le_refl _) _
        have hb13 : Below wr.heap.size wr (w12.alloc (.cells #[.int .u32 ((j : Int) + 1), .slice ap L.reps.length capp, .int .u64 L.com, .int .u64 L.trm, .bool L.sld, .bool L.tran] 44)) := hb12.trans (hal.mono hb12.size)
        have Hus13 := hide (hus12.below hal)
        have Husj13 := hide ((unhide Hus).below hb13)
        have HuK13 := hide ((unhide HuK).below hb13)
        have HuV13 := hide ((unhide HuV).below hb13)
        have Hb13 := hide hb13
        have hsx := Sx.made w12 44 (.int .u32 ((j : Int) + 1)) (.slice ap L.reps.length capp) (.int .u64 L.com) (.int .u64 L.trm) (.bool L.sld) (.bool L.tran)
        have eR' := (hb13.cell (p := ⟨R, j, none⟩) tb1).trans eR
        have eK' := (hb13.cell (p := ⟨K, j, none⟩) tb2).trans eK
        have eV' := (hb13.cell (p := ⟨V, j, none⟩) tb3).trans eV
        clear hal hb12 hus12 hb13 Hus HuK HuV Hlog eR eK eV tb1 tb2 tb3
        go_wp2
        generalize w12.alloc (.cells #[.int .u32 ((j : Int) + 1), .slice ap L.reps.length capp, .int .u64 L.com, .int .u64 L.trm, .bool L.sld, .bool L.tran] 44) = w13 at *
        generalize w12.heap.size = p22 at *
        obtain ⟨⟨s0, s1, s2, s3, s4, s5⟩, -⟩ := hsx
        have Hsame : Hid (∀ q, Calls Try.prog 26 #[.slice ap L.reps.length capp, .slice ar L.reps.length cr] (w13.drewN q) fun e w' => e = .returned (.bool true) ∧ ∃ m, w' = (w13.drewN q).drewN m) := hide (fun q => sameU_walk _ _ _ _ _ L.reps _ r2 ((unhide Hus13).drewN q) ((unhide Husj13).drewN q))
        clear s0 s2 s3 s4 s5
        go_quiet ((go_at_call 26; exact Calls.quiet_of (unhide Hsame _)))
        have Hb14 : Hid (∀ q, Below wr.heap.size wr (w13.drewN q)) := hide (fun q => below_drewN (unhide Hb13) q)
        clear s1 Hsame Hus13 Husj13 eR'
        go_wp2_with fail
        refine (unhide HRC _ (unhide Hb14 _)).mono ?_
        rintro e w' ⟨mv', rfl, hw, hm⟩
        have hw2 := hw.symm
        clear hw
        subst hw2
        clear HRC
        rcases hm with ⟨hm, hrn⟩ | ⟨mb, D, hm, hrn, nm, hnm, hmap⟩
        · subst hm
          have hk0 : mk = 0 := by have h1 := (unhide HKV).nil hrn; have h2 := unhide HLK; rw [h1] at h2; exact h2.symm
          subst hk0
          clear hrn
          go_wp2
          go_quiet (fail)
          go_wp2
          go_loop [25] (fun x => x = .int .i64 0) (fun _ => 0)
          case atStart => rfl
          case round =>
            subst hrel
            go_wp2
            go_roundw
            case rel => exact ⟨j + 1, by omega, by go_num, hide ((unhide hby).trans ((below_drewN (unhide Hb13) _).mono (unhide hby).size))⟩
            case measure => simp [intOf]; omega
        · subst hm
          have hD : rD L.rcd = D := by rw [hrn]; rfl
          have hsz := (unhide HKV).size
          rw [hD, unhide HLK] at hsz
          have hlenq : ∀ q, (Builtin.len_ #[49] 3 #[.map (some mb)]).run Try.prog (w13.drewN q) = .ok (.int .i64 mk) (w13.drewN q) := by
            intro q
            have hm' : MapIs (w13.drewN q) mb nm D := hmap.block rfl
            have := World.ownsMap.len hm' Try.underlying49 3
            rw [hsz] at this
            exact this
          have HMAP : Hid (∀ q, MapIs (w13.drewN q) mb nm D) := hide (fun q => hmap.block rfl)
          have HAT : Hid (∀ l, l < mk → Maps.has D (kU ((rk j).getD l 0)) = true ∧ D.atKey (kU ((rk j).getD l 0)) (vU 0) = vU ((rv j).getD l 0) ∧ 0 ≤ (rk j).getD l 0 ∧ (rk j).getD l 0 ≤ 4294967295) := hide (by
            intro l hl
            have hl' : l < (rk j).length := by rw [unhide HLK]; exact hl
            refine ⟨?_, ?_, unhide HW4 l hl'⟩
            · rw [← hD]; exact ((unhide HKV).has _).2 ⟨l, hl', rfl⟩
            · rw [← hD]; exact (unhide HKV).val l hl')
          clear hD hsz hrn hnm hmap HKV HW4
          go_wp2
          go_quiet (fail)
          go_wp2
          clear hlenq
          go_loop [25] (fun x => ∃ l : Nat, l ≤ mk ∧ x = .int .i64 l) (fun x => mk - (intOf x).toNat)
          case atStart => exact ⟨0, Nat.zero_le _, rfl⟩
          case round =>
            obtain ⟨l, hl, rfl⟩ := hrel
            by_cases hll : l < mk
            · obtain ⟨bk, ok, hak, hx1, hck⟩ := (unhide HuK13).2.2.2 (by omega)
              obtain ⟨bv, ov, hav, hx2, hcv'⟩ := (unhide HuV13).2.2.2 (by omega)
              have v1 := hck l hll
              have v2 := hcv' l hll
              obtain ⟨t1, t2, t3, t4⟩ := unhide HAT l hll
              subst hak hav
              generalize (rk j).getD l 0 = kx at *
              generalize (rv j).getD l 0 = vx at *
              have T1 := hide t1
              have T2 := hide t2
              clear hck hcv' hx1 hx2 t1 t2 HAT
              go_wp2_with (at_lookup; refine wpList_lookup_own_ok_int _ rfl (.tmp 235) (.tmp 242) 49 rfl 25 25 .u32 law25 Try.underlying49 Try.underlying25 (zero25' _) mb nm D rfl (unhide HMAP _) _ _ rfl (keyOf_int_mk Try.underlying25 (wfU t3 t4)) ?_; intro c hat hwc; have hh : Maps.has D (.int .u32 kx) = true := unhide T1; have hc : c = vx := (by have h3 : D.atKey (.int .u32 kx) (.lit (.int .u32 0)) = .lit (.int .u32 vx) := unhide T2; rw [h3] at hat; cases hat; rfl); subst hc; clear hat hwc; rw [hh]; clear hh)
              go_round
              case rel => exact ⟨l + 1, by omega, by go_num⟩
              case measure => simp [intOf]; omega
            · go_wp2
              go_roundw
              case rel => exact ⟨j + 1, by omega, by go_num, hide ((unhide hby).trans ((below_drewN (unhide Hb13) _).mono (unhide hby).size))⟩
              case measure => simp [intOf]; omega
end Go.Proofs.Qxb6604323a
