import Derived.Test.Qxb6604323aPlainU
import Derived.Test.Qxb6604323aWalksN
namespace Go.Proofs.Qxb6604323a
open Go.ChangeShapes Go.WideShapes Go.ChangeAt Go.RowKit Go.Maps

theorem zero25 (w : World) : (zeroValue 25).run Try.prog w = .ok (.int .u32 0) w := by kernel_rfl

theorem repl_below {w w' W : World} {tag tag' : Nat → Nat × Nat} {B sp i : Nat} {hi tr : Int} {cms : List Cm} {Lss : List Ls} {N : Nat} (h : StateIs w tag B sp hi tr cms Lss N) (htg : ∀ b, b < w.heap.size → tag' b = tag b) (k : Keep (replP i) tag' w w') (hb : Below B W w) (hB : B ≤ w.heap.size) : Below B W w' := by
  refine k.below hb hB ?_
  intro b hb' hx
  rw [htg b (by omega), h.1 b hb'] at hx
  rcases hx.2 with h | h | h <;> simp at h

/-- What two Replaces leave of the streams. -/
theorem swap_twice {ss : List St} {n i k : Nat} {us : List Int} {old nw : Int} (hl : ss.length = n) (hin : i < n) (hsd : (ss.getD i st0).reps = us) (hsb : (us.set k nw).set k old = us) (M : List Ls)
    (hM : M = ((ss.map St.ls).set i (((ss.map St.ls).getD i ls0).repl k old nw)).set i ((((ss.map St.ls).set i (((ss.map St.ls).getD i ls0).repl k old nw)).getD i ls0).repl k nw old)) :
    M.length = n ∧ (∀ j, j < n → (M.getD j ls0).reps = (ss.getD j st0).reps) ∧ (M.getD i ls0).rcd = some (((DataW.map []).put (kU old) (vU nw)).put (kU nw) (vU old)) := by
  have h1 : i < (ss.map St.ls).length := by simp [hl, hin]
  have h2 : i < ((ss.map St.ls).set i (((ss.map St.ls).getD i ls0).repl k old nw)).length := by simp [hl, hin]
  have hg : (ss.map St.ls).getD i ls0 = (ss.getD i st0).ls := ls_getD_map ss i (by omega)
  subst hM
  refine ⟨by simp [hl], fun j hj => ?_, ?_⟩
  · rw [set_getD _ _ _ _ h2, set_getD _ _ _ _ h1, set_getD _ _ _ _ h1, if_pos rfl, hg]
    by_cases e : j = i
    · subst e
      rw [if_pos rfl]
      show (((ss.getD j st0).reps).set k nw).set k old = _
      rw [hsd]; exact hsb
    · rw [if_neg e, if_neg e, ls_getD_map ss j (by omega)]; rfl
  · rw [set_getD _ _ _ _ h2, set_getD _ _ _ _ h1, if_pos rfl, if_pos rfl, hg]
    rfl

set_option maxHeartbeats 8000000 in
set_option maxRecDepth 100000 in
theorem swap_walk (a : Option Addr) (n cap : Nat) (ss : List St) (id old nw : Int) (w : World) (hn : n ≤ 9223372036854775807) (h : SS w a n cap ss) (hmax : Max63 n ss) (i0 : 0 ≤ id) (i1 : id ≤ 4294967295) (o0 : 0 ≤ old) (o1 : old ≤ 4294967295) (x0 : 0 ≤ nw) (x1 : nw ≤ 4294967295) :
    Calls Try.prog 4 #[.slice a n cap, .int .u32 id, .int .u32 old, .int .u32 nw] w fun e w' => e = .returned (.bool true) ∧ Below w.heap.size w w' := by
  have HS := hide h
  have HX := hide hmax
  have hlen := h.1
  clear h hmax
  go_enter Try.func4, Try.ntmps4
  go_wp2_with fail
  refine (zz25_walk a n cap ss id old nw w hn (unhide HS) (unhide HX)).mono ?_
  rintro e w' ⟨bz, rfl, hw⟩
  have hw2 := hw.symm
  clear hw
  subst hw2
  cases bz
  · go_wp2
    go_ret
    exact ⟨rfl, Below.refl _ _⟩
  go_wp2_with fail
  refine (tooBig_walk none 0 0 a n cap ss 0 w hn (by omega) (by omega) (by omega) (unhide HS) (unhide HX)).mono ?_
  rintro e w' ⟨bb, rfl, hbig, q, rfl⟩
  cases bb
  rotate_left
  · go_wp2
    go_ret
    exact ⟨rfl, below_drewN (Below.refl _ w) q⟩
  have hmod := (hbig rfl).1
  clear hbig HX
  have hn14 := hmod.1
  have Hmod := hide hmod
  clear hmod hn
  go_wp2_with fail
  refine (cloneS_walk a n cap ss _ ((unhide HS).drewN q) (unhide Hmod)).mono ?_
  rintro e w1 ⟨a1, rfl, hss1, hb1⟩
  have Hss1 := hide hss1
  have Hb1 : Hid (Below w.heap.size w w1) := hide ((below_drewN (Below.refl _ w) q).trans hb1)
  clear hss1 hb1 HS
  have hbuild := build_walk 0 0 none 0 0 [] a1 n n ss w1 (by omega) (CS.nil _) (unhide Hss1) (unhide Hmod)
  have Hbuild := hide hbuild
  clear hbuild
  by_cases hA : ¬ (1 ≤ id ∧ id ≤ n)
  · have hdec : (decide (1 ≤ id) && decide (id ≤ n)) = false := by simp; omega
    go_wp2_with (first
      | (go_at_call 13; refine (holds_walk n id _ (by omega) i0 i1).mono ?_; rintro e w' ⟨rfl, hw⟩; have hw2 := hw.symm; clear hw; subst hw2)
      | (go_at_call 12; refine (unhide Hbuild).mono ?_; rintro e w2 ⟨sp, rfl, tag, hst, hb2⟩; have Hst := hide hst; have Hb2 := hide hb2; clear hst hb2)
      | (go_at_call 15; refine (replace_no _ tag _ _ _ _ _ _ _ id old nw (unhide Hst) i0 i1 (by simp; omega)).mono ?_; rintro e w' ⟨rfl, hw⟩; have hw2 := hw.symm; clear hw; subst hw2))
    go_ret
    exact ⟨rfl, (unhide Hb1).trans ((unhide Hb2).mono (unhide Hb1).size)⟩
  obtain ⟨hA1, hA2⟩ := Classical.not_not.1 hA
  clear hA
  obtain ⟨i, rfl⟩ : ∃ i : Nat, id = (i : Int) + 1 := ⟨(id - 1).toNat, by omega⟩
  have hin : i < n := by omega
  have hdec : (decide ((1 : Int) ≤ (i : Int) + 1) && decide ((i : Int) + 1 ≤ n)) = true := by simp; omega
  obtain ⟨b1, off1, had, hbw1, hcm⟩ := (unhide Hss1).2.2.2 (by omega)
  obtain ⟨ar, nr, cr, ac, nc, cc, hst1⟩ := hcm i hin
  have hus := hst1.2.2.2.2.2.2.1
  have g0 := hst1.1
  have hrl := (unhide Hmod).2 i hin
  have hnr := hus.1
  generalize hsd : (ss.getD i st0).reps = us at *
  have hnr6 : nr ≤ 1048576 := by omega
  have Hus := hide hus
  have HSD := hide hsd
  have HRL := hide hrl
  clear hcm hst1 hus hsd hrl hA1 hA2
  subst had
  obtain ⟨ko, hko⟩ : ∃ ko, fidx old us = ko := ⟨_, rfl⟩
  obtain ⟨kn, hkn⟩ : ∃ kn, fidx nw us = kn := ⟨_, rfl⟩
  have ck := fidx_walk ar nr cr us old w1 hnr6 (unhide Hus)
  have cn := fidx_walk ar nr cr us nw w1 hnr6 (unhide Hus)
  have hkr := fidx_range old us
  have hnr' := fidx_range nw us
  rw [hko] at ck hkr
  rw [hkn] at cn hnr'
  obtain ⟨k1, k2⟩ := hkr
  obtain ⟨p1, p2⟩ := hnr'
  have CK := hide ck
  have CN := hide cn
  have HKO := hide hko
  have HKN := hide hkn
  clear ck cn hko hkn
  have hlL : (ss.map St.ls).length = n := by simp [hlen]
  have hgL : (ss.map St.ls).getD i ls0 = (ss.getD i st0).ls := ls_getD_map ss i (by omega)
  have hgr : ((ss.map St.ls).getD i ls0).reps = us := by rw [hgL]; exact unhide HSD
  have HLL := hide hlL
  have HGL := hide hgL
  have HGR := hide hgr
  clear hlL hgL hgr
  go_wp2_with (go_at_call 13; refine (holds_walk n _ _ (by omega) i0 i1).mono ?_; rintro e w' ⟨rfl, hw⟩; have hw2 := hw.symm; clear hw; subst hw2)
  refine (unhide CK).mono ?_
  rintro e w' ⟨rfl, hw⟩
  have hw2 := hw.symm
  clear hw
  subst hw2
  go_wp2_with fail
  refine (unhide CN).mono ?_
  rintro e w' ⟨rfl, hw⟩
  have hw2 := hw.symm
  clear hw
  subst hw2
  clear CK CN
  by_cases hB1 : 0 ≤ ko ∧ 0 ≤ kn ∧ kn < ko
  · obtain ⟨q1, q2, q3⟩ := hB1
    go_wp2
    go_ret
    exact ⟨rfl, unhide Hb1⟩
  by_cases hB2 : ko < 0
  · have hm1 : ko = -1 := by omega
    subst hm1
    go_wp2_with (first
      | (go_at_call 12; refine (unhide Hbuild).mono ?_; rintro e w2 ⟨sp, rfl, tag, hst, hb2⟩; have Hst := hide hst; have Hb2 := hide hb2; clear hst hb2)
      | (go_at_call 15; refine (replace_miss _ tag _ _ _ _ _ _ _ i old nw (unhide Hst) (by rw [unhide HLL]; exact hin) (by rw [unhide HLL]; omega) (by rw [unhide HGR]; omega) (by rw [unhide HGR]; exact unhide HKO)).mono ?_; rintro e w' ⟨rfl, hw⟩; have hw2 := hw.symm; clear hw; subst hw2))
    go_ret
    exact ⟨rfl, (unhide Hb1).trans ((unhide Hb2).mono (unhide Hb1).size)⟩
  obtain ⟨k, hkk⟩ : ∃ k : Nat, ko = (k : Int) := ⟨ko.toNat, by omega⟩
  have hkof : fidx old us = k := (unhide HKO).trans hkk
  have hnot : ¬ (0 ≤ fidx nw us ∧ fidx nw us < (k : Int)) := by rw [unhide HKN]; omega
  have HFS := hide (fidx_swapped old nw us k hkof hnot)
  obtain ⟨hk3, hk4, -⟩ := fidx_hit old us k hkof
  have HSB := hide (set_back us k old nw hk3 hk4)
  have hrl6 : us.length ≤ 1048576 := by omega
  have HM : Hid (∀ w2 sp tag, StateIs w2 tag w1.heap.size sp 0 0 [] (ss.map St.ls) 0 → Below w1.heap.size w1 w2 → Calls Try.prog 15 #[.pointer (some ⟨sp, 0, none⟩), .int .u32 ((i : Int) + 1), .int .u32 old, .int .u32 nw] w2 fun e w' => ReplOk w2 tag w1.heap.size sp 0 0 [] (ss.map St.ls) 0 i k old nw e w') := hide (fun w2 sp tag hst _ =>
    replace_hit w2 tag _ sp 0 0 [] (ss.map St.ls) 0 i k old nw hst (by rw [unhide HLL]; exact hin) (by rw [unhide HLL]; omega) (by rw [unhide HGR]; exact hrl6) (by omega) (by rw [unhide HGR]; exact hkof) o0 o1 x0 x1)
  have HM2 : Hid (∀ w3 sp tag, StateIs w3 tag w1.heap.size sp 0 0 [] ((ss.map St.ls).set i (((ss.map St.ls).getD i ls0).repl k old nw)) 1 → Calls Try.prog 15 #[.pointer (some ⟨sp, 0, none⟩), .int .u32 ((i : Int) + 1), .int .u32 nw, .int .u32 old] w3 fun e w' => ReplOk w3 tag w1.heap.size sp 0 0 [] ((ss.map St.ls).set i (((ss.map St.ls).getD i ls0).repl k old nw)) 1 i k nw old e w') := hide (by
    intro w3 sp tag hst
    have hg : ((ss.map St.ls).set i (((ss.map St.ls).getD i ls0).repl k old nw)).getD i ls0 = ((ss.map St.ls).getD i ls0).repl k old nw := by rw [set_getD _ _ _ _ (by rw [unhide HLL]; exact hin), if_pos rfl]
    have hr : (((ss.map St.ls).getD i ls0).repl k old nw).reps = us.set k nw := by show (((ss.map St.ls).getD i ls0).reps).set k nw = _; rw [unhide HGR]
    exact replace_hit w3 tag _ sp 0 0 [] _ 1 i k nw old hst (by simp [hlen]; exact hin) (by simp [hlen]; omega) (by rw [hg, hr]; simp; omega) (by omega) (by rw [hg, hr]; exact unhide HFS) x0 x1 o0 o1)
  have hor : kn < 0 ∨ (0 ≤ kn ∧ ko ≤ kn) := by omega
  have d1 : decide (0 ≤ ko) = true := by simp; omega
  have d4 : decide (ko < 0) = false := by simp; omega
  clear hB1 hB2 p1 p2 k1 k2 hnr hdec g0 hbw1 hkk hkof hnot hk3 hk4 hrl6
  have hd : (decide (0 ≤ kn) = false) ∨ (decide (0 ≤ kn) = true ∧ decide (kn < ko) = false) := by
    rcases hor with h | ⟨h1, h2⟩
    · exact Or.inl (by simpa using h)
    · exact Or.inr ⟨by simpa using h1, by simpa using h2⟩
  clear hor
  rcases hd with d2 | ⟨d2, d3⟩
  all_goals
    go_wp2_with (first
      | (go_at_call 12; refine (unhide Hbuild).mono ?_; rintro e w2 ⟨sp, rfl, tag, hst, hb2⟩; have Hst := hide hst; have Hb2 := hide hb2; clear hst hb2)
      | fail)
    refine (unhide HM w2 sp tag (unhide Hst) (unhide Hb2)).mono ?_
    rintro e w3 ⟨rfl, tag3, hst3, htg3, hk3'⟩
    have Hb3 := hide (repl_below (unhide Hst) htg3 hk3' (unhide Hb2) (unhide Hb2).size)
    have Hst3 := hide hst3
    clear hst3 htg3 hk3'
    go_wp2_with fail
    refine (unhide HM2 w3 sp tag3 (unhide Hst3)).mono ?_
    rintro e w4 ⟨rfl, tag4, hst4, htg4, hk4'⟩
    have Hb4 := hide (repl_below (unhide Hst3) htg4 hk4' (unhide Hb3) (unhide Hb3).size)
    have Hst4 := hide hst4
    clear hst4 htg4 hk4'
    obtain ⟨M, hMeq⟩ : ∃ M, M = ((ss.map St.ls).set i (((ss.map St.ls).getD i ls0).repl k old nw)).set i ((((ss.map St.ls).set i (((ss.map St.ls).getD i ls0).repl k old nw)).getD i ls0).repl k nw old) := ⟨_, rfl⟩
    obtain ⟨hMl, hMr, hMc⟩ := swap_twice hlen hin (unhide HSD) (unhide HSB) M hMeq
    rw [← hMeq] at Hst4
    have HMl := hide hMl
    have HMr := hide hMr
    have HMc := hide hMc
    clear hMeq hMl hMr hMc HM HM2 HFS HSB HGL HGR HLL HKO HKN Hst3 Hst Hbuild Hus HSD HRL
    go_wp2
    go_loopw [13] (fun x wr => ∃ j : Nat, j ≤ n ∧ x = .int .i64 j ∧ Hid (Below w4.heap.size w4 wr)) (fun x _ => n - (intOf x).toNat)
    case atStart => exact ⟨0, Nat.zero_le _, rfl, hide (Below.refl _ _)⟩
    case round =>
      obtain ⟨j, hj, rfl, hbr⟩ := hrel
      have hstr := (unhide Hst4).keep (P := fun _ => False) (Keep.of_below (unhide hbr)) (fun t h => h.elim)
      by_cases hlt : j < n
      · obtain ⟨b1', off1', had', hbw1', hcm'⟩ := (unhide Hss1).2.2.2 (by omega)
        cases had'
        obtain ⟨arj, nrj, crj, acj, ncj, ccj, hstj⟩ := hcm' j hlt
        have hb1r : Below w1.heap.size w1 wr := (unhide Hb4).trans ((unhide hbr).mono (unhide Hb4).size)
        have hstr1 := hstj.below hb1r hbw1'
        have husj := hstr1.2.2.2.2.2.2.1
        have gj := hstr1.1
        have hml := ((unhide Hmod).2 j hlt).1
        have hlog := log_walk wr tag4 _ sp 0 0 [] M 2 j hstr (by rw [unhide HMl]; exact hlt) (by rw [unhide HMl]; omega) (by rw [unhide HMr j hlt]; exact hml)
        have hMrj := unhide HMr j hlt
        generalize M.getD j ls0 = Lj at *
        rw [← hMrj] at husj hml
        have hnrj := husj.1
        subst hnrj
        have hbj : b1 < wr.heap.size := Nat.lt_of_lt_of_le hbw1' hb1r.size
        have Husj := hide husj
        have Hlog := hide hlog
        have hcv : IntKind.u32.wrap ((j : Int) + 1) = (j : Int) + 1 := by rw [IntWalk.u32_in _ ⟨by omega, by omega⟩]
        clear hcm' hstj hb1r hstr1 husj hlog hMrj hstr
        go_wp2_with fail
        refine (unhide Hlog).mono ?_
        rintro e w5 ⟨a5, cap5, rfl, hus5, hb5⟩
        have gj5 := (hb5.cell (p := ⟨b1, off1 + j * 6, none⟩) hbj).trans gj
        have hb15 : b1 < w5.heap.size + 1 := by have := hb5.size; omega
        have hb15' : b1 < w5.heap.size := by have := hb5.size; omega
        have hal : Below w5.heap.size w5 (w5.alloc (.cells #[.int .u32 ((j : Int) + 1), .slice a5 Lj.reps.length cap5, .int .u64 Lj.com, .int .u64 Lj.trm, .bool Lj.sld, .bool Lj.tran] 44)) := (Below.refl _ _).alloc (Nat.le_refl _) _
        have Hsame : Hid (∀ q, Calls Try.prog 26 #[.slice a5 Lj.reps.length cap5, .slice arj Lj.reps.length crj] ((w5.alloc (.cells #[.int .u32 ((j : Int) + 1), .slice a5 Lj.reps.length cap5, .int .u64 Lj.com, .int .u64 Lj.trm, .bool Lj.sld, .bool Lj.tran] 44)).drewN q) fun e w' => e = .returned (.bool true) ∧ ∃ m, w' = ((w5.alloc (.cells #[.int .u32 ((j : Int) + 1), .slice a5 Lj.reps.length cap5, .int .u64 Lj.com, .int .u64 Lj.trm, .bool Lj.sld, .bool Lj.tran] 44)).drewN q).drewN m) := hide (fun q =>
          sameU_walk _ _ _ _ _ Lj.reps _ hml ((hus5.below hal).drewN q) ((((unhide Husj).below hb5).below hal).drewN q))
        have Hb5 : Hid (Below w4.heap.size w4 (w5.alloc (.cells #[.int .u32 ((j : Int) + 1), .slice a5 Lj.reps.length cap5, .int .u64 Lj.com, .int .u64 Lj.trm, .bool Lj.sld, .bool Lj.tran] 44))) := hide ((unhide hbr).trans ((hb5.trans (hal.mono hb5.size)).mono (unhide hbr).size))
        clear hus5 hb5 hal gj hbj Husj Hlog
        go_wp2
        go_quiet ((go_at_call 26; exact Calls.quiet_of (unhide Hsame _)))
        go_wp2
        go_roundw
        case rel => exact ⟨j + 1, by omega, by go_num, hide (below_drewN (unhide Hb5) _)⟩
        case measure => simp [intOf]; omega
      · have hrec := rec_walk wr tag4 _ sp 0 0 [] M 2 i hstr (by rw [unhide HMl]; exact hin)
        have Hrec := hide hrec
        have Hbf : Hid (Below w.heap.size w wr) := hide ((unhide Hb1).trans (((unhide Hb4).trans ((unhide hbr).mono (unhide Hb4).size)).mono (unhide Hb1).size))
        obtain ⟨s1, s2, s3, s4⟩ := swap_rec old nw (DataW.map []) isMap_empty
        have S1 := hide s1
        have S2 := hide s2
        have S3 := hide s3
        have S4 := hide s4
        clear s1 s2 s3 s4 hrec hstr
        go_wp2_with fail
        refine (unhide Hrec).mono ?_
        rintro e w' ⟨mv, rfl, hw, hm⟩
        have hw2 := hw.symm
        clear hw
        subst hw2
        obtain ⟨mb, D, rfl, hD, nm, hnm, hmap⟩ : ∃ mb D, mv = some mb ∧ (M.getD i ls0).rcd = some D ∧ ∃ n, n ≤ 2 ∧ MapIs wr mb n D := by
          rcases hm with ⟨_, hm⟩ | hm
          · rw [unhide HMc] at hm; cases hm
          · exact hm
        rw [unhide HMc] at hD
        cases hD
        have Hmap := hide hmap
        clear hm hmap hnm
        generalize hDD : ((DataW.map []).put (kU old) (vU nw)).put (kU nw) (vU old) = D at *
        clear hDD HMc HMr HMl
        go_wp2_with (first
          | (at_lookup; refine wpList_lookup_own_ok_int _ rfl (.tmp 109) (.tmp 110) 49 rfl 25 25 .u32 law25 Try.underlying49 Try.underlying25 (zero25 _) mb nm D rfl (unhide Hmap) _ _ rfl (keyOf_int_mk Try.underlying25 (wfU o0 o1)) ?_; intro c hat hwc; have hh : Maps.has D (.int .u32 old) = true := unhide S1; have hc : c = nw := (by have h3 : D.atKey (.int .u32 old) (.lit (.int .u32 0)) = .lit (.int .u32 nw) := unhide S3; rw [h3] at hat; cases hat; rfl); subst hc; clear hat hwc; rw [hh]; clear hh)
          | (at_lookup; refine wpList_lookup_own_ok_int _ rfl (.tmp 115) (.tmp 116) 49 rfl 25 25 .u32 law25 Try.underlying49 Try.underlying25 (zero25 _) mb nm D rfl (unhide Hmap) _ _ rfl (keyOf_int_mk Try.underlying25 (wfU x0 x1)) ?_; intro c2 hat2 hwc2; have hh2 : Maps.has D (.int .u32 _) = true := unhide S2; have hc2 : c2 = old := (by have h4 : D.atKey (.int .u32 _) (.lit (.int .u32 0)) = .lit (.int .u32 old) := unhide S4; rw [h4] at hat2; cases hat2; rfl); subst hc2; clear hat2 hwc2; rw [hh2]; clear hh2))
        go_ret
        exact ⟨rfl, unhide Hbf⟩
end Go.Proofs.Qxb6604323a
