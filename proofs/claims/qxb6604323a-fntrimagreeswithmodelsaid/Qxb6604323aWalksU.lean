import Derived.Test.Qxb6604323aWalksT
namespace Go.Proofs.Qxb6604323a
open Go.ChangeShapes Go.WideShapes Go.ChangeAt Go.RowKit Go.Maps

theorem fz_below {w w' : World} {B b o : Nat} (hb : Below B w w') (h : b < B) : w'.frozen? ⟨b, o, none⟩ = w.frozen? ⟨b, o, none⟩ := World.frozen?_of_block (a := ⟨b, o, none⟩) (hb.block b h)

theorem co_ct {w : World} {B n cap : Nat} {a : Option Addr} {zs : List Cm} {tag : Nat → Nat × Nat} {t : Nat × Nat} (h : CO w B a n cap zs) (ht : ∀ g, B ≤ g → tag g = t) : CT w tag t a n cap zs := by
  obtain ⟨h1, h2, h3⟩ := h
  refine ⟨h1, h2, ?_, ?_⟩
  · intro ha
    rcases h3 with ⟨_, h4, h5⟩ | ⟨g, hg, _⟩
    · exact ⟨h4, h5⟩
    · rw [ha] at hg; cases hg
  · intro hn
    rcases h3 with ⟨_, h4, _⟩ | ⟨g, hg, hB, hb⟩
    · omega
    · exact ⟨g, hg, ht g hB, hb⟩

theorem state_head {w w' : World} {tag tag' : Nat → Nat × Nat} {B sp : Nat} {hi tr tr' : Int} {cms cms' : List Cm} {Lss : List Ls} {N : Nat} (h : StateIs w tag B sp hi tr cms Lss N) (ht : ∀ b, b < w.heap.size → tag' b = tag b) (k : Keep (fun t => t = (0, 0)) tag' w w')
    (hnew : ∀ asl ns cs ac nc cc, Blk w sp 4 (stCells hi tr asl ns cs ac nc cc) → CT w tag (6, 0) ac nc cc cms → ∃ ac' nc' cc', Blk w' sp 4 (stCells hi tr' asl ns cs ac' nc' cc') ∧ CT w' tag' (6, 0) ac' nc' cc' cms') :
    StateIs w' tag' B sp hi tr' cms' Lss N := by
  have hsp := h.sp_lt
  obtain ⟨h1, h2, asl, ns, cs, ac, nc, cc, pb, hb, hc, hn, ho, ht1, hL⟩ := h
  obtain ⟨ac', nc', cc', hb', hc'⟩ := hnew _ _ _ _ _ _ hb hc
  have nP : ∀ a b, 0 < a → ¬ (a, b) = ((0, 0) : Nat × Nat) := by
    intro a b ha hx
    cases hx
    omega
  refine ⟨fun b hb => by rw [ht b (by omega)]; exact h1 b hb, by rw [ht sp hb.1]; exact h2, asl, ns, cs, ac', nc', cc', pb, hb', hc', hn, owns_keep ho k ?_, ?_, ?_⟩
  · intro j hj
    rw [ht j (owns_lt ho j hj).2, ht1 j hj]; exact nP _ _ (by omega)
  · intro j hj
    rw [ht j (owns_lt ho j hj).2]; exact ht1 j hj
  · intro i hi
    exact ((hL i hi).retag ht).keep k (nP _ _ (by omega)) (nP _ _ (by omega)) (nP _ _ (by omega)) (nP _ _ (by omega))

theorem state_trm {w : World} {tag : Nat → Nat × Nat} {B sp : Nat} {hi tr : Int} {cms : List Cm} {Lss : List Ls} {N : Nat} (h : StateIs w tag B sp hi tr cms Lss N) (g : Int) :
    StateIs (w.setCell ⟨sp, 1, none⟩ (.int .u64 g)) tag B sp hi g cms Lss N := by
  have K : Keep (fun t => t = (0, 0)) tag w (w.setCell ⟨sp, 1, none⟩ (.int .u64 g)) := (Keep.refl _ _ w).setCell (p := ⟨sp, 1, none⟩) h.2.1 _
  refine state_head h (fun _ _ => rfl) K ?_
  intro asl ns cs ac nc cc hb hc
  refine ⟨ac, nc, cc, (hb.set 1 (by omega) (.int .u64 g)).congr ?_, hc.keep K (fun e => nomatch e)⟩
  intro j hj
  match j, hj with
  | 0, _ => rfl
  | 1, _ => rfl
  | 2, _ => rfl
  | 3, _ => rfl

theorem state_cms {w w2 : World} {tag : Nat → Nat × Nat} {B sp m cap : Nat} {a : Option Addr} {hi tr : Int} {cms zs : List Cm} {Lss : List Ls} {N : Nat} (h : StateIs w tag B sp hi tr cms Lss N) (hb2 : Below w.heap.size w w2) (hco : CO w2 w.heap.size a m cap zs) :
    ∃ T, StateIs (w2.setCell ⟨sp, 3, none⟩ (.slice a m cap)) T B sp hi tr zs Lss N := by
  have hsp := h.sp_lt
  have htag : ∀ b, b < w.heap.size → (fun b => if b < w.heap.size then tag b else (6, 0)) b = tag b := fun b hb => by simp [hb]
  have hnw : ∀ b, w.heap.size ≤ b → (fun b => if b < w.heap.size then tag b else (6, 0)) b = (6, 0) := fun b hb => by simp [Nat.not_lt.2 hb]
  generalize (fun b => if b < w.heap.size then tag b else (6, 0)) = T at *
  have tsp : T sp = (0, 0) := by rw [htag sp hsp.2]; exact h.2.1
  have K2 : Keep (fun t => t = (0, 0)) T w2 (w2.setCell ⟨sp, 3, none⟩ (.slice a m cap)) := (Keep.refl _ _ w2).setCell (p := ⟨sp, 3, none⟩) tsp _
  have K : Keep (fun t => t = (0, 0)) T w (w2.setCell ⟨sp, 3, none⟩ (.slice a m cap)) := (Keep.of_below hb2).trans K2
  refine ⟨T, state_head h htag K ?_⟩
  intro asl ns cs ac nc cc hb hc
  have hbk : Blk w2 sp 4 (stCells hi tr asl ns cs ac nc cc) := Blk.keep (P := fun _ => False) (tag := T) hb (Keep.of_below hb2) id
  refine ⟨a, m, cap, (hbk.set 3 (by omega) (.slice a m cap)).congr ?_, (co_ct hco hnw).keep K2 (fun e => nomatch e)⟩
  intro j hj
  match j, hj with
  | 0, _ => rfl
  | 1, _ => rfl
  | 2, _ => rfl
  | 3, _ => rfl

/-- A stream laid open for Trim. -/
def Step (w : World) (B sp : Nat) (hi tr : Int) (cms : List Cm) (Lss : List Ls) (N i gr cs p : Nat) (ac : Option Addr) (nc cc : Nat) : Prop :=
  w.cell? ⟨sp, 2, none⟩ = some (.slice (some ⟨gr, 0, none⟩) Lss.length cs) ∧ w.cell? ⟨gr, i, none⟩ = some (.pointer (some ⟨p, 0, none⟩)) ∧ w.cell? ⟨p, 6, none⟩ = some (.slice ac nc cc) ∧ w.frozen? ⟨p, 6, none⟩ = false ∧
  w.cell? ⟨p, 3, none⟩ = some (.int .u64 (Lss.getD i ls0).trm) ∧ w.frozen? ⟨p, 3, none⟩ = false ∧ CS w ac nc cc (Lss.getD i ls0).cms ∧ p < w.heap.size ∧
  ∀ w2 a m cap zs x, Below w.heap.size w w2 → CO w2 w.heap.size a m cap zs →
    (∃ T, StateIs ((w2.setCell ⟨p, 6, none⟩ (.slice a m cap)).setCell ⟨p, 3, none⟩ (.int .u64 x)) T B sp hi tr cms (Lss.set i { Lss.getD i ls0 with cms := zs, trm := x }) N) ∧
    (∀ W, Below B W w → Below B W ((w2.setCell ⟨p, 6, none⟩ (.slice a m cap)).setCell ⟨p, 3, none⟩ (.int .u64 x))) ∧
    ((w2.setCell ⟨p, 6, none⟩ (.slice a m cap)).setCell ⟨p, 3, none⟩ (.int .u64 x)).cell? ⟨sp, 2, none⟩ = some (.slice (some ⟨gr, 0, none⟩) Lss.length cs)

theorem state_step {w : World} {tag : Nat → Nat × Nat} {B sp : Nat} {hi tr : Int} {cms : List Cm} {Lss : List Ls} {N i : Nat} (h : StateIs w tag B sp hi tr cms Lss N) (hi' : i < Lss.length) :
    ∃ gr cs p ac nc cc, Step w B sp hi tr cms Lss N i gr cs p ac nc cc := by
  have hsp := h.sp_lt
  obtain ⟨gr, cs, p, c2, cp, ar, nr, cr, ac, nc, cc, mv, ht, hb, hu, hc, hm⟩ := h.ls hi'
  have hpB : B ≤ p := by
    rcases Nat.lt_or_ge p B with hx | hx
    · have := h.1 p hx; rw [ht] at this; cases this
    · exact hx
  have hps : p ≠ sp := by
    intro e
    rw [e, h.2.1] at ht
    cases ht
  refine ⟨gr, cs, p, ac, nc, cc, c2, cp, (hb.2 6 (by omega)).1, (hb.2 6 (by omega)).2, (hb.2 3 (by omega)).1, (hb.2 3 (by omega)).2, hc.cs, hb.1, ?_⟩
  intro w2 a m cap zs x hb2 hco
  have htag : ∀ b, b < w.heap.size → (fun b => if b < w.heap.size then tag b else (5, i)) b = tag b := fun b hb => by simp [hb]
  have hnw : ∀ b, w.heap.size ≤ b → (fun b => if b < w.heap.size then tag b else (5, i)) b = (5, i) := fun b hb => by simp [Nat.not_lt.2 hb]
  generalize (fun b => if b < w.heap.size then tag b else (5, i)) = T at *
  have tp : T p = (2, i) := by rw [htag p hb.1]; exact ht
  have K2 : Keep (fun t => t = (2, i)) T w2 ((w2.setCell ⟨p, 6, none⟩ (.slice a m cap)).setCell ⟨p, 3, none⟩ (.int .u64 x)) := ((Keep.refl _ _ w2).setCell (p := ⟨p, 6, none⟩) tp _).setCell (p := ⟨p, 3, none⟩) tp _
  have K : Keep (fun t => t = (2, i)) T w ((w2.setCell ⟨p, 6, none⟩ (.slice a m cap)).setCell ⟨p, 3, none⟩ (.int .u64 x)) := (Keep.of_below hb2).trans K2
  refine ⟨⟨T, state_set h hi' (Nat.le_refl _) htag (K.imp (fun t e => by rw [e]; exact ⟨rfl, by simp⟩)) ?_⟩, ?_, ?_⟩
  · intro gr' cs' p' c2' cp'
    rw [c2] at c2'
    cases c2'
    rw [cp] at cp'
    cases cp'
    have hbk : Blk w2 p 8 (lsCells i (Lss.getD i ls0) ar nr cr ac nc cc mv) := Blk.keep (P := fun _ => False) (tag := T) hb (Keep.of_below hb2) id
    refine ⟨ar, nr, cr, a, m, cap, mv, tp, ((hbk.set 6 (by omega) (.slice a m cap)).set 3 (by omega) (.int .u64 x)).congr ?_, (hu.retag htag).keep K (fun e => nomatch e), (co_ct hco hnw).keep K2 (fun e => nomatch e), (hm.retag htag).keep K (fun e => nomatch e)⟩
    intro j hj
    match j, hj with
    | 0, _ => rfl
    | 1, _ => rfl
    | 2, _ => rfl
    | 3, _ => rfl
    | 4, _ => rfl
    | 5, _ => rfl
    | 6, _ => rfl
    | 7, _ => rfl
  · intro W hW
    have hsz : B ≤ w.heap.size := by omega
    exact ((hW.trans (hb2.mono hsz)).setCell (p := ⟨p, 6, none⟩) hpB _).setCell (p := ⟨p, 3, none⟩) hpB _
  · rw [World.cell?_setCell_far _ _ _ _ (by exact hps), World.cell?_setCell_far _ _ _ _ (by exact hps), hb2.cell (p := ⟨sp, 2, none⟩) hsp.2]
    exact c2

def Ls.trim (g : Int) (L : Ls) : Ls := { L with cms := trimA g L.cms, trm := IntKind.u64.wrap (L.trm + trimN g L.cms) }
def trimTo (g : Int) (Lss : List Ls) (k : Nat) : List Ls := (Lss.take k).map (Ls.trim g) ++ Lss.drop k
theorem trimTo_len (g : Int) (Lss : List Ls) (k : Nat) (hk : k ≤ Lss.length) : (trimTo g Lss k).length = Lss.length := by simp [trimTo]; omega
theorem trimTo_getD (g : Int) (Lss : List Ls) (k : Nat) (hk : k < Lss.length) : (trimTo g Lss k).getD k ls0 = Lss.getD k ls0 := by
  unfold trimTo
  rw [List.getD_eq_getElem?_getD, List.getElem?_append_right (by simp; omega)]
  simp [List.getD_eq_getElem?_getD, Nat.min_eq_left (Nat.le_of_lt hk)]
theorem trimTo_step (g : Int) (Lss : List Ls) (k : Nat) (hk : k < Lss.length) : (trimTo g Lss k).set k ((Lss.getD k ls0).trim g) = trimTo g Lss (k + 1) := by
  unfold trimTo
  rw [List.set_append_right _ _ (by simp; omega)]
  have e : k - ((Lss.take k).map (Ls.trim g)).length = 0 := by simp; omega
  have e2 : Lss.getD k ls0 = Lss[k] := by simp [hk]
  rw [e, e2, List.drop_eq_getElem_cons hk, List.set_cons_zero, List.take_succ_eq_append_getElem hk, List.map_append, List.append_assoc]
  rfl
theorem trimTo_all (g : Int) (Lss : List Ls) (k : Nat) (hk : k = Lss.length) : trimTo g Lss k = Lss.map (Ls.trim g) := by subst hk; simp [trimTo]
theorem trimTo_zero (g : Int) (Lss : List Ls) : trimTo g Lss 0 = Lss := by simp [trimTo]

/-- Trim where it does nothing. -/
theorem trimS_no (w : World) (tag : Nat → Nat × Nat) (B sp : Nat) (hi tr : Int) (cms : List Cm) (Lss : List Ls) (N : Nat) (g : Int) (h : StateIs w tag B sp hi tr cms Lss N) (hg : hi < g ∨ g ≤ tr) :
    Calls Try.prog 36 #[.pointer (some ⟨sp, 0, none⟩), .int .u64 g] w fun e w' => e = .returned (.bool false) ∧ w' = w := by
  obtain ⟨h1, h2, asl, ns, cs, ac, nc, cc, pb, hb, hc, hn, ho, ht1, hL⟩ := h
  have c0 : w.cell? ⟨sp, 0, none⟩ = some (.int .u64 hi) := (hb.2 0 (by omega)).1
  have c1 : w.cell? ⟨sp, 1, none⟩ = some (.int .u64 tr) := (hb.2 1 (by omega)).1
  clear hb hc ho ht1 hL h1
  by_cases hA : hi < g
  · go_enter Try.func36, Try.ntmps36
    go_wp2
    go_ret
    exact ⟨rfl, rfl⟩
  · have hB : g ≤ tr := by omega
    have d1 : decide (hi < g) = false := by simp; omega
    have d2 : decide (g ≤ tr) = true := by simp; omega
    clear hA hB hg
    go_enter Try.func36, Try.ntmps36
    go_wp2
    go_ret
    exact ⟨rfl, rfl⟩

def TrimOk (w : World) (B sp : Nat) (hi g : Int) (cms : List Cm) (Lss : List Ls) (N : Nat) (e : Ending) (w' : World) : Prop :=
  e = .returned (.bool true) ∧ (∃ T, StateIs w' T B sp hi g (trimA g cms) (Lss.map (Ls.trim g)) N) ∧ Below B w w'
def OkL (zs : List Cm) : Prop := zs.length ≤ 1048576 ∧ WfL zs ∧ ordB zs = true

set_option maxHeartbeats 4000000 in
theorem trimS_walk (w : World) (tag : Nat → Nat × Nat) (B sp : Nat) (hi tr : Int) (cms : List Cm) (Lss : List Ls) (N : Nat) (g : Int) (h : StateIs w tag B sp hi tr cms Lss N) (hl : Lss.length ≤ 1048576) (hcm : OkL cms) (hLs : ∀ i, i < Lss.length → OkL (Lss.getD i ls0).cms) (g0 : 0 ≤ g) (g1 : g ≤ 18446744073709551614) (d1 : decide (hi < g) = false) (d2 : decide (g ≤ tr) = false) :
    Calls Try.prog 36 #[.pointer (some ⟨sp, 0, none⟩), .int .u64 g] w fun e w' => TrimOk w B sp hi g cms Lss N e w' := by
  have hsp := h.sp_lt
  have Hst1 := hide (state_trm h g)
  obtain ⟨h1, h2, asl, ns, cs, ac, nc, cc, pb, hb, hc, hn, ho, ht1, hL⟩ := h
  subst hn
  have c0 : w.cell? ⟨sp, 0, none⟩ = some (.int .u64 hi) := (hb.2 0 (by omega)).1
  have c1 : w.cell? ⟨sp, 1, none⟩ = some (.int .u64 tr) := (hb.2 1 (by omega)).1
  have f1 := (hb.2 1 (by omega)).2
  have hb1 := hb.set 1 (by omega) (.int .u64 g)
  have k2 : (w.setCell ⟨sp, 1, none⟩ (.int .u64 g)).cell? ⟨sp, 2, none⟩ = some (.slice asl Lss.length cs) := (hb1.2 2 (by omega)).1
  have k3 : (w.setCell ⟨sp, 1, none⟩ (.int .u64 g)).cell? ⟨sp, 3, none⟩ = some (.slice ac nc cc) := (hb1.2 3 (by omega)).1
  have l3 := (hb1.2 3 (by omega)).2
  have c3 : w.cell? ⟨sp, 3, none⟩ = some (.slice ac nc cc) := (hb.2 3 (by omega)).1
  have hc1 : CS (w.setCell ⟨sp, 1, none⟩ (.int .u64 g)) ac nc cc cms := (hc.keep (P := fun t => t = (0, 0)) ((Keep.refl _ _ w).setCell (p := ⟨sp, 1, none⟩) h2 _) (fun e => nomatch e)).cs
  have Hc1 := hide hc1
  have hnc := hc1.1
  have hcl := hcm.1
  have Hcm := hide hcm
  have HLs := hide hLs
  have hb0 : Below B w (w.setCell ⟨sp, 1, none⟩ (.int .u64 g)) := (Below.refl _ _).setCell (p := ⟨sp, 1, none⟩) hsp.1 _
  have Hb0 := hide hb0
  have hsz : (w.setCell ⟨sp, 1, none⟩ (.int .u64 g)).heap.size = w.heap.size := by simp
  have CALL := hide (trimC_walk ac nc cc cms g _ (by omega) hc1 hcm.2.1 hcm.2.2 g0 g1)
  clear hb hc ho ht1 hL h1 hb1 hc1 hcm hLs hb0
  go_enter Try.func36, Try.ntmps36
  go_wp2_with fail
  refine (unhide CALL).mono ?_
  rintro e w2 ⟨a', m, cap', rfl, hco, hb2⟩
  have m2 := (hb2.cell (p := ⟨sp, 2, none⟩) (by rw [hsz]; exact hsp.2)).trans k2
  have m3 := (hb2.cell (p := ⟨sp, 3, none⟩) (by rw [hsz]; exact hsp.2)).trans k3
  have n3 := (hb2.frozen (p := ⟨sp, 3, none⟩) (by rw [hsz]; exact hsp.2)).trans l3
  have Hst2 := hide (state_cms (unhide Hst1) hb2 hco)
  have Hb2 : Hid (Below B w (w2.setCell ⟨sp, 3, none⟩ (.slice a' m cap'))) := hide (((unhide Hb0).trans (hb2.mono (by omega))).setCell (p := ⟨sp, 3, none⟩) hsp.1 _)
  clear hco hb2 CALL k2 k3 l3 c0 c1 c3 f1 Hst1 Hb0 Hc1 hsz
  go_wp2
  have q2 : (w2.setCell ⟨sp, 3, none⟩ (.slice a' m cap')).cell? ⟨sp, 2, none⟩ = some (.slice asl Lss.length cs) := by
    rw [World.cell?_setCell_other (h := fun x => by cases x)]; exact m2
  have Q2 := hide q2
  clear m2 m3 n3 q2
  generalize w2.setCell ⟨sp, 3, none⟩ (.slice a' m cap') = w3 at *
  go_loopw [43] (fun x wr => ∃ k : Nat, k ≤ Lss.length ∧ x = .int .i64 k ∧ Hid (Below B w wr) ∧ Hid (wr.cell? ⟨sp, 2, none⟩ = some (.slice asl Lss.length cs)) ∧ Hid (∃ T, StateIs wr T B sp hi g (trimA g cms) (trimTo g Lss k) N)) (fun x _ => Lss.length - (intOf x).toNat)
  case atStart => exact ⟨0, Nat.zero_le _, rfl, Hb2, Q2, by rw [trimTo_zero]; exact Hst2⟩
  case round =>
    obtain ⟨k, hk, rfl, hbr, hq, hst⟩ := hrel
    by_cases hlt : k < Lss.length
    · obtain ⟨T, hsT⟩ := unhide hst
      have hlen := trimTo_len g Lss k hk
      obtain ⟨gr, cs', p, ac', nc', cc', e2, ep, e6, f6, e3, f3, hcs, hpw, hstep⟩ := state_step hsT (i := k) (by omega)
      rw [hlen, unhide hq] at e2
      obtain ⟨rfl, rfl⟩ : asl = some ⟨gr, 0, none⟩ ∧ cs = cs' := by cases e2; exact ⟨rfl, rfl⟩
      rw [trimTo_getD g Lss k hlt] at e3 hcs hstep
      have hok := unhide HLs k hlt
      have hnc' := hcs.1
      have hol := hok.1
      have CALL := hide (trimC_walk ac' nc' cc' _ g wr (by omega) hcs hok.2.1 hok.2.2 g0 g1)
      have HSTEP := hide hstep
      have HLEN := hide hlen
      have HTS := hide (trimTo_step g Lss k hlt)
      unfold Ls.trim at HTS
      generalize Lss.getD k ls0 = L at *
      clear e2 hcs hstep hsT hst hok hlen HLs Hst2 Q2 Hb2 hnc' hol hnc hcl
      go_wp2_with fail
      refine (unhide CALL).mono ?_
      rintro e w5 ⟨a5, m5, cap5, rfl, hco, hb5⟩
      have r6 := (hb5.cell (p := ⟨p, 6, none⟩) hpw).trans e6
      have t6 := (hb5.frozen (p := ⟨p, 6, none⟩) hpw).trans f6
      have r3 := (hb5.cell (p := ⟨p, 3, none⟩) hpw).trans e3
      have t3 := (hb5.frozen (p := ⟨p, 3, none⟩) hpw).trans f3
      obtain ⟨s1, s2, s3⟩ := unhide HSTEP w5 a5 m5 cap5 (trimA g L.cms) (IntKind.u64.wrap (L.trm + trimN g L.cms)) hb5 hco
      rw [unhide HTS] at s1
      rw [unhide HLEN] at s3
      have S1 := hide s1
      have S2 := hide (s2 _ (unhide hbr))
      have S3 := hide s3
      clear s1 s2 s3 hco hb5 CALL e6 f6 e3 f3 HSTEP
      go_wp2
      go_roundw
      case rel => exact ⟨k + 1, by omega, by go_num, S2, S3, S1⟩
      case measure => simp [intOf]; omega
    · have hke : k = Lss.length := by omega
      have Hf := hst
      rw [trimTo_all g Lss k hke] at Hf
      go_wp2
      go_ret
      exact ⟨rfl, unhide Hf, unhide hbr⟩
end Go.Proofs.Qxb6604323a
