import Derived.Test.Qxb6604323aWalksM
namespace Go.Proofs.Qxb6604323a
open Go.ChangeShapes Go.WideShapes Go.ChangeAt Go.RowKit

theorem state_new {W w1 : World} {h t : Int} {ac : Option Addr} {nc cc : Nat} {cms : List Cm} (hb : Below W.heap.size W w1) (hc : CO w1 W.heap.size ac nc cc cms) :
    ∃ tag, StateIs (w1.alloc (.cells #[.int .u64 h, .int .u64 t, .slice none 0 0, .slice ac nc cc] 77)) tag W.heap.size w1.heap.size h t cms [] 0 := by
  refine ⟨fun b => if b < W.heap.size then (100, 0) else if b = w1.heap.size then (0, 0) else (6, 0), ?_, ?_, none, 0, 0, ac, nc, cc, fun _ => 0, ?_, ?_, rfl, World.ownsRow_nil _ _ _ _, ?_, ?_⟩
  · intro b hb; simp [hb]
  · have := hb.size
    have h1 : ¬ w1.heap.size < W.heap.size := by omega
    simp [h1]
  · refine ⟨by simp, fun j hj => ?_⟩
    rw [World.cell?_alloc_at (hn := rfl), World.frozen?_alloc_at (hn := rfl)]
    refine ⟨?_, rfl⟩
    match j, hj with
    | 0, _ => rfl
    | 1, _ => rfl
    | 2, _ => rfl
    | 3, _ => rfl
  · obtain ⟨u1, u2, ⟨rfl, u3, u4⟩ | ⟨g, ha, hg, hbk⟩⟩ := hc
    · exact ⟨u1, u2, fun _ => ⟨u3, u4⟩, fun h0 => absurd h0 (by omega)⟩
    · refine ⟨u1, u2, (fun e => by rw [ha] at e; cases e), fun h0 => ⟨g, ha, ?_, Blk.alloc hbk _⟩⟩
      have h1 : ¬ g < W.heap.size := by omega
      have h2 : ¬ g = w1.heap.size := by have := hbk.1; omega
      simp [h1, h2]
  · intro k hk; cases hk
  · intro i hi; omega

theorem map_take_ls (ss : List St) (k : Nat) (h : k < ss.length) : (ss.take (k + 1)).map St.ls = (ss.take k).map St.ls ++ [(ss.getD k st0).ls] := by
  rw [List.take_succ_eq_append_getElem h, List.map_append]; simp [h]

def BuildPost (w : World) (h t : Int) (cms : List Cm) (ss : List St) (e : Ending) (w' : World) : Prop :=
  ∃ sp, e = .returned (.pointer (some ⟨sp, 0, none⟩)) ∧ ∃ tag, StateIs w' tag w.heap.size sp h t cms (ss.map St.ls) 0 ∧ Below w.heap.size w w'

theorem zero44 {w w3 : World} (hb : Below (w.alloc (.cells #[.int .u32 0, .slice none 0 0, .int .u64 0, .int .u64 0, .bool false, .bool false] 44)).drew.heap.size (w.alloc (.cells #[.int .u32 0, .slice none 0 0, .int .u64 0, .int .u64 0, .bool false, .bool false] 44)).drew w3) :
    (w3.cell? ⟨w.heap.size, 0, none⟩ = some (.int .u32 0) ∧ w3.cell? ⟨w.heap.size, 1, none⟩ = some (.slice none 0 0) ∧ w3.cell? ⟨w.heap.size, 2, none⟩ = some (.int .u64 0) ∧ w3.cell? ⟨w.heap.size, 3, none⟩ = some (.int .u64 0) ∧ w3.cell? ⟨w.heap.size, 4, none⟩ = some (.bool false) ∧ w3.cell? ⟨w.heap.size, 5, none⟩ = some (.bool false)) ∧
    (w3.frozen? ⟨w.heap.size, 0, none⟩ = false ∧ w3.frozen? ⟨w.heap.size, 1, none⟩ = false ∧ w3.frozen? ⟨w.heap.size, 2, none⟩ = false ∧ w3.frozen? ⟨w.heap.size, 3, none⟩ = false ∧ w3.frozen? ⟨w.heap.size, 4, none⟩ = false ∧ w3.frozen? ⟨w.heap.size, 5, none⟩ = false) := by
  have hc := fun o => hb.cell (p := ⟨w.heap.size, o, none⟩) (by simp)
  have hf := fun o => hb.frozen (p := ⟨w.heap.size, o, none⟩) (by simp)
  simp only [hc, hf]
  constructor
  · simp
  · refine ⟨?_, ?_, ?_, ?_, ?_, ?_⟩ <;> exact World.frozen?_alloc_at _ _ _ _ rfl

/-- What is known of the world ahead of the call of ZZAddStream's arguments: the variable 'ls' in block p. -/
def Pre (wr w5 : World) (p k : Nat) (s : St) (ar3 : Option Addr) (nr : Nat) : Prop :=
  Below wr.heap.size wr w5 ∧ UO w5 wr.heap.size ar3 nr nr s.reps ∧ wr.heap.size ≤ p ∧ p < w5.heap.size ∧
  (w5.cell? ⟨p, 0, none⟩ = some (.int .u32 ((k : Int) + 1)) ∧ w5.cell? ⟨p, 1, none⟩ = some (.slice ar3 nr nr) ∧ w5.cell? ⟨p, 2, none⟩ = some (.int .u64 s.com) ∧ w5.cell? ⟨p, 3, none⟩ = some (.int .u64 s.trm) ∧ w5.cell? ⟨p, 4, none⟩ = some (.bool s.sld) ∧ w5.cell? ⟨p, 5, none⟩ = some (.bool s.tran))
theorem pre_call {wr w3 : World} {k nr : Nat} {s : St} {ar3 : Option Addr} (hb : Below wr.heap.size wr w3) (hu : UO w3 wr.heap.size ar3 nr nr s.reps) :
    Pre wr (w3.alloc (.cells #[.int .u32 ((k : Int) + 1), .slice ar3 nr nr, .int .u64 s.com, .int .u64 s.trm, .bool s.sld, .bool s.tran] 44)) w3.heap.size k s ar3 nr := by
  refine ⟨hb.alloc hb.size _, hu.below ((Below.refl _ _).alloc (Nat.le_refl _) _), hb.size, by simp, ?_⟩
  simp
theorem pre_alloc {wr w3 : World} {k nr : Nat} {s : St} {ar3 : Option Addr} (hb : Below wr.heap.size wr w3) (hu : UO w3 (wr.heap.size + 1) ar3 nr nr s.reps)
    (hB : ∃ f, Blk w3 wr.heap.size 6 f) :
    Pre wr (put6 w3 wr.heap.size 0 (.int .u32 ((k : Int) + 1)) (.slice ar3 nr nr) (.int .u64 s.com) (.int .u64 s.trm) (.bool s.sld) (.bool s.tran)) wr.heap.size k s ar3 nr := by
  obtain ⟨f, hB⟩ := hB
  obtain ⟨f', hB', e0, e1, e2, e3, e4, e5⟩ := put6_blk hB 0 (by omega) (.int .u32 ((k : Int) + 1)) (.slice ar3 nr nr) (.int .u64 s.com) (.int .u64 s.trm) (.bool s.sld) (.bool s.tran)
  refine ⟨put6_below hb (Nat.le_refl _), (put6_uo hu (Nat.lt_succ_self _) _ _ _ _ _ _).mono (by omega), Nat.le_refl _, hB'.1, ?_⟩
  exact ⟨(hB'.2 0 (by omega)).1.trans (congrArg some e0), (hB'.2 1 (by omega)).1.trans (congrArg some e1), (hB'.2 2 (by omega)).1.trans (congrArg some e2), (hB'.2 3 (by omega)).1.trans (congrArg some e3), (hB'.2 4 (by omega)).1.trans (congrArg some e4), (hB'.2 5 (by omega)).1.trans (congrArg some e5)⟩
theorem zero_blk {w w3 : World} (hb : Below (w.alloc (.cells #[.int .u32 0, .slice none 0 0, .int .u64 0, .int .u64 0, .bool false, .bool false] 44)).drew.heap.size (w.alloc (.cells #[.int .u32 0, .slice none 0 0, .int .u64 0, .int .u64 0, .bool false, .bool false] 44)).drew w3) : ∃ f, Blk w3 w.heap.size 6 f := by
  have hsz := hb.size
  simp at hsz
  have hc := fun o => hb.cell (p := ⟨w.heap.size, o, none⟩) (by simp)
  have hf := fun o => hb.frozen (p := ⟨w.heap.size, o, none⟩) (by simp)
  refine ⟨fun j => (#[Value.int .u32 0, .slice none 0 0, .int .u64 0, .int .u64 0, .bool false, .bool false])[j]?.getD undef, by omega, fun j hj => ⟨?_, (hf j).trans (by simp)⟩⟩
  rw [hc j]
  match j, hj with
  | 0, _ => simp
  | 1, _ => simp
  | 2, _ => simp
  | 3, _ => simp
  | 4, _ => simp
  | 5, _ => simp

theorem addOk_round {W wr w7 : World} {tag' : Nat → Nat × Nat} {sp : Nat} {h t : Int} {cms : List Cm} {Lss Lss' : List Ls} (hst : StateIs w7 tag' W.heap.size sp h t cms Lss' 0) (hk : Keep rowP tag' wr w7) (hbel : Below W.heap.size W wr) (he : Lss' = Lss) :
    Below W.heap.size W w7 ∧ ∃ tag, StateIs w7 tag W.heap.size sp h t cms Lss 0 := by
  subst he
  refine ⟨hk.below hbel hbel.size ?_, tag', hst⟩
  intro b hb hx
  rw [hst.1 b hb] at hx
  rcases hx with hx | hx <;> cases hx

set_option maxHeartbeats 4000000 in
theorem build_walk (h t : Int) (ac : Option Addr) (nc cc : Nat) (cms : List Cm) (a : Option Addr) (n cap : Nat) (ss : List St) (w : World) (hnc : nc ≤ 1048576) (hcs : CS w ac nc cc cms) (hss : SS w a n cap ss) (hm : Mod n ss) :
    Calls Try.prog 12 #[.int .u64 h, .int .u64 t, .slice ac nc cc, .slice a n cap] w fun e w' => BuildPost w h t cms ss e w' := by
  obtain ⟨hn, hmod⟩ := hm
  obtain ⟨hl, hcap, hnil, hN⟩ := hss
  have HN := hide hN
  have HM := hide hmod
  have HCS := hide hcs
  clear hN hmod hnil hcs
  go_enter Try.func12, Try.ntmps12
  go_wp2_with fail
  refine (toCutO_walk _ _ _ cms _ hnc (unhide HCS)).mono ?_
  rintro e w1 ⟨ac1, rfl, hco1, hb1⟩
  have Hst := hide (state_new (h := h) (t := t) hb1 hco1)
  have Hb1 := hide (hb1.alloc hb1.size (.cells #[.int .u64 h, .int .u64 t, .slice none 0 0, .slice ac1 nc nc] 77))
  clear hco1 hb1 HCS
  go_wp2_with fail
  refine (newState_walk _ _ _ _ _ _).mono ?_
  rintro e w2 ⟨rfl, rfl⟩
  generalize w1.heap.size = sp at *
  generalize w1.alloc (.cells #[.int .u64 h, .int .u64 t, .slice none 0 0, .slice ac1 nc nc] 77) = w2 at *
  go_wp2
  go_loopw [10] (fun i wr => ∃ k : Nat, k ≤ n ∧ i = .int .i64 k ∧ Hid (Below w.heap.size w wr) ∧ Hid (∃ tag, StateIs wr tag w.heap.size sp h t cms ((ss.take k).map St.ls) 0)) (fun i _ => n - (intOf i).toNat)
  case atStart => exact ⟨0, Nat.zero_le _, rfl, Hb1, by simpa using Hst⟩
  case round =>
    obtain ⟨k, hk, rfl, hbel, hst⟩ := hrel
    clear Hst Hb1
    by_cases hlt : k < n
    · obtain ⟨b, off, had, hbw, hcm⟩ := unhide HN (by omega)
      cases had
      obtain ⟨ar, nr, cr, ac2, nc2, cc2, hst1⟩ := hcm k hlt
      obtain ⟨hm1, hm2⟩ := unhide HM k hlt
      obtain ⟨g0, g1, g2, g3, g4, g5, hus, hcs⟩ := hst1.below (unhide hbel) hbw
      have hbr : b < wr.heap.size := Nat.lt_of_lt_of_le hbw (unhide hbel).size
      rw [hus.1] at hm1
      rw [hcs.1] at hm2
      have hmt := map_take_ls ss k (by omega)
      generalize hsd : ss.getD k st0 = s at *
      have Hus := hide hus
      have Hcs := hide hcs
      have HMT := hide hmt
      clear hcm HN HM hst1 hsd hus hcs hmt
      have i0 : (0 : Int) ≤ (k : Int) := by omega
      have i1 : (k : Int) < (n : Int) := by omega
      have hwk : IntKind.u32.wrap (IntKind.i64.wrap ((k : Int) + 1)) = (k : Int) + 1 := by rw [IntWalk.i64_in _ ⟨by omega, by omega⟩, IntWalk.u32_in _ ⟨by omega, by omega⟩]
      have nb := World.new_ne wr ⟨b, off + k * 6, none⟩ g0
      go_wp2
      go_region_held3 (fun w' => w'.cell? ⟨b, off + k * 6, none⟩ = some (.slice ar nr cr) ∧ w'.cell? ⟨b, off + k * 6 + 1, none⟩ = some (.int .u64 s.com) ∧ w'.cell? ⟨b, off + k * 6 + 2, none⟩ = some (.int .u64 s.trm) ∧ w'.cell? ⟨b, off + k * 6 + 3, none⟩ = some (.bool s.sld) ∧ w'.cell? ⟨b, off + k * 6 + 4, none⟩ = some (.bool s.tran)) (go_keep)
        (first
          | (go_at_call 28; refine (cloneU_walk _ _ _ s.reps _ hm1 ?_).mono ?_; exact (unhide Hus).drewN 1; rintro e w3 ⟨ar3, rfl, huo3, hb3⟩; have hbb : Below wr.heap.size wr w3 := (Below.refl _ _).drew.trans hb3; have c0 := (hbb.cell (p := ⟨b, off + k * 6, none⟩) hbr).trans g0; have c1 := (hbb.cell (p := ⟨b, off + k * 6 + 1, none⟩) hbr).trans g1; have c2 := (hbb.cell (p := ⟨b, off + k * 6 + 2, none⟩) hbr).trans g2; have c3 := (hbb.cell (p := ⟨b, off + k * 6 + 3, none⟩) hbr).trans g3; have c4 := (hbb.cell (p := ⟨b, off + k * 6 + 4, none⟩) hbr).trans g4; have Hbb := hide hbb; have n3 := World.new_ne w3 ⟨b, off + k * 6, none⟩ c0; have Huo3 : Hid (UO w3 wr.heap.size ar3 nr nr s.reps) := hide huo3; clear hbb huo3 hb3)
          | (go_at_call 28; refine (cloneU_walk _ _ _ s.reps _ hm1 ?_).mono ?_; exact ((unhide Hus).below (((Below.refl _ _).alloc (Nat.le_refl _) _).drew)); rintro e w3 ⟨ar3, rfl, huo3, hb3⟩; have hbb : Below wr.heap.size wr w3 := ((Below.refl _ _).alloc (Nat.le_refl _) _).drew.trans (hb3.mono (by simp)); have c0 := (hbb.cell (p := ⟨b, off + k * 6, none⟩) hbr).trans g0; have c1 := (hbb.cell (p := ⟨b, off + k * 6 + 1, none⟩) hbr).trans g1; have c2 := (hbb.cell (p := ⟨b, off + k * 6 + 2, none⟩) hbr).trans g2; have c3 := (hbb.cell (p := ⟨b, off + k * 6 + 3, none⟩) hbr).trans g3; have c4 := (hbb.cell (p := ⟨b, off + k * 6 + 4, none⟩) hbr).trans g4; have Hbb := hide hbb; have n3 := World.new_ne w3 ⟨b, off + k * 6, none⟩ c0; have Huo3 : Hid (UO w3 (wr.heap.size + 1) ar3 nr nr s.reps) := hide (huo3.mono (by simp)); have HZ := hide (zero_blk hb3); obtain ⟨⟨z0, z1, z2, z3, z4, z5⟩, y0, y1, y2, y3, y4, y5⟩ := zero44 hb3; clear hbb huo3 hb3))
      all_goals first
        | (have HP := hide (pre_alloc (k := k) (s := s) (unhide Hbb) (unhide Huo3) (unhide HZ))
           unfold put6 at HP
           clear HZ z0 z1 z2 z3 z4 z5 y0 y1 y2 y3 y4 y5
           simp only [Nat.zero_add] at HP
           generalize (((((w3.setCell ⟨wr.heap.size, 0, none⟩ (.int .u32 ((k : Int) + 1))).setCell ⟨wr.heap.size, 1, none⟩ (.slice ar3 nr nr)).setCell ⟨wr.heap.size, 2, none⟩ (.int .u64 s.com)).setCell ⟨wr.heap.size, 3, none⟩ (.int .u64 s.trm)).setCell ⟨wr.heap.size, 4, none⟩ (.bool s.sld)).setCell ⟨wr.heap.size, 5, none⟩ (.bool s.tran) = w5 at *
           obtain ⟨p, hp⟩ : ∃ p, p = wr.heap.size := ⟨_, rfl⟩
           rw [← hp] at HP ⊢
           have Hp := hide hp
           clear hp)
        | (have HP := hide (pre_call (k := k) (s := s) (unhide Hbb) (unhide Huo3))
           generalize w3.alloc (.cells #[.int .u32 ((k : Int) + 1), .slice ar3 nr nr, .int .u64 s.com, .int .u64 s.trm, .bool s.sld, .bool s.tran] 44) = w5 at *
           obtain ⟨p, hp⟩ : ∃ p, p = w3.heap.size := ⟨_, rfl⟩
           rw [← hp] at HP ⊢
           have Hp := hide hp
           clear hp)
      all_goals
        obtain ⟨hB5, hu5, hp1, hp2, e0, e1, e2, e3, e4, e5⟩ := unhide HP
        obtain ⟨tag, hstt⟩ := unhide hst
        have h5g := (hB5.cell (p := ⟨b, off + k * 6 + 5, none⟩) hbr).trans g5
        have hcs5 := (unhide Hcs).below hB5
        have hug5 : ∀ g, ar3 = some ⟨g, 0, none⟩ → 0 < nr → g < w5.heap.size := by
          intro g hg h0
          obtain ⟨g', hg', _, hbk⟩ := hu5.2.2.2 h0
          rw [hg] at hg'
          cases hg'
          exact hbk.1
        have hlk : ((ss.take k).map St.ls).length = k := by simp; omega
        have HB5 := hide hB5
        have HU5 := hide hu5
        have Hstt := hide hstt
        have HCS5 := hide hcs5
        have HUG5 := hide hug5
        have HLK := hide hlk
        clear HP hst hB5 hu5 hstt hcs5 hug5 hlk Hcs Hus Hbb Huo3 Hp c0 c1 c2 c3 c4 n3 g0 g1 g2 g3 g4 g5 nb
        go_wp2
        go_region_with (first
          | (go_at_call 20; refine (toCutO_walk _ _ _ s.cms _ hm2 ?_).mono ?_; exact (unhide HCS5).drewN 1; rintro e w6 ⟨ac6, rfl, hco6, hb6⟩; have hb56 : Below w5.heap.size w5 w6 := (Below.refl _ _).drew.trans hb6; have e0' := (hb56.cell (p := ⟨p, 0, none⟩) hp2).trans e0; have e1' := (hb56.cell (p := ⟨p, 1, none⟩) hp2).trans e1; have e2' := (hb56.cell (p := ⟨p, 2, none⟩) hp2).trans e2; have e3' := (hb56.cell (p := ⟨p, 3, none⟩) hp2).trans e3; have e4' := (hb56.cell (p := ⟨p, 4, none⟩) hp2).trans e4; have e5' := (hb56.cell (p := ⟨p, 5, none⟩) hp2).trans e5; have HCO6 : Hid (CO w6 w5.heap.size ac6 nc2 nc2 s.cms) := hide hco6; have HB56 := hide hb56; clear hco6 hb6 hb56)
          | (go_at_call 38; have hadd := stateAdd_walk wr w6 tag w.heap.size sp h t cms ((ss.take k).map St.ls) 0 s ar3 nr nr ac6 nc2 nc2 w5.heap.size (unhide Hstt) ((unhide HB5).trans ((unhide HB56).mono (unhide HB5).size)) (unhide HB5).size (unhide HB56).size (by rw [unhide HLK]; omega) ((unhide HU5).below (unhide HB56)) (unhide HUG5) (unhide HCO6); rw [unhide HLK] at hadd; refine hadd.mono ?_; rintro e w7 ⟨rfl, tag', hst7, htg, hk7⟩; have Hrd := hide (addOk_round hst7 hk7 (unhide hbel) (unhide HMT).symm); clear hadd hst7 htg hk7))
        all_goals
          go_wp2
          go_roundw
          case rel => exact ⟨k + 1, by omega, by go_num, hide (unhide Hrd).1, hide (unhide Hrd).2⟩
          case measure => simp [intOf]; omega
    · have hkn : k = n := by omega
      subst hkn
      have e : ss.take k = ss := List.take_of_length_le (by omega)
      rw [e] at hst
      go_wp2
      go_ret
      obtain ⟨tag, hs⟩ := unhide hst
      exact ⟨sp, rfl, tag, hs, unhide hbel⟩
end Go.Proofs.Qxb6604323a
