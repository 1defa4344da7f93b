import Derived.Test.Qxb6604323aWalksU
import Derived.Test.Qxb6604323aOpen2
namespace Go.Proofs.Qxb6604323a
open Go.ChangeShapes Go.WideShapes Go.ChangeAt Go.RowKit Go.Maps

def OrdPost (zs : List Cm) (n : Nat) (ss : List St) (w : World) (e : Ending) (w' : World) : Prop :=
  ∃ b, e = .returned (.bool b) ∧ (b = true → ordB zs = true ∧ ∀ i, i < n → ordB (ss.getD i st0).cms = true) ∧ Below w.heap.size w w'

set_option maxHeartbeats 2000000 in
theorem allOrd_walk (ac : Option Addr) (nc cc : Nat) (zs : List Cm) (a : Option Addr) (n cap : Nat) (ss : List St) (w : World) (hnc : nc ≤ 1048576) (hcs : CS w ac nc cc zs) (hss : SS w a n cap ss) (hm : Mod n ss) (hwz : WfL zs) (hws : WfSS n ss) :
    Calls Try.prog 35 #[.slice ac nc cc, .slice a n cap] w fun e w' => OrdPost zs n ss w e w' := by
  have Hord := hide (ordered_walk ac nc cc zs w hnc hcs hwz)
  have HS := hide hss
  have HM := hide hm
  have HW := hide hws
  have hn14 := hm.1
  clear hcs hss hm hws hwz
  go_enter Try.func35, Try.ntmps35
  go_wp2_with fail
  refine (unhide Hord).mono ?_
  rintro e w' ⟨rfl, q, rfl⟩
  cases hz : ordB zs
  · go_wp2
    go_ret
    exact ⟨false, rfl, (fun h => nomatch h), below_drewN (Below.refl _ _) q⟩
  have HZ := hide hz
  clear hz Hord
  go_wp2
  go_loopw [5] (fun i wr => ∃ k : Nat, k ≤ n ∧ i = .int .i64 k ∧ Hid (Below w.heap.size w wr) ∧ Hid (∀ i, i < k → ordB (ss.getD i st0).cms = true)) (fun i _ => n - (intOf i).toNat)
  case atStart => exact ⟨0, Nat.zero_le _, rfl, hide (below_drewN (Below.refl _ _) q), hide (fun i hi => absurd hi (Nat.not_lt_zero _))⟩
  case round =>
    obtain ⟨k, hk, rfl, hbr, hall⟩ := hrel
    by_cases hlt : k < n
    · obtain ⟨b, off, had, hbw, hcm⟩ := (unhide HS).2.2.2 (by omega)
      obtain ⟨ar, nr, cr, ac2, nc2, cc2, hst⟩ := hcm k hlt
      obtain ⟨g0, g1, g2, g3, g4, g5, hus, hcs⟩ := hst.below (unhide hbr) hbw
      subst had
      have hm2 := ((unhide HM).2 k hlt).2
      have hnc2 := hcs.1
      have Hord := hide (ordered_walk ac2 nc2 cc2 _ wr (by omega) hcs (unhide HW k hlt).2.2.2.1)
      have HNEXT : Hid (ordB (ss.getD k st0).cms = true → ∀ i, i < k + 1 → ordB (ss.getD i st0).cms = true) := hide (by
        intro h i hi
        by_cases e : i = k
        · subst e; exact h
        · exact unhide hall i (by omega))
      generalize ordB (ss.getD k st0).cms = bo at *
      clear hcm hst hus hcs g0 g1 g2 g3 g4 hnc2 hm2 hbw
      go_wp2_with fail
      refine (unhide Hord).mono ?_
      rintro e w' ⟨rfl, q2, rfl⟩
      have Hb2 : Hid (Below w.heap.size w (wr.drewN q2)) := hide (below_drewN (unhide hbr) q2)
      clear Hord
      cases bo
      · go_wp2
        go_ret
        exact ⟨false, rfl, (fun h => nomatch h), unhide Hb2⟩
      · go_wp2
        go_roundw
        case rel => exact ⟨k + 1, by omega, by go_num, Hb2, hide (unhide HNEXT (by trivial))⟩
        case measure => simp [intOf]; omega
    · have hkn : k = n := by omega
      subst hkn
      go_wp2
      go_ret
      exact ⟨true, rfl, fun _ => ⟨unhide HZ, unhide hall⟩, unhide hbr⟩

/-- What LogStream tells of a stream trimmed. -/
def LogT (w : World) (j : Nat) (s : St) (x : Int) (e : Ending) (w' : World) : Prop :=
  ∃ a' cap', e = .returned (.tuple #[.agg #[.int .u32 ((j : Int) + 1), .slice a' s.reps.length cap', .int .u64 s.com, .int .u64 x, .bool s.sld, .bool s.tran], .bool true]) ∧ US w' a' s.reps.length cap' s.reps ∧ Below w.heap.size w w'
theorem log_trim {w w' : World} {j : Nat} {s : St} {g : Int} {e : Ending} (h : LogPost w j (s.ls.trim g) e w') : LogT w j s (IntKind.u64.wrap (s.trm + trimN g s.cms)) e w' := h
theorem log_kept {w w' : World} {j : Nat} {s : St} {e : Ending} (h : LogPost w j s.ls e w') : LogT w j s s.trm e w' := h
theorem trimA_le (g : Int) (zs : List Cm) : (trimA g zs).length ≤ zs.length := by
  unfold trimA
  rw [headCut_length, List.length_drop]
  omega
theorem fell_eq (g : Int) (zs : List Cm) (ho : ordB zs = true) (hw : WfL zs) : IntKind.u64.wrap (sumU zs - sumU (modelT g zs)) = trimN g zs := by
  rw [IntKind.wrap_u64, trim_sum, trim_model g zs ho hw]
theorem model_le (g : Int) (zs : List Cm) (ho : ordB zs = true) (hw : WfL zs) : (modelT g zs).length ≤ zs.length := by
  rw [← trim_model g zs ho hw]; exact trimA_le g zs
theorem trims_getD (g : Int) (ss : List St) (j : Nat) (h : j < ss.length) : ((ss.map St.ls).map (Ls.trim g)).getD j ls0 = (ss.getD j st0).ls.trim g := by
  simp [List.getD_eq_getElem?_getD, h]
theorem model_is {w w' : World} {zs : List Cm} {e : Ending} (h : ∃ a' m cap', e = .returned (.slice a' m cap') ∧ CO w' w.heap.size a' m cap' zs ∧ Below w.heap.size w w') :
    ∃ a cap, e = .returned (.slice a zs.length cap) ∧ CS w' a zs.length cap zs ∧ Below w.heap.size w w' := by
  obtain ⟨a, m, cap, he, hco, hb⟩ := h
  have := hco.1
  subst this
  exact ⟨a, cap, he, hco.cs, hb⟩
end Go.Proofs.Qxb6604323a
