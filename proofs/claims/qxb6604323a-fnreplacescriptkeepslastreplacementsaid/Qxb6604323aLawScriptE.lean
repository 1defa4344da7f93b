import Derived.Test.Qxb6604323aWalksX
import Derived.Deep.RegionHeld3
namespace Go.Proofs.Qxb6604323a
open Go.ChangeShapes Go.WideShapes Go.ChangeAt Go.RowKit Go.Maps

set_option maxHeartbeats 32000000 in
set_option maxRecDepth 100000 in
theorem script_early (a : Option Addr) (n cap : Nat) (ss : List St) (ai : Option Addr) (ni ci : Nat) (ao : Option Addr) (no co : Nat) (aw : Option Addr) (nn cn : Nat) (w : World) (hn : n ≤ 9223372036854775807) (hni : ni ≤ 9223372036854775807) (hno : no ≤ 9223372036854775807) (hnn : nn ≤ 9223372036854775807)
    (hss : SS w a n cap ss) (hmax : Max63 n ss) (hbad : ¬ (ni ≤ 4096 ∧ no ≤ 4096 ∧ nn ≤ 4096 ∧ no = ni ∧ nn = ni)) :
    Calls Try.prog 5 #[.slice a n cap, .slice ai ni ci, .slice ao no co, .slice aw nn cn] w fun e w' => e = .returned (.bool true) ∧ Below w.heap.size w w' := by
  have HS := hide hss
  have HX := hide hmax
  have HBAD := hide hbad
  clear hss hmax hbad
  go_enter Try.func5, Try.ntmps5
  go_wp2_with fail
  refine (zz27_walk a n cap ss ai ni ci ao no co aw nn cn w hn hni hno hnn (unhide HS) (unhide HX)).mono ?_
  rintro e w' ⟨bz, rfl, hw⟩
  have hw2 := hw.symm
  clear hw
  subst hw2
  cases bz
  · go_wp2
    go_ret
    exact ⟨rfl, Below.refl _ _⟩
  by_cases c1 : (4096 : Int) < ni
  · have d1 : decide ((4096 : Int) < ni) = true := by simp; omega
    clear c1
    go_wp2
    go_ret
    exact ⟨rfl, Below.refl _ _⟩
  have d1 : decide ((4096 : Int) < ni) = false := by simp; omega
  by_cases c2 : (4096 : Int) < no
  · have d2 : decide ((4096 : Int) < no) = true := by simp; omega
    clear c1 c2
    go_wp2
    go_ret
    exact ⟨rfl, Below.refl _ _⟩
  have d2 : decide ((4096 : Int) < no) = false := by simp; omega
  by_cases c3 : (4096 : Int) < nn
  · have d3 : decide ((4096 : Int) < nn) = true := by simp; omega
    clear c1 c2 c3
    go_wp2
    go_ret
    exact ⟨rfl, Below.refl _ _⟩
  have d3 : decide ((4096 : Int) < nn) = false := by simp; omega
  have b1 : ni ≤ 4096 := by omega
  have b2 : no ≤ 4096 := by omega
  have b3 : nn ≤ 4096 := by omega
  clear c1 c2 c3 hni hno hnn
  go_wp2_with fail
  refine (tooBig_walk none 0 0 a n cap ss _ w hn (by omega) (by omega) (by omega) (unhide HS) (unhide HX)).mono ?_
  rintro e w' ⟨bb, rfl, hbig, q, rfl⟩
  cases bb
  rotate_left
  · go_wp2
    go_ret
    exact ⟨rfl, below_drewN (Below.refl _ w) q⟩
  clear hbig HX d1 d2 d3 hn
  by_cases e1 : ¬ no = ni
  · have z1 : ((no : Int) == (ni : Int)) = false := by simp; omega
    have z1' : ((no : Int) != (ni : Int)) = true := by simp; omega
    go_wp2
    go_ret
    exact ⟨rfl, below_drewN (Below.refl _ w) q⟩
  have e1 := Classical.not_not.1 e1
  subst e1
  by_cases e2 : ¬ nn = no
  · have z1 : ((nn : Int) == (no : Int)) = false := by simp; omega
    have z1' : ((nn : Int) != (no : Int)) = true := by simp; omega
    go_wp2
    go_ret
    exact ⟨rfl, below_drewN (Below.refl _ w) q⟩
  have e2 := Classical.not_not.1 e2
  subst e2
  exact absurd ⟨b1, b2, b3, rfl, rfl⟩ (unhide HBAD)
end Go.Proofs.Qxb6604323a
