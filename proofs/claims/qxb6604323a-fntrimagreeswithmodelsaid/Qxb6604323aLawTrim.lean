import Derived.Test.Qxb6604323aLawTrimActs
import Derived.Test.Qxb6604323aLawTrimNoA
import Derived.Test.Qxb6604323aLawTrimNoB
import Derived.Test.Qxb6604323aLawTrimNoC
namespace Go.Proofs.Qxb6604323a
open Go.ChangeShapes Go.WideShapes Go.ChangeAt Go.RowKit Go.Maps

set_option maxHeartbeats 2000000 in
set_option maxRecDepth 100000 in
theorem trimL_top (h t g : Int) (ac : Option Addr) (nc cc : Nat) (a : Option Addr) (n cap : Nat) (ss : List St) (w : World) (hnc : nc ≤ 9223372036854775807) (hn : n ≤ 9223372036854775807) (hss : SS w a n cap ss) (hmax : Max63 n ss) (z1 : (g == 18446744073709551615) = true) (z4 : (h == 18446744073709551615) = true) :
    Calls Try.prog 7 #[.int .u64 h, .int .u64 t, .slice ac nc cc, .slice a n cap, .int .u64 g] w fun e w' => e = .returned (.bool true) ∧ Below w.heap.size w w' := by
  have HS := hide hss
  have HX := hide hmax
  clear hss hmax
  go_enter Try.func7, Try.ntmps7
  go_wp2_with fail
  refine (zz34_walk _ t ac nc cc a n cap ss _ w hnc hn (unhide HS) (unhide HX)).mono ?_
  rintro e w' ⟨bz, rfl, hw⟩
  have hw2 := hw.symm
  clear hw
  subst hw2
  cases bz
  · go_wp2
    go_ret
    exact ⟨rfl, Below.refl _ _⟩
  go_wp2_with fail
  refine (tooBig_walk ac nc cc a n cap ss 0 w hn hnc (by omega) (by omega) (unhide HS) (unhide HX)).mono ?_
  rintro e w' ⟨bb, rfl, hbig, q, rfl⟩
  clear hbig
  cases bb
  · go_wp2
    go_ret
    exact ⟨rfl, below_drewN (Below.refl _ w) q⟩
  · go_wp2
    go_ret
    exact ⟨rfl, below_drewN (Below.refl _ w) q⟩

theorem trimL_walk (h t : Int) (ac : Option Addr) (nc cc : Nat) (zs : List Cm) (a : Option Addr) (n cap : Nat) (ss : List St) (g : Int) (w : World) (hnc : nc ≤ 9223372036854775807) (hn : n ≤ 9223372036854775807) (hcs : CS w ac nc cc zs) (hss : SS w a n cap ss) (hwz : WfL zs) (hws : WfSS n ss) (h1 : h ≤ 18446744073709551615) (g0 : 0 ≤ g) (g1 : g ≤ 18446744073709551615) :
    Calls Try.prog 7 #[.int .u64 h, .int .u64 t, .slice ac nc cc, .slice a n cap, .int .u64 g] w fun e w' => e = .returned (.bool true) ∧ Below w.heap.size w w' := by
  by_cases e1 : g = 18446744073709551615
  · by_cases e2 : h = 18446744073709551615
    · exact trimL_top h t g ac nc cc a n cap ss w hnc hn hss hws.max63 (by simp [e1]) (by simp [e2])
    · exact trimL_NoA h t ac nc cc zs a n cap ss g w hnc hn hcs hss hwz hws e1 (by omega)
  · by_cases e2 : h < g
    · exact trimL_NoB h t ac nc cc zs a n cap ss g w hnc hn hcs hss hwz hws (by omega) e2
    · by_cases e3 : g ≤ t
      · exact trimL_NoC h t ac nc cc zs a n cap ss g w hnc hn hcs hss hwz hws (by omega) (by omega) e3
      · exact trimL_Acts h t ac nc cc zs a n cap ss g w hnc hn hcs hss hwz hws g0 (by omega) (by omega) (by omega)
end Go.Proofs.Qxb6604323a
