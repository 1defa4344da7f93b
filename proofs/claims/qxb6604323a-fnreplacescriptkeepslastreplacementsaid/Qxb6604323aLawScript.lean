import Derived.Test.Qxb6604323aLawScriptE
import Derived.Test.Qxb6604323aLawScriptM
namespace Go.Proofs.Qxb6604323a
open Go.ChangeShapes Go.WideShapes Go.ChangeAt Go.RowKit Go.Maps

theorem script_walk (a : Option Addr) (n cap : Nat) (ss : List St) (ai : Option Addr) (ni ci : Nat) (ids : List Int) (ao : Option Addr) (no co : Nat) (olds : List Int) (aw : Option Addr) (nn cn : Nat) (news : List Int) (w : World) (hn : n ≤ 9223372036854775807) (hni : ni ≤ 9223372036854775807) (hno : no ≤ 9223372036854775807) (hnn : nn ≤ 9223372036854775807)
    (hss : SS w a n cap ss) (hmax : Max63 n ss) (hi : US w ai ni ci ids) (ho : US w ao no co olds) (hw : US w aw nn cn news) (wi : WfU ids) (wo : WfU olds) (ww : WfU news) :
    Calls Try.prog 5 #[.slice a n cap, .slice ai ni ci, .slice ao no co, .slice aw nn cn] w fun e w' => e = .returned (.bool true) ∧ Below w.heap.size w w' := by
  by_cases h : ni ≤ 4096 ∧ no ≤ 4096 ∧ nn ≤ 4096 ∧ no = ni ∧ nn = ni
  · obtain ⟨h1, h2, h3, rfl, rfl⟩ := h
    exact script_main a n cap ss ai ci ids ao co olds aw nn cn news w hn h1 hss hmax hi ho hw wi wo ww
  · exact script_early a n cap ss ai ni ci ao no co aw nn cn w hn hni hno hnn hss hmax h
end Go.Proofs.Qxb6604323a
