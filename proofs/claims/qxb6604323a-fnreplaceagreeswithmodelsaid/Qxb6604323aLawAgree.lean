import Derived.Test.Qxb6604323aLawAgreeHit
import Derived.Test.Qxb6604323aLawAgreeMiss
import Derived.Test.Qxb6604323aLawAgreeNo
namespace Go.Proofs.Qxb6604323a
open Go.ChangeShapes Go.WideShapes Go.ChangeAt Go.RowKit Go.Maps

theorem agree_walk (h t : Int) (ac : Option Addr) (nc cc : Nat) (zs : List Cm) (a : Option Addr) (n cap : Nat) (ss : List St) (id old nw : Int) (w : World) (hnc : nc ≤ 9223372036854775807) (hn : n ≤ 9223372036854775807) (hcs : CS w ac nc cc zs) (hss : SS w a n cap ss) (hmax : Max63 n ss)
    (i0 : 0 ≤ id) (i1 : id ≤ 4294967295) (o0 : 0 ≤ old) (o1 : old ≤ 4294967295) (x0 : 0 ≤ nw) (x1 : nw ≤ 4294967295) :
    Calls Try.prog 3 #[.int .u64 h, .int .u64 t, .slice ac nc cc, .slice a n cap, .int .u32 id, .int .u32 old, .int .u32 nw] w fun e w' => e = .returned (.bool true) ∧ Below w.heap.size w w' := by
  by_cases hA : id < 1 ∨ (n : Int) < id
  · exact agree_no h t ac nc cc zs a n cap ss id old nw w hnc hn hcs hss hmax i0 i1 hA
  obtain ⟨i, rfl⟩ : ∃ i : Nat, id = (i : Int) + 1 := ⟨(id - 1).toNat, by omega⟩
  have hin : i < n := by omega
  have hr := fidx_range old (ss.getD i st0).reps
  by_cases hk : fidx old (ss.getD i st0).reps < 0
  · exact agree_miss h t ac nc cc zs a n cap ss i old nw w hnc hn hcs hss hmax i1 hin (by omega)
  · exact agree_hit h t ac nc cc zs a n cap ss i (fidx old (ss.getD i st0).reps).toNat old nw w hnc hn hcs hss hmax o0 o1 x0 x1 i1 hin (by omega)
end Go.Proofs.Qxb6604323a
