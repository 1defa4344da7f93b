import Derived.Test.Qxb6604323aPlainU
import Derived.Test.Qxb6604323aWalksN
namespace Go.Proofs.Qxb6604323a
open Go.ChangeShapes Go.WideShapes Go.ChangeAt Go.RowKit Go.Maps

set_option maxHeartbeats 2000000 in
theorem sameFields_walk (x com trm : Int) (sld tran : Bool) (a : Option Addr) (n c : Nat) (ar : Option Addr) (nr cr : Nat) (ac : Option Addr) (nc cc : Nat) (w : World) :
    Calls Try.prog 22 #[.agg #[.int .u32 x, .slice a n c, .int .u64 com, .int .u64 trm, .bool sld, .bool tran], .int .u32 x, .agg #[.slice ar nr cr, .int .u64 com, .int .u64 trm, .bool sld, .bool tran, .slice ac nc cc]] w fun e w' => e = .returned (.bool true) ∧ Below w.heap.size w w' := by
  go_enter Try.func22, Try.ntmps22
  go_wp2
  go_ret
  exact ⟨rfl, ((Below.refl _ _).alloc (Nat.le_refl _) _).alloc (by simp) _⟩

theorem zero25' (w : World) : (zeroValue 25).run Try.prog w = .ok (.int .u32 0) w := by kernel_rfl
theorem len49 (w : World) (ty : TypeId) : (Builtin.len_ #[49] ty #[.map none]).run Try.prog w = .ok (.int .i64 0) w := Maps.len_nil Try.underlying49 ty

theorem repl_below' {w w' W : World} {tag tag' : Nat → Nat × Nat} {B sp i : Nat} {hi tr : Int} {cms : List Cm} {Lss : List Ls} {N : Nat} (h : StateIs w tag B sp hi tr cms Lss N) (htg : ∀ b, b < w.heap.size → tag' b = tag b) (k : Keep (replP i) tag' w w') (hb : Below B W w) (hB : B ≤ w.heap.size) : Below B W w' := by
  refine k.below hb hB ?_
  intro b hb' hx
  rw [htg b (by omega), h.1 b hb'] at hx
  rcases hx.2 with h | h | h <;> simp at h

/-- What LogStream tells, in a law's terms. -/
def LogIs (w : World) (j : Nat) (s : St) (m : Nat) (us : List Int) (e : Ending) (w' : World) : Prop :=
  ∃ a' cap', e = .returned (.tuple #[.agg #[.int .u32 ((j : Int) + 1), .slice a' m cap', .int .u64 s.com, .int .u64 s.trm, .bool s.sld, .bool s.tran], .bool true]) ∧ US w' a' m cap' us ∧ Below w.heap.size w w'
theorem log_same {w w' : World} {j : Nat} {s : St} {e : Ending} (h : LogPost w j s.ls e w') : LogIs w j s s.reps.length s.reps e w' := h
theorem log_hit {w w' : World} {j k : Nat} {old nw : Int} {s : St} {e : Ending} (h : LogPost w j (s.ls.repl k old nw) e w') : LogIs w j s s.reps.length (s.reps.set k nw) e w' := by
  obtain ⟨a', cap', he, hu, hb⟩ := h
  have hl : (s.ls.repl k old nw).reps.length = s.reps.length := by show (s.reps.set k nw).length = _; simp
  rw [hl] at he hu
  exact ⟨a', cap', he, hu, hb⟩
def CmsIs (w : World) (zs : List Cm) (e : Ending) (w' : World) : Prop :=
  ∃ a cap, e = .returned (.slice a zs.length cap) ∧ w' = w ∧ CS w a zs.length cap zs
theorem cms_is {w w' : World} {zs : List Cm} {e : Ending} (h : CmsPost w zs e w') : CmsIs w zs e w' := by
  obtain ⟨a, n, cap, he, hw, hc⟩ := h
  have := hc.1
  subst this
  exact ⟨a, cap, he, hw, hc⟩
/-- The streams behind a Replace that hit. -/
theorem hit_lists {ss : List St} {n i k : Nat} {old nw : Int} (hl : ss.length = n) (hin : i < n) (M : List Ls) (hM : M = (ss.map St.ls).set i (((ss.map St.ls).getD i ls0).repl k old nw)) :
    M.length = n ∧ M.getD i ls0 = (ss.getD i st0).ls.repl k old nw ∧ ∀ j, j < n → j ≠ i → M.getD j ls0 = (ss.getD j st0).ls := by
  have h1 : i < (ss.map St.ls).length := by simp [hl, hin]
  have hg : (ss.map St.ls).getD i ls0 = (ss.getD i st0).ls := ls_getD_map ss i (by omega)
  subst hM
  refine ⟨by simp [hl], ?_, fun j hj e => ?_⟩
  · rw [set_getD _ _ _ _ h1, if_pos rfl, hg]
  · rw [set_getD _ _ _ _ h1, if_neg e, ls_getD_map ss j (by omega)]
end Go.Proofs.Qxb6604323a
