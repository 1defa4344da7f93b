import Derived.Test.Qxb6604323aState
import Derived.Deep.RegionHeld3
import Derived.Deep.RegionLaw
import Derived.Deep.AppendLies
namespace Go.Proofs.Qxb6604323a
open Go.ChangeShapes Go.WideShapes Go.ChangeAt Go.RowKit

theorem info71 : (Try.prog.info? 71).map (fun i => (i.zero, i.size, i.bytes)) = some (some (.pointer none), 1, 8) := by kernel_rfl

theorem newState_walk (h t : Int) (a : Option Addr) (n c : Nat) (w : World) :
    Calls Try.prog 37 #[.int .u64 h, .int .u64 t, .slice a n c] w fun e w' => e = .returned (.pointer (some ⟨w.heap.size, 0, none⟩)) ∧ w' = w.alloc (.cells #[.int .u64 h, .int .u64 t, .slice none 0 0, .slice a n c] 77) := by
  go_enter Try.func37, Try.ntmps37
  go_wp2
  go_ret
  exact ⟨rfl, rfl⟩

/-- The world ahead of the append in ZZAddStream: three new blocks. -/
def addW (w : World) (id com trm : Int) (ar : Option Addr) (nr cr : Nat) (sld tran : Bool) (ac : Option Addr) (nc cc : Nat) : World :=
  ((w.alloc (.cells #[.int .u32 id, .slice ar nr cr, .int .u64 com, .int .u64 trm, .bool sld, .bool tran] 44)).alloc
    (.cells #[.int .u32 id, .slice ar nr cr, .int .u64 com, .int .u64 trm, .bool sld, .bool tran, .slice ac nc cc, .map none] 74)).alloc
    (.cells #[.pointer (some ⟨w.heap.size + 1, 0, none⟩)] 71)
def AddPost (w W : World) (B sp : Nat) (asl : Option Addr) (ns cs : Nat) (xs : List Value) (e : Ending) (w' : World) : Prop :=
  e = .returned (.tuple #[]) ∧ ∃ g1 cap1 w1, w' = w1.setCell ⟨sp, 2, none⟩ (.slice (some ⟨g1, 0, none⟩) (ns + 1) cap1) ∧
    w1.ownsRow B 71 1 (.slice (some ⟨g1, 0, none⟩) (ns + 1) cap1) (ns + 1) (xs ++ [.pointer (some ⟨w.heap.size + 1, 0, none⟩)]) ∧ W.grownBy w1 (Value.slice asl ns cs).ownBlock ∧
    ((Value.slice asl ns cs).ownBlock = some g1 ∨ g1 = w.heap.size + 3)

set_option maxHeartbeats 2000000 in
theorem add_walk (w : World) (B sp : Nat) (asl : Option Addr) (ns cs : Nat) (xs : List Value) (id com trm : Int) (ar : Option Addr) (nr cr : Nat) (sld tran : Bool) (ac : Option Addr) (nc cc : Nat)
    (hsp : sp < w.heap.size) (hB : B ≤ w.heap.size) (hns : ns ≤ 1048576) (h2 : w.cell? ⟨sp, 2, none⟩ = some (.slice asl ns cs)) (f2 : w.frozen? ⟨sp, 2, none⟩ = false) (hown : w.ownsRow B 71 1 (.slice asl ns cs) ns xs) (hne : ∀ k, (Value.slice asl ns cs).ownBlock = some k → k ≠ sp) :
    Calls Try.prog 38 #[.pointer (some ⟨sp, 0, none⟩), .agg #[.int .u32 id, .slice ar nr cr, .int .u64 com, .int .u64 trm, .bool sld, .bool tran], .slice ac nc cc] w fun e w' => AddPost w (addW w id com trm ar nr cr sld tran ac nc cc) B sp asl ns cs xs e w' := by
  obtain ⟨i0, hi, hz0, hz1, hz2⟩ := info_parts info71
  have hsp1 : sp < w.heap.size + 1 := by omega
  have hsp2 : sp < w.heap.size + 1 + 1 := by omega
  have hbA : Below w.heap.size w (addW w id com trm ar nr cr sld tran ac nc cc) := (((Below.refl _ _).alloc (Nat.le_refl _) _).alloc (by simp) _).alloc (by simp; omega) _
  have hownA : (addW w id com trm ar nr cr sld tran ac nc cc).drew.ownsRow B 71 1 (.slice asl ns cs) ns xs := owns_below hown hbA.drew
  have hsA : (addW w id com trm ar nr cr sld tran ac nc cc).heap.size = w.heap.size + 3 := by simp [addW]
  have hcA : (addW w id com trm ar nr cr sld tran ac nc cc).cell? ⟨w.heap.size + 1 + 1, 0, none⟩ = some (.pointer (some ⟨w.heap.size + 1, 0, none⟩)) := by
    unfold addW
    rw [World.cell?_alloc_at (hn := by simp)]; rfl
  have k2A : (addW w id com trm ar nr cr sld tran ac nc cc).cell? ⟨sp, 2, none⟩ = some (.slice asl ns cs) := (hbA.cell (p := ⟨sp, 2, none⟩) hsp).trans h2
  have f2A : (addW w id com trm ar nr cr sld tran ac nc cc).frozen? ⟨sp, 2, none⟩ = false := (hbA.frozen (p := ⟨sp, 2, none⟩) hsp).trans f2
  have hneA : some sp ≠ (Value.slice asl ns cs).ownBlock := fun e => hne sp e.symm rfl
  have Hown := hide hownA
  have HsA := hide hsA
  have HcA := hide hcA
  have Hk2 := hide k2A
  have Hf2 := hide f2A
  have Hne := hide hneA
  clear hownA hsA hcA k2A f2A hneA hne hbA hown
  go_enter Try.func38, Try.ntmps38
  go_wp2
  go_region_law (refine step_append_lies (addW w id com trm ar nr cr sld tran ac nc cc).drew rfl _ _ 75 rfl B 71 i0 (.pointer none) 1 8 Try.underlying75 hi hz0 hz1 hz2 rfl (by decide) (.slice asl ns cs) ns xs (by simp [Act.eval]) (unhide Hown) ⟨w.heap.size + 1 + 1, 0, none⟩ 1 1 [.pointer (some ⟨w.heap.size + 1, 0, none⟩)] (by simp [Act.eval]) rfl (by intro j u hj; match j, hj with | 0, hj => simp at hj; subst hj; exact unhide HcA) (by intro u hu; simp at hu; subst hu; rfl) (by omega) (by unfold maxLen; omega) (by omega) (by have := unhide HsA; show B ≤ (addW w id com trm ar nr cr sld tran ac nc cc).heap.size; omega) (w.heap.size + 3) (unhide HsA) ?_; intro g1 cap1 w1 hown1 hgrow1 hat1 hlt1; have k2 : w1.cell? ⟨sp, 2, none⟩ = some (.slice asl ns cs) := (hgrow1.cell_far ⟨sp, 2, none⟩ (by have := unhide HsA; show sp < (addW w id com trm ar nr cr sld tran ac nc cc).heap.size; omega) (unhide Hne)).trans (unhide Hk2); have kf : w1.frozen? ⟨sp, 2, none⟩ = false := (hgrow1.frozen_far ⟨sp, 2, none⟩ (by have := unhide HsA; show sp < (addW w id com trm ar nr cr sld tran ac nc cc).heap.size; omega) (unhide Hne)).trans (unhide Hf2); have Hown1 := hide hown1; have Hgrow1 := hide hgrow1; have Hat1 := hide hat1; clear hown1 hgrow1 hat1)
  all_goals
    go_end0
    exact ⟨rfl, g1, cap1, w1, rfl, unhide Hown1, ⟨(unhide Hgrow1).os, (unhide Hgrow1).tape, (unhide Hgrow1).output, (unhide Hgrow1).size, (unhide Hgrow1).block⟩, unhide Hat1⟩
end Go.Proofs.Qxb6604323a
