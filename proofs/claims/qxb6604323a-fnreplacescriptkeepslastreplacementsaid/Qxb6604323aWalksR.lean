import Derived.Test.Qxb6604323aWalksQ
namespace Go.Proofs.Qxb6604323a
open Go.ChangeShapes Go.WideShapes Go.ChangeAt Go.RowKit Go.Maps

def LogPost (w : World) (i : Nat) (L : Ls) (e : Ending) (w' : World) : Prop :=
  ∃ a' cap', e = .returned (.tuple #[.agg #[.int .u32 ((i : Int) + 1), .slice a' L.reps.length cap', .int .u64 L.com, .int .u64 L.trm, .bool L.sld, .bool L.tran], .bool true]) ∧ US w' a' L.reps.length cap' L.reps ∧ Below w.heap.size w w'

set_option maxHeartbeats 2000000 in
theorem log_walk (w : World) (tag : Nat → Nat × Nat) (B sp : Nat) (hi tr : Int) (cms : List Cm) (Lss : List Ls) (N : Nat) (i : Nat) (h : StateIs w tag B sp hi tr cms Lss N) (hi' : i < Lss.length) (hlen : Lss.length ≤ 1048576) (hrep : (Lss.getD i ls0).reps.length ≤ 1048576) :
    Calls Try.prog 21 #[.pointer (some ⟨sp, 0, none⟩), .int .u32 ((i : Int) + 1)] w fun e w' => LogPost w i (Lss.getD i ls0) e w' := by
  have hspl := h.sp_lt
  obtain ⟨gr, cs, p, c2, cp, ar, nr, cr, ac, nc, cc, mv, ht, hb, hu, hc, hm⟩ := h.ls hi'
  generalize Lss.getD i ls0 = L at *
  have hnr := hu.1
  subst hnr
  have hA : Below w.heap.size w (w.alloc (.cells #[.int .u32 0, .slice none 0 0, .int .u64 0, .int .u64 0, .bool false, .bool false] 44)) := (Below.refl _ _).alloc (Nat.le_refl _) _
  have hgr : gr < w.heap.size := World.block_lt_of_cell? w ⟨gr, i, none⟩ cp
  have hs := stream_yes (w.alloc (.cells #[.int .u32 0, .slice none 0 0, .int .u64 0, .int .u64 0, .bool false, .bool false] 44)) sp gr Lss.length cs i p ((hA.cell (p := ⟨sp, 2, none⟩) hspl.2).trans c2) ((hA.cell (p := ⟨gr, i, none⟩) hgr).trans cp) hi' hlen
  have bA := hb.below hA hb.1
  have hp := public_walk (w.alloc (.cells #[.int .u32 0, .slice none 0 0, .int .u64 0, .int .u64 0, .bool false, .bool false] 44)) i p L ar _ cr bA.1 (bA.2 0 (by omega)).1 (bA.2 1 (by omega)).1 (bA.2 2 (by omega)).1 (bA.2 3 (by omega)).1 (bA.2 4 (by omega)).1 (bA.2 5 (by omega)).1 (hu.us.below hA) hrep
  have HS := hide hs
  have HP := hide hp
  clear hs hp bA hA h c2 cp hb hu hc hm ht
  go_enter Try.func21, Try.ntmps21
  go_wp2_with (first
    | (go_at_call 39; refine (unhide HS).mono ?_; rintro e w' ⟨rfl, rfl⟩)
    | (go_at_call 41; refine (unhide HP).mono ?_; rintro e w3 ⟨a', cap', rfl, huo, hb3⟩; have hs3 := (Sx.made w 44 (.int .u32 0) (.slice none 0 0) (.int .u64 0) (.int .u64 0) (.bool false) (.bool false)).below hb3 (by simp); have hbw : Below w.heap.size w w3 := ((Below.refl _ _).alloc (Nat.le_refl _) _).trans (hb3.mono (by simp)); obtain ⟨⟨z0, z1, z2, z3, z4, z5⟩, t0, t1, t2, t3, t4, t5⟩ := hs3; have Huo := hide (huo.mono (B' := w.heap.size + 1) (by simp)); have Hbw := hide hbw; clear huo hb3 hbw))
  refine bodyPost_ret (v := .tuple #[.agg #[.int .u32 ((i : Int) + 1), .slice a' L.reps.length cap', .int .u64 L.com, .int .u64 L.trm, .bool L.sld, .bool L.tran], .bool true]) (by simp [results, Try.results21, go_sem, *]) rfl ?_
  refine ⟨a', cap', rfl, UO.us (B := w.heap.size + 1) ?_, ?_⟩
  · have h1 : w.heap.size < w.heap.size + 1 := by omega
    exact ((((((unhide Huo).other (p := ⟨w.heap.size, 0, none⟩) h1 _).other (p := ⟨w.heap.size, 1, none⟩) h1 _).other (p := ⟨w.heap.size, 2, none⟩) h1 _).other (p := ⟨w.heap.size, 3, none⟩) h1 _).other (p := ⟨w.heap.size, 4, none⟩) h1 _).other (p := ⟨w.heap.size, 5, none⟩) h1 _
  · exact ((((((unhide Hbw).setCell (p := ⟨w.heap.size, 0, none⟩) (Nat.le_refl _) _).setCell (p := ⟨w.heap.size, 1, none⟩) (Nat.le_refl _) _).setCell (p := ⟨w.heap.size, 2, none⟩) (Nat.le_refl _) _).setCell (p := ⟨w.heap.size, 3, none⟩) (Nat.le_refl _) _).setCell (p := ⟨w.heap.size, 4, none⟩) (Nat.le_refl _) _).setCell (p := ⟨w.heap.size, 5, none⟩) (Nat.le_refl _) _

/-- The record of stream i. -/
def RecPost (w : World) (r : Rec) (N : Nat) (e : Ending) (w' : World) : Prop :=
  ∃ mv, e = .returned (.map mv) ∧ w' = w ∧ ((mv = none ∧ r = none) ∨ ∃ mb D, mv = some mb ∧ r = some D ∧ ∃ n, n ≤ N ∧ MapIs w mb n D)
theorem rec_walk (w : World) (tag : Nat → Nat × Nat) (B sp : Nat) (hi tr : Int) (cms : List Cm) (Lss : List Ls) (N : Nat) (i : Nat) (h : StateIs w tag B sp hi tr cms Lss N) (hi' : i < Lss.length) :
    Calls Try.prog 24 #[.pointer (some ⟨sp, 0, none⟩), .int .i64 i] w fun e w' => RecPost w (Lss.getD i ls0).rcd N e w' := by
  obtain ⟨gr, cs, p, c2, cp, ar, nr, cr, ac, nc, cc, mv, ht, hb, hu, hc, hm⟩ := h.ls hi'
  have c7 : w.cell? ⟨p, 7, none⟩ = some (.map mv) := (hb.2 7 (by omega)).1
  have hm' : Hid ((mv = none ∧ (Lss.getD i ls0).rcd = none) ∨ ∃ mb D, mv = some mb ∧ (Lss.getD i ls0).rcd = some D ∧ ∃ n, n ≤ N ∧ MapIs w mb n D) := hide (by
    rcases hm with h | ⟨mb, D, h1, h2, _, h4⟩
    · exact Or.inl h
    · exact Or.inr ⟨mb, D, h1, h2, h4⟩)
  clear h hb hu hc hm ht
  go_enter Try.func24, Try.ntmps24
  go_wp2
  go_ret
  exact ⟨mv, rfl, rfl, unhide hm'⟩
def CmsPost (w : World) (zs : List Cm) (e : Ending) (w' : World) : Prop :=
  ∃ a n cap, e = .returned (.slice a n cap) ∧ w' = w ∧ CS w a n cap zs
theorem streamCms_walk (w : World) (tag : Nat → Nat × Nat) (B sp : Nat) (hi tr : Int) (cms : List Cm) (Lss : List Ls) (N : Nat) (i : Nat) (h : StateIs w tag B sp hi tr cms Lss N) (hi' : i < Lss.length) :
    Calls Try.prog 23 #[.pointer (some ⟨sp, 0, none⟩), .int .i64 i] w fun e w' => CmsPost w (Lss.getD i ls0).cms e w' := by
  obtain ⟨gr, cs, p, c2, cp, ar, nr, cr, ac, nc, cc, mv, ht, hb, hu, hc, hm⟩ := h.ls hi'
  have c6 : w.cell? ⟨p, 6, none⟩ = some (.slice ac nc cc) := (hb.2 6 (by omega)).1
  have hcs := hide hc.cs
  clear h hb hu hc hm ht
  go_enter Try.func23, Try.ntmps23
  go_wp2
  go_ret
  exact ⟨ac, nc, cc, rfl, rfl, unhide hcs⟩
theorem stateCms_walk (w : World) (tag : Nat → Nat × Nat) (B sp : Nat) (hi tr : Int) (cms : List Cm) (Lss : List Ls) (N : Nat) (h : StateIs w tag B sp hi tr cms Lss N) :
    Calls Try.prog 19 #[.pointer (some ⟨sp, 0, none⟩)] w fun e w' => CmsPost w cms e w' := by
  obtain ⟨h1, h2, asl, ns, cs, ac, nc, cc, pb, hb, hc, hn, ho, ht1, hL⟩ := h
  have c3 : w.cell? ⟨sp, 3, none⟩ = some (.slice ac nc cc) := (hb.2 3 (by omega)).1
  have hcs := hide hc.cs
  clear hb hc ho ht1 hL h1
  go_enter Try.func19, Try.ntmps19
  go_wp2
  go_ret
  exact ⟨ac, nc, cc, rfl, rfl, unhide hcs⟩
theorem highest_walk (w : World) (tag : Nat → Nat × Nat) (B sp : Nat) (hi tr : Int) (cms : List Cm) (Lss : List Ls) (N : Nat) (h : StateIs w tag B sp hi tr cms Lss N) :
    Calls Try.prog 16 #[.pointer (some ⟨sp, 0, none⟩)] w fun e w' => e = .returned (.int .u64 hi) ∧ w' = w := by
  obtain ⟨h1, h2, asl, ns, cs, ac, nc, cc, pb, hb, hc, hn, ho, ht1, hL⟩ := h
  have c3 : w.cell? ⟨sp, 0, none⟩ = some (.int .u64 hi) := (hb.2 0 (by omega)).1
  clear hb hc ho ht1 hL h1
  go_enter Try.func16, Try.ntmps16
  go_wp2
  go_ret
  exact ⟨rfl, rfl⟩
theorem trimmed_walk (w : World) (tag : Nat → Nat × Nat) (B sp : Nat) (hi tr : Int) (cms : List Cm) (Lss : List Ls) (N : Nat) (h : StateIs w tag B sp hi tr cms Lss N) :
    Calls Try.prog 17 #[.pointer (some ⟨sp, 0, none⟩)] w fun e w' => e = .returned (.int .u64 tr) ∧ w' = w := by
  obtain ⟨h1, h2, asl, ns, cs, ac, nc, cc, pb, hb, hc, hn, ho, ht1, hL⟩ := h
  have c3 : w.cell? ⟨sp, 1, none⟩ = some (.int .u64 tr) := (hb.2 1 (by omega)).1
  clear hb hc ho ht1 hL h1
  go_enter Try.func17, Try.ntmps17
  go_wp2
  go_ret
  exact ⟨rfl, rfl⟩
end Go.Proofs.Qxb6604323a
