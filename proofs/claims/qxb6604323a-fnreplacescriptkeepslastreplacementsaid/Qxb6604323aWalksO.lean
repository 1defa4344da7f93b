import Derived.Test.Qxb6604323aState
import Derived.Maps.Own
import Derived.Maps.OwnOps
namespace Go.Proofs.Qxb6604323a
open Go.ChangeShapes Go.WideShapes Go.ChangeAt Go.RowKit Go.Maps

theorem eqm (w : World) (d : Nat) (m : Option Nat) : (Op.equalIn (d + 1) 49 (.map m) (.map none)).run Try.prog w = .ok m.isNone w := by
  cases m <;> simp [Op.equalIn, run_underlying Try.underlying49]
theorem nil49 (w : World) (m : Option Nat) : (binOp .eql 49 (.map m) (.map none)).run Try.prog w = .ok (.bool m.isNone) w := by
  simp [binOp, Op.equal, Op.maxDepth, eqm w 9999 m]
attribute [local go_sem] nil49
theorem law25 : Keyed Try.prog 25 := int_keyed Try.underlying25
theorem wfU {n : Int} (h0 : 0 ≤ n) (h1 : n ≤ 4294967295) : (Lit.int .u32 n).wf = true := by
  simp [Lit.wf, IntKind.min, IntKind.max, IntKind.signed, IntKind.bits]; omega

theorem fidx_hit (x : Int) : ∀ (us : List Int) (k : Nat), fidx x us = k → k < us.length ∧ us.getD k 0 = x ∧ ∀ j, j < k → ¬ us.getD j 0 = x := by
  intro us
  induction us with
  | nil => intro k h; simp [fidx] at h
  | cons u t ih =>
    intro k h
    unfold fidx at h
    by_cases hu : u = x
    · rw [if_pos hu] at h
      have : k = 0 := by omega
      subst this
      exact ⟨by simp, by simpa using hu, fun j hj => by omega⟩
    · rw [if_neg hu] at h
      by_cases ht : fidx x t = -1
      · rw [if_pos ht] at h; omega
      · rw [if_neg ht] at h
        have hr := fidx_range x t
        obtain ⟨m, rfl⟩ : ∃ m, k = m + 1 := ⟨k - 1, by omega⟩
        obtain ⟨h1, h2, h3⟩ := ih m (by omega)
        refine ⟨by simp; omega, by simpa using h2, fun j hj => ?_⟩
        cases j with
        | zero => simpa using hu
        | succ j => simpa using h3 j (by omega)
theorem fidx_none (x : Int) : ∀ (us : List Int), fidx x us = -1 → ∀ j, j < us.length → ¬ us.getD j 0 = x := by
  intro us
  induction us with
  | nil => intro _ j hj; simp at hj
  | cons u t ih =>
    intro h j hj
    unfold fidx at h
    by_cases hu : u = x
    · rw [if_pos hu] at h; omega
    · rw [if_neg hu] at h
      by_cases ht : fidx x t = -1
      · cases j with
        | zero => simpa using hu
        | succ j => simpa using ih ht j (by simpa using hj)
      · rw [if_neg ht] at h
        have hr := fidx_range x t
        omega

theorem stream_no (w : World) (sp : Nat) (asl : Option Addr) (ns cs : Nat) (id : Int) (c2 : w.cell? ⟨sp, 2, none⟩ = some (.slice asl ns cs)) (h0 : 0 ≤ id) (h1 : id ≤ 4294967295) (h : id < 1 ∨ (ns : Int) < id) :
    Calls Try.prog 39 #[.pointer (some ⟨sp, 0, none⟩), .int .u32 id] w fun e w' => e = .returned (.pointer none) ∧ w' = w := by
  by_cases hz : id = 0
  · have hz' : (id == 0) = true := by simp [hz]
    clear hz
    go_enter Try.func39, Try.ntmps39
    go_wp2
    go_ret
    exact ⟨rfl, rfl⟩
  · have hz' : (id == 0) = false := by simp [hz]
    have h2 : (ns : Int) < id := by omega
    clear hz h
    go_enter Try.func39, Try.ntmps39
    go_wp2
    go_ret
    exact ⟨rfl, rfl⟩
theorem stream_yes (w : World) (sp gr ns cs i p : Nat) (c2 : w.cell? ⟨sp, 2, none⟩ = some (.slice (some ⟨gr, 0, none⟩) ns cs)) (cp : w.cell? ⟨gr, i, none⟩ = some (.pointer (some ⟨p, 0, none⟩))) (hi : i < ns) (hns : ns ≤ 1048576) :
    Calls Try.prog 39 #[.pointer (some ⟨sp, 0, none⟩), .int .u32 ((i : Int) + 1)] w fun e w' => e = .returned (.pointer (some ⟨p, 0, none⟩)) ∧ w' = w := by
  have hz' : ((i : Int) + 1 == 0) = false := by simp; omega
  go_enter Try.func39, Try.ntmps39
  go_wp2
  go_ret
  exact ⟨rfl, rfl⟩

/-- Replace where the stream does not hold old. -/
theorem repl_miss (w : World) (sp gr ns cs i p : Nat) (ar : Option Addr) (nr cr : Nat) (us : List Int) (old nw : Int) (c2 : w.cell? ⟨sp, 2, none⟩ = some (.slice (some ⟨gr, 0, none⟩) ns cs)) (cp : w.cell? ⟨gr, i, none⟩ = some (.pointer (some ⟨p, 0, none⟩))) (hi : i < ns) (hns : ns ≤ 1048576)
    (c1 : w.cell? ⟨p, 1, none⟩ = some (.slice ar nr cr)) (hus : US w ar nr cr us) (hnr : nr ≤ 1048576) (hf : fidx old us = -1) :
    Calls Try.prog 15 #[.pointer (some ⟨sp, 0, none⟩), .int .u32 ((i : Int) + 1), .int .u32 old, .int .u32 nw] w fun e w' => e = .returned (.bool false) ∧ w' = w := by
  have hno := fidx_none old us hf
  obtain ⟨hl, hcap, hnil, hN⟩ := hus
  have HN := hide hN
  have HNO := hide hno
  have HS := hide (stream_yes w sp gr ns cs i p c2 cp hi hns)
  clear hN hno hf hnil c2 cp
  go_enter Try.func15, Try.ntmps15
  go_wp2_with (go_at_call 39; refine (unhide HS).mono ?_; rintro e w' ⟨rfl, hw⟩; have hw2 := hw.symm; clear hw; subst hw2)
  go_loop [23] (fun x => ∃ k : Nat, k ≤ nr ∧ x = .int .i64 k) (fun x => nr - (intOf x).toNat)
  case atStart => exact ⟨0, Nat.zero_le _, rfl⟩
  case round =>
    obtain ⟨k, hk, rfl⟩ := hrel
    by_cases hlt : k < nr
    · obtain ⟨b, off, had, hbw, hcm⟩ := unhide HN (by omega)
      subst had
      have g0 := hcm k hlt
      have hx : (us.getD k 0 == old) = false := by simpa using unhide HNO k (by omega)
      generalize us.getD k 0 = c at *
      clear hcm HN HNO HS
      go_wp2
      go_round
      case rel => exact ⟨k + 1, by omega, by go_num⟩
      case measure => simp [intOf]; omega
    · go_wp2
      go_ret
      exact ⟨rfl, rfl⟩

/-- Replace where it does, the record not made yet. -/
def HitNil (w : World) (p r k : Nat) (old nw : Int) (e : Ending) (w' : World) : Prop :=
  e = .returned (.bool true) ∧ MapIs w' w.heap.size 1 ((DataW.map []).put (.int .u32 old) (.lit (.int .u32 nw))) ∧
    (((w.setCell ⟨r, k, none⟩ (.int .u32 nw)).setCell ⟨p, 7, none⟩ (.map (some w.heap.size))).alloc (.map #[] 0)).grownBy w' (some w.heap.size)
set_option maxHeartbeats 1000000 in
theorem repl_hit_nil (w : World) (sp gr ns cs i p r : Nat) (nr cr : Nat) (us : List Int) (old nw : Int) (k : Nat) (c2 : w.cell? ⟨sp, 2, none⟩ = some (.slice (some ⟨gr, 0, none⟩) ns cs)) (cp : w.cell? ⟨gr, i, none⟩ = some (.pointer (some ⟨p, 0, none⟩))) (hi : i < ns) (hns : ns ≤ 1048576)
    (c1 : w.cell? ⟨p, 1, none⟩ = some (.slice (some ⟨r, 0, none⟩) nr cr)) (c7 : w.cell? ⟨p, 7, none⟩ = some (.map none)) (f7 : w.frozen? ⟨p, 7, none⟩ = false) (hu : UBlk w r us) (hl : us.length = nr) (hnr : nr ≤ 1048576) (hf : fidx old us = k) (hrp : r ≠ p) (hpw : p < w.heap.size)
    (o0 : 0 ≤ old) (o1 : old ≤ 4294967295) (n0 : 0 ≤ nw) (n1 : nw ≤ 4294967295) :
    Calls Try.prog 15 #[.pointer (some ⟨sp, 0, none⟩), .int .u32 ((i : Int) + 1), .int .u32 old, .int .u32 nw] w fun e w' => HitNil w p r k old nw e w' := by
  obtain ⟨hk, hkx, hmiss⟩ := fidx_hit old us k hf
  have hmm := @run_makeMap Try.prog
  have HU := hide hu
  have HM := hide hmiss
  have HS := hide (stream_yes w sp gr ns cs i p c2 cp hi hns)
  have hfr := (hu.2 k (by omega)).2
  have hrw := hu.1
  clear hu hmiss hf c2 cp
  go_enter Try.func15, Try.ntmps15
  go_wp2_with (go_at_call 39; refine (unhide HS).mono ?_; rintro e w' ⟨rfl, hw⟩; have hw2 := hw.symm; clear hw; subst hw2)
  go_loop [23] (fun x => ∃ j : Nat, j ≤ k ∧ x = .int .i64 j) (fun x => nr - (intOf x).toNat)
  case atStart => exact ⟨0, Nat.zero_le _, rfl⟩
  case round =>
    obtain ⟨j, hj, rfl⟩ := hrel
    have g0 : w.cell? ⟨r, j, none⟩ = some (.int .u32 (us.getD j 0)) := ((unhide HU).2 j (by omega)).1
    have hjn : j < nr := by omega
    by_cases hlt : j < k
    · have hx : (us.getD j 0 == old) = false := by simpa using unhide HM j hlt
      generalize us.getD j 0 = c at *
      clear HU HM HS hkx hl hk
      go_wp2
      go_round
      case rel => exact ⟨j + 1, by omega, by go_num⟩
      case measure => simp [intOf]; omega
    · have hjk : j = k := by omega
      subst hjk
      have hx : (us.getD j 0 == old) = true := by simpa using hkx
      generalize us.getD j 0 = c at *
      clear HU HM HS hkx hl hk
      have hom : Hid (World.ownsMap (H := Unit) (((w.setCell ⟨r, j, none⟩ (.int .u32 nw)).setCell ⟨p, 7, none⟩ (.map (some w.heap.size))).alloc (.map #[] 0)) Try.prog 25 (plainElem Try.prog 25) w.heap.size 0 (.map [])) := hide (by
        have h1 := World.ownsMap_made (H := Unit) ((w.setCell ⟨r, j, none⟩ (.int .u32 nw)).setCell ⟨p, 7, none⟩ (.map (some w.heap.size))) Try.prog 25 (plainElem Try.prog 25)
        have h2 : ((w.setCell ⟨r, j, none⟩ (.int .u32 nw)).setCell ⟨p, 7, none⟩ (.map (some w.heap.size))).heap.size = w.heap.size := by simp
        rw [h2] at h1
        exact h1)
      have hpn : p < w.heap.size + 1 := by omega
      go_wp2_with (at_mapUpdate; (refine wpList_mapUpdate_own _ rfl _ _ _ 49 rfl 25 25 law25 Try.underlying49 (plainElem (H := Unit) Try.prog 25) w.heap.size 0 _ rfl (unhide hom) (by unfold maxLen; omega) _ _ _ rfl rfl (keyOf_int_mk Try.underlying25 (wfU o0 o1)) _ [] (plainElem_int Try.underlying25 (wfU n0 n1)) ?_); intro w1 hown1 hgrow1)
      go_ret
      exact ⟨rfl, hown1, hgrow1⟩

/-- Replace where it does, the record made already. -/
def HitMap (w : World) (mb n : Nat) (D : DataW Unit) (r k : Nat) (old nw : Int) (e : Ending) (w' : World) : Prop :=
  e = .returned (.bool true) ∧ MapIs w' mb (n + 1) (D.put (.int .u32 old) (.lit (.int .u32 nw))) ∧ (w.setCell ⟨r, k, none⟩ (.int .u32 nw)).grownBy w' (some mb)
set_option maxHeartbeats 1000000 in
theorem repl_hit_map (w : World) (sp gr ns cs i p r : Nat) (nr cr : Nat) (us : List Int) (old nw : Int) (k : Nat) (c2 : w.cell? ⟨sp, 2, none⟩ = some (.slice (some ⟨gr, 0, none⟩) ns cs)) (cp : w.cell? ⟨gr, i, none⟩ = some (.pointer (some ⟨p, 0, none⟩))) (hi : i < ns) (hns : ns ≤ 1048576)
    (c1 : w.cell? ⟨p, 1, none⟩ = some (.slice (some ⟨r, 0, none⟩) nr cr)) (mb n : Nat) (D : DataW Unit) (c7 : w.cell? ⟨p, 7, none⟩ = some (.map (some mb))) (hmap : MapIs w mb n D) (hn : n < 1048576) (hmr : mb ≠ r) (hu : UBlk w r us) (hl : us.length = nr) (hnr : nr ≤ 1048576) (hf : fidx old us = k) (hrp : r ≠ p)
    (o0 : 0 ≤ old) (o1 : old ≤ 4294967295) (n0 : 0 ≤ nw) (n1 : nw ≤ 4294967295) :
    Calls Try.prog 15 #[.pointer (some ⟨sp, 0, none⟩), .int .u32 ((i : Int) + 1), .int .u32 old, .int .u32 nw] w fun e w' => HitMap w mb n D r k old nw e w' := by
  obtain ⟨hk, hkx, hmiss⟩ := fidx_hit old us k hf
  have HU := hide hu
  have HM := hide hmiss
  have HS := hide (stream_yes w sp gr ns cs i p c2 cp hi hns)
  have hfr := (hu.2 k (by omega)).2
  clear hu hmiss hf c2 cp
  go_enter Try.func15, Try.ntmps15
  go_wp2_with (go_at_call 39; refine (unhide HS).mono ?_; rintro e w' ⟨rfl, hw⟩; have hw2 := hw.symm; clear hw; subst hw2)
  go_loop [23] (fun x => ∃ j : Nat, j ≤ k ∧ x = .int .i64 j) (fun x => nr - (intOf x).toNat)
  case atStart => exact ⟨0, Nat.zero_le _, rfl⟩
  case round =>
    obtain ⟨j, hj, rfl⟩ := hrel
    have g0 : w.cell? ⟨r, j, none⟩ = some (.int .u32 (us.getD j 0)) := ((unhide HU).2 j (by omega)).1
    have hjn : j < nr := by omega
    by_cases hlt : j < k
    · have hx : (us.getD j 0 == old) = false := by simpa using unhide HM j hlt
      generalize us.getD j 0 = c at *
      clear HU HM HS hkx hl hk
      go_wp2
      go_round
      case rel => exact ⟨j + 1, by omega, by go_num⟩
      case measure => simp [intOf]; omega
    · have hjk : j = k := by omega
      subst hjk
      have hx : (us.getD j 0 == old) = true := by simpa using hkx
      generalize us.getD j 0 = c at *
      clear HU HM HS hkx hl hk
      have hom : Hid (World.ownsMap (H := Unit) (w.setCell ⟨r, j, none⟩ (.int .u32 nw)) Try.prog 25 (plainElem Try.prog 25) mb n D) := hide (World.ownsMap.setCell hmap hmr _)
      have HMP := hide hmap
      clear hmap
      go_wp2_with (at_mapUpdate; (refine wpList_mapUpdate_own _ rfl _ _ _ 49 rfl 25 25 law25 Try.underlying49 (plainElem (H := Unit) Try.prog 25) mb n _ rfl (unhide hom) (by unfold maxLen; omega) _ _ _ rfl rfl (keyOf_int_mk Try.underlying25 (wfU o0 o1)) _ [] (plainElem_int Try.underlying25 (wfU n0 n1)) ?_); intro w1 hown1 hgrow1)
      go_ret
      exact ⟨rfl, hown1, hgrow1⟩
end Go.Proofs.Qxb6604323a
