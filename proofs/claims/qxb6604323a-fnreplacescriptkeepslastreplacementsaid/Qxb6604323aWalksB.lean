import Derived.Test.Qxb6604323aWalksA
namespace Go.Proofs.Qxb6604323a
open Go.ChangeShapes Go.WideShapes Go.ChangeAt Go.RowKit

def sumU (zs : List Cm) : Int := (zs.map Cm.count).sum % 18446744073709551616
theorem take_snoc (zs : List Cm) (k : Nat) (h : k < zs.length) : zs.take (k + 1) = zs.take k ++ [zs.getD k cm0] := by
  rw [List.take_succ_eq_append_getElem h]; simp [h]
theorem sumU_step (zs : List Cm) (k : Nat) (h : k < zs.length) : sumU (zs.take (k + 1)) = IntKind.u64.wrap (sumU (zs.take k) + (zs.getD k cm0).count) := by
  rw [take_snoc zs k h, IntKind.wrap_u64]
  unfold sumU
  simp

theorem sum_walk (a : Option Addr) (n cap : Nat) (zs : List Cm) (w : World) (hn : n ≤ 1048576) (h : CS w a n cap zs) :
    Calls Try.prog 33 #[.slice a n cap] w fun e w' => e = .returned (.int .u64 (sumU zs)) ∧ w' = w := by
  obtain ⟨hl, hcap, hnil, hN⟩ := h
  have HN := hide hN
  clear hN hnil
  go_enter Try.func33, Try.ntmps33
  go_wp2
  go_loop [3, 4] (fun u i => ∃ k : Nat, k ≤ n ∧ i = .int .i64 k ∧ ∃ t, u = .int .u64 t ∧ Hid (t = sumU (zs.take k))) (fun _ i => n - (intOf i).toNat)
  case atStart => exact ⟨0, Nat.zero_le _, rfl, 0, rfl, hide rfl⟩
  case round =>
    obtain ⟨k, hk, rfl, t, rfl, ht⟩ := hrel
    by_cases hlt : k < n
    · obtain ⟨b, off, had, hbw, hcm⟩ := unhide HN (by omega)
      cases had
      obtain ⟨g0, g1, g2, g3, g4⟩ := hcm k hlt
      have hs := sumU_step zs k (by omega)
      rw [← unhide ht] at hs
      generalize zs.getD k cm0 = c at *
      have HS := hide hs
      clear hcm HN hs g0 g1 g3 g4
      go_wp2
      go_round
      case rel => exact ⟨k + 1, by omega, by go_num, _, rfl, hide (unhide HS).symm⟩
      case measure => simp [intOf]; omega
    · have e : zs.take k = zs := List.take_of_length_le (by omega)
      rw [e] at ht
      go_wp2
      go_ret
      rw [← unhide ht]
      exact ⟨rfl, rfl⟩

theorem zzBytes29_walk (a : Option Addr) (n cap : Nat) (g : Int) (w : World) (hn : n ≤ 9223372036854775807) :
    Calls Try.prog 29 #[.slice a n cap, .int .u64 g] w fun e w' => e = .returned (.bool (decide (n ≤ 1048576))) ∧ w' = w := by
  by_cases h : n ≤ 1048576
  · go_enter Try.func29, Try.ntmps29
    go_wp2
    go_ret
    exact ⟨congrArg (fun b => Ending.returned (.bool b)) (by simp [h]), rfl⟩
  · go_enter Try.func29, Try.ntmps29
    go_wp2
    go_ret
    exact ⟨congrArg (fun b => Ending.returned (.bool b)) (by simp [h]), rfl⟩

set_option maxHeartbeats 1000000 in
theorem same_walk (a a' : Option Addr) (n cap cap' : Nat) (zs : List Cm) (w : World) (hn : n ≤ 1048576) (h : CS w a n cap zs) (h' : CS w a' n cap' zs) :
    Calls Try.prog 18 #[.slice a n cap, .slice a' n cap'] w fun e w' => e = .returned (.bool true) ∧ ∃ q, w' = w.drewN q := by
  obtain ⟨hl, hcap, hnil, hN⟩ := h
  obtain ⟨hl', hcap', hnil', hN'⟩ := h'
  have HN := hide hN
  have HN' := hide hN'
  clear hN hnil hN' hnil' hl'
  go_enter Try.func18, Try.ntmps18
  go_wp2
  go_loopw [5] (fun i wr => ∃ k : Nat, k ≤ n ∧ i = .int .i64 k ∧ ∃ q, wr = w.drewN q) (fun i _ => n - (intOf i).toNat)
  case atStart => exact ⟨0, Nat.zero_le _, rfl, 0, rfl⟩
  case round =>
    obtain ⟨k, hk, rfl, q, rfl⟩ := hrel
    by_cases hlt : k < n
    · obtain ⟨b, off, had, hbw, hcm⟩ := unhide HN (by omega)
      cases had
      obtain ⟨b', off', had', hbw', hcm'⟩ := unhide HN' (by omega)
      cases had'
      obtain ⟨g0, g1, g2, g3, g4⟩ := hcm k hlt
      obtain ⟨f0, f1, f2, f3, f4⟩ := hcm' k hlt
      generalize zs.getD k cm0 = c at *
      clear hcm hcm' HN HN'
      go_wp2
      go_quiet (fail)
      go_wp2
      go_roundw
      case rel => exact ⟨k + 1, by omega, by go_num, _, rfl⟩
      case measure => simp [intOf]; omega
    · go_wp2
      go_ret
      exact ⟨rfl, _, rfl⟩
end Go.Proofs.Qxb6604323a
