import Derived.Test.Qxb6603854aRows
import Derived.Test.Qxb6603854aPlain
import Derived.WalkKit
import Derived.ProofKit
import Derived.OpenShut
import Derived.ShutString
import Derived.Deep.Light
import Derived.Deep.QuietTactic
import Derived.BigQuiet
import Derived.Laws.DeepStrings4
namespace Go.Proofs.Qxb6603854a
open Go.ChangeShapes Go.WideShapes Go.ChangeAt Go.RowKit Go.PlainAid

theorem hide {p : Prop} (h : p) : Hid p := h
theorem unhide {p : Prop} (h : Hid p) : p := h

theorem has_walk (s : ByteArray) (w : World) (ha : s.size ≤ 4294967296) :
    Calls Try.prog 16 #[.string s, .string ⟨#[34]⟩] w fun e w' => e = .returned (.bool (opens 34 s)) ∧ w' = w := by
  have H := hide (opens_extract s 34)
  by_cases h : 1 ≤ s.size
  · go_enter Try.func16, Try.ntmps16
    go_wp2
    go_ret
    exact ⟨congrArg (fun b => Ending.returned (.bool b)) (unhide H), rfl⟩
  · go_enter Try.func16, Try.ntmps16
    go_wp2
    go_ret
    refine ⟨congrArg (fun b => Ending.returned (.bool b)) ?_, rfl⟩
    have : s.size = 0 := by omega
    simp [opens, this]

theorem cut_walk (s : ByteArray) (w : World) (ha : s.size ≤ 4294967296) :
    Calls Try.prog 17 #[.string s, .string ⟨#[32]⟩] w fun e w' => e = .returned (.tuple #[.string (cutSp s), .bool (opens 32 s)]) ∧ w' = w := by
  have H := hide (opens_extract s 32)
  by_cases h : 1 ≤ s.size
  · cases hb : opens 32 s
    · have h2 : ((s.extract 0 1).toList == [32]) = false := by rw [unhide H]; exact hb
      have H2 : Hid (cutSp s = s) := hide (by simp [cutSp, hb])
      clear hb
      go_enter Try.func17, Try.ntmps17
      go_wp2
      go_ret2
      rw [unhide H2]
      exact ⟨rfl, rfl⟩
    · have h2 : ((s.extract 0 1).toList == [32]) = true := by rw [unhide H]; exact hb
      have H2 : Hid (cutSp s = s.extract 1 s.size) := hide (by simp [cutSp, hb])
      clear hb
      go_enter Try.func17, Try.ntmps17
      go_wp2
      go_ret2
      rw [unhide H2]
      exact ⟨rfl, rfl⟩
  · have h0 : opens 32 s = false := by have : s.size = 0 := by omega
                                       simp [opens, this]
    have H2 : Hid (cutSp s = s) := hide (by simp [cutSp, h0])
    have H3 := hide h0
    clear h0
    go_enter Try.func17, Try.ntmps17
    go_wp2
    go_ret2
    rw [unhide H2, unhide H3]
    exact ⟨rfl, rfl⟩

theorem quoted_walk (s : ByteArray) (w : World) (ha : s.size ≤ 1048576000) :
    Calls Try.prog 14 #[.string s] w fun e w' => e = .returned (.tuple #[.string (fieldOf s (place s)), .string (restOf s (place s)), .bool (okOf s (place s))]) ∧ w' = w := by
  cases hq : opens 34 s
  · have H : Hid (place s = none) := hide (by simp [place, hq])
    go_enter Try.func14, Try.ntmps14
    go_wp2_with (go_at_call 16; refine (has_walk _ _ (by omega)).mono ?_; rintro e w' ⟨rfl, rfl⟩)
    go_ret3
    rw [unhide H]
    exact ⟨rfl, rfl⟩
  · have H : Hid (place s = SA s 1) := hide (by simp [place, hq])
    have hbt := get_bt s
    go_enter Try.func14, Try.ntmps14
    go_wp2_with (go_at_call 16; refine (has_walk _ _ (by omega)).mono ?_; rintro e w' ⟨rfl, rfl⟩)
    go_loop [5] (fun i => ∃ k : Nat, 1 ≤ k ∧ k ≤ s.size + 1 ∧ i = .int .i64 k ∧ Hid (SA s k = SA s 1)) (fun i => s.size + 1 - (intOf i).toNat)
    case atStart =>
      refine ⟨1, by omega, ?_, rfl, hide rfl⟩
      omega
    case round =>
      obtain ⟨k, hk1, hk2, rfl, hS⟩ := hrel
      by_cases hlt : k < s.size
      · by_cases hc : bt s k = 92
        · have hS2 : Hid (SA s (k + 2) = SA s 1) := hide (by rw [← SA_skip s k hlt hc]; exact unhide hS)
          have hc' : (bt s k == 92) = true := by simp [hc]
          clear hc hS
          go_wp2
          go_round
          case rel => exact ⟨k + 2, by omega, by omega, by go_num, hS2⟩
          case measure => simp [intOf]; omega
        · have hc' : (bt s k == 92) = false := by simp [hc]
          by_cases hd : bt s k = 34
          · have hP : Hid (place s = some k) := hide (by rw [unhide H, ← unhide hS, SA_hit s k hlt hd])
            have hd' : (bt s k == 34) = true := by simp [hd]
            clear hc hd hS H
            have hsz : (s.extract (k + 1) s.size).size ≤ 4294967296 := by rw [ByteArray.size_extract]; omega
            go_wp2_with fail
            refine (cut_walk _ _ hsz).mono ?_
            rintro e w1 ⟨rfl, rfl⟩
            go_wp2
            go_ret3
            rw [unhide hP]
            exact ⟨rfl, rfl⟩
          · have hS2 : Hid (SA s (k + 1) = SA s 1) := hide (by rw [← SA_next s k hlt hc hd]; exact unhide hS)
            have hd' : (bt s k == 34) = false := by simp [hd]
            clear hc hd hS
            go_wp2
            go_round
            case rel => exact ⟨k + 1, by omega, by omega, by go_num, hS2⟩
            case measure => simp [intOf]; omega
      · have hP : Hid (place s = none) := hide (by rw [unhide H, ← unhide hS, SA_end s k (by omega)])
        clear hS H
        go_wp2
        go_ret3
        rw [unhide hP]
        exact ⟨rfl, rfl⟩

theorem zzcut_walk (s : ByteArray) (w : World) (ha : s.size ≤ 1048576000) :
    Calls Try.prog 7 #[.string s] w fun e w' => e = .returned (.tuple #[.string (fieldOf s (place s)), .string (restOf s (place s)), .bool (okOf s (place s))]) ∧ w' = w := by
  go_enter Try.func7, Try.ntmps7
  go_wp2_with (go_at_call 14; refine (quoted_walk _ _ ha).mono ?_; rintro e w' ⟨rfl, rfl⟩)
  go_ret3
  exact ⟨rfl, rfl⟩

theorem parity_walk (s : ByteArray) (w : World) (ha : s.size ≤ 1048576000) :
    Calls Try.prog 8 #[.string s] w fun e w' => e = .returned (.tuple #[.string (fieldOf s (place s)), .string (restOf s (place s)), .bool (okOf s (place s))]) ∧ ∃ n, w' = w.drewN n := by
  have hbt := get_bt s
  by_cases h0 : s.size = 0
  · have H : Hid (place s = none) := hide (by simp [place, opens, h0])
    have h0' : ((s.size : Int) == 0) = true := by simp [h0]
    clear h0
    go_enter Try.func8, Try.ntmps8
    go_wp2
    go_ret3
    rw [unhide H]
    exact ⟨rfl, 0, rfl⟩
  have hpos : 0 < s.size := by omega
  have h0' : ((s.size : Int) == 0) = false := by simp [h0]
  clear h0
  by_cases hq : bt s 0 = 34
  · have hq' : (bt s 0 != 34) = false := by simp [hq]
    have H : Hid (place s = SB s 1 0) := hide (by rw [← SA_SB]; simp [place, opens, hq, hpos])
    clear hq
    go_enter Try.func8, Try.ntmps8
    go_wp2
    go_loop [5, 6] (fun u i => ∃ k r : Nat, 1 ≤ k ∧ k ≤ s.size ∧ r ≤ k ∧ i = .int .i64 k ∧ u = .int .i64 r ∧ Hid (SB s k r = SB s 1 0)) (fun _ i => s.size + 1 - (intOf i).toNat)
    case atStart => exact ⟨1, 0, by omega, by omega, by omega, rfl, rfl, hide rfl⟩
    case round =>
      obtain ⟨k, r, hk1, hk2, hr, rfl, rfl, hS⟩ := hrel
      by_cases hlt : k < s.size
      · by_cases hc : bt s k = 92
        · have hS2 : Hid (SB s (k + 1) (r + 1) = SB s 1 0) := hide (by rw [← SB_slash s k r hlt hc]; exact unhide hS)
          have hc' : (bt s k == 92) = true := by simp [hc]
          have hd' : (bt s k == 34) = false := by simp [hc]
          clear hc hS
          go_wp2
          go_round
          case rel => exact ⟨k + 1, r + 1, by omega, by omega, by omega, by go_num, by go_num, hS2⟩
          case measure => simp [intOf]; omega
        · have hc' : (bt s k == 92) = false := by simp [hc]
          by_cases hd : bt s k = 34
          · have hd' : (bt s k == 34) = true := by simp [hd]
            by_cases hp : r % 2 = 0
            · have hP : Hid (place s = some k) := hide (by rw [unhide H, ← unhide hS, SB_hit s k r hlt hd hp])
              have hp' : ((r : Int) % 2 == 0) = true := by simp; omega
              clear hc hd hS H
              have hbt2 := get_bt (s.extract (k + 1) s.size)
              have hz : (s.extract (k + 1) s.size).size = s.size - (k + 1) := by rw [ByteArray.size_extract]; omega
              by_cases hn : k + 1 < s.size
              · have hpos2 : 0 < (s.extract (k + 1) s.size).size := by omega
                by_cases hsp : bt (s.extract (k + 1) s.size) 0 = 32
                · have hR : Hid (restOf s (some k) = (s.extract (k + 1) s.size).extract 1 (s.size - (k + 1)) ∧ okOf s (some k) = true) := hide (by
                    have ho : opens 32 (s.extract (k + 1) s.size) = true := by unfold opens; rw [decide_eq_true hpos2, hsp]; rfl
                    simp only [restOf, okOf, cutSp, ho, if_true, hz, and_self])
                  have hsp' : (bt (s.extract (k + 1) s.size) 0 == 32) = true := by simp [hsp]
                  clear hsp hz
                  go_wp2
                  go_quiet (fail)
                  go_wp2
                  go_ret3
                  rw [unhide hP, (unhide hR).1, (unhide hR).2]
                  exact ⟨rfl, _, rfl⟩
                · have hR : Hid (restOf s (some k) = (s.extract (k + 1) s.size) ∧ okOf s (some k) = false) := hide (by simp [restOf, okOf, cutSp, opens, hsp])
                  have hsp' : (bt (s.extract (k + 1) s.size) 0 == 32) = false := by simp [hsp]
                  clear hsp hz
                  go_wp2
                  go_ret3
                  rw [unhide hP, (unhide hR).1, (unhide hR).2]
                  exact ⟨rfl, 0, rfl⟩
              · have hz0 : (s.extract (k + 1) s.size).size = 0 := by omega
                have hR : Hid (restOf s (some k) = (s.extract (k + 1) s.size) ∧ okOf s (some k) = false) := hide (by simp [restOf, okOf, cutSp, opens, hz0])
                clear hz
                go_wp2
                go_ret3
                rw [unhide hP, (unhide hR).1, (unhide hR).2]
                exact ⟨rfl, 0, rfl⟩
            · have hp' : ((r : Int) % 2 == 0) = false := by simp; omega
              have hS2 : Hid (SB s (k + 1) 0 = SB s 1 0) := hide (by rw [← SB_other s k r hlt hc (fun _ => hp)]; exact unhide hS)
              clear hc hd hS
              go_wp2
              go_round
              case rel => exact ⟨k + 1, 0, by omega, by omega, by omega, by go_num, by go_num, hS2⟩
              case measure => simp [intOf]; omega
          · have hS2 : Hid (SB s (k + 1) 0 = SB s 1 0) := hide (by rw [← SB_other s k r hlt hc (fun e => absurd e hd)]; exact unhide hS)
            have hd' : (bt s k == 34) = false := by simp [hd]
            clear hc hd hS
            go_wp2
            go_round
            case rel => exact ⟨k + 1, 0, by omega, by omega, by omega, by go_num, by go_num, hS2⟩
            case measure => simp [intOf]; omega
      · have hP : Hid (place s = none) := hide (by rw [unhide H, ← unhide hS, SB_end s k r (by omega)])
        clear hS H
        go_wp2
        go_ret3
        rw [unhide hP]
        exact ⟨rfl, 0, rfl⟩
  · have hq' : (bt s 0 != 34) = true := by simp [hq]
    have H : Hid (place s = none) := hide (by simp [place, opens, hq])
    clear hq
    go_enter Try.func8, Try.ntmps8
    go_wp2
    go_ret3
    rw [unhide H]
    exact ⟨rfl, 0, rfl⟩

theorem bytes6_walk (s : ByteArray) (w : World) (ha : s.size ≤ maxLen) :
    Calls Try.prog 6 #[.string s] w fun e w' => e = .returned (.bool (decide (s.size ≤ 1048576))) ∧ w' = w := by
  unfold maxLen at ha
  by_cases h : s.size ≤ 1048576
  · go_enter Try.func6, Try.ntmps6
    go_wp2
    go_ret
    exact ⟨congrArg (fun b => Ending.returned (.bool b)) (by simp [h]), rfl⟩
  · go_enter Try.func6, Try.ntmps6
    go_wp2
    go_ret
    exact ⟨congrArg (fun b => Ending.returned (.bool b)) (by simp [h]), rfl⟩

theorem matches_walk (s : ByteArray) (w : World) (ha : s.size ≤ maxLen) :
    Calls Try.prog 3 #[.string s] w fun e w' => e = .returned (.bool true) ∧ ∃ n, w' = w.drewN n := by
  by_cases h : s.size ≤ 1048576
  · go_enter Try.func3, Try.ntmps3
    go_wp2_with (first
      | (go_at_call 6; refine (bytes6_walk _ _ ha).mono ?_; rintro e w' ⟨rfl, rfl⟩)
      | (go_at_call 7; refine (zzcut_walk _ _ (by omega)).mono ?_; rintro e w' ⟨rfl, rfl⟩)
      | (go_at_call 8; refine (parity_walk _ _ (by omega)).mono ?_; rintro e w' ⟨rfl, n, rfl⟩))
    go_ret
    exact ⟨rfl, _, rfl⟩
  · go_enter Try.func3, Try.ntmps3
    go_wp2_with (go_at_call 6; refine (bytes6_walk _ _ ha).mono ?_; rintro e w' ⟨rfl, rfl⟩)
    go_ret
    exact ⟨rfl, 0, rfl⟩
end Go.Proofs.Qxb6603854a
