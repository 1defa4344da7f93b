import Derived.Test.Qxb6604323aWalksB
namespace Go.Proofs.Qxb6604323a
open Go.ChangeShapes Go.WideShapes Go.ChangeAt Go.RowKit

def WfL (zs : List Cm) : Prop := ∀ c ∈ zs, c.wf
theorem WfL.at {zs : List Cm} (h : WfL zs) (i : Nat) (hi : i < zs.length) : (zs.getD i cm0).wf := by
  apply h
  rw [List.getD_eq_getElem?_getD, List.getElem?_eq_getElem hi]
  simp
def Cm.fin (c : Cm) : Int := c.first + c.count
def nextOk (c : Cm) : List Cm → Bool
  | [] => true
  | d :: _ => decide (c.fin ≤ d.first)
def ordB : List Cm → Bool
  | [] => true
  | c :: t => decide (c.fin ≤ 18446744073709551615) && nextOk c t && ordB t
theorem drop_at (zs : List Cm) (k : Nat) (h : k < zs.length) : zs.drop k = zs.getD k cm0 :: zs.drop (k + 1) := by
  rw [List.drop_eq_getElem_cons h]; simp [h]
theorem ordB_bad {c : Cm} {t : List Cm} (h : ¬ c.first + c.count ≤ 18446744073709551615) : ordB (c :: t) = false := by
  have h' : ¬ c.fin ≤ 18446744073709551615 := h
  simp [ordB, h']
theorem ordB_bad2 {c d : Cm} {t : List Cm} (h : ¬ c.first + c.count ≤ d.first) : ordB (c :: d :: t) = false := by
  have h' : ¬ c.fin ≤ d.first := h
  simp [ordB, nextOk, h']
theorem ordB_go {c d : Cm} {t : List Cm} (h0 : c.first + c.count ≤ 18446744073709551615) (h : c.first + c.count ≤ d.first) : ordB (c :: d :: t) = ordB (d :: t) := by
  have h' : c.fin ≤ d.first := h
  have h0' : c.fin ≤ 18446744073709551615 := h0
  rw [ordB]
  simp [nextOk, h', h0']
theorem ordB_last {c : Cm} (h0 : c.first + c.count ≤ 18446744073709551615) : ordB [c] = ordB [] := by
  have h0' : c.fin ≤ 18446744073709551615 := h0
  simp [ordB, nextOk, h0']
theorem ord_bad (zs : List Cm) (k : Nat) (h : k < zs.length) (h1 : ¬ (zs.getD k cm0).first + (zs.getD k cm0).count ≤ 18446744073709551615) : ordB (zs.drop k) = false := by
  rw [drop_at zs k h]; exact ordB_bad h1
theorem ord_bad2 (zs : List Cm) (k : Nat) (h : k < zs.length) (h' : k + 1 < zs.length) (h1 : ¬ (zs.getD k cm0).first + (zs.getD k cm0).count ≤ (zs.getD (k + 1) cm0).first) : ordB (zs.drop k) = false := by
  rw [drop_at zs k h, drop_at zs (k + 1) h']; exact ordB_bad2 h1
theorem ord_go (zs : List Cm) (k : Nat) (h : k < zs.length) (h0 : (zs.getD k cm0).first + (zs.getD k cm0).count ≤ 18446744073709551615) (h1 : k + 1 < zs.length → (zs.getD k cm0).first + (zs.getD k cm0).count ≤ (zs.getD (k + 1) cm0).first) : ordB (zs.drop k) = ordB (zs.drop (k + 1)) := by
  rw [drop_at zs k h]
  by_cases h' : k + 1 < zs.length
  · rw [drop_at zs (k + 1) h']; exact ordB_go h0 (h1 h')
  · have e : zs.drop (k + 1) = [] := List.drop_eq_nil_of_le (by omega)
    rw [e]; exact ordB_last h0

theorem dd2 (w : World) (a b : Nat) : ∃ q, (w.drewN a).drewN b = w.drewN q := ⟨_, World.drewN_drewN w a b⟩
theorem dd3 (w : World) (a b c : Nat) : ∃ q, ((w.drewN a).drewN b).drewN c = w.drewN q := by
  obtain ⟨q, h⟩ := dd2 w a b
  rw [h]; exact dd2 w q c
set_option maxHeartbeats 1000000 in
theorem ordered_walk (a : Option Addr) (n cap : Nat) (zs : List Cm) (w : World) (hn : n ≤ 1048576) (h : CS w a n cap zs) (hw : WfL zs) :
    Calls Try.prog 30 #[.slice a n cap] w fun e w' => e = .returned (.bool (ordB zs)) ∧ ∃ q, w' = w.drewN q := by
  obtain ⟨hl, hcap, hnil, hN⟩ := h
  have HN := hide hN
  have HW := hide hw
  clear hN hnil hw
  go_enter Try.func30, Try.ntmps30
  go_wp2
  go_loopw [3] (fun i wr => ∃ k : Nat, k ≤ n ∧ i = .int .i64 k ∧ (∃ q, wr = w.drewN q) ∧ Hid (ordB zs = ordB (zs.drop k))) (fun i _ => n - (intOf i).toNat)
  case atStart => exact ⟨0, Nat.zero_le _, rfl, ⟨0, rfl⟩, hide rfl⟩
  case round =>
    obtain ⟨k, hk, rfl, ⟨q, rfl⟩, hS⟩ := hrel
    by_cases hlt : k < n
    · obtain ⟨b, off, had, hbw, hcm⟩ := unhide HN (by omega)
      cases had
      obtain ⟨g0, g1, g2, g3, g4⟩ := hcm k hlt
      obtain ⟨⟨wf1, wf2⟩, ⟨wf3, wf4⟩⟩ := (unhide HW).at k (by omega)
      clear g0 g3 g4
      have hbad := ord_bad zs k (by omega)
      have hbad2 := ord_bad2 zs k (by omega)
      have hgo := ord_go zs k (by omega)
      by_cases h1 : (zs.getD k cm0).first + (zs.getD k cm0).count ≤ 18446744073709551615
      · by_cases hn1 : k + 1 < n
        · obtain ⟨f0, f1, f2, f3, f4⟩ := hcm (k + 1) hn1
          obtain ⟨⟨wf5, wf6⟩, _⟩ := (unhide HW).at (k + 1) (by omega)
          clear f0 f2 f3 f4
          have hd : decide ((k : Int) + 1 < n) = true := by simp; omega
          by_cases h2 : (zs.getD k cm0).first + (zs.getD k cm0).count ≤ (zs.getD (k + 1) cm0).first
          · have hS2 : Hid (ordB zs = ordB (zs.drop (k + 1))) := hide ((unhide hS).trans (hgo h1 (fun _ => h2)))
            clear hbad hbad2 hgo hcm HN HW hS
            generalize zs.getD k cm0 = c at *
            generalize zs.getD (k + 1) cm0 = d at *
            go_wp2
            go_quiet (fail)
            go_wp2
            go_quiet (fail)
            go_wp2
            go_roundw
            case rel => exact ⟨k + 1, by omega, by go_num, ⟨_, rfl⟩, hS2⟩
            case measure => simp [intOf]; omega
          · have hS2 : Hid (ordB zs = false) := hide ((unhide hS).trans (hbad2 (by omega) h2))
            clear hbad hbad2 hgo hcm HN HW hS
            generalize zs.getD k cm0 = c at *
            generalize zs.getD (k + 1) cm0 = d at *
            go_wp2
            go_quiet (fail)
            go_wp2
            go_quiet (fail)
            go_wp2
            go_ret
            rw [unhide hS2]
            exact ⟨rfl, dd3 _ _ _ _⟩
        · have hd : decide ((k : Int) + 1 < n) = false := by simp; omega
          have hS2 : Hid (ordB zs = ordB (zs.drop (k + 1))) := hide ((unhide hS).trans (hgo h1 (fun h => absurd h (by omega))))
          clear hbad hbad2 hgo hcm HN HW hS
          generalize zs.getD k cm0 = c at *
          go_wp2
          go_quiet (fail)
          go_wp2
          go_quiet (fail)
          go_wp2
          go_roundw
          case rel => exact ⟨k + 1, by omega, by go_num, ⟨_, rfl⟩, hS2⟩
          case measure => simp [intOf]; omega
      · have hS2 : Hid (ordB zs = false) := hide ((unhide hS).trans (hbad h1))
        clear hbad hbad2 hgo hcm HN HW hS
        generalize zs.getD k cm0 = c at *
        go_wp2
        go_quiet (fail)
        go_wp2
        go_ret
        rw [unhide hS2]
        exact ⟨rfl, dd2 _ _ _⟩
    · have hS2 : Hid (ordB zs = true) := hide ((unhide hS).trans (by rw [List.drop_eq_nil_of_le (by omega)]; rfl))
      go_wp2
      go_ret
      rw [unhide hS2]
      exact ⟨rfl, _, rfl⟩
end Go.Proofs.Qxb6604323a
