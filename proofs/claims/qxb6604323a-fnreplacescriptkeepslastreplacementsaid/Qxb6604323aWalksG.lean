import Derived.Test.Qxb6604323aWalksD
namespace Go.Proofs.Qxb6604323a
open Go.ChangeShapes Go.WideShapes Go.ChangeAt Go.RowKit
attribute [local go_sem] nil23 nil34

theorem info25 : (Try.prog.info? 25).map (fun i => (i.zero, i.size, i.bytes)) = some (some (.int .u32 0), 1, 4) := by kernel_rfl

/-- The slice value '.slice a n cap' leads in w to the numbers us. -/
def US (w : World) (a : Option Addr) (n cap : Nat) (us : List Int) : Prop :=
  us.length = n ∧ n ≤ cap ∧ (a = none → n = 0 ∧ cap = 0) ∧ (0 < n → ∃ b off, a = some ⟨b, off, none⟩ ∧ b < w.heap.size ∧ ∀ i, i < n → w.cell? ⟨b, off + i, none⟩ = some (.int .u32 (us.getD i 0)))
theorem US.below {w w' : World} {a : Option Addr} {n cap : Nat} {us : List Int} (h : US w a n cap us) (hb : Below w.heap.size w w') : US w' a n cap us := by
  obtain ⟨h1, h2, h3, h4⟩ := h
  refine ⟨h1, h2, h3, fun hn => ?_⟩
  obtain ⟨b, off, ha, hlt, hc⟩ := h4 hn
  exact ⟨b, off, ha, Nat.lt_of_lt_of_le hlt hb.size, fun i hi => (hb.cell (p := ⟨b, _, none⟩) hlt).trans (hc i hi)⟩
theorem US.drewN {w : World} {a : Option Addr} {n cap : Nat} {us : List Int} (h : US w a n cap us) (q : Nat) : US (w.drewN q) a n cap us := h
theorem US.nil (w : World) : US w none 0 0 [] := ⟨rfl, Nat.le_refl _, fun _ => ⟨rfl, rfl⟩, fun h => absurd h (Nat.lt_irrefl _)⟩

def UBlk (w : World) (b : Nat) (us : List Int) : Prop := Blk w b us.length (fun j => .int .u32 (us.getD j 0))
/-- .. in memory of the call's own, from block B on. -/
def UO (w : World) (B : Nat) (a : Option Addr) (n cap : Nat) (us : List Int) : Prop :=
  us.length = n ∧ n ≤ cap ∧ (a = none → n = 0 ∧ cap = 0) ∧ (0 < n → ∃ g, a = some ⟨g, 0, none⟩ ∧ B ≤ g ∧ UBlk w g us)
theorem UO.us {w : World} {B : Nat} {a : Option Addr} {n cap : Nat} {us : List Int} (h : UO w B a n cap us) : US w a n cap us := by
  obtain ⟨h1, h2, h3, h4⟩ := h
  refine ⟨h1, h2, h3, fun hn => ?_⟩
  obtain ⟨g, ha, _, hb⟩ := h4 hn
  exact ⟨g, 0, ha, hb.1, fun i hi => by rw [Nat.zero_add]; exact (hb.2 i (by omega)).1⟩

set_option maxHeartbeats 1000000 in
theorem cloneU_walk (a : Option Addr) (n cap : Nat) (us : List Int) (w : World) (hn : n ≤ 1048576) (h : US w a n cap us) :
    Calls Try.prog 28 #[.slice a n cap] w fun e w' => ∃ a', e = .returned (.slice a' n n) ∧ UO w' w.heap.size a' n n us ∧ Below w.heap.size w w' := by
  obtain ⟨hl, hcap, hnil, hN⟩ := h
  obtain ⟨i0, hi, hz0, hz1, hz2⟩ := info_parts info25
  cases a with
  | none =>
    obtain ⟨rfl, rfl⟩ := hnil rfl
    go_enter Try.func28, Try.ntmps28
    go_wp2
    go_ret
    exact ⟨none, rfl, ⟨hl, Nat.le_refl _, fun _ => ⟨rfl, rfl⟩, fun h => absurd h (Nat.lt_irrefl _)⟩, Below.refl _ _⟩
  | some ad =>
    clear hnil
    have HN := hide hN
    clear hN
    go_enter Try.func28, Try.ntmps28
    go_wp2_with (at_make; refine wpList_make_full _ rfl _ _ 34 rfl w.heap.size 25 i0 _ 1 Try.underlying34 hi hz0 hz1 _ _ _ _ n rfl rfl rfl rfl (by rw [hz2]; omega) (by unfold maxLen; omega) (Nat.le_refl _) ?_; intro w1 hown1 hgrow1)
    have hb1 : Below w.heap.size w w1 := (Below.refl _ _).grown hgrow1 (Nat.le_refl _) (fun k h => by cases h)
    rcases blk_of_owns hown1 with ⟨hv, _⟩ | ⟨g, cap1, hv, _, _, hB1⟩
    · cases hv
    cases hv
    rw [Nat.mul_one] at hB1
    clear hown1 hgrow1
    go_loopw [4] (fun i wr => ∃ k : Nat, k ≤ n ∧ i = .int .i64 k ∧ Below w.heap.size w wr ∧ ∃ f, Blk wr w.heap.size n f ∧ Hid (∀ j, j < k → f j = .int .u32 (us.getD j 0))) (fun i _ => n - (intOf i).toNat)
    case atStart => exact ⟨0, Nat.zero_le _, rfl, hb1, _, hB1, hide (fun j hj => absurd hj (by omega))⟩
    case round =>
      obtain ⟨k, hk, rfl, hbel, f, hB, hf⟩ := hrel
      clear hb1 hB1
      by_cases hlt : k < n
      · obtain ⟨b, off, had, hbw, hcm⟩ := unhide HN (by omega)
        cases had
        have g0 := (hbel.cell (p := ⟨b, off + k, none⟩) hbw).trans (hcm k hlt)
        obtain ⟨x0, e0, f0⟩ := hB.facts k hlt
        have HB' : Hid (∃ f', Blk (wr.setCell ⟨w.heap.size, k, none⟩ (.int .u32 (us.getD k 0))) w.heap.size n f' ∧ ∀ j, j < k + 1 → f' j = .int .u32 (us.getD j 0)) := hide (by
          refine ⟨_, hB.set k hlt _, ?_⟩
          intro j hj
          by_cases e : j = k
          · subst e; rw [if_pos rfl]
          · rw [if_neg e]; exact unhide hf j (by omega))
        generalize us.getD k 0 = c at *
        have Hbel := hide hbel
        clear hcm hB hbel HN hf
        go_wp2
        go_roundw
        case rel => exact ⟨k + 1, by omega, by go_num, (unhide Hbel).setCell (Nat.le_refl _) _, unhide HB'⟩
        case measure => simp [intOf]; omega
      · have hkn : k = n := by omega
        subst hkn
        have hu : UO wr w.heap.size (some ⟨w.heap.size, 0, none⟩) k k us := by
          refine ⟨hl, Nat.le_refl _, (fun e => nomatch e), fun _ => ⟨_, rfl, Nat.le_refl _, ?_⟩⟩
          unfold UBlk
          rw [hl]
          exact hB.congr (unhide hf)
        go_wp2
        go_ret
        exact ⟨_, rfl, hu, hbel⟩

set_option maxHeartbeats 1000000 in
theorem sameU_walk (a a' : Option Addr) (n cap cap' : Nat) (us : List Int) (w : World) (hn : n ≤ 1048576) (h : US w a n cap us) (h' : US w a' n cap' us) :
    Calls Try.prog 26 #[.slice a n cap, .slice a' n cap'] w fun e w' => e = .returned (.bool true) ∧ ∃ q, w' = w.drewN q := by
  obtain ⟨hl, hcap, hnil, hN⟩ := h
  obtain ⟨hl', hcap', hnil', hN'⟩ := h'
  have HN := hide hN
  have HN' := hide hN'
  clear hN hnil hN' hnil' hl'
  go_enter Try.func26, Try.ntmps26
  go_wp2
  go_loopw [5] (fun i wr => ∃ k : Nat, k ≤ n ∧ i = .int .i64 k ∧ ∃ q, wr = w.drewN q) (fun i _ => n - (intOf i).toNat)
  case atStart => exact ⟨0, Nat.zero_le _, rfl, 0, rfl⟩
  case round =>
    obtain ⟨k, hk, rfl, q, rfl⟩ := hrel
    by_cases hlt : k < n
    · obtain ⟨b, off, had, hbw, hcm⟩ := unhide HN (by omega)
      cases had
      obtain ⟨b', off', had', hbw', hcm'⟩ := unhide HN' (by omega)
      cases had'
      have g0 := hcm k hlt
      have f0 := hcm' k hlt
      generalize us.getD k 0 = c at *
      clear hcm hcm' HN HN'
      go_wp2
      go_quiet (fail)
      go_wp2
      go_roundw
      case rel => exact ⟨k + 1, by omega, by go_num, _, rfl⟩
      case measure => simp [intOf]; omega
    · go_wp2
      go_ret
      exact ⟨rfl, _, rfl⟩

/-- The least place of x, or -1. -/
def fidx (x : Int) : List Int → Int
  | [] => -1
  | u :: t => if u = x then 0 else (if fidx x t = -1 then -1 else fidx x t + 1)
theorem fidx_range (x : Int) (us : List Int) : -1 ≤ fidx x us ∧ fidx x us < us.length := by
  induction us with
  | nil => simp [fidx]
  | cons u t ih => unfold fidx; simp; split <;> (try split) <;> omega
theorem udrop_at (us : List Int) (k : Nat) (h : k < us.length) : us.drop k = us.getD k 0 :: us.drop (k + 1) := by
  rw [List.drop_eq_getElem_cons h]; simp [h]
/-- What the scan from the back has found: the least place from k on. -/
def fidxFrom (x : Int) (us : List Int) (k : Nat) : Int := if fidx x (us.drop k) = -1 then -1 else fidx x (us.drop k) + k
theorem fidxFrom_end (x : Int) (us : List Int) (k : Nat) (h : us.length ≤ k) : fidxFrom x us k = -1 := by
  unfold fidxFrom; rw [List.drop_eq_nil_of_le h]; simp [fidx]
theorem fidxFrom_hit (x : Int) (us : List Int) (k : Nat) (h : k < us.length) (hx : us.getD k 0 = x) : fidxFrom x us k = k := by
  unfold fidxFrom; rw [udrop_at us k h, fidx, if_pos hx]; simp
theorem fidxFrom_miss (x : Int) (us : List Int) (k : Nat) (h : k < us.length) (hx : ¬ us.getD k 0 = x) : fidxFrom x us k = fidxFrom x us (k + 1) := by
  have hr := fidx_range x (us.drop (k + 1))
  unfold fidxFrom; rw [udrop_at us k h, fidx, if_neg hx]
  by_cases e : fidx x (us.drop (k + 1)) = -1
  · simp [e]
  · rw [if_neg e, if_neg (by omega), if_neg e]; omega
theorem fidxFrom_zero (x : Int) (us : List Int) : fidxFrom x us 0 = fidx x us := by
  unfold fidxFrom; simp
  intro h; omega

theorem fidx_walk (a : Option Addr) (n cap : Nat) (us : List Int) (x : Int) (w : World) (hn : n ≤ 1048576) (h : US w a n cap us) :
    Calls Try.prog 14 #[.slice a n cap, .int .u32 x] w fun e w' => e = .returned (.int .i64 (fidx x us)) ∧ w' = w := by
  obtain ⟨hl, hcap, hnil, hN⟩ := h
  have HN := hide hN
  clear hN hnil
  go_enter Try.func14, Try.ntmps14
  go_wp2
  go_loop [5, 6] (fun u i => ∃ k : Nat, k ≤ n ∧ i = .int .i64 k ∧ ∃ t, u = .int .i64 t ∧ Hid (t = fidxFrom x us k)) (fun _ i => (intOf i).toNat)
  case atStart => exact ⟨n, Nat.le_refl _, rfl, -1, rfl, hide (fidxFrom_end x us n (by omega)).symm⟩
  case round =>
    obtain ⟨k, hk, rfl, t, rfl, ht⟩ := hrel
    by_cases hlt : 0 < k
    · obtain ⟨b, off, had, hbw, hcm⟩ := unhide HN (by omega)
      cases had
      obtain ⟨j, rfl⟩ : ∃ j, k = j + 1 := ⟨k - 1, by omega⟩
      have g0 := hcm j (by omega)
      by_cases hx : us.getD j 0 = x
      · have hS : Hid ((j : Int) = fidxFrom x us j) := hide (fidxFrom_hit x us j (by omega) hx).symm
        have hx' : (us.getD j 0 == x) = true := by simpa using hx
        generalize us.getD j 0 = c at *
        clear hcm HN hx
        go_wp2
        go_round
        case rel => exact ⟨j, by omega, by go_num, _, rfl, by simpa using hS⟩
        case measure => simp [intOf]
      · have hS : Hid (t = fidxFrom x us j) := hide (by rw [fidxFrom_miss x us j (by omega) hx]; exact unhide ht)
        have hx' : (us.getD j 0 == x) = false := by simpa using hx
        generalize us.getD j 0 = c at *
        clear hcm HN hx
        go_wp2
        go_round
        case rel => exact ⟨j, by omega, by go_num, _, rfl, hS⟩
        case measure => simp [intOf]
    · have hk0 : k = 0 := by omega
      subst hk0
      have hT : Hid (t = fidx x us) := hide (by rw [← fidxFrom_zero]; exact unhide ht)
      go_wp2
      go_ret
      rw [← unhide hT]
      exact ⟨rfl, rfl⟩

theorem holds_walk (n : Nat) (id : Int) (w : World) (hn : n ≤ 1048576) (h0 : 0 ≤ id) (h1 : id ≤ 4294967295) :
    Calls Try.prog 13 #[.int .i64 n, .int .u32 id] w fun e w' => e = .returned (.bool (decide (1 ≤ id) && decide (id ≤ n))) ∧ w' = w := by
  by_cases a : 1 ≤ id
  · by_cases b : id ≤ n
    · go_enter Try.func13, Try.ntmps13
      go_wp2
      go_ret
      exact ⟨congrArg (fun b => Ending.returned (.bool b)) (by simp [a, b]), rfl⟩
    · go_enter Try.func13, Try.ntmps13
      go_wp2
      go_ret
      exact ⟨congrArg (fun b => Ending.returned (.bool b)) (by simp; omega), rfl⟩
  · go_enter Try.func13, Try.ntmps13
    go_wp2
    go_ret
    exact ⟨congrArg (fun b => Ending.returned (.bool b)) (by simp; omega), rfl⟩
end Go.Proofs.Qxb6604323a
