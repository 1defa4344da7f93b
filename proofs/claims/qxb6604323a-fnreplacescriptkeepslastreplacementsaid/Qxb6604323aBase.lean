import Derived.Test.Qxb6604323aRows
import Derived.WalkKit
import Derived.ProofKit
import Derived.OpenShut
import Derived.Deep.Light
import Derived.Deep.QuietTactic
import Derived.BigQuiet
import Derived.WalkSmall
import Derived.Laws.AppendOwnNone
namespace Go.Proofs.Qxb6604323a
open Go.ChangeShapes Go.WideShapes Go.ChangeAt Go.RowKit

theorem hide {p : Prop} (h : p) : Hid p := h
theorem unhide {p : Prop} (h : Hid p) : p := h

theorem info68 : (Try.prog.info? 68).map (fun i => (i.zero, i.size, i.bytes)) = some (some (.agg #[.int .u32 0, .int .u64 0, .int .u64 0, .int .u64 0, .int .u64 0]), 5, 40) := by kernel_rfl
theorem info64 : (Try.prog.info? 64).map (fun i => (i.zero, i.size, i.bytes)) = some (some (.agg #[.int .u32 0, .int .u64 0, .int .u64 0, .int .u64 0, .int .u64 0]), 5, 40) := by kernel_rfl

theorem eqn (w : World) (d : Nat) (t e : TypeId) (a : Option Addr) (l c : Nat) (h : Try.prog.underlying t = some (.slice e)) : (Op.equalIn (d + 1) t (.slice a l c) (.slice none 0 0)).run Try.prog w = .ok a.isNone w := by
  cases a <;> simp [Op.equalIn, run_underlying h]
theorem eql_nil (w : World) (t e : TypeId) (a : Option Addr) (l c : Nat) (h : Try.prog.underlying t = some (.slice e)) : (binOp .eql t (.slice a l c) (.slice none 0 0)).run Try.prog w = .ok (.bool a.isNone) w := by
  simp [binOp, Op.equal, Op.maxDepth, eqn w 9999 t e a l c h]
theorem nil23 (w : World) (a : Option Addr) (l c : Nat) : (binOp .eql 23 (.slice a l c) (.slice none 0 0)).run Try.prog w = .ok (.bool a.isNone) w := eql_nil w 23 68 a l c Try.underlying23
theorem nil24 (w : World) (a : Option Addr) (l c : Nat) : (binOp .eql 24 (.slice a l c) (.slice none 0 0)).run Try.prog w = .ok (.bool a.isNone) w := eql_nil w 24 36 a l c Try.underlying24
theorem nil34 (w : World) (a : Option Addr) (l c : Nat) : (binOp .eql 34 (.slice a l c) (.slice none 0 0)).run Try.prog w = .ok (.bool a.isNone) w := eql_nil w 34 25 a l c Try.underlying34

/-! ### A commit -/
structure Cm where
  id : Int
  first : Int
  count : Int
  hw : Int
  prev : Int
def cm0 : Cm := ⟨0, 0, 0, 0, 0⟩
def Cm.wf (c : Cm) : Prop := (0 ≤ c.first ∧ c.first ≤ 18446744073709551615) ∧ (0 ≤ c.count ∧ c.count ≤ 18446744073709551615)
def Cm.cells (c : Cm) : List Value := [.int .u32 c.id, .int .u64 c.first, .int .u64 c.count, .int .u64 c.hw, .int .u64 c.prev]
def flat (zs : List Cm) : List Value := zs.flatMap Cm.cells
theorem flat_cons (c : Cm) (zs : List Cm) : flat (c :: zs) = c.cells ++ flat zs := by simp [flat]
theorem flat_append (xs ys : List Cm) : flat (xs ++ ys) = flat xs ++ flat ys := by simp [flat]
theorem flat_length (zs : List Cm) : (flat zs).length = zs.length * 5 := by
  induction zs with
  | nil => rfl
  | cons c t ih => rw [flat_cons, List.length_append, ih]; simp [Cm.cells]; omega
theorem flat_at (zs : List Cm) : ∀ (i : Nat), i < zs.length → ∀ t, t < 5 → (flat zs)[i * 5 + t]? = (zs.getD i cm0).cells[t]? := by
  induction zs with
  | nil => intro i h; simp at h
  | cons c zs ih =>
    intro i h t ht
    rw [flat_cons]
    cases i with
    | zero =>
      rw [List.getElem?_append_left (by simp [Cm.cells]; omega)]
      simp
    | succ i =>
      rw [List.getElem?_append_right (by simp [Cm.cells]; omega)]
      have e : (i + 1) * 5 + t - c.cells.length = i * 5 + t := by simp [Cm.cells]; omega
      rw [e, ih i (by simpa using h) t ht]
      simp
theorem flat_oneCell (zs : List Cm) : ∀ u ∈ flat zs, u.oneCell' = true := by
  intro u hu
  simp only [flat, List.mem_flatMap] at hu
  obtain ⟨c, _, hc⟩ := hu
  simp [Cm.cells] at hc
  rcases hc with rfl | rfl | rfl | rfl | rfl <;> rfl

/-- In w a commit lies from offset o of block b on. -/
def CmAt (w : World) (b o : Nat) (c : Cm) : Prop :=
  w.cell? ⟨b, o, none⟩ = some (.int .u32 c.id) ∧ w.cell? ⟨b, o + 1, none⟩ = some (.int .u64 c.first) ∧ w.cell? ⟨b, o + 2, none⟩ = some (.int .u64 c.count) ∧ w.cell? ⟨b, o + 3, none⟩ = some (.int .u64 c.hw) ∧ w.cell? ⟨b, o + 4, none⟩ = some (.int .u64 c.prev)

theorem CmAt.below {B : Nat} {w w' : World} {b o : Nat} {c : Cm} (h : CmAt w b o c) (hb : Below B w w') (hB : b < B) : CmAt w' b o c := by
  obtain ⟨h0, h1, h2, h3, h4⟩ := h
  exact ⟨(hb.cell (p := ⟨b, _, none⟩) hB).trans h0, (hb.cell (p := ⟨b, _, none⟩) hB).trans h1, (hb.cell (p := ⟨b, _, none⟩) hB).trans h2, (hb.cell (p := ⟨b, _, none⟩) hB).trans h3, (hb.cell (p := ⟨b, _, none⟩) hB).trans h4⟩

/-- The slice value '.slice a n cap' leads in w to the commits zs (n of them). -/
def CS (w : World) (a : Option Addr) (n cap : Nat) (zs : List Cm) : Prop :=
  zs.length = n ∧ n ≤ cap ∧ (a = none → n = 0 ∧ cap = 0) ∧ (0 < n → ∃ b off, a = some ⟨b, off, none⟩ ∧ b < w.heap.size ∧ ∀ i, i < n → CmAt w b (off + i * 5) (zs.getD i cm0))

theorem CS.below {w w' : World} {a : Option Addr} {n cap : Nat} {zs : List Cm} (h : CS w a n cap zs) (hb : Below w.heap.size w w') : CS w' a n cap zs := by
  obtain ⟨h1, h2, h3, h4⟩ := h
  refine ⟨h1, h2, h3, fun hn => ?_⟩
  obtain ⟨b, off, ha, hlt, hc⟩ := h4 hn
  exact ⟨b, off, ha, Nat.lt_of_lt_of_le hlt hb.size, fun i hi => (hc i hi).below hb hlt⟩
theorem CS.drewN {w : World} {a : Option Addr} {n cap : Nat} {zs : List Cm} (h : CS w a n cap zs) (q : Nat) : CS (w.drewN q) a n cap zs := h
theorem CS.nil (w : World) : CS w none 0 0 [] := ⟨rfl, Nat.le_refl _, fun _ => ⟨rfl, rfl⟩, fun h => absurd h (Nat.lt_irrefl _)⟩

/-! ### A block of the call's own: its first n cells hold f, none is frozen -/
def Blk (w : World) (b n : Nat) (f : Nat → Value) : Prop := b < w.heap.size ∧ ∀ j, j < n → w.cell? ⟨b, j, none⟩ = some (f j) ∧ w.frozen? ⟨b, j, none⟩ = false

theorem Blk.set {w : World} {b n : Nat} {f : Nat → Value} (h : Blk w b n f) (j : Nat) (hj : j < n) (v : Value) : Blk (w.setCell ⟨b, j, none⟩ v) b n (fun i => if i = j then v else f i) := by
  refine ⟨by simpa using h.1, fun i hi => ⟨?_, by rw [World.frozen?_setCell]; exact (h.2 i hi).2⟩⟩
  by_cases e : i = j
  · subst e
    rw [World.cell?_setCell_same (h := (h.2 i hi).1)]; simp
  · rw [World.cell?_setCell_other (h := fun x => e (by cases x; rfl)), (h.2 i hi).1]; simp [e]
theorem Blk.other {w : World} {b n : Nat} {f : Nat → Value} (h : Blk w b n f) {p : Addr} (hp : p.block ≠ b) (v : Value) : Blk (w.setCell p v) b n f := by
  refine ⟨by simpa using h.1, fun i hi => ⟨?_, by rw [World.frozen?_setCell]; exact (h.2 i hi).2⟩⟩
  rw [World.cell?_setCell_other (h := by intro e; apply hp; rw [e]), (h.2 i hi).1]
theorem Blk.below {B : Nat} {w w' : World} {b n : Nat} {f : Nat → Value} (h : Blk w b n f) (hb : Below B w w') (hB : b < B) : Blk w' b n f :=
  ⟨Nat.lt_of_lt_of_le h.1 hb.size, fun j hj => ⟨(hb.cell (p := ⟨b, j, none⟩) hB).trans (h.2 j hj).1, (hb.frozen (p := ⟨b, j, none⟩) hB).trans (h.2 j hj).2⟩⟩
theorem Blk.congr {w : World} {b n : Nat} {f g : Nat → Value} (h : Blk w b n f) (e : ∀ j, j < n → f j = g j) : Blk w b n g :=
  ⟨h.1, fun j hj => ⟨by rw [← e j hj]; exact (h.2 j hj).1, (h.2 j hj).2⟩⟩
theorem Blk.alloc {w : World} {b n : Nat} {f : Nat → Value} (h : Blk w b n f) (o : Obj) : Blk (w.alloc o) b n f :=
  h.below ((Below.refl _ _).alloc (Nat.le_refl _) o) h.1

/-- What a row owned by append's laws is, as a block. -/
theorem blk_of_owns {w : World} {B : Nat} {e : TypeId} {sz n : Nat} {v : Value} {xs : List Value} (h : w.ownsRow B e sz v n xs) :
    (v = .slice none 0 0 ∧ n = 0) ∨ ∃ g cap, v = .slice (some ⟨g, 0, none⟩) n cap ∧ B ≤ g ∧ n ≤ cap ∧ Blk w g (n * sz) (fun j => xs.getD j undef) := by
  have hc := fun g hg => World.ownsRow.cells h (g := g) hg
  obtain ⟨hl, h | ⟨g, cap, cur, hv, hB, hg, hn, hm, hs, ht⟩⟩ := h
  · exact Or.inl h
  · refine Or.inr ⟨g, cap, hv, hB, hn, ?_, fun j hj => ⟨?_, ?_⟩⟩
    · rcases Nat.lt_or_ge g w.heap.size with h | h
      · exact h
      · rw [Array.getElem?_eq_none h] at hg; cases hg
    · have := hc g (by rw [hv]; rfl) j (xs.getD j undef) (by rw [List.getElem?_eq_getElem (by omega)]; simp [List.getElem?_eq_getElem (show j < xs.length by omega)])
      rw [add_plain] at this
      simpa using this
    · simp [World.frozen?, hg]

/-- Commits in a block of the call's own. -/
def CBlk (w : World) (b : Nat) (zs : List Cm) : Prop := Blk w b (zs.length * 5) (fun j => (flat zs).getD j undef)
theorem CBlk.at {w : World} {b : Nat} {zs : List Cm} (h : CBlk w b zs) (i : Nat) (hi : i < zs.length) : CmAt w b (0 + i * 5) (zs.getD i cm0) := by
  have key : ∀ t, t < 5 → w.cell? ⟨b, i * 5 + t, none⟩ = (zs.getD i cm0).cells[t]? := by
    intro t ht
    rw [(h.2 (i * 5 + t) (by omega)).1, ← flat_at zs i hi t ht, List.getElem?_eq_getElem (by rw [flat_length]; omega)]
    simp [List.getElem?_eq_getElem (show i * 5 + t < (flat zs).length by rw [flat_length]; omega)]
  rw [Nat.zero_add]
  exact ⟨key 0 (by omega), key 1 (by omega), key 2 (by omega), key 3 (by omega), key 4 (by omega)⟩
theorem CBlk.cs {w : World} {b : Nat} {zs : List Cm} {cap : Nat} (h : CBlk w b zs) (hc : zs.length ≤ cap) : CS w (some ⟨b, 0, none⟩) zs.length cap zs :=
  ⟨rfl, hc, (fun e => nomatch e), (fun _ => ⟨b, 0, rfl, h.1, fun i hi => h.at i hi⟩)⟩
end Go.Proofs.Qxb6604323a
