import Derived.Test.Qxb6603854aPlain
namespace Go.Proofs.Qxb6603854a
open Go.PlainAid

/-- A byte with its escape. -/
def esc1 (c : UInt8) : List UInt8 := if c.toNat = 34 ∨ c.toNat = 92 then [92, c] else [c]
def esc (l : List UInt8) : List UInt8 := l.flatMap esc1
theorem esc_nil : esc [] = [] := rfl
theorem esc_cons (c : UInt8) (l : List UInt8) : esc (c :: l) = esc1 c ++ esc l := by simp [esc]
theorem esc_snoc (l : List UInt8) (c : UInt8) : esc (l ++ [c]) = esc l ++ esc1 c := by simp [esc]
theorem esc1_len (c : UInt8) : (esc1 c).length ≤ 2 := by unfold esc1; split <;> simp
theorem esc_len (l : List UInt8) : (esc l).length ≤ 2 * l.length := by
  induction l with
  | nil => simp [esc]
  | cons c t ih => rw [esc_cons]; have := esc1_len c; simp; omega
theorem take_snoc (s : ByteArray) (k : Nat) (h : k < s.size) : s.data.toList.take (k + 1) = s.data.toList.take k ++ [s[k]] := by
  rw [List.take_succ_eq_append_getElem (by simpa using h)]; rfl

theorem scan_esc (t : List UInt8) : ∀ (l : List UInt8) (k : Nat), scanA false k (esc l ++ 34 :: t) = some (k + (esc l).length) := by
  intro l
  induction l with
  | nil => intro k; simp [esc_nil, scanA]
  | cons c l ih =>
    intro k
    rw [esc_cons]
    by_cases h : c.toNat = 34 ∨ c.toNat = 92
    · have e : esc1 c = [92, c] := by unfold esc1; rw [if_pos h]
      have h92 : (92 : UInt8).toNat = 92 := rfl
      rw [e]
      simp only [List.cons_append, List.nil_append, scanA, h92, if_true, ih]
      simp; omega
    · have e : esc1 c = [c] := by unfold esc1; rw [if_neg h]
      have h1 : ¬ c.toNat = 92 := fun x => h (Or.inr x)
      have h2 : ¬ c.toNat = 34 := fun x => h (Or.inl x)
      rw [e]
      simp only [List.cons_append, List.nil_append, scanA, h1, h2, if_false, ih]
      simp; omega

def mkS (l : List UInt8) : ByteArray := ⟨l.toArray⟩
theorem mkS_size (l : List UInt8) : (mkS l).size = l.length := by simp [mkS, ByteArray.size]
theorem mkS_data (l : List UInt8) : (mkS l).data.toList = l := by simp [mkS]
theorem mkS_eta (s : ByteArray) : mkS s.data.toList = s := by cases s; simp [mkS]
theorem mkS_extract (l : List UInt8) (a b : Nat) : (mkS l).extract a b = mkS ((l.drop a).take (b - a)) := by
  apply ByteArray.ext
  simp [mkS, ByteArray.data_extract]
theorem opens_mkS (c : UInt8) (l : List UInt8) : opens (c.toNat : Int) (mkS (c :: l)) = true := by
  have hz : 0 < (mkS (c :: l)).size := by rw [mkS_size]; simp
  unfold opens bt
  rw [dif_pos hz, decide_eq_true hz]
  have : (mkS (c :: l))[0] = c := rfl
  rw [this]; simp

def lineOf (x tail : List UInt8) : List UInt8 := [34] ++ esc x ++ [34, 32] ++ tail
theorem line_place (x tail : List UInt8) : place (mkS (lineOf x tail)) = some (1 + (esc x).length) := by
  have e : lineOf x tail = 34 :: (esc x ++ 34 :: (32 :: tail)) := by simp [lineOf]
  have ho : opens 34 (mkS (lineOf x tail)) = true := by rw [e]; exact opens_mkS 34 _
  unfold place
  rw [ho]
  simp only [if_true, SA]
  rw [mkS_data, e]
  exact scan_esc _ x 1
theorem line_field (x tail : List UInt8) : fieldOf (mkS (lineOf x tail)) (place (mkS (lineOf x tail))) = mkS (esc x) := by
  rw [line_place]
  simp only [fieldOf]
  rw [mkS_extract]
  have e : lineOf x tail = 34 :: (esc x ++ 34 :: (32 :: tail)) := by simp [lineOf]
  rw [e]
  simp
theorem line_after (x tail : List UInt8) : (mkS (lineOf x tail)).extract (1 + (esc x).length + 1) (mkS (lineOf x tail)).size = mkS (32 :: tail) := by
  rw [mkS_extract, mkS_size]
  have e : lineOf x tail = (34 :: esc x ++ [34]) ++ (32 :: tail) := by simp [lineOf]
  have hl : (34 :: esc x ++ [34]).length = 1 + (esc x).length + 1 := by simp; omega
  rw [e, List.drop_append_of_le_length (by omega), ← hl, List.drop_length, List.take_of_length_le]
  · simp
  · simp; omega
theorem line_ok (x tail : List UInt8) : okOf (mkS (lineOf x tail)) (place (mkS (lineOf x tail))) = true := by
  rw [line_place]
  simp only [okOf]
  rw [line_after]
  exact opens_mkS 32 _
theorem line_rest (x tail : List UInt8) : restOf (mkS (lineOf x tail)) (place (mkS (lineOf x tail))) = mkS tail := by
  rw [line_place]
  simp only [restOf]
  rw [line_after]
  have ho : opens 32 (mkS (32 :: tail)) = true := opens_mkS 32 _
  unfold cutSp
  rw [if_pos ho, mkS_extract, mkS_size]
  simp
end Go.Proofs.Qxb6603854a
