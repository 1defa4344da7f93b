import Derived.PlainAid
import Derived.Laws.Strings
namespace Go.Proofs.Qxb6603854a
open Go.PlainAid

/-- The closing quote's place, a backslash skipping the byte behind it ('esc': this byte is skipped; 'k': its place). -/
def scanA : Bool → Nat → List UInt8 → Option Nat
  | _, _, [] => none
  | true, k, _ :: t => scanA false (k + 1) t
  | false, k, c :: t => if c.toNat = 92 then scanA true (k + 1) t else if c.toNat = 34 then some k else scanA false (k + 1) t

/-- The closing quote's place by the parity of the run of backslashes ahead of it ('r': that run). -/
def scanB : Nat → Nat → List UInt8 → Option Nat
  | _, _, [] => none
  | r, k, c :: t => if c.toNat = 34 ∧ r % 2 = 0 then some k else scanB (if c.toNat = 92 then r + 1 else 0) (k + 1) t

theorem scan_same : ∀ (l : List UInt8) (r k : Nat), scanA (decide (r % 2 = 1)) k l = scanB r k l := by
  intro l
  induction l with
  | nil => intro r k; simp [scanA, scanB]
  | cons c t ih =>
    intro r k
    rcases Nat.mod_two_eq_zero_or_one r with h | h
    · have e : decide (r % 2 = 1) = false := by simp [h]
      rw [e]
      by_cases h1 : c.toNat = 92
      · have := ih (r + 1) (k + 1)
        have e1 : decide ((r + 1) % 2 = 1) = true := by simp; omega
        rw [e1] at this
        simp [scanA, scanB, h1, this]
      · by_cases h2 : c.toNat = 34
        · simp [scanA, scanB, h2, h]
        · have := ih 0 (k + 1)
          simp at this
          simp [scanA, scanB, h1, h2, this]
    · have e : decide (r % 2 = 1) = true := by simp [h]
      rw [e]
      by_cases h1 : c.toNat = 92
      · have := ih (r + 1) (k + 1)
        have e1 : decide ((r + 1) % 2 = 1) = false := by simp; omega
        rw [e1] at this
        simp [scanA, scanB, h1, this]
      · have := ih 0 (k + 1)
        simp at this
        simp [scanA, scanB, h1, h, this]

def SA (s : ByteArray) (k : Nat) : Option Nat := scanA false k (s.data.toList.drop k)
def SB (s : ByteArray) (k r : Nat) : Option Nat := scanB r k (s.data.toList.drop k)
theorem SA_SB (s : ByteArray) : SA s 1 = SB s 1 0 := scan_same _ 0 1

theorem drop_at (s : ByteArray) (k : Nat) (h : k < s.size) : s.data.toList.drop k = s[k] :: s.data.toList.drop (k + 1) := by
  rw [List.drop_eq_getElem_cons (by simpa using h)]; rfl
theorem bt_nat (s : ByteArray) (k : Nat) (h : k < s.size) (n : Nat) : bt s k = n ↔ s[k].toNat = n := by
  unfold bt; rw [dif_pos h]; omega

theorem SA_skip (s : ByteArray) (k : Nat) (h : k < s.size) (hc : bt s k = 92) : SA s k = SA s (k + 2) := by
  have hc' : s[k].toNat = 92 := (bt_nat s k h 92).1 hc
  unfold SA
  rw [drop_at s k h]
  simp only [scanA, hc', if_true]
  by_cases h2 : k + 1 < s.size
  · rw [drop_at s (k + 1) h2]; simp only [scanA]
  · have e1 : s.data.toList.drop (k + 1) = [] := List.drop_eq_nil_of_le (by simp; omega)
    have e2 : s.data.toList.drop (k + 2) = [] := List.drop_eq_nil_of_le (by simp; omega)
    rw [e1, e2]; simp [scanA]
theorem SA_hit (s : ByteArray) (k : Nat) (h : k < s.size) (hc : bt s k = 34) : SA s k = some k := by
  have hc' : s[k].toNat = 34 := (bt_nat s k h 34).1 hc
  unfold SA
  rw [drop_at s k h]
  simp [scanA, hc']
theorem SA_next (s : ByteArray) (k : Nat) (h : k < s.size) (h1 : ¬ bt s k = 92) (h2 : ¬ bt s k = 34) : SA s k = SA s (k + 1) := by
  have h1' : ¬ s[k].toNat = 92 := fun e => h1 ((bt_nat s k h 92).2 e)
  have h2' : ¬ s[k].toNat = 34 := fun e => h2 ((bt_nat s k h 34).2 e)
  unfold SA
  rw [drop_at s k h]
  simp [scanA, h1', h2']
theorem SA_end (s : ByteArray) (k : Nat) (h : s.size ≤ k) : SA s k = none := by
  unfold SA
  rw [List.drop_eq_nil_of_le (by simpa using h)]; rfl

theorem SB_hit (s : ByteArray) (k r : Nat) (h : k < s.size) (hc : bt s k = 34) (hr : r % 2 = 0) : SB s k r = some k := by
  have hc' : s[k].toNat = 34 := (bt_nat s k h 34).1 hc
  unfold SB
  rw [drop_at s k h]
  simp [scanB, hc', hr]
theorem SB_slash (s : ByteArray) (k r : Nat) (h : k < s.size) (hc : bt s k = 92) : SB s k r = SB s (k + 1) (r + 1) := by
  have hc' : s[k].toNat = 92 := (bt_nat s k h 92).1 hc
  unfold SB
  rw [drop_at s k h]
  simp [scanB, hc']
theorem SB_other (s : ByteArray) (k r : Nat) (h : k < s.size) (h1 : ¬ bt s k = 92) (h2 : bt s k = 34 → ¬ r % 2 = 0) : SB s k r = SB s (k + 1) 0 := by
  have h1' : ¬ s[k].toNat = 92 := fun e => h1 ((bt_nat s k h 92).2 e)
  have h2' : ¬ (s[k].toNat = 34 ∧ r % 2 = 0) := fun e => h2 ((bt_nat s k h 34).2 e.1) e.2
  unfold SB
  rw [drop_at s k h]
  simp only [scanB, h1', h2', if_false]
theorem SB_end (s : ByteArray) (k r : Nat) (h : s.size ≤ k) : SB s k r = none := by
  unfold SB
  rw [List.drop_eq_nil_of_le (by simpa using h)]; rfl

/-- Does the string open with the byte c? -/
def opens (c : Int) (t : ByteArray) : Bool := decide (0 < t.size) && (bt t 0 == c)
theorem opens_extract (t : ByteArray) (c : UInt8) : ((t.extract 0 1).toList == [c]) = opens (c.toNat : Int) t := by
  rw [ByteArray.toList_eq, ByteArray.data_extract]
  unfold opens
  by_cases h : 0 < t.size
  · have hb : bt t 0 = (t[0].toNat : Int) := by unfold bt; rw [dif_pos h]
    have hd := drop_at t 0 h
    have e : (t.data.extract 0 1).toList = [t[0]] := by
      rw [List.drop_zero] at hd
      rw [Array.toList_extract, List.extract_eq_take_drop, List.drop_zero, hd]; rfl
    rw [e, hb]
    by_cases h2 : t[0] = c
    · simp [h2, h]
    · have h3 : ¬ (t[0].toNat : Int) = (c.toNat : Int) := fun e => h2 (UInt8.toNat_inj.1 (by omega))
      rw [beq_eq_false_iff_ne.2 h3, beq_eq_false_iff_ne.2 (by simpa using h2)]; simp
  · have e : (t.data.extract 0 1).toList = [] := by
      have : t.data.size = 0 := by have := ByteArray.size_data (a := t); omega
      simp [Array.eq_empty_of_size_eq_zero this]
    rw [e]
    simp [h]
def cutSp (t : ByteArray) : ByteArray := if opens 32 t then t.extract 1 t.size else t
def place (s : ByteArray) : Option Nat := if opens 34 s then SA s 1 else none
def fieldOf (s : ByteArray) : Option Nat → ByteArray
  | none => ⟨#[]⟩
  | some k => s.extract 1 k
def restOf (s : ByteArray) : Option Nat → ByteArray
  | none => s
  | some k => cutSp (s.extract (k + 1) s.size)
def okOf (s : ByteArray) : Option Nat → Bool
  | none => false
  | some k => opens 32 (s.extract (k + 1) s.size)
end Go.Proofs.Qxb6603854a
