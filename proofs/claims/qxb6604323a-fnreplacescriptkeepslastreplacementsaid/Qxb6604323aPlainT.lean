import Derived.Test.Qxb6604323aWalksC
namespace Go.Proofs.Qxb6604323a

def cutC (g : Int) (c : Cm) : Cm := { c with first := g + 1, count := c.first + c.count - (g + 1) }
def headCut (g : Int) : List Cm → List Cm
  | [] => []
  | c :: t => (if c.first ≤ g then cutC g c else c) :: t
def headN (g : Int) : List Cm → Int
  | [] => 0
  | c :: _ => if c.first ≤ g then g - c.first + 1 else 0
def lead (g : Int) : List Cm → Nat
  | [] => 0
  | c :: t => if c.first + c.count ≤ g + 1 then lead g t + 1 else 0
def trimA (g : Int) (zs : List Cm) : List Cm := headCut g (zs.drop (lead g zs))
def trimN (g : Int) (zs : List Cm) : Int := (sumU (zs.take (lead g zs)) + headN g (zs.drop (lead g zs))) % 18446744073709551616
def keep1 (g : Int) (c : Cm) : List Cm := if c.first + c.count ≤ g + 1 then [] else [if c.first ≤ g then cutC g c else c]
def modelT (g : Int) (zs : List Cm) : List Cm := zs.flatMap (keep1 g)

theorem lead_le (g : Int) (zs : List Cm) : lead g zs ≤ zs.length := by
  induction zs with
  | nil => simp [lead]
  | cons c t ih => unfold lead; split <;> simp <;> omega
theorem lead_go (g : Int) (zs : List Cm) (k : Nat) (h : k < zs.length) (hc : (zs.getD k cm0).first + (zs.getD k cm0).count ≤ g + 1) : lead g (zs.drop k) = lead g (zs.drop (k + 1)) + 1 := by
  rw [drop_at zs k h, lead, if_pos hc]
theorem lead_stop (g : Int) (zs : List Cm) (k : Nat) (h : k < zs.length) (hc : ¬ (zs.getD k cm0).first + (zs.getD k cm0).count ≤ g + 1) : lead g (zs.drop k) = 0 := by
  rw [drop_at zs k h, lead, if_neg hc]
theorem headCut_length (g : Int) (zs : List Cm) : (headCut g zs).length = zs.length := by cases zs <;> simp [headCut]

/-- In order: behind a commit whose end lies beyond g + 1 all start beyond g. -/
theorem ord_tail {c : Cm} {t : List Cm} (h : ordB (c :: t) = true) : ordB t = true := by
  rw [ordB] at h; simp at h; exact h.2
theorem ord_fin {c : Cm} {t : List Cm} (h : ordB (c :: t) = true) : c.first + c.count ≤ 18446744073709551615 := by
  rw [ordB] at h; simp at h; exact h.1.1
theorem ord_next {c d : Cm} {t : List Cm} (h : ordB (c :: d :: t) = true) : c.first + c.count ≤ d.first := by
  rw [ordB] at h; simp [nextOk] at h; exact h.1.2
theorem ord_all (zs : List Cm) (h : ordB zs = true) : ∀ c ∈ zs, c.first + c.count ≤ 18446744073709551615 := by
  induction zs with
  | nil => intro c hc; cases hc
  | cons c t ih =>
    intro d hd
    rcases List.mem_cons.1 hd with rfl | hd
    · exact ord_fin h
    · exact ih (ord_tail h) d hd

theorem model_beyond (g : Int) : ∀ (zs : List Cm) (e : Int), g + 1 < e → ordB zs = true → WfL zs → (∀ c t, zs = c :: t → e ≤ c.first) → modelT g zs = zs := by
  intro zs
  induction zs with
  | nil => intros; rfl
  | cons c t ih =>
    intro e he ho hw hf
    have h1 : e ≤ c.first := hf c t rfl
    have hwc := hw c (List.mem_cons_self)
    have h2 : modelT g t = t := by
      refine ih (c.first + c.count) (by have := hwc.2.1; omega) (ord_tail ho) (fun x hx => hw x (List.mem_cons_of_mem _ hx)) ?_
      intro d t' e'
      subst e'
      exact ord_next ho
    have h3 : ¬ c.first + c.count ≤ g + 1 := by have := hwc.2.1; omega
    have h4 : ¬ c.first ≤ g := by omega
    show (c :: t).flatMap (keep1 g) = c :: t
    rw [List.flatMap_cons]
    have e3 : keep1 g c = [c] := by unfold keep1; rw [if_neg h3, if_neg h4]
    rw [e3]
    show c :: modelT g t = _
    rw [h2]

theorem trim_model (g : Int) : ∀ zs : List Cm, ordB zs = true → WfL zs → trimA g zs = modelT g zs := by
  intro zs
  induction zs with
  | nil => intros; rfl
  | cons c t ih =>
    intro ho hw
    by_cases h : c.first + c.count ≤ g + 1
    · have e1 : trimA g (c :: t) = trimA g t := by unfold trimA; rw [lead, if_pos h]; simp
      have e2 : modelT g (c :: t) = modelT g t := by unfold modelT; rw [List.flatMap_cons]; unfold keep1; rw [if_pos h]; simp
      rw [e1, e2]
      exact ih (ord_tail ho) (fun x hx => hw x (List.mem_cons_of_mem _ hx))
    · have e1 : trimA g (c :: t) = headCut g (c :: t) := by unfold trimA; rw [lead, if_neg h]; simp
      have h2 : modelT g t = t := by
        refine model_beyond g t (c.first + c.count) (by omega) (ord_tail ho) (fun x hx => hw x (List.mem_cons_of_mem _ hx)) ?_
        intro d t' e'
        subst e'
        exact ord_next ho
      have e2 : modelT g (c :: t) = (if c.first ≤ g then cutC g c else c) :: t := by
        show (c :: t).flatMap (keep1 g) = _
        rw [List.flatMap_cons]
        have e3 : keep1 g c = [if c.first ≤ g then cutC g c else c] := by unfold keep1; rw [if_neg h]
        rw [e3]
        show _ :: modelT g t = _
        rw [h2]
      rw [e1, e2]
      rfl

theorem sumI_headCut (g : Int) (zs : List Cm) : ((headCut g zs).map Cm.count).sum = (zs.map Cm.count).sum - headN g zs := by
  cases zs with
  | nil => simp [headCut, headN]
  | cons c t =>
    simp only [headCut, headN]
    by_cases h : c.first ≤ g
    · simp [h, cutC]; omega
    · simp [h]
theorem trim_sum (g : Int) (zs : List Cm) : trimN g zs = (sumU zs - sumU (trimA g zs)) % 18446744073709551616 := by
  unfold trimN trimA sumU
  rw [sumI_headCut]
  have e : (zs.map Cm.count).sum = ((zs.take (lead g zs)).map Cm.count).sum + ((zs.drop (lead g zs)).map Cm.count).sum := by
    rw [← List.sum_append, ← List.map_append, List.take_append_drop]
  rw [e]
  generalize ((zs.take (lead g zs)).map Cm.count).sum = x
  generalize ((zs.drop (lead g zs)).map Cm.count).sum = y
  generalize headN g (zs.drop (lead g zs)) = z
  omega
end Go.Proofs.Qxb6604323a
