/-
  SEAT b6600119a: THE PLAIN FUNCTIONS: what Add and Gaps compute.
-/
namespace Go.Proofs.Qxb6600119a

/-- The place of the first span that ends at s or later. -/
def fidx : List (Int × Int) → Int → Nat
  | [], _ => 0
  | p :: r, s => if s ≤ p.2 then 0 else fidx r s + 1
/-- The spans that [s, e) overlaps or touches are taken in. -/
def absb : List (Int × Int) → Int → Int → Int × Int × List (Int × Int)
  | [], s, e => (s, e, [])
  | p :: r, s, e => if p.1 ≤ e then absb r (min s p.1) (max e p.2) else (s, e, p :: r)
/-- Spans.Add. -/
def addL (sp : List (Int × Int)) (s e : Int) : List (Int × Int) :=
  if e ≤ s then sp else sp.take (fidx sp s) ++ ((absb (sp.drop (fidx sp s)) s e).1, (absb (sp.drop (fidx sp s)) s e).2.1) :: (absb (sp.drop (fidx sp s)) s e).2.2
/-- Spans.Gaps: the gaps so far, where the next one begins. -/
def gapsFrom : List (Int × Int) → Int → Int → List (Int × Int)
  | [], len, at_ => if at_ < len then [(at_, len)] else []
  | p :: r, len, at_ => (if at_ < min p.1 len then [(at_, min p.1 len)] else []) ++ gapsFrom r len (max at_ p.2)
def gapsL (sp : List (Int × Int)) (len : Int) : List (Int × Int) := gapsFrom sp len 0
/-- zzBuild. -/
def buildL : List (Int × Int) → List (Int × Int) → List (Int × Int)
  | [], acc => acc
  | p :: r, acc => buildL r (addL acc p.1 p.2)
/-- zzClip. -/
def clipL (sp : List (Int × Int)) (len : Int) : List (Int × Int) := buildL (sp.map fun p => (min p.1 len, min p.2 len)) []

theorem fidx_le (sp : List (Int × Int)) (s : Int) : fidx sp s ≤ sp.length := by
  induction sp with
  | nil => simp [fidx]
  | cons p r ih => simp only [fidx]; split <;> simp; omega
theorem absb_suffix (l : List (Int × Int)) (s e : Int) : ∃ k, k ≤ l.length ∧ (absb l s e).2.2 = l.drop k := by
  induction l generalizing s e with
  | nil => exact ⟨0, by simp, rfl⟩
  | cons p r ih =>
    simp only [absb]
    split
    · obtain ⟨k, hk, h⟩ := ih (min s p.1) (max e p.2)
      exact ⟨k + 1, by simp; omega, by simpa using h⟩
    · exact ⟨0, by simp, rfl⟩
theorem addL_length (sp : List (Int × Int)) (s e : Int) : (addL sp s e).length ≤ sp.length + 1 := by
  unfold addL
  split
  · omega
  · obtain ⟨k, hk, h⟩ := absb_suffix (sp.drop (fidx sp s)) s e
    rw [h]
    have := fidx_le sp s
    simp at hk ⊢
    omega
end Go.Proofs.Qxb6600119a
