/-
  SEAT b6600119a: THE PLAIN LAWS OF THE ENDS AND OF COVERING.
-/
import Derived.Test.Qxb6600119aProbe
namespace Go.Proofs.Qxb6600119a

/-- Both ends of each span have Q. -/
def AllE (Q : Int → Prop) (l : Sp) : Prop := ∀ p ∈ l, Q p.1 ∧ Q p.2
theorem absb_ends {Q : Int → Prop} (l : Sp) (s e : Int) (hl : AllE Q l) (hs : Q s) (he : Q e) : Q (absb l s e).1 ∧ Q (absb l s e).2.1 ∧ AllE Q (absb l s e).2.2 := by
  induction l generalizing s e with
  | nil => exact ⟨hs, he, hl⟩
  | cons p r ih =>
    simp only [absb]
    have hp := hl p (by simp)
    by_cases h : p.1 ≤ e
    · rw [if_pos h]
      refine ih _ _ (fun q hq => hl q (by simp [hq])) ?_ ?_
      · rcases Int.le_total s p.1 with h1 | h1
        · rw [show min s p.1 = s by omega]; exact hs
        · rw [show min s p.1 = p.1 by omega]; exact hp.1
      · rcases Int.le_total e p.2 with h1 | h1
        · rw [show max e p.2 = p.2 by omega]; exact hp.2
        · rw [show max e p.2 = e by omega]; exact he
    · rw [if_neg h]
      exact ⟨hs, he, hl⟩
theorem addL_ends {Q : Int → Prop} (l : Sp) (s e : Int) (hl : AllE Q l) (hs : Q s) (he : Q e) : AllE Q (addL l s e) := by
  unfold addL
  by_cases h : e ≤ s
  · rw [if_pos h]; exact hl
  · rw [if_neg h]
    obtain ⟨h1, h2, h3⟩ := absb_ends (l.drop (fidx l s)) s e (fun q hq => hl q (List.mem_of_mem_drop hq)) hs he
    intro p hp
    rcases List.mem_append.1 hp with hp | hp
    · exact hl p (List.mem_of_mem_take hp)
    · rcases List.mem_cons.1 hp with rfl | hp
      · exact ⟨h1, h2⟩
      · exact h3 p hp
theorem buildL_ends {Q : Int → Prop} (l acc : Sp) (ha : AllE Q acc) (hl : AllE Q l) : AllE Q (buildL l acc) := by
  induction l generalizing acc with
  | nil => exact ha
  | cons p r ih => exact ih _ (addL_ends acc p.1 p.2 ha (hl p (by simp)).1 (hl p (by simp)).2) (fun q hq => hl q (by simp [hq]))
theorem gapsFrom_ends {Q : Int → Prop} (sp : Sp) (len at_ : Int) (hl : AllE Q sp) (hlen : Q len) (ha : Q at_) : AllE Q (gapsFrom sp len at_) := by
  induction sp generalizing at_ with
  | nil =>
    simp only [gapsFrom]
    split
    · intro p hp; simp at hp; subst hp; exact ⟨ha, hlen⟩
    · intro p hp; cases hp
  | cons q r ih =>
    simp only [gapsFrom]
    have hq := hl q (by simp)
    intro p hp
    rcases List.mem_append.1 hp with hp | hp
    · split at hp
      · simp at hp
        subst hp
        refine ⟨ha, ?_⟩
        rcases Int.le_total q.1 len with h1 | h1
        · show Q (min q.1 len); rw [show min q.1 len = q.1 by omega]; exact hq.1
        · show Q (min q.1 len); rw [show min q.1 len = len by omega]; exact hlen
      · cases hp
    · refine ih (max at_ q.2) (fun q hq => hl q (by simp [hq])) ?_ p hp
      rcases Int.le_total at_ q.2 with h1 | h1
      · rw [show max at_ q.2 = q.2 by omega]; exact hq.2
      · rw [show max at_ q.2 = at_ by omega]; exact ha
theorem gapsFrom_le (sp : Sp) (len at_ : Int) : ∀ p ∈ gapsFrom sp len at_, p.2 ≤ len := by
  induction sp generalizing at_ with
  | nil =>
    simp only [gapsFrom]
    split
    · intro p hp; simp at hp; subst hp; exact Int.le_refl _
    · intro p hp; cases hp
  | cons q r ih =>
    simp only [gapsFrom]
    intro p hp
    rcases List.mem_append.1 hp with hp | hp
    · split at hp
      · simp at hp
        subst hp
        show min q.1 len ≤ len
        omega
      · cases hp
    · exact ih _ p hp
theorem pairs_ends {Q : Int → Prop} : ∀ (xs : List Int), (∀ x ∈ xs, Q x) → AllE Q (pairsOf xs)
  | [], _ => fun p hp => by simp [pairsOf] at hp
  | [_], _ => fun p hp => by simp [pairsOf] at hp
  | a :: b :: r, h => fun p hp => by
    simp only [pairsOf] at hp
    rcases List.mem_cons.1 hp with rfl | hp
    · exact ⟨h a (by simp), h b (by simp)⟩
    · exact pairs_ends r (fun n hn => h n (by simp [hn])) p hp
theorem probe_mem (xs : List Int) (x0 x1 : Int) : ∀ x ∈ xs, Probe x xs.length xs x0 x1 := fun x hx => by
  obtain ⟨j, hj, h⟩ := List.mem_iff_getElem.1 hx
  exact .inr (.inr ⟨j, hj, by simp [List.getD_eq_getElem?_getD, hj, h]⟩)
theorem getD_mem (sp : Sp) (k : Nat) (h : k < sp.length) : sp.getD k (0, 0) ∈ sp := by
  simp [List.getD_eq_getElem?_getD, h]
theorem S_ends (xs : List Int) (x0 x1 : Int) : AllE (fun v => Probe v xs.length xs x0 x1) (buildL (pairsOf xs) []) :=
  buildL_ends _ _ (fun p hp => by cases hp) (pairs_ends xs (probe_mem xs x0 x1))

theorem union_law (xs : List Int) (h : ∀ n ∈ xs, 0 ≤ n) (p : Int) : covB (buildL (pairsOf xs) []) p = covB (pairsOf xs) p := by
  rw [Bool.eq_iff_iff, covB_iff, covB_iff, (buildL_spec (pairsOf xs) [] trivial (pairs_nn xs h)).2 p]
  simp [cov]
theorem comp_law (S : Sp) (len p : Int) (hc : canF 0 S) (hp : 0 ≤ p) : covB (gapsL S len) p = (decide (p < len) && !covB S p) := by
  rw [Bool.eq_iff_iff, covB_iff, (gapsL_spec S len hc).2 p]
  simp only [Bool.and_eq_true, decide_eq_true_eq, Bool.not_eq_true', ← Bool.not_eq_true, covB_iff]
  exact ⟨fun h => h.2, fun h => ⟨hp, h⟩⟩
end Go.Proofs.Qxb6600119a
