/-
  SEAT b6600119a: THE PLAIN LAWS: no Go in sight.
-/
import Derived.Test.Qxb6600119aPlain
namespace Go.Proofs.Qxb6600119a

/-- Canonical from b on: each span begins at the bound or later, is not empty, and does not touch the next. -/
def canF : Int → List (Int × Int) → Prop
  | _, [] => True
  | b, p :: r => b ≤ p.1 ∧ p.1 < p.2 ∧ canF (p.2 + 1) r
/-- x lies in a span of l. -/
def cov : List (Int × Int) → Int → Prop
  | [], _ => False
  | p :: r, x => (p.1 ≤ x ∧ x < p.2) ∨ cov r x

theorem canF_mono {l : List (Int × Int)} {b b' : Int} (h : canF b l) (hb : b' ≤ b) : canF b' l := by
  cases l with
  | nil => trivial
  | cons p r => simp only [canF] at h ⊢; exact ⟨by omega, h.2⟩
theorem cov_ge {l : List (Int × Int)} {b x : Int} (h : canF b l) (hx : cov l x) : b ≤ x := by
  induction l generalizing b with
  | nil => exact hx.elim
  | cons p r ih =>
    simp only [canF] at h
    simp only [cov] at hx
    rcases hx with hx | hx
    · omega
    · have := ih h.2.2 hx; omega
theorem can_eq {l m : List (Int × Int)} {b c : Int} (hl : canF b l) (hm : canF c m) (h : ∀ x, cov l x ↔ cov m x) : l = m := by
  induction l generalizing m b c with
  | nil =>
    cases m with
    | nil => rfl
    | cons q s => simp only [canF] at hm; exact ((h q.1).2 (.inl ⟨Int.le_refl _, hm.2.1⟩)).elim
  | cons p r ih =>
    cases m with
    | nil => simp only [canF] at hl; exact ((h p.1).1 (.inl ⟨Int.le_refl _, hl.2.1⟩)).elim
    | cons q s =>
      simp only [canF] at hl hm
      have gl : ∀ x, cov r x → p.2 + 1 ≤ x := fun x hx => cov_ge hl.2.2 hx
      have gm : ∀ x, cov s x → q.2 + 1 ≤ x := fun x hx => cov_ge hm.2.2 hx
      have e1 : p.1 = q.1 := by
        have h1 := (h p.1).1 (.inl ⟨Int.le_refl _, hl.2.1⟩)
        have h2 := (h q.1).2 (.inl ⟨Int.le_refl _, hm.2.1⟩)
        simp only [cov] at h1 h2
        rcases h1 with h1 | h1 <;> rcases h2 with h2 | h2
        · omega
        · have := gl _ h2; omega
        · have := gm _ h1; omega
        · have := gl _ h2; have := gm _ h1; omega
      have e2 : p.2 = q.2 := by
        rcases Int.lt_trichotomy p.2 q.2 with h1 | h1 | h1
        · have h2 := (h p.2).2 (.inl ⟨by omega, h1⟩)
          simp only [cov] at h2
          rcases h2 with h2 | h2
          · omega
          · have := gl _ h2; omega
        · exact h1
        · have h2 := (h q.2).1 (.inl ⟨by omega, h1⟩)
          simp only [cov] at h2
          rcases h2 with h2 | h2
          · omega
          · have := gm _ h2; omega
      obtain ⟨p1, p2⟩ := p
      obtain ⟨q1, q2⟩ := q
      simp only at e1 e2 gl gm hl hm
      subst e1; subst e2
      rw [ih hl.2.2 hm.2.2 ?_]
      intro x
      have hx := h x
      simp only [cov] at hx
      constructor
      · intro h1
        rcases hx.1 (.inr h1) with h2 | h2
        · have := gl _ h1; omega
        · exact h2
      · intro h1
        rcases hx.2 (.inr h1) with h2 | h2
        · have := gm _ h1; omega
        · exact h2

/-- Add, by rounds. -/
def insL : List (Int × Int) → Int → Int → List (Int × Int)
  | [], s, e => [(s, e)]
  | p :: r, s, e => if s ≤ p.2 then ((absb (p :: r) s e).1, (absb (p :: r) s e).2.1) :: (absb (p :: r) s e).2.2 else p :: insL r s e
theorem addL_ins (l : List (Int × Int)) (s e : Int) (h : ¬ e ≤ s) : addL l s e = insL l s e := by
  unfold addL
  rw [if_neg h]
  induction l with
  | nil => rfl
  | cons p r ih =>
    simp only [fidx, insL]
    by_cases hs : s ≤ p.2
    · rw [if_pos hs, if_pos hs]; rfl
    · rw [if_neg hs, if_neg hs, ← ih]; rfl

theorem absb_spec (l : List (Int × Int)) (c s e : Int) (hc : canF c l) (hs : s < e) (hsc : s ≤ c) :
    (absb l s e).1 = s ∧ e ≤ (absb l s e).2.1 ∧ canF ((absb l s e).2.1 + 1) (absb l s e).2.2 ∧ ∀ x, (((absb l s e).1 ≤ x ∧ x < (absb l s e).2.1) ∨ cov (absb l s e).2.2 x) ↔ ((s ≤ x ∧ x < e) ∨ cov l x) := by
  induction l generalizing c s e with
  | nil => exact ⟨rfl, Int.le_refl _, trivial, fun x => Iff.rfl⟩
  | cons p r ih =>
    simp only [canF] at hc
    simp only [absb]
    by_cases hp : p.1 ≤ e
    · rw [if_pos hp]
      rw [show min s p.1 = s by omega]
      obtain ⟨h1, h2, h3, h4⟩ := ih (p.2 + 1) s (max e p.2) hc.2.2 (by omega) (by omega)
      refine ⟨h1, by omega, h3, fun x => ?_⟩
      rw [h4 x]
      simp only [cov]
      constructor
      · rintro (h | h)
        · by_cases hx : x < e
          · exact .inl ⟨h.1, hx⟩
          · exact .inr (.inl (by omega))
        · exact .inr (.inr h)
      · rintro (h | h | h)
        · exact .inl (by omega)
        · exact .inl (by omega)
        · exact .inr h
    · rw [if_neg hp]
      exact ⟨rfl, Int.le_refl _, ⟨by show e + 1 ≤ p.1; omega, hc.2⟩, fun x => Iff.rfl⟩

theorem insL_spec (l : List (Int × Int)) (b s e : Int) (hc : canF b l) (hs : s < e) (hb : b ≤ s) :
    canF b (insL l s e) ∧ ∀ x, cov (insL l s e) x ↔ (cov l x ∨ (s ≤ x ∧ x < e)) := by
  induction l generalizing b with
  | nil => exact ⟨⟨hb, hs, trivial⟩, fun x => by simp [insL, cov]⟩
  | cons p r ih =>
    simp only [canF] at hc
    simp only [insL]
    by_cases h2 : s ≤ p.2
    · rw [if_pos h2]
      simp only [absb]
      by_cases hp : p.1 ≤ e
      · rw [if_pos hp]
        obtain ⟨h1, h2', h3, h4⟩ := absb_spec r (p.2 + 1) (min s p.1) (max e p.2) hc.2.2 (by omega) (by omega)
        refine ⟨⟨by simp only [h1]; omega, by simp only [h1]; omega, h3⟩, fun x => ?_⟩
        simp only [cov]
        rw [h4 x]
        constructor
        · rintro (h | h)
          · by_cases hx : s ≤ x ∧ x < e
            · exact .inr hx
            · exact .inl (.inl (by omega))
          · exact .inl (.inr h)
        · rintro ((h | h) | h)
          · exact .inl (by omega)
          · exact .inr h
          · exact .inl (by omega)
      · rw [if_neg hp]
        refine ⟨⟨hb, hs, ⟨by show e + 1 ≤ p.1; omega, hc.2⟩⟩, fun x => ?_⟩
        simp only [cov]
        exact ⟨fun h => h.symm, fun h => h.symm⟩
    · rw [if_neg h2]
      obtain ⟨h3, h4⟩ := ih (p.2 + 1) hc.2.2 (by omega)
      refine ⟨⟨hc.1, hc.2.1, h3⟩, fun x => ?_⟩
      simp only [cov]
      rw [h4 x]
      exact or_assoc.symm

theorem addL_spec (l : List (Int × Int)) (b s e : Int) (hc : canF b l) (hb : b ≤ s) :
    canF b (addL l s e) ∧ ∀ x, cov (addL l s e) x ↔ (cov l x ∨ (s ≤ x ∧ x < e)) := by
  by_cases h : e ≤ s
  · unfold addL
    rw [if_pos h]
    exact ⟨hc, fun x => ⟨.inl, fun h9 => h9.elim id (fun h9 => by omega)⟩⟩
  · rw [addL_ins l s e h]
    exact insL_spec l b s e hc (by omega) hb

theorem buildL_spec (l acc : List (Int × Int)) (hc : canF 0 acc) (hl : ∀ p ∈ l, 0 ≤ p.1) :
    canF 0 (buildL l acc) ∧ ∀ x, cov (buildL l acc) x ↔ (cov acc x ∨ cov l x) := by
  induction l generalizing acc with
  | nil => exact ⟨hc, fun x => by simp [buildL, cov]⟩
  | cons p r ih =>
    obtain ⟨h1, h2⟩ := addL_spec acc 0 p.1 p.2 hc (hl p (by simp))
    obtain ⟨h3, h4⟩ := ih (addL acc p.1 p.2) h1 (fun q hq => hl q (by simp [hq]))
    refine ⟨h3, fun x => ?_⟩
    simp only [buildL, cov]
    rw [h4 x, h2 x]
    exact or_assoc

theorem gaps_spec (sp : List (Int × Int)) (c len at_ : Int) (hc : canF c sp) (ha : at_ ≤ c) :
    canF at_ (gapsFrom sp len at_) ∧ ∀ x, cov (gapsFrom sp len at_) x ↔ (at_ ≤ x ∧ x < len ∧ ¬ cov sp x) := by
  induction sp generalizing c at_ with
  | nil =>
    simp only [gapsFrom]
    by_cases h : at_ < len
    · rw [if_pos h]
      exact ⟨⟨Int.le_refl _, h, trivial⟩, fun x => by simp [cov]⟩
    · rw [if_neg h]
      exact ⟨trivial, fun x => by simp only [cov]; constructor; · exact False.elim
                                  · rintro ⟨h1, h2, _⟩; omega⟩
  | cons p r ih =>
    simp only [canF] at hc
    simp only [gapsFrom]
    have hm : max at_ p.2 = p.2 := by omega
    rw [hm]
    obtain ⟨h1, h2⟩ := ih (p.2 + 1) p.2 hc.2.2 (by omega)
    have hge : ∀ x, cov r x → p.2 + 1 ≤ x := fun x hx => cov_ge hc.2.2 hx
    by_cases h : at_ < min p.1 len
    · rw [if_pos h]
      refine ⟨⟨Int.le_refl _, h, canF_mono h1 (by show min p.1 len + 1 ≤ p.2; omega)⟩, fun x => ?_⟩
      show ((at_ ≤ x ∧ x < min p.1 len) ∨ cov (gapsFrom r len p.2) x) ↔ _
      rw [h2 x]
      simp only [cov]
      constructor
      · rintro (h3 | h3)
        · refine ⟨h3.1, by omega, ?_⟩
          rintro (h4 | h4)
          · omega
          · have := hge _ h4; omega
        · refine ⟨by omega, h3.2.1, ?_⟩
          rintro (h4 | h4)
          · omega
          · exact h3.2.2 h4
      · rintro ⟨h3, h4, h5⟩
        by_cases hx : x < p.1
        · exact .inl (by omega)
        · refine .inr ⟨?_, h4, fun h6 => h5 (.inr h6)⟩
          by_cases h7 : p.2 ≤ x
          · exact h7
          · exact absurd (.inl (by omega)) h5
    · rw [if_neg h]
      refine ⟨canF_mono h1 (by omega), fun x => ?_⟩
      show cov (gapsFrom r len p.2) x ↔ _
      rw [h2 x]
      simp only [cov]
      constructor
      · rintro h3
        refine ⟨by omega, h3.2.1, ?_⟩
        rintro (h4 | h4)
        · omega
        · exact h3.2.2 h4
      · rintro ⟨h3, h4, h5⟩
        refine ⟨?_, h4, fun h6 => h5 (.inr h6)⟩
        by_cases h7 : p.2 ≤ x
        · exact h7
        · exact absurd (.inl (by omega)) h5
theorem gapsL_spec (sp : List (Int × Int)) (len : Int) (hc : canF 0 sp) : canF 0 (gapsL sp len) ∧ ∀ x, cov (gapsL sp len) x ↔ (0 ≤ x ∧ x < len ∧ ¬ cov sp x) := gaps_spec sp 0 len 0 hc (Int.le_refl _)

theorem can_nn {l : List (Int × Int)} {b : Int} (h : canF b l) : ∀ p ∈ l, b ≤ p.1 := by
  induction l generalizing b with
  | nil => intro p hp; cases hp
  | cons q r ih =>
    simp only [canF] at h
    intro p hp
    rcases List.mem_cons.1 hp with rfl | hp
    · exact h.1
    · have := ih h.2.2 p hp; omega
theorem cov_clip (sp : List (Int × Int)) (len x : Int) : cov (sp.map fun p => (min p.1 len, min p.2 len)) x ↔ (x < len ∧ cov sp x) := by
  induction sp with
  | nil => simp [cov]
  | cons p r ih =>
    simp only [List.map_cons, cov]
    rw [ih]
    constructor
    · rintro (h | h)
      · exact ⟨by omega, .inl (by omega)⟩
      · exact ⟨h.1, .inr h.2⟩
    · rintro ⟨h1, h2 | h2⟩
      · exact .inl (by omega)
      · exact .inr ⟨h1, h2⟩
theorem clipL_spec (sp : List (Int × Int)) (len : Int) (hl : 0 ≤ len) (hc : canF 0 sp) : canF 0 (clipL sp len) ∧ ∀ x, cov (clipL sp len) x ↔ (x < len ∧ cov sp x) := by
  obtain ⟨h1, h2⟩ := buildL_spec (sp.map fun p => (min p.1 len, min p.2 len)) [] trivial (by
    intro p hp
    obtain ⟨q, hq, rfl⟩ := List.mem_map.1 hp
    have := can_nn hc q hq
    show 0 ≤ min q.1 len
    omega)
  refine ⟨h1, fun x => ?_⟩
  show cov (buildL _ []) x ↔ _
  rw [h2 x, cov_clip]
  simp [cov]

theorem twice_law (S : List (Int × Int)) (len : Int) (hl : 0 ≤ len) (hc : canF 0 S) : gapsL (gapsL S len) len = clipL S len := by
  obtain ⟨g1, g2⟩ := gapsL_spec S len hc
  obtain ⟨h1, h2⟩ := gapsL_spec (gapsL S len) len g1
  obtain ⟨c1, c2⟩ := clipL_spec S len hl hc
  refine can_eq h1 c1 fun x => ?_
  rw [h2, g2, c2]
  constructor
  · rintro ⟨h3, h4, h5⟩
    exact ⟨h4, Classical.byContradiction fun h6 => h5 ⟨h3, h4, h6⟩⟩
  · rintro ⟨h3, h4⟩
    exact ⟨cov_ge hc h4, h3, fun h5 => h5.2.2 h4⟩

theorem tile_law (S : List (Int × Int)) (len : Int) (hl : 0 ≤ len) (hc : canF 0 S) : buildL (gapsL S len) (clipL S len) = if len = 0 then [] else [(0, len)] := by
  obtain ⟨g1, g2⟩ := gapsL_spec S len hc
  obtain ⟨c1, c2⟩ := clipL_spec S len hl hc
  obtain ⟨b1, b2⟩ := buildL_spec (gapsL S len) (clipL S len) c1 (can_nn g1)
  have hx : ∀ x, cov (buildL (gapsL S len) (clipL S len)) x ↔ (0 ≤ x ∧ x < len) := by
    intro x
    rw [b2, c2, g2]
    constructor
    · rintro (h | h)
      · exact ⟨cov_ge hc h.2, h.1⟩
      · exact ⟨h.1, h.2.1⟩
    · rintro ⟨h1, h2⟩
      by_cases h3 : cov S x
      · exact .inl ⟨h2, h3⟩
      · exact .inr ⟨h1, h2, h3⟩
  by_cases h0 : len = 0
  · rw [if_pos h0]
    exact can_eq b1 (c := 0) trivial fun x => by rw [hx]; simp only [cov]; constructor; · intro h; omega
                                                 · exact False.elim
  · rw [if_neg h0]
    exact can_eq b1 (c := 0) (m := [(0, len)]) ⟨Int.le_refl _, by show 0 < len; omega, trivial⟩ fun x => by rw [hx]; simp [cov]
end Go.Proofs.Qxb6600119a
