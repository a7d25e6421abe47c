/-
  SEAT b6600119a: zzEqual (28) at equal rows.
-/
import Derived.Test.Qxb6600119aClip
namespace Go.Proofs.Qxb6600119a
open Go.RowKit Go.Shelf
attribute [local go_sem ↓] Go.wp_at_zero Go.wp_at_succ

theorem below_dN {B : Nat} {a w : World} (h : Below B a w) (n : Nat) : Below B a (w.drewN n) := h.trans ⟨rfl, rfl, rfl, Nat.le_refl _, fun _ _ => rfl⟩
set_option maxHeartbeats 1000000 in
set_option maxRecDepth 100000 in
theorem equal_same (B0 B1 n : Nat) (v u : Value) (sp : Sp) (w : World) (hn : sp.length = n) (hsm : n ≤ 900000) (hv : w.ownsRow B0 53 2 v n (flat sp)) (hu : w.ownsRow B1 53 2 u n (flat sp)) :
    Calls Try.prog 28 #[v, u] w fun e w' => e = .returned (.bool true) ∧ Below w.heap.size w w' := by
  obtain ⟨av, cv, rfl⟩ := own_form hv
  obtain ⟨au, cu, rfl⟩ := own_form hu
  go_enter Try.func28, Try.ntmps28
  go_wp2_with fail
  go_loopw [5] (fun i wr => ∃ (k : Nat), k ≤ n ∧ i = .int .i64 k ∧ Below w.heap.size w wr) (fun i _ => n - (intOf i).toNat)
  case atStart => exact ⟨0, Nat.zero_le _, rfl, Below.refl _ _⟩
  case round =>
    obtain ⟨k, hk, rfl, hbel⟩ := hrel
    by_cases hlt : k < n
    · have hv3 := own_below hv hbel
      have hu3 := own_below hu hbel
      obtain ⟨g, rfl⟩ : ∃ g, av = some ⟨g, 0, none⟩ := by
        rcases hv3.2 with ⟨_, h9⟩ | ⟨g, c9, cur, hv, _⟩
        · omega
        · injection hv with e1 e2 e3
          exact ⟨g, e1⟩
      obtain ⟨h, rfl⟩ : ∃ g, au = some ⟨g, 0, none⟩ := by
        rcases hu3.2 with ⟨_, h9⟩ | ⟨g, c9, cur, hv, _⟩
        · omega
        · injection hv with e1 e2 e3
          exact ⟨g, e1⟩
      have hf := flat_at sp k (by omega)
      have c0 := hv3.cells (g := g) rfl _ _ hf.1
      have c1 := hv3.cells (g := g) rfl _ _ hf.2
      have d0 := hu3.cells (g := h) rfl _ _ hf.1
      have d1 := hu3.cells (g := h) rfl _ _ hf.2
      rw [Addr.add_lit, Nat.zero_add] at c0 c1 d0 d1
      clear hf hv3 hu3 hv hu
      generalize (sp.getD k (0, 0)).1 = p1 at *
      generalize (sp.getD k (0, 0)).2 = p2 at *
      have i1 : (0 : Int) ≤ (k : Int) := by omega
      have i2 : (k : Int) < (n : Int) := by omega
      go_wp2_with fail
      go_quiet (fail)
      go_wp2
      go_roundw
      case rel => exact ⟨k + 1, by omega, by go_num, below_dN hbel _⟩
      case measure => simp [intOf]; omega
    · clear hv hu
      go_wp2
      go_ret
      exact ⟨rfl, hbel⟩

theorem clone_any (a : Option Addr) (n c : Nat) (xs : List Int) (w : World) (h0 : a = none → n = 0) (hsrc : ∀ x, a = some x → ∀ j, j < n → w.cell? (x.add j) = some (.int .u32 (xs.getD j 0))) (hn : n ≤ 4096) :
    Calls Try.prog 21 #[.slice a n c] w fun e w' => ∃ a' c', e = .returned (.slice a' n c') ∧ (n = 0 ∨ a' = some ⟨w.heap.size, 0, none⟩) ∧ (∀ k, k < n → w'.cell? ⟨w.heap.size, k, none⟩ = some (.int .u32 (xs.getD k 0))) ∧ (w.heap.size < w'.heap.size ∨ n = 0) ∧ Below w.heap.size w w' := by
  cases a with
  | none =>
    have h := h0 rfl
    subst h
    refine (clone_nil 0 c w).mono ?_
    rintro e w' ⟨rfl, rfl⟩
    exact ⟨_, _, rfl, .inl rfl, fun k hk => absurd hk (Nat.not_lt_zero _), .inr rfl, Below.refl _ _⟩
  | some x =>
    refine (clone_some x n c xs w (hsrc x rfl) hn).mono ?_
    rintro e w' ⟨rfl, hh, hb⟩
    refine ⟨_, _, rfl, .inr rfl, fun k hk => hh.cell k hk, ?_, hb⟩
    obtain ⟨A, hA, _⟩ := hh.ex
    exact .inl (heap_lt hA)

theorem buildL_length (l acc : Sp) : (buildL l acc).length ≤ acc.length + l.length := by
  induction l generalizing acc with
  | nil => simp [buildL]
  | cons p r ih => have := ih (addL acc p.1 p.2); have := addL_length acc p.1 p.2; simp only [buildL, List.length_cons]; omega
theorem pairs_length : ∀ (xs : List Int), (pairsOf xs).length ≤ xs.length
  | [] => by simp [pairsOf]
  | [_] => by simp [pairsOf]
  | _ :: _ :: r => by have := pairs_length r; simp only [pairsOf, List.length_cons]; omega
theorem gapsFrom_length (sp : Sp) (len at_ : Int) : (gapsFrom sp len at_).length ≤ sp.length + 1 := by
  induction sp generalizing at_ with
  | nil => simp only [gapsFrom]; split <;> simp
  | cons p r ih => have := ih (max at_ p.2); simp only [gapsFrom, List.length_append, List.length_cons]; split <;> simp <;> omega

set_option maxHeartbeats 1000000 in
set_option maxRecDepth 100000 in
theorem twice9 (a : Option Addr) (n c : Nat) (xs : List Int) (len : Int) (w : World) (hx : xs.length = n) (h0 : a = none → n = 0) (hsrc : ∀ x, a = some x → ∀ j, j < n → w.cell? (x.add j) = some (.int .u32 (xs.getD j 0)))
    (hlaw : gapsL (gapsL (buildL (pairsOf xs) []) len) len = clipL (buildL (pairsOf xs) []) len) :
    Calls Try.prog 9 #[.slice a n c, .int .u32 len] w fun e w' => e = .returned (.bool true) ∧ Below w.heap.size w w' := by
  by_cases hbig : 1048576 < n
  · have hb : ∀ w : World, Calls Try.prog 36 #[.slice a n c, .int .u32 len] w fun e w' => e = .returned (.bool false) ∧ w = w' := by
      intro w
      go_enter Try.func36, Try.ntmps36
      go_wp2
      go_ret
      exact ⟨rfl, rfl⟩
    clear hsrc hlaw
    go_enter Try.func9, Try.ntmps9
    go_wp2_with (go_at_call 36; refine (hb _).mono ?_; rintro e w' ⟨rfl, rfl⟩)
    go_ret
    exact ⟨rfl, Below.refl _ _⟩
  · have hb : ∀ w : World, Calls Try.prog 36 #[.slice a n c, .int .u32 len] w fun e w' => e = .returned (.bool true) ∧ w = w' := by
      intro w
      clear hsrc hlaw
      have : n ≤ 1048576 := by omega
      go_enter Try.func36, Try.ntmps36
      go_wp2
      go_ret
      exact ⟨rfl, rfl⟩
    by_cases h4 : 4096 < n
    · clear hsrc hlaw
      go_enter Try.func9, Try.ntmps9
      go_wp2_with (go_at_call 36; refine (hb _).mono ?_; rintro e w' ⟨rfl, rfl⟩)
      go_ret
      exact ⟨rfl, Below.refl _ _⟩
    · have hn4 : n ≤ 4096 := by omega
      have hsl : (buildL (pairsOf xs) []).length ≤ n := by have := buildL_length (pairsOf xs) []; have := pairs_length xs; simp at *; omega
      have HB := Lib.hid hb
      have HCL := Lib.hid (clone_any a n c xs w h0 hsrc hn4)
      have HL := Lib.hid hlaw
      clear hb hsrc hlaw h0 hbig h4
      go_enter Try.func9, Try.ntmps9
      go_wp2_with (first | (go_at_call 36; refine (HB.out _).mono ?_; rintro e w' ⟨rfl, rfl⟩) | (go_at_call 21; refine HCL.out.mono ?_; rintro e w1 ⟨a1, c1, rfl, ha1, hc1, hs1, hb1⟩; refine Hid.out ?_))
      refine Lib.hid ?_
      clear HB HCL
      have HBL := Lib.hid (build_any w.heap.size n c1 a1 xs w1 hx hn4 ha1 hc1 hs1)
      clear ha1 hc1 hs1
      generalize buildL (pairsOf xs) [] = S at *
      go_wp2_with (go_at_call 22; refine HBL.out.mono ?_; rintro e w2 ⟨vS, rfl, hoS, hb2⟩; refine Hid.out ?_)
      refine Lib.hid ?_
      clear HBL
      obtain ⟨aS, cS, rfl⟩ := own_form hoS
      have HG := Lib.hid (gaps_any _ _ _ len S w2 rfl (by omega) hoS)
      go_wp2_with (go_at_call 34; refine HG.out.mono ?_; rintro e w3 ⟨vG, rfl, hoG, hb3⟩; refine Hid.out ?_)
      refine Lib.hid ?_
      clear HG
      obtain ⟨aG, cG, rfl⟩ := own_form hoG
      have hgl := gapsFrom_length S len 0
      have HG2 := Lib.hid (gaps_any _ _ _ len (gapsL S len) w3 rfl (by unfold gapsL; omega) hoG)
      go_wp2_with (go_at_call 34; refine HG2.out.mono ?_; rintro e w4 ⟨vGG, rfl, hoGG, hb4⟩; refine Hid.out ?_)
      refine Lib.hid ?_
      clear HG2
      obtain ⟨aGG, cGG, rfl⟩ := own_form hoGG
      have hoS3 := own_below (own_below hoS hb3) hb4
      have HCP := Lib.hid (clip_any _ _ _ len S w4 rfl (by omega) hoS3)
      go_wp2_with (go_at_call 37; refine HCP.out.mono ?_; rintro e w5 ⟨vC, rfl, hoC, hb5⟩; refine Hid.out ?_)
      refine Lib.hid ?_
      clear HCP
      obtain ⟨aC, cC, rfl⟩ := own_form hoC
      have hoGG5 := own_below hoGG hb5
      have hgl2 := gapsFrom_length (gapsL S len) len 0
      have hlen : (gapsL (gapsL S len) len).length ≤ 900000 := by unfold gapsL at hgl2 ⊢; omega
      have hq : Calls Try.prog 28 #[.slice aGG (gapsL (gapsL S len) len).length cGG, .slice aC (clipL S len).length cC] w5 fun e w' => e = .returned (.bool true) ∧ Below w.heap.size w w' := by
        rw [← HL.out] at hoC ⊢
        refine (equal_same _ _ _ _ _ (gapsL (gapsL S len) len) w5 rfl hlen hoGG5 hoC).mono ?_
        rintro e w6 ⟨he, hb6⟩
        have z1 := hb1.size; have z2 := hb2.size; have z3 := hb3.size; have z4 := hb4.size; have z5 := hb5.size
        exact ⟨he, ((((hb1.trans (hb2.mono z1)).trans (hb3.mono (by omega))).trans (hb4.mono (by omega))).trans (hb5.mono (by omega))).trans (hb6.mono (by omega))⟩
      have HQ := Lib.hid hq
      clear hq HL hoGG5 hoC hoS3 hoGG hoG hoS hgl hgl2 hlen hb1 hb2 hb3 hb4 hb5
      generalize (gapsL (gapsL S len) len).length = L1 at *
      generalize (clipL S len).length = L2 at *
      go_wp2_with (go_at_call 28; refine HQ.out.mono ?_; rintro e w6 ⟨rfl, hb6⟩)
      go_ret
      exact ⟨rfl, hb6⟩
end Go.Proofs.Qxb6600119a
