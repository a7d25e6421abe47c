/-
  SEAT b6600119a: zzCovers (25), zzPairsCover (26), zzIsProbe (44), zzEndpointsAreProbes (24), zzCanonical (23), zzGapsProbe (35).
-/
import Derived.Test.Qxb6600119aIn
import Derived.BigQuiet
namespace Go.Proofs.Qxb6600119a
open Go.RowKit Go.Shelf
attribute [local go_sem ↓] Go.wp_at_zero Go.wp_at_succ

/-- zzCovers. -/
def covB : List (Int × Int) → Int → Bool
  | [], _ => false
  | p :: r, x => decide (p.1 ≤ x ∧ x < p.2) || covB r x
theorem covB_iff (l : List (Int × Int)) (x : Int) : covB l x = true ↔ cov l x := by
  induction l with
  | nil => simp [covB, cov]
  | cons p r ih => simp [covB, cov, ih]
theorem own_some {w : World} {B n c k : Nat} {a : Option Addr} {xs : List Value} (h : w.ownsRow B 53 2 (.slice a n c) n xs) (hk : k < n) : ∃ g, a = some ⟨g, 0, none⟩ := by
  rcases h.2 with ⟨_, h9⟩ | ⟨g, c9, cur, hv, _⟩
  · omega
  · injection hv with e1 e2 e3
    exact ⟨g, e1⟩
theorem drop_at (sp : Sp) (k : Nat) (h : k < sp.length) : sp.drop k = sp.getD k (0, 0) :: sp.drop (k + 1) := by
  rw [List.drop_eq_getElem_cons h]; simp [List.getD_eq_getElem?_getD, h]

set_option maxHeartbeats 1000000 in
set_option maxRecDepth 100000 in
theorem covers_any (B0 n : Nat) (v : Value) (p : Int) (sp : Sp) (w : World) (hn : sp.length = n) (hsm : n ≤ 900000) (hv : w.ownsRow B0 53 2 v n (flat sp)) :
    Calls Try.prog 25 #[v, .int .u32 p] w fun e w' => e = .returned (.bool (covB sp p)) ∧ Below w.heap.size w w' := by
  obtain ⟨av, cv, rfl⟩ := own_form hv
  go_enter Try.func25, Try.ntmps25
  go_wp2_with fail
  go_loopw [5] (fun i wr => ∃ (k : Nat), k ≤ n ∧ i = .int .i64 k ∧ Hid (covB (sp.drop k) p = covB sp p) ∧ Below w.heap.size w wr) (fun i _ => n - (intOf i).toNat)
  case atStart => exact ⟨0, Nat.zero_le _, rfl, Lib.hid (by simp), Below.refl _ _⟩
  case round =>
    obtain ⟨k, hk, rfl, HA, hbel⟩ := hrel
    by_cases hlt : k < n
    · have hv3 := own_below hv hbel
      obtain ⟨g, rfl⟩ := own_some hv3 hlt
      have hf := flat_at sp k (by omega)
      have c0 := hv3.cells (g := g) rfl _ _ hf.1
      have c1 := hv3.cells (g := g) rfl _ _ hf.2
      rw [Addr.add_lit, Nat.zero_add] at c0 c1
      have hS := HA.out
      rw [drop_at sp k (by omega)] at hS
      simp only [covB] at hS
      clear hf hv3 hv HA
      generalize (sp.getD k (0, 0)).1 = p1 at *
      generalize (sp.getD k (0, 0)).2 = p2 at *
      have i1 : (0 : Int) ≤ (k : Int) := by omega
      have i2 : (k : Int) < (n : Int) := by omega
      by_cases h1 : p1 ≤ p
      · by_cases h2 : p < p2
        · have hE : true = covB sp p := by rw [← hS]; simp [h1, h2]
          have HE := Lib.hid hE
          clear hS hE
          go_wp2
          go_ret
          exact ⟨by rw [← HE.out]; rfl, hbel⟩
        · have hE : covB (sp.drop (k + 1)) p = covB sp p := by rw [← hS]; simp [h2]
          have HE := Lib.hid hE
          clear hS hE
          go_wp2
          go_roundw
          case rel => exact ⟨k + 1, by omega, by go_num, HE, hbel⟩
          case measure => simp [intOf]; omega
      · have hE : covB (sp.drop (k + 1)) p = covB sp p := by rw [← hS]; simp [h1]
        have HE := Lib.hid hE
        clear hS hE
        go_wp2
        go_roundw
        case rel => exact ⟨k + 1, by omega, by go_num, HE, hbel⟩
        case measure => simp [intOf]; omega
    · have hE := HA.out
      rw [List.drop_of_length_le (by omega)] at hE
      simp only [covB] at hE
      have HE := Lib.hid hE
      clear hv hE HA
      go_wp2
      go_ret
      exact ⟨by rw [← HE.out]; rfl, hbel⟩

/-- A row of numbers in block b, off from 0. -/
def NumAt (b n : Nat) (a : Option Addr) (xs : List Int) (w : World) : Prop := (n = 0 ∨ a = some ⟨b, 0, none⟩) ∧ (∀ k, k < n → w.cell? ⟨b, k, none⟩ = some (.int .u32 (xs.getD k 0))) ∧ (b < w.heap.size ∨ n = 0)
theorem NumAt.on {b n : Nat} {a : Option Addr} {xs : List Int} {w w' : World} (h : NumAt b n a xs w) (hb : Below w.heap.size w w') : NumAt b n a xs w' := by
  refine ⟨h.1, fun k hk => ?_, ?_⟩
  · have h9 := h.2.1 k hk
    rw [hb.cell (World.block_lt_of_cell? w _ h9)]; exact h9
  · have := hb.size
    rcases h.2.2 with h9 | h9
    · exact .inl (by omega)
    · exact .inr h9
theorem NumAt.addr {b n k : Nat} {a : Option Addr} {xs : List Int} {w : World} (h : NumAt b n a xs w) (hk : k < n) : a = some ⟨b, 0, none⟩ := h.1.resolve_left (by omega)

set_option maxHeartbeats 1000000 in
set_option maxRecDepth 100000 in
theorem pairs_any (b n c : Nat) (a : Option Addr) (p : Int) (xs : List Int) (w : World) (hn : xs.length = n) (hsm : n ≤ 900000) (hv : NumAt b n a xs w) :
    Calls Try.prog 26 #[.slice a n c, .int .u32 p] w fun e w' => e = .returned (.bool (covB (pairsOf xs) p)) ∧ Below w.heap.size w w' := by
  go_enter Try.func26, Try.ntmps26
  go_wp2_with fail
  go_loopw [5] (fun i wr => ∃ (k : Nat), k ≤ n ∧ i = .int .i64 k ∧ Hid (covB (pairsOf (xs.drop k)) p = covB (pairsOf xs) p) ∧ Below w.heap.size w wr) (fun i _ => n - (intOf i).toNat)
  case atStart => exact ⟨0, Nat.zero_le _, rfl, Lib.hid (by simp), Below.refl _ _⟩
  case round =>
    obtain ⟨k, hk, rfl, HA, hbel⟩ := hrel
    by_cases hlt : k + 1 < n
    · have hv3 := hv.on hbel
      obtain rfl := hv3.addr (k := k) (by omega)
      have c0 := hv3.2.1 k (by omega)
      have c1 := hv3.2.1 (k + 1) hlt
      have hS := HA.out
      rw [pairs_step xs k (by omega)] at hS
      simp only [covB] at hS
      clear hv3 hv HA
      generalize xs.getD k 0 = p1 at *
      generalize xs.getD (k + 1) 0 = p2 at *
      have i1 : (0 : Int) ≤ (k : Int) := by omega
      have i2 : (k : Int) < (n : Int) := by omega
      have i3 : (k : Int) + 1 < (n : Int) := by omega
      have i4 : IntKind.i64.wrap ((k : Int) + 1) = (k : Int) + 1 := by rw [IntKind.wrap_i64]; omega
      have i5 : ((k : Int) + 1).toNat = k + 1 := by omega
      have i6 : (0 : Int) ≤ (k : Int) + 1 := by omega
      by_cases h0 : p1 < p2
      · have d0 : decide (p1 < p2) = true := by simp [h0]
        by_cases h1 : p1 ≤ p
        · have d1 : decide (p1 ≤ p) = true := by simp [h1]
          by_cases h2 : p < p2
          · have d2 : decide (p < p2) = true := by simp [h2]
            have hE : true = covB (pairsOf xs) p := by rw [← hS]; simp [h1, h2]
            have HE := Lib.hid hE
            clear hS hE
            go_wp2_with fail
            go_quiet (fail)
            go_wp2
            go_ret
            exact ⟨by rw [← HE.out]; rfl, below_dN hbel _⟩
          · have d2 : decide (p < p2) = false := by simp [h2]
            have hE : covB (pairsOf (xs.drop (k + 2))) p = covB (pairsOf xs) p := by rw [← hS]; simp [h2]
            have HE := Lib.hid hE
            clear hS hE
            go_wp2_with fail
            go_quiet (fail)
            go_wp2
            go_roundw
            case rel => exact ⟨k + 2, by omega, by go_num, HE, below_dN hbel _⟩
            case measure => simp [intOf]; omega
        · have d1 : decide (p1 ≤ p) = false := by simp [h1]
          have hE : covB (pairsOf (xs.drop (k + 2))) p = covB (pairsOf xs) p := by rw [← hS]; simp [h1]
          have HE := Lib.hid hE
          clear hS hE
          go_wp2_with fail
          go_quiet (fail)
          go_wp2
          go_roundw
          case rel => exact ⟨k + 2, by omega, by go_num, HE, below_dN hbel _⟩
          case measure => simp [intOf]; omega
      · have d0 : decide (p1 < p2) = false := by simp [h0]
        have hE : covB (pairsOf (xs.drop (k + 2))) p = covB (pairsOf xs) p := by rw [← hS, show decide (p1 ≤ p ∧ p < p2) = false by simp; omega]; rfl
        have HE := Lib.hid hE
        clear hS hE
        go_wp2_with fail
        go_quiet (fail)
        go_wp2
        go_roundw
        case rel => exact ⟨k + 2, by omega, by go_num, HE, below_dN hbel _⟩
        case measure => simp [intOf]; omega
    · have hE := HA.out
      rw [pairs_end xs k (by omega)] at hE
      simp only [covB] at hE
      have HE := Lib.hid hE
      have hlt2 : ¬ ((k : Int) + 1 < (n : Int)) := by omega
      clear hv hE HA
      go_wp2
      go_ret
      exact ⟨by rw [← HE.out]; rfl, hbel⟩

/-- v is one of the probes. -/
def Probe (v : Int) (n : Nat) (xs : List Int) (x0 x1 : Int) : Prop := v = x0 ∨ v = x1 ∨ ∃ j, j < n ∧ xs.getD j 0 = v

set_option maxHeartbeats 1000000 in
set_option maxRecDepth 100000 in
theorem isprobe_yes (b n c : Nat) (a : Option Addr) (v x0 x1 : Int) (xs : List Int) (w : World) (hsm : n ≤ 900000) (hv : NumAt b n a xs w) (hp : Probe v n xs x0 x1) :
    Calls Try.prog 44 #[.int .u32 v, .slice a n c, .int .u32 x0, .int .u32 x1] w fun e w' => e = .returned (.bool true) ∧ Below w.heap.size w w' := by
  by_cases h0 : v = x0
  · subst h0
    clear hv hp
    go_enter Try.func44, Try.ntmps44
    go_wp2
    go_ret
    exact ⟨rfl, Below.refl _ _⟩
  · by_cases h1 : v = x1
    · subst h1
      clear hv hp
      go_enter Try.func44, Try.ntmps44
      go_wp2
      go_ret
      exact ⟨rfl, Below.refl _ _⟩
    · obtain ⟨j, hj, hjv⟩ := (hp.resolve_left h0).resolve_left h1
      have b0 : (v == x0) = false := beq_eq_false_iff_ne.2 h0
      have b1 : (v == x1) = false := beq_eq_false_iff_ne.2 h1
      go_enter Try.func44, Try.ntmps44
      go_wp2_with fail
      go_loopw [9] (fun i wr => ∃ (k : Nat), k ≤ j ∧ i = .int .i64 k ∧ Below w.heap.size w wr) (fun i _ => n - (intOf i).toNat)
      case atStart => exact ⟨0, Nat.zero_le _, rfl, Below.refl _ _⟩
      case round =>
        obtain ⟨k, hk, rfl, hbel⟩ := hrel
        have hv3 := hv.on hbel
        have hlt : k < n := by omega
        obtain rfl := hv3.addr hlt
        have c0 := hv3.2.1 k hlt
        have i1 : (0 : Int) ≤ (k : Int) := by omega
        have i2 : (k : Int) < (n : Int) := by omega
        have hkj : xs.getD k 0 ≠ v → k < j := by
          intro h9
          rcases Nat.lt_or_ge k j with h | h
          · exact h
          · exact absurd (show xs.getD k 0 = v by rw [show k = j by omega]; exact hjv) h9
        clear hv3 hv hp hjv
        generalize xs.getD k 0 = q at *
        by_cases hq : q = v
        · subst hq
          go_wp2
          go_ret
          exact ⟨rfl, hbel⟩
        · have hk2 := hkj hq
          have bq : (q == v) = false := beq_eq_false_iff_ne.2 hq
          go_wp2
          go_roundw
          case rel => exact ⟨k + 1, by omega, by go_num, hbel⟩
          case measure => simp [intOf]; omega
end Go.Proofs.Qxb6600119a
