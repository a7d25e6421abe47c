/-
  SEAT b6600119a: zzEndpointsAreProbes (24), zzCanonical (23), zzGapsProbe (35).
-/
import Derived.Test.Qxb6600119aCover
namespace Go.Proofs.Qxb6600119a
open Go.RowKit Go.Shelf
attribute [local go_sem ↓] Go.wp_at_zero Go.wp_at_succ

set_option maxHeartbeats 1000000 in
set_option maxRecDepth 100000 in
theorem ends_yes (B0 m b n c : Nat) (v : Value) (sp : Sp) (a : Option Addr) (x0 x1 : Int) (xs : List Int) (w : World) (hm : sp.length = m) (hsm : m ≤ 900000) (hsn : n ≤ 900000) (ho : w.ownsRow B0 53 2 v m (flat sp)) (hv : NumAt b n a xs w)
    (hp : ∀ k, k < m → Probe (sp.getD k (0, 0)).1 n xs x0 x1 ∧ Probe (sp.getD k (0, 0)).2 n xs x0 x1) :
    Calls Try.prog 24 #[v, .slice a n c, .int .u32 x0, .int .u32 x1] w fun e w' => e = .returned (.bool true) ∧ Below w.heap.size w w' := by
  obtain ⟨av, cv, rfl⟩ := own_form ho
  go_enter Try.func24, Try.ntmps24
  go_wp2_with fail
  go_loopw [9] (fun i wr => ∃ (k : Nat), k ≤ m ∧ i = .int .i64 k ∧ Below w.heap.size w wr) (fun i _ => m - (intOf i).toNat)
  case atStart => exact ⟨0, Nat.zero_le _, rfl, Below.refl _ _⟩
  case round =>
    obtain ⟨k, hk, rfl, hbel⟩ := hrel
    by_cases hlt : k < m
    · have ho3 := own_below ho hbel
      obtain ⟨g, rfl⟩ := own_some ho3 hlt
      have hf := flat_at sp k (by omega)
      have c0 := ho3.cells (g := g) rfl _ _ hf.1
      have c1 := ho3.cells (g := g) rfl _ _ hf.2
      rw [Addr.add_lit, Nat.zero_add] at c0 c1
      have hv3 := hv.on hbel
      have hpk := hp k hlt
      have hgl : g < wr.heap.size := (ho3.lt g rfl).2
      generalize (sp.getD k (0, 0)).1 = p1 at *
      generalize (sp.getD k (0, 0)).2 = p2 at *
      have H1 := Lib.hid (isprobe_yes b n c a p1 x0 x1 xs wr hsn hv3 hpk.1)
      have H2 := Lib.hid hpk.2
      have HV := Lib.hid hv3
      clear hf ho3 hp hpk ho hv hv3
      have i1 : (0 : Int) ≤ (k : Int) := by omega
      have i2 : (k : Int) < (m : Int) := by omega
      go_wp2_with (go_at_call 44; refine H1.out.mono ?_; rintro e w1 ⟨rfl, hb1⟩; refine Hid.out ?_)
      refine Lib.hid ?_
      have d1 := (hb1.cell (p := ⟨g, k * 2 + 1, none⟩) hgl).trans c1
      have H3 := Lib.hid (isprobe_yes b n c a p2 x0 x1 xs w1 hsn (HV.out.on hb1) H2.out)
      have hbel1 : Below w.heap.size w w1 := hbel.trans (hb1.mono hbel.size)
      clear H1 H2 HV c0 c1
      go_wp2_with (go_at_call 44; refine H3.out.mono ?_; rintro e w2 ⟨rfl, hb2⟩; refine Hid.out ?_)
      refine Lib.hid ?_
      have hbel2 : Below w.heap.size w w2 := hbel1.trans (hb2.mono hbel1.size)
      clear H3 d1
      go_wp2
      go_roundw
      case rel => exact ⟨k + 1, by omega, by go_num, hbel2⟩
      case measure => simp [intOf]; omega
    · clear hv hp ho
      go_wp2
      go_ret
      exact ⟨rfl, hbel⟩

theorem can_at {sp : Sp} {b : Int} (h : canF b sp) (k : Nat) (hk : k < sp.length) : (sp.getD k (0, 0)).1 < (sp.getD k (0, 0)).2 ∧ (k + 1 < sp.length → (sp.getD k (0, 0)).2 < (sp.getD (k + 1) (0, 0)).1) := by
  induction sp generalizing b k with
  | nil => simp at hk
  | cons p r ih =>
    simp only [canF] at h
    cases k with
    | zero =>
      refine ⟨h.2.1, fun h1 => ?_⟩
      cases r with
      | nil => simp at h1
      | cons q t => have := h.2.2.1; show p.2 < q.1; omega
    | succ k => exact ⟨(ih h.2.2 k (by simpa using hk)).1, fun h1 => (ih h.2.2 k (by simpa using hk)).2 (by simpa using h1)⟩

set_option maxHeartbeats 1000000 in
set_option maxRecDepth 100000 in
theorem canon_yes (B0 n : Nat) (v : Value) (sp : Sp) (w : World) (hn : sp.length = n) (hsm : n ≤ 900000) (hv : w.ownsRow B0 53 2 v n (flat sp)) (hc : canF 0 sp) :
    Calls Try.prog 23 #[v] w fun e w' => e = .returned (.bool true) ∧ Below w.heap.size w w' := by
  obtain ⟨av, cv, rfl⟩ := own_form hv
  go_enter Try.func23, Try.ntmps23
  go_wp2_with fail
  go_loopw [3] (fun i wr => ∃ (k : Nat), k ≤ n ∧ i = .int .i64 k ∧ Below w.heap.size w wr) (fun i _ => n - (intOf i).toNat)
  case atStart => exact ⟨0, Nat.zero_le _, rfl, Below.refl _ _⟩
  case round =>
    obtain ⟨k, hk, rfl, hbel⟩ := hrel
    by_cases hlt : k < n
    · have hv3 := own_below hv hbel
      obtain ⟨g, rfl⟩ := own_some hv3 hlt
      have hf := flat_at sp k (by omega)
      have c0 := hv3.cells (g := g) rfl _ _ hf.1
      have c1 := hv3.cells (g := g) rfl _ _ hf.2
      rw [Addr.add_lit, Nat.zero_add] at c0 c1
      have hlt1 := (can_at hc k (by omega)).1
      have i1 : (0 : Int) ≤ (k : Int) := by omega
      have i2 : (k : Int) < (n : Int) := by omega
      cases k with
      | zero =>
        clear hv3 hv hf hc
        generalize (sp.getD 0 (0, 0)).1 = p1 at *
        generalize (sp.getD 0 (0, 0)).2 = p2 at *
        have d0 : decide (p2 ≤ p1) = false := by simp; omega
        simp only [Nat.zero_mul, Nat.zero_add] at *
        go_wp2_with fail
        go_quiet (fail)
        go_wp2_with fail
        go_quiet (fail)
        go_wp2
        go_roundw
        case rel => exact ⟨1, by omega, by go_num, below_dN hbel _⟩
        case measure => simp [intOf]; omega
      | succ m =>
        have hf2 := flat_at sp m (by omega)
        have c2 := hv3.cells (g := g) rfl _ _ hf2.2
        rw [Addr.add_lit, Nat.zero_add] at c2
        have hlt2 := (can_at hc m (by omega)).2 (by omega)
        clear hv3 hv hf hf2 hc
        generalize (sp.getD (m + 1) (0, 0)).1 = p1 at *
        generalize (sp.getD (m + 1) (0, 0)).2 = p2 at *
        generalize (sp.getD m (0, 0)).2 = p3 at *
        have d0 : decide (p2 ≤ p1) = false := by simp; omega
        have d1 : decide (p1 ≤ p3) = false := by simp; omega
        obtain ⟨k, hkm⟩ : ∃ k, k = m + 1 := ⟨_, rfl⟩
        rw [← hkm] at c0 c1 i1 i2 hlt hk ⊢
        have d2 : decide (0 < k) = true := by simp; omega
        have k0 : 0 < k := by omega
        have i4 : IntKind.i64.wrap ((k : Int) - 1) = (m : Int) := by rw [IntKind.wrap_i64]; omega
        have i6 : (0 : Int) ≤ (m : Int) := by omega
        have i7 : (m : Int) < (n : Int) := by omega
        have HK := Lib.hid hkm
        clear hkm
        go_wp2_with fail
        go_quiet (fail)
        go_wp2_with fail
        go_quiet (fail)
        go_wp2
        go_roundw
        case rel => exact ⟨k + 1, by omega, by go_num, below_dN hbel _⟩
        case measure => simp [intOf]; omega
    · clear hv
      go_wp2
      go_ret
      exact ⟨rfl, hbel⟩

set_option maxHeartbeats 1000000 in
set_option maxRecDepth 100000 in
theorem gprobe_yes (B0 B1 n m : Nat) (v u : Value) (S G : Sp) (len p : Int) (w : World) (hn : S.length = n) (hm : G.length = m) (hsn : n ≤ 900000) (hsm : m ≤ 900000) (hv : w.ownsRow B0 53 2 v n (flat S)) (hu : w.ownsRow B1 53 2 u m (flat G))
    (hp : covB G p = (decide (p < len) && !covB S p)) :
    Calls Try.prog 35 #[v, u, .int .u32 len, .int .u32 p] w fun e w' => e = .returned (.bool true) ∧ Below w.heap.size w w' := by
  obtain ⟨av, cv, rfl⟩ := own_form hv
  obtain ⟨au, cu, rfl⟩ := own_form hu
  have hG := covers_any B1 m _ p G w hm hsm hu
  by_cases hl : p < len
  · have hS : ∀ w1 : World, Below w.heap.size w w1 → Calls Try.prog 25 #[.slice av n cv, .int .u32 p] w1 fun e w' => e = .returned (.bool (covB S p)) ∧ Below w1.heap.size w1 w' := fun w1 hb => covers_any B0 n _ p S w1 hn hsn (own_below hv hb)
    rw [hp, show decide (p < len) = true by simp [hl], Bool.true_and] at hG
    generalize covB S p = t at *
    have HG := Lib.hid hG
    have HS := Lib.hid hS
    clear hv hu hG hS hp
    go_enter Try.func35, Try.ntmps35
    go_wp2_with (go_at_call 25; refine HG.out.mono ?_; rintro e w1 ⟨rfl, hb1⟩; refine Hid.out ?_)
    refine Lib.hid ?_
    have HS1 := Lib.hid (HS.out w1 hb1)
    clear HG HS
    go_wp2_with (go_at_call 25; refine HS1.out.mono ?_; rintro e w2 ⟨rfl, hb2⟩; refine Hid.out ?_)
    refine Lib.hid ?_
    have hbel2 : Below w.heap.size w w2 := hb1.trans (hb2.mono hb1.size)
    clear HS1
    cases t
    · go_wp2
      go_ret
      exact ⟨rfl, hbel2⟩
    · go_wp2
      go_ret
      exact ⟨rfl, hbel2⟩
  · rw [hp, show decide (p < len) = false by simp [hl], Bool.false_and] at hG
    have HG := Lib.hid hG
    clear hv hu hG hp
    go_enter Try.func35, Try.ntmps35
    go_wp2_with (go_at_call 25; refine HG.out.mono ?_; rintro e w1 ⟨rfl, hb1⟩; refine Hid.out ?_)
    refine Lib.hid ?_
    clear HG
    go_wp2
    go_ret
    exact ⟨rfl, hb1⟩
end Go.Proofs.Qxb6600119a
