/-
  SEAT b6600119a: FnSpansAddKeepsCanonicalExactUnion (5).
-/
import Derived.Test.Qxb6600119aEnds
namespace Go.Proofs.Qxb6600119a
open Go.RowKit Go.Shelf
attribute [local go_sem ↓] Go.wp_at_zero Go.wp_at_succ

set_option maxHeartbeats 2000000 in
set_option maxRecDepth 100000 in
theorem union5 (a : Option Addr) (n c : Nat) (xs : List Int) (w : World) (hx : xs.length = n) (h0 : a = none → n = 0) (hsrc : ∀ x, a = some x → ∀ j, j < n → w.cell? (x.add j) = some (.int .u32 (xs.getD j 0)))
    (hnn : ∀ m ∈ xs, 0 ≤ m) :
    Calls Try.prog 5 #[.slice a n c] w fun e w' => e = .returned (.bool true) ∧ Below w.heap.size w w' := by
  by_cases hbig : 1048576 < n
  · have hb : ∀ w : World, Calls Try.prog 20 #[.slice a n c] w fun e w' => e = .returned (.bool false) ∧ w = w' := by
      intro w
      go_enter Try.func20, Try.ntmps20
      go_wp2
      go_ret
      exact ⟨rfl, rfl⟩
    clear hsrc hnn
    go_enter Try.func5, Try.ntmps5
    go_wp2_with (go_at_call 20; refine (hb _).mono ?_; rintro e w' ⟨rfl, rfl⟩)
    go_ret
    exact ⟨rfl, Below.refl _ _⟩
  · have hb : ∀ w : World, Calls Try.prog 20 #[.slice a n c] w fun e w' => e = .returned (.bool true) ∧ w = w' := by
      intro w
      clear hsrc hnn
      have : n ≤ 1048576 := by omega
      go_enter Try.func20, Try.ntmps20
      go_wp2
      go_ret
      exact ⟨rfl, rfl⟩
    by_cases h4 : 4096 < n
    · clear hsrc hnn
      go_enter Try.func5, Try.ntmps5
      go_wp2_with (go_at_call 20; refine (hb _).mono ?_; rintro e w' ⟨rfl, rfl⟩)
      go_ret
      exact ⟨rfl, Below.refl _ _⟩
    · have hn4 : n ≤ 4096 := by omega
      have hsl : (buildL (pairsOf xs) []).length ≤ n := by have := buildL_length (pairsOf xs) []; have := pairs_length xs; simp at *; omega
      have HB := Lib.hid hb
      have HCL := Lib.hid (clone_any a n c xs w h0 hsrc hn4)
      have HU := Lib.hid (union_law xs hnn)
      have HE := Lib.hid (S_ends xs 0 0)
      have HK := Lib.hid (build_can xs hnn)
      clear hb hsrc h0 hbig h4 hnn
      go_enter Try.func5, Try.ntmps5
      go_wp2_with (first | (go_at_call 20; refine (HB.out _).mono ?_; rintro e w' ⟨rfl, rfl⟩) | (go_at_call 21; refine HCL.out.mono ?_; rintro e w1 ⟨a1, c1, rfl, ha1, hc1, hs1, hb1⟩; refine Hid.out ?_))
      refine Lib.hid ?_
      clear HB HCL
      have hna : NumAt w.heap.size n a1 xs w1 := ⟨ha1, hc1, hs1⟩
      have HBL := Lib.hid (build_any w.heap.size n c1 a1 xs w1 hx hn4 ha1 hc1 hs1)
      clear ha1 hc1 hs1
      generalize buildL (pairsOf xs) [] = S at *
      go_wp2_with (go_at_call 22; refine HBL.out.mono ?_; rintro e w2 ⟨vS, rfl, hoS, hb2⟩; refine Hid.out ?_)
      refine Lib.hid ?_
      clear HBL
      obtain ⟨aS, cS, rfl⟩ := own_form hoS
      have z1 := hb1.size; have z2 := hb2.size
      have hball : Below w.heap.size w w2 := hb1.trans (hb2.mono z1)
      have hna2 : NumAt w.heap.size n a1 xs w2 := hna.on hb2
      have hpr : ∀ k, k < S.length → Probe (S.getD k (0, 0)).1 n xs 0 0 ∧ Probe (S.getD k (0, 0)).2 n xs 0 0 := fun k hk => by have := HE.out _ (getD_mem S k hk); rw [hx] at this; exact this
      -- the contracts, in every world that keeps what lies here
      have HC1 := Lib.hid (canon_yes _ _ _ S w2 rfl (by omega) hoS HK.out)
      have HC2 : Hid (∀ w9, Below w2.heap.size w2 w9 → Calls Try.prog 24 #[.slice aS S.length cS, .slice a1 n c1, .int .u32 0, .int .u32 0] w9 fun e w' => e = .returned (.bool true) ∧ Below w2.heap.size w2 w') := Lib.hid (by
        intro w9 hb9
        refine (ends_yes _ _ _ n c1 _ S a1 0 0 xs w9 rfl (by omega) (by omega) (own_below hoS hb9) (hna2.on hb9) hpr).mono ?_
        rintro e w' ⟨he, hbz⟩
        exact ⟨he, hb9.trans (hbz.mono hb9.size)⟩)
      have HC3 : Hid (∀ p w9, Below w2.heap.size w2 w9 → Calls Try.prog 25 #[.slice aS S.length cS, .int .u32 p] w9 fun e w' => e = .returned (.bool (covB (pairsOf xs) p)) ∧ Below w2.heap.size w2 w') := Lib.hid (by
        intro p w9 hb9
        refine (covers_any _ _ _ p S w9 rfl (by omega) (own_below hoS hb9)).mono ?_
        rintro e w' ⟨he, hbz⟩
        rw [HU.out] at he
        exact ⟨he, hb9.trans (hbz.mono hb9.size)⟩)
      have HC4 : Hid (∀ p w9, Below w2.heap.size w2 w9 → Calls Try.prog 26 #[.slice a1 n c1, .int .u32 p] w9 fun e w' => e = .returned (.bool (covB (pairsOf xs) p)) ∧ Below w2.heap.size w2 w') := Lib.hid (by
        intro p w9 hb9
        refine (pairs_any _ n c1 a1 p xs w9 hx (by omega) (hna2.on hb9)).mono ?_
        rintro e w' ⟨he, hbz⟩
        exact ⟨he, hb9.trans (hbz.mono hb9.size)⟩)
      have HN := Lib.hid hna2
      clear hpr hna hna2 HE HK HU hoS hb1 hb2
      generalize S.length = L at *
      go_wp2_with (go_at_call 23; refine HC1.out.mono ?_; rintro e w3 ⟨rfl, hb3⟩; refine Hid.out ?_)
      refine Lib.hid ?_
      clear HC1
      go_wp2_with (go_at_call 24; refine (HC2.out _ hb3).mono ?_; rintro e w4 ⟨rfl, hb4⟩; refine Hid.out ?_)
      refine Lib.hid ?_
      clear HC2 hb3
      go_wp2_with (go_at_call 25; refine (HC3.out 0 _ hb4).mono ?_; rintro e w5 ⟨rfl, hb5⟩; refine Hid.out ?_)
      refine Lib.hid ?_
      clear hb4
      go_wp2_with (go_at_call 26; refine (HC4.out 0 _ hb5).mono ?_; rintro e w6 ⟨rfl, hb6⟩; refine Hid.out ?_)
      refine Lib.hid ?_
      clear hb5
      generalize covB (pairsOf xs) 0 = t0
      go_wp2_with fail
      go_loopw [4] (fun i wr => ∃ (k : Nat), k ≤ n ∧ i = .int .i64 k ∧ Below w2.heap.size w2 wr) (fun i _ => n - (intOf i).toNat)
      case atStart => exact ⟨0, Nat.zero_le _, rfl, hb6⟩
      case round =>
        clear hb6
        obtain ⟨k, hk, rfl, hbel⟩ := hrel
        by_cases hlt : k < n
        · have hn9 := HN.out.on hbel
          obtain rfl := hn9.addr hlt
          have c0 := hn9.2.1 k hlt
          have hbb : w.heap.size < w2.heap.size := HN.out.2.2.resolve_right (by omega)
          have e0 := HN.out.2.1 k hlt
          have i1 : (0 : Int) ≤ (k : Int) := by omega
          have i2 : (k : Int) < (n : Int) := by omega
          clear hn9 HN
          generalize xs.getD k 0 = q at *
          have H3 := Lib.hid (HC3.out q)
          have H4 := Lib.hid (HC4.out q)
          clear HC3 HC4
          generalize covB (pairsOf xs) q = t at *
          go_wp2_with fail
          go_region_held3 (fun w' => w'.cell? ⟨w.heap.size, k, none⟩ = some (.int .u32 q)) (first | exact (hz.cell (p := ⟨w.heap.size, k, none⟩) hbb).trans e0 | exact c0 | go_keep) (first | (go_at_call 25; refine (H3.out _ hbel.drew).mono ?_; rintro e w' ⟨rfl, hz⟩) | (go_at_call 26; refine (H4.out _ hz).mono ?_; rintro e w' ⟨rfl, hz⟩))
          clear H3 H4
          cases t
          · go_wp2
            go_roundw
            case rel => exact ⟨k + 1, by omega, by go_num, hz⟩
            case measure => simp [intOf]; omega
          · go_wp2
            go_roundw
            case rel => exact ⟨k + 1, by omega, by go_num, hz⟩
            case measure => simp [intOf]; omega
        · have hfin : Below w.heap.size w wr := hball.trans (hbel.mono (by omega))
          clear HC3 HC4 HN
          go_wp2
          go_ret
          exact ⟨rfl, hfin⟩
end Go.Proofs.Qxb6600119a
