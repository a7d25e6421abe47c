/-
  SEAT b6600119a: FnSpansGapsIsComplement (8).
-/
import Derived.Test.Qxb6600119aEnds
namespace Go.Proofs.Qxb6600119a
open Go.RowKit Go.Shelf
attribute [local go_sem ↓] Go.wp_at_zero Go.wp_at_succ

set_option maxHeartbeats 2000000 in
set_option maxRecDepth 100000 in
theorem comp8 (a : Option Addr) (n c : Nat) (xs : List Int) (len : Int) (w : World) (hx : xs.length = n) (h0 : a = none → n = 0) (hsrc : ∀ x, a = some x → ∀ j, j < n → w.cell? (x.add j) = some (.int .u32 (xs.getD j 0)))
    (hnn : ∀ m ∈ xs, 0 ≤ m) (hlen : 0 ≤ len) :
    Calls Try.prog 8 #[.slice a n c, .int .u32 len] w fun e w' => e = .returned (.bool true) ∧ Below w.heap.size w w' := by
  by_cases hbig : 1048576 < n
  · have hb : ∀ w : World, Calls Try.prog 33 #[.slice a n c, .int .u32 len] w fun e w' => e = .returned (.bool false) ∧ w = w' := by
      intro w
      go_enter Try.func33, Try.ntmps33
      go_wp2
      go_ret
      exact ⟨rfl, rfl⟩
    clear hsrc hnn
    go_enter Try.func8, Try.ntmps8
    go_wp2_with (go_at_call 33; refine (hb _).mono ?_; rintro e w' ⟨rfl, rfl⟩)
    go_ret
    exact ⟨rfl, Below.refl _ _⟩
  · have hb : ∀ w : World, Calls Try.prog 33 #[.slice a n c, .int .u32 len] w fun e w' => e = .returned (.bool true) ∧ w = w' := by
      intro w
      clear hsrc hnn
      have : n ≤ 1048576 := by omega
      go_enter Try.func33, Try.ntmps33
      go_wp2
      go_ret
      exact ⟨rfl, rfl⟩
    by_cases h4 : 4096 < n
    · clear hsrc hnn
      go_enter Try.func8, Try.ntmps8
      go_wp2_with (go_at_call 33; refine (hb _).mono ?_; rintro e w' ⟨rfl, rfl⟩)
      go_ret
      exact ⟨rfl, Below.refl _ _⟩
    · have hn4 : n ≤ 4096 := by omega
      have hsl : (buildL (pairsOf xs) []).length ≤ n := by have := buildL_length (pairsOf xs) []; have := pairs_length xs; simp at *; omega
      have hq0 : ∀ k, k < n → 0 ≤ xs.getD k 0 := fun k hk => hnn _ (by simp [List.getD_eq_getElem?_getD, show k < xs.length by omega])
      have hcan := build_can xs hnn
      have HB := Lib.hid hb
      have HCL := Lib.hid (clone_any a n c xs w h0 hsrc hn4)
      have HU := Lib.hid (fun p (hp : 0 ≤ p) => comp_law (buildL (pairsOf xs) []) len p hcan hp)
      have HE := Lib.hid (S_ends xs 0 len)
      have HK := Lib.hid (gapsL_spec (buildL (pairsOf xs) []) len hcan).1
      have HQ := Lib.hid hq0
      clear hb hsrc h0 hbig h4 hnn hq0 hcan
      go_enter Try.func8, Try.ntmps8
      go_wp2_with (first | (go_at_call 33; refine (HB.out _).mono ?_; rintro e w' ⟨rfl, rfl⟩) | (go_at_call 21; refine HCL.out.mono ?_; rintro e w1 ⟨a1, c1, rfl, ha1, hc1, hs1, hb1⟩; refine Hid.out ?_))
      refine Lib.hid ?_
      clear HB HCL
      have hna : NumAt w.heap.size n a1 xs w1 := ⟨ha1, hc1, hs1⟩
      have HBL := Lib.hid (build_any w.heap.size n c1 a1 xs w1 hx hn4 ha1 hc1 hs1)
      clear ha1 hc1 hs1
      generalize buildL (pairsOf xs) [] = S at *
      go_wp2_with (go_at_call 22; refine HBL.out.mono ?_; rintro e w2 ⟨vS, rfl, hoS, hb2⟩; refine Hid.out ?_)
      refine Lib.hid ?_
      clear HBL
      obtain ⟨aS, cS, rfl⟩ := own_form hoS
      have HG := Lib.hid (gaps_any _ _ _ len S w2 rfl (by omega) hoS)
      go_wp2_with (go_at_call 34; refine HG.out.mono ?_; rintro e w3 ⟨vG, rfl, hoG, hb3⟩; refine Hid.out ?_)
      refine Lib.hid ?_
      clear HG
      obtain ⟨aG, cG, rfl⟩ := own_form hoG
      have z1 := hb1.size; have z2 := hb2.size; have z3 := hb3.size
      have hball : Below w.heap.size w w3 := (hb1.trans (hb2.mono z1)).trans (hb3.mono (by omega))
      have hna3 : NumAt w.heap.size n a1 xs w3 := (hna.on hb2).on hb3
      have hoS3 := own_below hoS hb3
      have hgl : (gapsL S len).length ≤ S.length + 1 := gapsFrom_length S len 0
      have hprS : ∀ k, k < S.length → Probe (S.getD k (0, 0)).1 n xs 0 len ∧ Probe (S.getD k (0, 0)).2 n xs 0 len := fun k hk => by have := HE.out _ (getD_mem S k hk); rw [hx] at this; exact this
      have hprG : ∀ k, k < (gapsL S len).length → Probe ((gapsL S len).getD k (0, 0)).1 n xs 0 len ∧ Probe ((gapsL S len).getD k (0, 0)).2 n xs 0 len := fun k hk => by
        have hh := HE.out
        rw [hx] at hh
        exact gapsFrom_ends S len 0 hh (.inr (.inl rfl)) (.inl rfl) _ (getD_mem _ k hk)
      have hle : ∀ k, k < (gapsL S len).length → ((gapsL S len).getD k (0, 0)).2 ≤ len := fun k hk => gapsFrom_le S len 0 _ (getD_mem _ k hk)
      have hK := HK.out
      have hU := HU.out
      clear HK HU HE hoS hna hb1 hb2 hb3
      generalize gapsL S len = G at *
      have HC1 := Lib.hid (canon_yes _ _ _ G w3 rfl (by omega) hoG hK)
      have HC2 : Hid (∀ w9, Below w3.heap.size w3 w9 → Calls Try.prog 24 #[.slice aS S.length cS, .slice a1 n c1, .int .u32 0, .int .u32 len] w9 fun e w' => e = .returned (.bool true) ∧ Below w3.heap.size w3 w') := Lib.hid (by
        intro w9 hb9
        refine (ends_yes _ _ _ n c1 _ S a1 0 len xs w9 rfl (by omega) (by omega) (own_below hoS3 hb9) (hna3.on hb9) hprS).mono ?_
        rintro e w' ⟨he, hbz⟩
        exact ⟨he, hb9.trans (hbz.mono hb9.size)⟩)
      have HC3 : Hid (∀ w9, Below w3.heap.size w3 w9 → Calls Try.prog 24 #[.slice aG G.length cG, .slice a1 n c1, .int .u32 0, .int .u32 len] w9 fun e w' => e = .returned (.bool true) ∧ Below w3.heap.size w3 w') := Lib.hid (by
        intro w9 hb9
        refine (ends_yes _ _ _ n c1 _ G a1 0 len xs w9 rfl (by omega) (by omega) (own_below hoG hb9) (hna3.on hb9) hprG).mono ?_
        rintro e w' ⟨he, hbz⟩
        exact ⟨he, hb9.trans (hbz.mono hb9.size)⟩)
      have HC4 : Hid (∀ p w9, 0 ≤ p → Below w3.heap.size w3 w9 → Calls Try.prog 35 #[.slice aS S.length cS, .slice aG G.length cG, .int .u32 len, .int .u32 p] w9 fun e w' => e = .returned (.bool true) ∧ Below w3.heap.size w3 w') := Lib.hid (by
        intro p w9 hp hb9
        refine (gprobe_yes _ _ _ _ _ _ S G len p w9 rfl rfl (by omega) (by omega) (own_below hoS3 hb9) (own_below hoG hb9) (hU p hp)).mono ?_
        rintro e w' ⟨he, hbz⟩
        exact ⟨he, hb9.trans (hbz.mono hb9.size)⟩)
      have HN := Lib.hid hna3
      have HLE := Lib.hid hle
      have HOG := Lib.hid hoG
      obtain ⟨L, hL⟩ : ∃ L, L = G.length := ⟨_, rfl⟩
      rw [← hL] at HC1 HC3 HC4 HLE HOG hgl ⊢
      clear hK hU hle hprS hprG hna3 hoS3 hoG
      generalize S.length = LS at *
      have HL := Lib.hid hL
      clear hL
      go_wp2_with (go_at_call 23; refine HC1.out.mono ?_; rintro e w4 ⟨rfl, hb4⟩; refine Hid.out ?_)
      refine Lib.hid ?_
      clear HC1
      go_wp2_with fail
      go_loopw [7] (fun i wr => ∃ (k : Nat), k ≤ L ∧ i = .int .i64 k ∧ Below w3.heap.size w3 wr) (fun i _ => L - (intOf i).toNat)
      case atStart => exact ⟨0, Nat.zero_le _, rfl, hb4⟩
      case round =>
        clear hb4
        obtain ⟨k, hk, rfl, hbel⟩ := hrel
        by_cases hlt : k < L
        · have ho9 := own_below HOG.out hbel
          obtain ⟨g, rfl⟩ := own_some ho9 hlt
          have hf := flat_at G k (by have := HL.out; omega)
          have c1 := ho9.cells (g := g) rfl _ _ hf.2
          rw [Addr.add_lit, Nat.zero_add] at c1
          have hle := HLE.out k hlt
          clear hf ho9 HOG HLE HC2 HC3 HC4 HN HQ
          generalize (G.getD k (0, 0)).2 = p2 at *
          have i1 : (0 : Int) ≤ (k : Int) := by omega
          have i2 : (k : Int) < (L : Int) := by omega
          have hle2 : ¬ len < p2 := by omega
          go_wp2
          go_roundw
          case rel => exact ⟨k + 1, by omega, by go_num, hbel⟩
          case measure => simp [intOf]; omega
        · clear HOG HLE
          go_wp2_with (go_at_call 24; refine (HC3.out _ hbel).mono ?_; rintro e w5 ⟨rfl, hb5⟩; refine Hid.out ?_)
          refine Lib.hid ?_
          clear HC3 hbel
          go_wp2_with (go_at_call 24; refine (HC2.out _ hb5).mono ?_; rintro e w6 ⟨rfl, hb6⟩; refine Hid.out ?_)
          refine Lib.hid ?_
          clear HC2 hb5
          go_wp2_with (go_at_call 35; refine (HC4.out 0 _ (Int.le_refl _) hb6).mono ?_; rintro e w7 ⟨rfl, hb7⟩; refine Hid.out ?_)
          refine Lib.hid ?_
          clear hb6
          go_wp2_with (go_at_call 35; refine (HC4.out len _ hlen hb7).mono ?_; rintro e w8 ⟨rfl, hb8⟩; refine Hid.out ?_)
          refine Lib.hid ?_
          clear hb7
          go_wp2_with fail
          go_loopw [8] (fun i wr => ∃ (k : Nat), k ≤ n ∧ i = .int .i64 k ∧ Below w3.heap.size w3 wr) (fun i _ => n - (intOf i).toNat)
          case atStart => exact ⟨0, Nat.zero_le _, rfl, hb8⟩
          case round =>
            clear hb8
            obtain ⟨j, hj, rfl, hbel⟩ := hrel
            by_cases hlt2 : j < n
            · have hn9 := HN.out.on hbel
              obtain rfl := hn9.addr hlt2
              have c0 := hn9.2.1 j hlt2
              have hq := HQ.out j hlt2
              have i1 : (0 : Int) ≤ (j : Int) := by omega
              have i2 : (j : Int) < (n : Int) := by omega
              clear hn9 HN HQ
              generalize xs.getD j 0 = q at *
              have H4 := Lib.hid (HC4.out q _ hq hbel)
              clear HC4
              go_wp2_with (go_at_call 35; refine H4.out.mono ?_; rintro e w9 ⟨rfl, hb9⟩; refine Hid.out ?_)
              refine Lib.hid ?_
              clear H4
              go_wp2
              go_roundw
              case rel => exact ⟨j + 1, by omega, by go_num, hb9⟩
              case measure => simp [intOf]; omega
            · have hfin : Below w.heap.size w wr := hball.trans (hbel.mono (by omega))
              clear HC4 HN HQ
              go_wp2
              go_ret
              exact ⟨rfl, hfin⟩
end Go.Proofs.Qxb6600119a
