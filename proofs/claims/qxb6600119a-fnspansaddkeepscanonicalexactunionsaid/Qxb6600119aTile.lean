/-
  SEAT b6600119a: FnSpansGapsTileWithClip (10).
-/
import Derived.Test.Qxb6600119aEqual
namespace Go.Proofs.Qxb6600119a
open Go.RowKit Go.Shelf
attribute [local go_sem ↓] Go.wp_at_zero Go.wp_at_succ

set_option maxHeartbeats 2000000 in
set_option maxRecDepth 100000 in
theorem tile10 (a : Option Addr) (n c : Nat) (xs : List Int) (len : Int) (w : World) (hx : xs.length = n) (h0 : a = none → n = 0) (hsrc : ∀ x, a = some x → ∀ j, j < n → w.cell? (x.add j) = some (.int .u32 (xs.getD j 0)))
    (hlaw : buildL (gapsL (buildL (pairsOf xs) []) len) (clipL (buildL (pairsOf xs) []) len) = if len = 0 then [] else [(0, len)]) :
    Calls Try.prog 10 #[.slice a n c, .int .u32 len] w fun e w' => e = .returned (.bool true) ∧ Below w.heap.size w w' := by
  by_cases hbig : 1048576 < n
  · have hb : ∀ w : World, Calls Try.prog 38 #[.slice a n c, .int .u32 len] w fun e w' => e = .returned (.bool false) ∧ w = w' := by
      intro w
      go_enter Try.func38, Try.ntmps38
      go_wp2
      go_ret
      exact ⟨rfl, rfl⟩
    clear hsrc hlaw
    go_enter Try.func10, Try.ntmps10
    go_wp2_with (go_at_call 38; refine (hb _).mono ?_; rintro e w' ⟨rfl, rfl⟩)
    go_ret
    exact ⟨rfl, Below.refl _ _⟩
  · have hb : ∀ w : World, Calls Try.prog 38 #[.slice a n c, .int .u32 len] w fun e w' => e = .returned (.bool true) ∧ w = w' := by
      intro w
      clear hsrc hlaw
      have : n ≤ 1048576 := by omega
      go_enter Try.func38, Try.ntmps38
      go_wp2
      go_ret
      exact ⟨rfl, rfl⟩
    by_cases h4 : 4096 < n
    · clear hsrc hlaw
      go_enter Try.func10, Try.ntmps10
      go_wp2_with (go_at_call 38; refine (hb _).mono ?_; rintro e w' ⟨rfl, rfl⟩)
      go_ret
      exact ⟨rfl, Below.refl _ _⟩
    · have hn4 : n ≤ 4096 := by omega
      have hsl : (buildL (pairsOf xs) []).length ≤ n := by have := buildL_length (pairsOf xs) []; have := pairs_length xs; simp at *; omega
      have HB := Lib.hid hb
      have HCL := Lib.hid (clone_any a n c xs w h0 hsrc hn4)
      have HL := Lib.hid hlaw
      clear hb hsrc hlaw h0 hbig h4
      go_enter Try.func10, Try.ntmps10
      go_wp2_with (first | (go_at_call 38; refine (HB.out _).mono ?_; rintro e w' ⟨rfl, rfl⟩) | (go_at_call 21; refine HCL.out.mono ?_; rintro e w1 ⟨a1, c1, rfl, ha1, hc1, hs1, hb1⟩; refine Hid.out ?_))
      refine Lib.hid ?_
      clear HB HCL
      have HBL := Lib.hid (build_any w.heap.size n c1 a1 xs w1 hx hn4 ha1 hc1 hs1)
      clear ha1 hc1 hs1
      generalize buildL (pairsOf xs) [] = S at *
      go_wp2_with (go_at_call 22; refine HBL.out.mono ?_; rintro e w2 ⟨vS, rfl, hoS, hb2⟩; refine Hid.out ?_)
      refine Lib.hid ?_
      clear HBL
      obtain ⟨aS, cS, rfl⟩ := own_form hoS
      have HG := Lib.hid (gaps_any _ _ _ len S w2 rfl (by omega) hoS)
      go_wp2_with (go_at_call 34; refine HG.out.mono ?_; rintro e w3 ⟨vG, rfl, hoG, hb3⟩; refine Hid.out ?_)
      refine Lib.hid ?_
      clear HG
      obtain ⟨aG, cG, rfl⟩ := own_form hoG
      have hgl : (gapsL S len).length ≤ S.length + 1 := gapsFrom_length S len 0
      have hoS3 := own_below hoS hb3
      have HCP := Lib.hid (clip_any _ _ _ len S w3 rfl (by omega) hoS3)
      have hcl : (clipL S len).length ≤ S.length := by have := buildL_length (S.map fun p => (min p.1 len, min p.2 len)) []; simpa [clipL] using this
      go_wp2_with (go_at_call 37; refine HCP.out.mono ?_; rintro e w4 ⟨vC, rfl, hoC, hb4⟩; refine Hid.out ?_)
      refine Lib.hid ?_
      clear HCP
      obtain ⟨aC, cC, rfl⟩ := own_form hoC
      have z1 := hb1.size; have z2 := hb2.size; have z3 := hb3.size; have z4 := hb4.size
      have hball : Below w.heap.size w w3 := (hb1.trans (hb2.mono z1)).trans (hb3.mono (by omega))
      have hvar : VarAt w4.heap.size (.slice aC (clipL S len).length cC) (w4.alloc (.cells #[.slice aC (clipL S len).length cC] 41)) := heap_alloc_new w4 _
      have hoC5 := hoC.alloc (.cells #[.slice aC (clipL S len).length cC] 41)
      have hb5 : Below w3.heap.size w3 (w4.alloc (.cells #[.slice aC (clipL S len).length cC] 41)) := hb4.alloc z4 _
      clear hoS hoS3 hoC hb1 hb2 hb3 hb4
      generalize gapsL S len = G at *
      generalize clipL S len = C at *
      go_wp2_with fail
      go_loopw [8] (fun i wr => ∃ (k : Nat) (v : Value) (cs : Sp), k ≤ G.length ∧ i = .int .i64 k ∧ Hid (buildL (G.drop k) cs = buildL G C) ∧ cs.length ≤ C.length + k ∧ VarAt w4.heap.size v wr ∧ wr.ownsRow w3.heap.size 53 2 v cs.length (flat cs) ∧ Below w3.heap.size w3 wr) (fun i _ => G.length - (intOf i).toNat)
      case atStart => exact ⟨0, _, C, Nat.zero_le _, rfl, Lib.hid (by simp), by simp, hvar, hoC5, hb5⟩
      case round =>
        clear hvar hoC5 hb5
        obtain ⟨k, v, cs, hk, rfl, HA, hl, hP, hown, hbel⟩ := hrel
        have hoG5 := own_below hoG hbel
        have hglt := hoG.lt
        generalize hm : G.length = m at *
        by_cases hlt : k < m
        · obtain ⟨g, rfl⟩ : ∃ g, aG = some ⟨g, 0, none⟩ := by
            rcases hoG5.2 with ⟨_, h9⟩ | ⟨g, c9, cur, hv, _⟩
            · omega
            · injection hv with e1 e2 e3
              exact ⟨g, e1⟩
          have hgl5 : g < w3.heap.size := (hglt g rfl).2
          have hf := flat_at G k (by omega)
          have c0 := hoG5.cells (g := g) rfl _ _ hf.1
          have c1 := hoG5.cells (g := g) rfl _ _ hf.2
          rw [Addr.add_lit, Nat.zero_add] at c0 c1
          have hdr : G.drop k = G.getD k (0, 0) :: G.drop (k + 1) := by
            rw [List.drop_eq_getElem_cons (by omega)]; simp [List.getD_eq_getElem?_getD, show k < G.length by omega]
          have HS := HA.out
          rw [hdr] at HS
          simp only [buildL] at HS
          have HS := Lib.hid HS
          clear HA hoG5 hf hdr hoG hglt HL
          generalize (G.getD k (0, 0)).1 = p1 at *
          generalize (G.getD k (0, 0)).2 = p2 at *
          have i1 : (0 : Int) ≤ (k : Int) := by omega
          have i2 : (k : Int) < (m : Int) := by omega
          have hcon := add_any w3.heap.size w4.heap.size _ v p1 p2 cs wr.drew rfl (by omega) (show VarAt w4.heap.size v wr.drew from hP) z4 hown.drew
          have HC := Lib.hid hcon
          clear hcon
          go_wp2_with fail
          go_region_held3 (fun w' => w'.cell? ⟨g, k * 2, none⟩ = some (.int .u32 p1) ∧ w'.cell? ⟨g, k * 2 + 1, none⟩ = some (.int .u32 p2)) (first | exact ⟨(hb4.cell (p := ⟨g, k * 2, none⟩) hgl5).trans c0, (hb4.cell (p := ⟨g, k * 2 + 1, none⟩) hgl5).trans c1⟩ | exact ⟨c0, c1⟩ | go_keep) (first | (go_at_call 32; refine HC.out.mono ?_; rintro e w' ⟨rfl, v', hP4, hown4, hb4⟩))
          have hbel4 : Below w3.heap.size w3 w' := hbel.drew.trans hb4
          have hlen := addL_length cs p1 p2
          clear HC
          go_wp2
          go_roundw
          case rel => exact ⟨k + 1, v', addL cs p1 p2, by omega, by go_num, HS, by omega, hP4, hown4, hbel4⟩
          case measure => simp [intOf]; omega
        · have hE := HA.out
          rw [List.drop_of_length_le (by omega)] at hE
          simp only [buildL] at hE
          rw [← hE] at HL
          have hR := HL.out
          have pc := hP.cell
          have hfin : Below w.heap.size w wr := hball.trans (hbel.mono (by omega))
          clear HL hE HA hoG hoG5 hglt
          by_cases hz : len = 0
          · rw [if_pos hz] at hR
            subst hR
            obtain ⟨a5, c5, rfl⟩ := own_form hown
            go_wp2
            go_ret
            exact ⟨rfl, hfin⟩
          · rw [if_neg hz] at hR
            subst hR
            obtain ⟨a5, c5, rfl⟩ := own_form hown
            obtain ⟨g, rfl⟩ : ∃ g, a5 = some ⟨g, 0, none⟩ := by
              rcases hown.2 with ⟨_, h9⟩ | ⟨g, c9, cur, hv, _⟩
              · simp at h9
              · injection hv with e1 e2 e3
                exact ⟨g, e1⟩
            have c0 := hown.cells (g := g) rfl 0 _ rfl
            have c1 := hown.cells (g := g) rfl 1 _ rfl
            rw [Addr.add_lit, Nat.zero_add] at c0 c1
            clear hown
            simp only [List.length_cons, List.length_nil, Nat.zero_add] at *
            go_wp2
            go_ret
            exact ⟨rfl, hfin⟩
end Go.Proofs.Qxb6600119a
