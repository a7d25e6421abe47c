/-
  SEAT b6600045aD: THE WALK OF FnAppendEventWritesOneWellFormedRow (3): a quote.
-/
import Derived.Test.Qxb6600045aDoorWell3
namespace Go.Proofs.Qxb6600045aDoor
open Go.RowKit Go.Shelf

theorem quote_body (M x : Int) (h0 : 10800 ≤ M) (h1 : M ≤ 11200) : ∃ body, rowB M x false = body ++ [10] ∧ body.length ≤ 200 ∧ body = row7 [] quoT [] [] (bidT M x) (askT M x) [] := by
  obtain ⟨body, hb, hl⟩ := rowB_body M x false h0 h1
  exact ⟨body, hb, hl, List.append_cancel_right (hb.symm.trans (quote_row M x))⟩
theorem quote_kinds (M x : Int) : ∃ ask, (ask = M + 1 ∨ ask = M + 2) ∧ ((bidT M x = [] ∧ askT M x = priceB ask) ∨ (bidT M x = priceB M ∧ askT M x = []) ∨ (bidT M x = priceB M ∧ askT M x = priceB ask)) := by
  refine ⟨M + 1 + x / 3 % 4 / 3, by omega, ?_⟩
  unfold bidT askT
  by_cases e1 : x / 3 / 4 % 32 = 1
  · left; rw [if_pos e1, if_neg (by omega)]; exact ⟨rfl, rfl⟩
  · by_cases e0 : x / 3 / 4 % 32 = 0
    · right; left; rw [if_neg e1, if_pos e0]; exact ⟨rfl, rfl⟩
    · right; right; rw [if_neg e1, if_neg e0]; exact ⟨rfl, rfl⟩

set_option maxHeartbeats 4000000 in
set_option maxRecDepth 100000 in
theorem well_quote (r m s : Int) (ao : Option Addr) (n c : Nat) (l : List UInt8) (w : World) (hl : l.length = n) (hn : n ≤ 1048576) (hin : In w ao l) (htab : Tab w.heap.size w) :
    Calls Tryd.prog 3 #[.int .u64 r, .int .i64 m, .int .i64 s, .slice ao n c, .bool false] w fun e w' => e = .returned (.bool true) ∧ Below w.heap.size w w' := by
  have g2 : ¬ (1048576 : Int) < (n : Int) := by omega
  obtain ⟨y0, y1⟩ := midN_bd m (mixI (stp r))
  have hd := midN_step m (mixI (stp r))
  obtain ⟨body, hb, hbl, hbr⟩ : ∃ body, rowB (midN m (mixI (stp r))) (mixI (stp r)) false = body ++ [10] ∧ body.length ≤ 200 ∧ body = row7 [] quoT [] [] (bidT (midN m (mixI (stp r))) (mixI (stp r))) (askT (midN m (mixI (stp r))) (mixI (stp r))) [] := quote_body _ _ y0 y1
  have hfree := quote_free (midN m (mixI (stp r))) (mixI (stp r)) y0 y1
  obtain ⟨ask, hask, hkinds⟩ := quote_kinds (midN m (mixI (stp r))) (mixI (stp r))
  generalize bidT (midN m (mixI (stp r))) (mixI (stp r)) = bt at *
  generalize askT (midN m (mixI (stp r))) (mixI (stp r)) = at_ at *
  have hpt1 : (ask = midN m (mixI (stp r)) + 1 ∨ ask = midN m (mixI (stp r)) + 2) ∧ ((bt = [] ∧ at_ = priceB ask) ∨ (bt = priceB (midN m (mixI (stp r))) ∧ at_ = []) ∨ (bt = priceB (midN m (mixI (stp r))) ∧ at_ = priceB ask)) := ⟨hask, hkinds⟩
  have HB := Lib.hid hb
  have HR := Lib.hid hbr
  have HF := Lib.hid hfree
  have HP := Lib.hid hpt1
  clear hb hbr hfree hask hkinds hpt1
  generalize hMM : midN m (mixI (stp r)) = M at *
  go_enter Tryd.func3, Tryd.ntmps3
  go_wp2_with (go_at_call 6; refine (bytes6 _ _ _ _ _ _ _ _ (by omega)).mono ?_; rintro e w' ⟨rfl, rfl⟩; refine Hid.out ?_)
  refine Lib.hid ?_
  go_wp2_with (go_at_call 7; refine (clone_any ao n c l _ hl (by omega) hin).mono ?_; rintro e w1 ⟨a1, c1, rfl, hown1, hbel1⟩; refine Hid.out ?_)
  refine Lib.hid ?_
  go_wp2_with (go_at_call 7; refine (clone_any a1 n c1 l _ hl (by omega) (in_own hown1 hl)).mono ?_; rintro e w2 ⟨a2, c2, rfl, hown2, hbel2⟩; refine Hid.out ?_)
  refine Lib.hid ?_
  have hs1 := hbel1.size
  have hs2 := hbel2.size
  have hbel12 := hbel1.trans (hbel2.mono hs1)
  go_wp2_with (go_at_call 8; refine (zz_any w1.heap.size w2.heap.size n r m s _ (Lib.byteCells l) false _ (Gen.new 27 r m s w2) (hown2.alloc _) hs2 (by omega) (tab_up htab (hbel12.alloc (by omega) _) hs1)).mono ?_; rintro e w3 ⟨v3, rfl, hzz⟩; refine Hid.out ?_)
  refine Lib.hid ?_
  have hout : ∃ g cap, v3 = .slice (some ⟨g, 0, none⟩) (n + (body.length + 1)) cap ∧ Out w w2.heap.size g n cap r M s a1 l body w3 := by
    obtain ⟨zg, zo, zb, zk⟩ := hzz
    rw [hMM] at zg
    rw [hMM, HB.out] at zo
    obtain ⟨g, cap, hv, hcap, hpre, hsuf⟩ := out_of hl zo
    exact ⟨g, cap, hv, zg, hpre, hsuf, (in_own hown1 hl).below (hbel2.trans (((Below.refl _ _).alloc hs2 _).trans zb)), hcap, (hbel12.alloc (by omega) _).trans (zb.mono hs1)⟩
  clear hzz hown1 hown2 hbel1 hbel2 hbel12 htab hin
  obtain ⟨g, cap, rfl, hout⟩ := hout
  have HM := Lib.hid hMM
  clear hMM
  have hcap := hout.cap
  obtain ⟨K, hK⟩ : ∃ K, body.length = K := ⟨_, rfl⟩
  rw [hK] at hcap hbl ⊢
  have HK := Lib.hid hK
  clear hK
  have c1 := hout.gen.c1; have c2 := hout.gen.c2
  have q1 : ¬ cap = 0 := by omega
  have q3 : ¬ cap = n := by omega
  have hlast : w3.cell? ⟨g, n + K, none⟩ = some (.int .u8 10) := by
    have h9 := hout.suf K (by rw [List.length_append, HK.out]; simp)
    rw [h9, ← HK.out]
    simp [List.getD_eq_getElem?_getD]
  have q2 : ¬ ((n : Int) + ((K : Int) + 1) ≤ (n : Int)) := by omega
  go_upto_region 15 with (go_at_call 9; refine (equal_any g 0 n cap _ a1 l _ hl (by omega) hout.pre hout.line).mono ?_; rintro e w4 ⟨rfl, q, rfl⟩)
  go_cut [81] (fun v w' => ∃ inB : Bool, v = .bool inB ∧ (inB = true → 10800 ≤ m ∧ m ≤ 11200) ∧ w' = w3.drewN q)
  case first =>
    by_cases hlo : 10800 ≤ m
    · by_cases hhi : m ≤ 11200
      · go_wp2
        go_meet
        case rel => exact ⟨true, rfl, fun _ => ⟨hlo, hhi⟩, rfl⟩
      · go_wp2
        go_meet
        case rel => exact ⟨false, rfl, fun e => absurd e (by decide), rfl⟩
    · go_wp2
      go_meet
      case rel => exact ⟨false, rfl, fun e => absurd e (by decide), rfl⟩
  obtain ⟨inB, rfl, hib, rfl⟩ := hcut
  go_upto_if 81 with fail
  go_cut [14] (fun d w' => w' = w3.drewN q)
  case first =>
    cases inB
    · go_wp2
      go_meet
      case rel => rfl
    · obtain ⟨b0, b1⟩ := hib rfl
      obtain ⟨d1, d2⟩ := hd b0 b1
      go_wp2
      go_meet
      case rel => rfl
  obtain rfl := hcut
  clear hib hd
  have hbd : Bd g n K (cap - n) [] quoT [] [] bt at_ [] w3 := by
    have hc9 := hout.suf
    have hk9 := HK.out
    rw [HR.out] at hc9 hk9
    exact ⟨by have := Cs.mid (p := []) (q := [10]) (by simpa using hc9); simpa using this, hk9, by omega, by omega, HF.out⟩
  have hfin : ∀ q, Below w.heap.size w (w3.drewN q) := fun q => below_drewN hout.bel q
  clear hout HB HR HF HK
  obtain ⟨o0, k0, hf0, _⟩ := (hbd.drewN q).f0 (L := 0) rfl
  obtain ⟨o1, k1, hf1, hcs1⟩ := (hbd.drewN q).f1 (L := 5) rfl
  go_wp2_with fail
  refine (hbd.drewN q).has10.mono ?_
  rintro e w5 ⟨rfl, rfl⟩
  go_wp2_with fail
  refine (hbd.drewN q).has34.mono ?_
  rintro e w5 ⟨rfl, rfl⟩
  go_wp2_with fail
  refine (hbd.drewN q).count.mono ?_
  rintro e w5 ⟨rfl, rfl⟩
  go_wp2_with fail
  refine hf0.mono ?_
  rintro e w5 ⟨rfl, rfl⟩
  go_wp2_with fail
  refine hf1.mono ?_
  rintro e w5 ⟨rfl, rfl⟩
  go_wp2_with fail
  refine (text_yes g o1 5 k1 ⟨#[113, 117, 111, 116, 101]⟩ _ rfl (by decide) hcs1).mono ?_
  rintro e w5 ⟨rfl, q', rfl⟩
  clear hf0 hf1 hcs1
  obtain ⟨o2, k2, hf2, _⟩ := (hbd.drewN (q + q')).f2 (L := 0) rfl
  obtain ⟨o3, k3, hf3, _⟩ := (hbd.drewN (q + q')).f3 (L := 0) rfl
  obtain ⟨o6, k6, hf6, _⟩ := (hbd.drewN (q + q')).f6 (L := 0) rfl
  go_wp2_with fail
  refine hf2.mono ?_
  rintro e w5 ⟨rfl, rfl⟩
  go_wp2_with fail
  refine hf3.mono ?_
  rintro e w5 ⟨rfl, rfl⟩
  go_wp2_with fail
  refine hf6.mono ?_
  rintro e w5 ⟨rfl, rfl⟩
  clear hf2 hf3 hf6
  go_wp2_with fail
  obtain ⟨hask, hkinds⟩ := HP.out
  have HA : Hid ((25 * ask != 25 * M + 25) = false ∨ ((25 * ask != 25 * M + 25) = true ∧ (25 * ask != 25 * M + 50) = false)) := by
    rcases hask with h | h
    · left; rw [h]; simp; omega
    · right; rw [h]; exact ⟨by rw [bne_iff_ne]; omega, by simp; omega⟩
  have b1 : 10800 ≤ ask := by omega
  have b2 : ask ≤ 11300 := by omega
  have hL7 := price_len ask b1 b2
  have hM7 := price_len M (by omega) (by omega)
  clear HP hask
  rcases hkinds with ⟨rfl, rfl⟩ | ⟨rfl, rfl⟩ | ⟨rfl, rfl⟩
  · -- an ask alone
    obtain ⟨o4, k4, hf4, _⟩ := (hbd.drewN (q + q')).f4 (L := 0) rfl
    obtain ⟨o5, k5, hf5, hcs5⟩ := (hbd.drewN (q + q')).f5 hL7
    clear hbd hL7 hM7
    refine hf4.mono ?_
    rintro e w5 ⟨rfl, rfl⟩
    go_wp2_with fail
    refine hf5.mono ?_
    rintro e w5 ⟨rfl, rfl⟩
    clear hf4 hf5
    go_wp2_with fail
    refine (cents_any g o5 k5 ask _ b1 b2 hcs5).mono ?_
    rintro e w5 ⟨rfl, rfl⟩
    clear hcs5
    rcases HA.out with hq1 | ⟨hq1, hq2⟩
    all_goals
      go_wp2
      go_ret
      exact ⟨rfl, hfin _⟩
  · -- a bid alone
    obtain ⟨o4, k4, hf4, hcs4⟩ := (hbd.drewN (q + q')).f4 hM7
    obtain ⟨o5, k5, hf5, _⟩ := (hbd.drewN (q + q')).f5 (L := 0) rfl
    clear hbd hL7 hM7 HA
    refine hf4.mono ?_
    rintro e w5 ⟨rfl, rfl⟩
    go_wp2_with fail
    refine hf5.mono ?_
    rintro e w5 ⟨rfl, rfl⟩
    clear hf4 hf5
    go_wp2_with fail
    refine (cents_any g o4 k4 M _ (by omega) (by omega) hcs4).mono ?_
    rintro e w5 ⟨rfl, rfl⟩
    clear hcs4
    go_wp2
    go_ret
    exact ⟨rfl, hfin _⟩
  · -- both
    obtain ⟨o4, k4, hf4, hcs4⟩ := (hbd.drewN (q + q')).f4 hM7
    obtain ⟨o5, k5, hf5, hcs5⟩ := (hbd.drewN (q + q')).f5 hL7
    clear hbd hL7 hM7
    refine hf4.mono ?_
    rintro e w5 ⟨rfl, rfl⟩
    go_wp2_with fail
    refine hf5.mono ?_
    rintro e w5 ⟨rfl, rfl⟩
    clear hf4 hf5
    go_wp2_with fail
    refine (cents_any g o4 k4 M _ (by omega) (by omega) hcs4).mono ?_
    rintro e w5 ⟨rfl, rfl⟩
    clear hcs4
    go_wp2_with fail
    refine (cents_any g o5 k5 ask _ b1 b2 hcs5).mono ?_
    rintro e w5 ⟨rfl, rfl⟩
    clear hcs5
    rcases HA.out with hq1 | ⟨hq1, hq2⟩
    all_goals
      go_wp2
      go_ret
      exact ⟨rfl, hfin _⟩
end Go.Proofs.Qxb6600045aDoor
