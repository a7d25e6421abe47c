/-
  SEAT b6600045aD: (*generator).appendEvent (19).
-/
import Derived.Test.Qxb6600045aDoorLine
import Derived.Deep.QuietTactic
import Derived.BigQuiet
import Derived.BigRegion
namespace Go.Proofs.Qxb6600045aDoor
open Go.RowKit Go.Shelf

/-- The new mid, off the old one and the number drawn. -/
def midN (m x : Int) : Int := min (max (wrap64 (m + (x % 3 - 1))) 10800) 11200
theorem midN_bd (m x : Int) : 10800 ≤ midN m x ∧ midN m x ≤ 11200 := by unfold midN; omega
def tradeB (M x : Int) : List UInt8 := [44, 116, 114, 97, 100, 101, 44] ++ priceB (M + x / 3 / 4 % 2) ++ [44] ++ Lib.decDigits (1 + x / 3 / 4 / 2 % 20).toNat ++ [44, 44, 44, 10]
def quoteB (M x : Int) : List UInt8 :=
  if x / 3 / 4 % 32 = 0 then [44, 113, 117, 111, 116, 101, 44, 44, 44] ++ priceB M ++ [44, 44, 10]
  else if x / 3 / 4 % 32 = 1 then [44, 113, 117, 111, 116, 101, 44, 44, 44] ++ [44] ++ priceB (M + 1 + x / 3 % 4 / 3) ++ [44, 10]
  else [44, 113, 117, 111, 116, 101, 44, 44, 44] ++ priceB M ++ [44] ++ priceB (M + 1 + x / 3 % 4 / 3) ++ [44, 10]
/-- The generator's block and the line's row are two. -/
theorem own_set {w : World} {B n g : Nat} {v : Value} {xs : List Value} {r m s : Int} (h : w.ownsRow B 5 1 v n xs) (hg : Gen 42 g r m s w) (o : Nat) (u : Value) : (w.setCell ⟨g, o, none⟩ u).ownsRow B 5 1 v n xs := by
  refine h.kept (row := some g) ⟨rfl, rfl, rfl, by simp [World.setCell], fun k _ hk => Below.heap_setCell _ _ _ _ (fun e => hk (by rw [e]))⟩ ?_
  cases hv : v.ownBlock with
  | none => exact .inl rfl
  | some k =>
    refine .inr (fun e => ?_)
    obtain ⟨c, fz, hc⟩ := Lib.ownsRow_kind h k hv
    injection e with e
    subst e
    rw [hg.obj] at hc
    injection hc with hc
    injection hc with _ hc
    exact absurd hc (by decide)

/-- WHAT appendEvent LEAVES: the counter stepped, the mid moved and clipped, the row's rest behind the line. -/
structure Ev (B g n : Nat) (r m s : Int) (xs : List Value) (l : List UInt8) (w w' : World) (v' : Value) : Prop where
  gen : Gen 42 g (stp r) (midN m (mixI (stp r))) s w'
  own : w'.ownsRow B 5 1 v' (n + l.length) (xs ++ Lib.byteCells l)
  bel : Below B w w'
  oth : Lib.OthersKept 5 (some g) w w'

/-- The world behind the generator's own writes. -/
def evW (g : Nat) (r m : Int) (w : World) (q : Nat) : World :=
  (((w.setCell ⟨g, 0, none⟩ (.int .u64 (stp r))).setCell ⟨g, 1, none⟩ (.int .i64 (wrap64 (m + (mixI (stp r) % 3 - 1))))).setCell ⟨g, 1, none⟩ (.int .i64 (midN m (mixI (stp r))))).drewN q
theorem drewN_heap (w : World) (q : Nat) : (w.drewN q).heap = w.heap := by
  induction q generalizing w with
  | zero => rfl
  | succ q ih => rfl
theorem evW_gen {g : Nat} {r m s : Int} {w : World} (hg : Gen 42 g r m s w) (q : Nat) : Gen 42 g (stp r) (midN m (mixI (stp r))) s (evW g r m w q) :=
  ⟨(((hg.set0 _).set1 _).set1 _).obj⟩
theorem evW_bel {B g : Nat} {r m : Int} {w : World} (hB : B ≤ g) (q : Nat) : Below B w (evW g r m w q) :=
  below_drewN ((((Below.refl B w).setCell hB _).setCell hB _).setCell hB _) q
theorem evW_oth {g : Nat} {r m : Int} {w : World} (q : Nat) : Lib.OthersKept 5 (some g) w (evW g r m w q) :=
  (((Lib.OthersKept.refl 5 (some g) w).setCell ⟨g, 0, none⟩ rfl _).setCell ⟨g, 1, none⟩ rfl _).setCell ⟨g, 1, none⟩ rfl _
theorem evW_own {B n g : Nat} {r m s : Int} {w : World} {v : Value} {xs : List Value} (h : w.ownsRow B 5 1 v n xs) (hg : Gen 42 g r m s w) (q : Nat) : (evW g r m w q).ownsRow B 5 1 v n xs :=
  own_set (own_set (own_set h hg _ _) (hg.set0 _) _ _) ((hg.set0 _).set1 _) _ _
theorem evW_ln {B n g : Nat} {r m s : Int} {w : World} {v : Value} {xs : List Value} (h : w.ownsRow B 5 1 v n xs) (hg : Gen 42 g r m s w) (hB : B ≤ g) (htab : Tab B w) (hlim : n ≤ 100000000) (q : Nat) :
    Ln B (evW g r m w q) n xs 0 [] v (evW g r m w q) :=
  Ln.start (evW_own h hg q) (by have := (evW_gen hg q).lt; omega) (htab.on (evW_bel hB q)) hlim
theorem ev_of {B g n : Nat} {r m s : Int} {xs : List Value} {l : List UInt8} {w w' : World} {v' : Value} {q k : Nat} (hg : Gen 42 g r m s w) (hB : B ≤ g) (h : Ln B (evW g r m w q) n xs k l v' w') : Ev B g n r m s xs l w w' v' :=
  ⟨(evW_gen hg q).kept (by decide) h.oth (by simp), h.own, (evW_bel hB q).trans h.bel, (evW_oth q).trans (fun k o hk _ ho => h.oth k o hk (by simp) ho)⟩

set_option maxHeartbeats 4000000 in
set_option maxRecDepth 100000 in
theorem event_trade (B g n : Nat) (r m s : Int) (sv : Value) (xs : List Value) (w : World) (hg : Gen 42 g r m s w) (hown : w.ownsRow B 5 1 sv n xs) (hBg : B ≤ g) (hlim : n ≤ 100000000)
    (htab : Tab B w) :
    Calls Tryd.prog 19 #[.pointer (some ⟨g, 0, none⟩), sv, .bool true] w fun e w' => ∃ v', e = .returned v' ∧ Ev B g n r m s xs (tradeB (midN m (mixI (stp r))) (mixI (stp r))) w w' v' := by
  have h0 := hg.c0; have h1 := hg.c1; have h2 := hg.c2; have f0 := hg.fz 0; have f1 := hg.fz 1; have f2 := hg.fz 2; have hb := hg.lt
  obtain ⟨x0, x1⟩ := mix_word (stp r)
  obtain ⟨y0, y1⟩ := midN_bd m (mixI (stp r))
  have hM : min (max (wrap64 (m + (mixI (stp r) % 3 - 1))) 10800) 11200 = midN m (mixI (stp r)) := rfl
  go_enter Tryd.func19, Tryd.ntmps19
  go_wp2_with (go_at_call 20; refine (next_any _ r _ h0 f0).mono ?_; rintro e w' ⟨rfl, rfl⟩; refine Hid.out ?_)
  refine Lib.hid ?_
  go_wp2_with fail
  have q1 : (((w.setCell ⟨g, 0, none⟩ (.int .u64 (stp r))).setCell ⟨g, 1, none⟩ (.int .i64 (wrap64 (m + (mixI (stp r) % 3 - 1))))).setCell ⟨g, 1, none⟩ (.int .i64 (midN m (mixI (stp r))))).cell? ⟨g, 1, none⟩ = some (.int .i64 (midN m (mixI (stp r)))) := (evW_gen hg 0).c1
  go_quiet (fail)
  have hln := evW_ln hown hg hBg htab hlim nq
  have hend : ∀ k l v' w', Ln B (evW g r m w nq) n xs k l v' w' → Ev B g n r m s xs l w w' v' := fun k l v' w' h => ev_of hg hBg h
  clear h0 h1 h2 f0 f1 f2 q1 hg hown htab
  change Exit.then _ _ _ _ (evW g r m w nq)
  generalize evW g r m w nq = W at hln hend ⊢
  go_wp2_with (at_builtin; refine wp_ln_str rfl _ _ rfl rfl hln [44, 116, 114, 97, 100, 101, 44] rfl 7 rfl (by decide) ?_)
  intro v1 w1 b1 e1 hln1
  go_wp2_with (go_at_call 21; refine (ln_price hln1 (midN m (mixI (stp r)) + mixI (stp r) / 3 / 4 % 2) (by omega) (by omega) (by decide)).mono ?_; rintro e w2 ⟨v2, b2, rfl, e2, hln2⟩; refine Hid.out ?_)
  refine Lib.hid ?_
  go_wp2_with (at_builtin; refine wp_ln_byte rfl _ _ rfl rfl hln2 44 rfl (by decide) ?_)
  intro v3 w3 b3 e3 hln3
  go_wp2_with (go_at_call 22; refine (ln_uint hln3 (1 + mixI (stp r) / 3 / 4 / 2 % 20) (by omega) (by omega) (by decide)).mono ?_; rintro e w4 ⟨v4, b4, rfl, e4, hln4⟩; refine Hid.out ?_)
  refine Lib.hid ?_
  go_wp2_with (at_builtin; refine wp_ln_str rfl _ _ rfl rfl hln4 [44, 44, 44, 10] rfl 4 rfl (by decide) ?_)
  intro v5 w5 b5 e5 hln5
  have hfin : Ev B g n r m s xs (tradeB (midN m (mixI (stp r))) (mixI (stp r))) w w5 v5 := by
    have h9 := hend _ _ _ _ hln5
    rw [e5.out, e4.out, e3.out, e2.out, e1.out] at h9
    exact h9
  clear hln hln1 hln2 hln3 hln4 hln5 hend e1 e2 e3 e4 e5
  go_wp2
  go_ret
  exact ⟨v5, rfl, hfin⟩

set_option maxHeartbeats 4000000 in
set_option maxRecDepth 100000 in
theorem event_quote0 (B g n : Nat) (r m s : Int) (sv : Value) (xs : List Value) (w : World) (hg : Gen 42 g r m s w) (hown : w.ownsRow B 5 1 sv n xs) (hBg : B ≤ g) (hlim : n ≤ 100000000)
    (htab : Tab B w) (hq : (mixI (stp r) / 3 / 4 % 32 == 0) = true) :
    Calls Tryd.prog 19 #[.pointer (some ⟨g, 0, none⟩), sv, .bool false] w fun e w' => ∃ v', e = .returned v' ∧ Ev B g n r m s xs (quoteB (midN m (mixI (stp r))) (mixI (stp r))) w w' v' := by
  have h0 := hg.c0; have h1 := hg.c1; have h2 := hg.c2; have f0 := hg.fz 0; have f1 := hg.fz 1; have f2 := hg.fz 2; have hb := hg.lt
  obtain ⟨x0, x1⟩ := mix_word (stp r)
  obtain ⟨y0, y1⟩ := midN_bd m (mixI (stp r))
  have hM : min (max (wrap64 (m + (mixI (stp r) % 3 - 1))) 10800) 11200 = midN m (mixI (stp r)) := rfl
  go_enter Tryd.func19, Tryd.ntmps19
  go_wp2_with (go_at_call 20; refine (next_any _ r _ h0 f0).mono ?_; rintro e w' ⟨rfl, rfl⟩; refine Hid.out ?_)
  refine Lib.hid ?_
  go_wp2_with fail
  have q1 : (((w.setCell ⟨g, 0, none⟩ (.int .u64 (stp r))).setCell ⟨g, 1, none⟩ (.int .i64 (wrap64 (m + (mixI (stp r) % 3 - 1))))).setCell ⟨g, 1, none⟩ (.int .i64 (midN m (mixI (stp r))))).cell? ⟨g, 1, none⟩ = some (.int .i64 (midN m (mixI (stp r)))) := (evW_gen hg 0).c1
  go_quiet (fail)
  have hln := evW_ln hown hg hBg htab hlim nq
  have hend : ∀ k l v' w', Ln B (evW g r m w nq) n xs k l v' w' → Ev B g n r m s xs l w w' v' := fun k l v' w' h => ev_of hg hBg h
  clear h0 h1 h2 f0 f1 f2 q1 hg hown htab
  change Exit.then _ _ _ _ (evW g r m w nq)
  generalize evW g r m w nq = W at hln hend ⊢
  go_wp2_with (at_builtin; refine wp_ln_str rfl _ _ rfl rfl hln [44, 113, 117, 111, 116, 101, 44, 44, 44] rfl 9 rfl (by decide) ?_)
  intro v1 w1 b1 e1 hln1
  go_wp2_with (go_at_call 21; refine (ln_price hln1 (midN m (mixI (stp r))) (by omega) (by omega) (by decide)).mono ?_; rintro e w2 ⟨v2, b2, rfl, e2, hln2⟩; refine Hid.out ?_)
  refine Lib.hid ?_
  go_wp2_with (at_builtin; refine wp_ln_str rfl _ _ rfl rfl hln2 [44, 44, 10] rfl 3 rfl (by decide) ?_)
  intro v3 w3 b3 e3 hln3
  have hfin : Ev B g n r m s xs (quoteB (midN m (mixI (stp r))) (mixI (stp r))) w w3 v3 := by
    have h9 := hend _ _ _ _ hln3
    rw [e3.out, e2.out, e1.out] at h9
    unfold quoteB
    rw [if_pos (by simpa using hq)]
    exact h9
  clear hln hln1 hln2 hln3 e1 e2 e3 hend
  go_wp2
  go_ret
  exact ⟨v3, rfl, hfin⟩

set_option maxHeartbeats 4000000 in
set_option maxRecDepth 100000 in
theorem event_quote1 (B g n : Nat) (r m s : Int) (sv : Value) (xs : List Value) (w : World) (hg : Gen 42 g r m s w) (hown : w.ownsRow B 5 1 sv n xs) (hBg : B ≤ g) (hlim : n ≤ 100000000)
    (htab : Tab B w) (hq0 : (mixI (stp r) / 3 / 4 % 32 == 0) = false) (hq : (mixI (stp r) / 3 / 4 % 32 == 1) = true) :
    Calls Tryd.prog 19 #[.pointer (some ⟨g, 0, none⟩), sv, .bool false] w fun e w' => ∃ v', e = .returned v' ∧ Ev B g n r m s xs (quoteB (midN m (mixI (stp r))) (mixI (stp r))) w w' v' := by
  have h0 := hg.c0; have h1 := hg.c1; have h2 := hg.c2; have f0 := hg.fz 0; have f1 := hg.fz 1; have f2 := hg.fz 2; have hb := hg.lt
  obtain ⟨x0, x1⟩ := mix_word (stp r)
  obtain ⟨y0, y1⟩ := midN_bd m (mixI (stp r))
  have hM : min (max (wrap64 (m + (mixI (stp r) % 3 - 1))) 10800) 11200 = midN m (mixI (stp r)) := rfl
  go_enter Tryd.func19, Tryd.ntmps19
  go_wp2_with (go_at_call 20; refine (next_any _ r _ h0 f0).mono ?_; rintro e w' ⟨rfl, rfl⟩; refine Hid.out ?_)
  refine Lib.hid ?_
  go_wp2_with fail
  have q1 : (((w.setCell ⟨g, 0, none⟩ (.int .u64 (stp r))).setCell ⟨g, 1, none⟩ (.int .i64 (wrap64 (m + (mixI (stp r) % 3 - 1))))).setCell ⟨g, 1, none⟩ (.int .i64 (midN m (mixI (stp r))))).cell? ⟨g, 1, none⟩ = some (.int .i64 (midN m (mixI (stp r)))) := (evW_gen hg 0).c1
  go_quiet (fail)
  have hln := evW_ln hown hg hBg htab hlim nq
  have hend : ∀ k l v' w', Ln B (evW g r m w nq) n xs k l v' w' → Ev B g n r m s xs l w w' v' := fun k l v' w' h => ev_of hg hBg h
  clear h0 h1 h2 f0 f1 f2 q1 hg hown htab
  change Exit.then _ _ _ _ (evW g r m w nq)
  generalize evW g r m w nq = W at hln hend ⊢
  go_wp2_with (at_builtin; refine wp_ln_str rfl _ _ rfl rfl hln [44, 113, 117, 111, 116, 101, 44, 44, 44] rfl 9 rfl (by decide) ?_)
  intro v1 w1 b1 e1 hln1
  go_wp2_with (at_builtin; refine wp_ln_byte rfl _ _ rfl rfl hln1 44 rfl (by decide) ?_)
  intro v2 w2 b2 e2 hln2
  go_wp2_with (go_at_call 21; refine (ln_price hln2 (midN m (mixI (stp r)) + 1 + mixI (stp r) / 3 % 4 / 3) (by omega) (by omega) (by decide)).mono ?_; rintro e w3 ⟨v3, b3, rfl, e3, hln3⟩; refine Hid.out ?_)
  refine Lib.hid ?_
  go_wp2_with (at_builtin; refine wp_ln_str rfl _ _ rfl rfl hln3 [44, 10] rfl 2 rfl (by decide) ?_)
  intro v4 w4 b4 e4 hln4
  have hfin : Ev B g n r m s xs (quoteB (midN m (mixI (stp r))) (mixI (stp r))) w w4 v4 := by
    have h9 := hend _ _ _ _ hln4
    rw [e4.out, e3.out, e2.out, e1.out] at h9
    unfold quoteB
    rw [if_neg (by simpa using hq0), if_pos (by simpa using hq)]
    exact h9
  clear hln hln1 hln2 hln3 hln4 e1 e2 e3 e4 hend
  go_wp2
  go_ret
  exact ⟨v4, rfl, hfin⟩

set_option maxHeartbeats 4000000 in
set_option maxRecDepth 100000 in
theorem event_quote2 (B g n : Nat) (r m s : Int) (sv : Value) (xs : List Value) (w : World) (hg : Gen 42 g r m s w) (hown : w.ownsRow B 5 1 sv n xs) (hBg : B ≤ g) (hlim : n ≤ 100000000)
    (htab : Tab B w) (hq0 : (mixI (stp r) / 3 / 4 % 32 == 0) = false) (hq : (mixI (stp r) / 3 / 4 % 32 == 1) = false) :
    Calls Tryd.prog 19 #[.pointer (some ⟨g, 0, none⟩), sv, .bool false] w fun e w' => ∃ v', e = .returned v' ∧ Ev B g n r m s xs (quoteB (midN m (mixI (stp r))) (mixI (stp r))) w w' v' := by
  have h0 := hg.c0; have h1 := hg.c1; have h2 := hg.c2; have f0 := hg.fz 0; have f1 := hg.fz 1; have f2 := hg.fz 2; have hb := hg.lt
  obtain ⟨x0, x1⟩ := mix_word (stp r)
  obtain ⟨y0, y1⟩ := midN_bd m (mixI (stp r))
  have hM : min (max (wrap64 (m + (mixI (stp r) % 3 - 1))) 10800) 11200 = midN m (mixI (stp r)) := rfl
  go_enter Tryd.func19, Tryd.ntmps19
  go_wp2_with (go_at_call 20; refine (next_any _ r _ h0 f0).mono ?_; rintro e w' ⟨rfl, rfl⟩; refine Hid.out ?_)
  refine Lib.hid ?_
  go_wp2_with fail
  have q1 : (((w.setCell ⟨g, 0, none⟩ (.int .u64 (stp r))).setCell ⟨g, 1, none⟩ (.int .i64 (wrap64 (m + (mixI (stp r) % 3 - 1))))).setCell ⟨g, 1, none⟩ (.int .i64 (midN m (mixI (stp r))))).cell? ⟨g, 1, none⟩ = some (.int .i64 (midN m (mixI (stp r)))) := (evW_gen hg 0).c1
  go_quiet (fail)
  have hln := evW_ln hown hg hBg htab hlim nq
  have hend : ∀ k l v' w', Ln B (evW g r m w nq) n xs k l v' w' → Ev B g n r m s xs l w w' v' := fun k l v' w' h => ev_of hg hBg h
  clear h0 h1 h2 f0 f1 f2 q1 hg hown htab
  change Exit.then _ _ _ _ (evW g r m w nq)
  generalize evW g r m w nq = W at hln hend ⊢
  go_wp2_with (at_builtin; refine wp_ln_str rfl _ _ rfl rfl hln [44, 113, 117, 111, 116, 101, 44, 44, 44] rfl 9 rfl (by decide) ?_)
  intro v1 w1 b1 e1 hln1
  go_wp2_with (go_at_call 21; refine (ln_price hln1 (midN m (mixI (stp r))) (by omega) (by omega) (by decide)).mono ?_; rintro e w2 ⟨v2, b2, rfl, e2, hln2⟩; refine Hid.out ?_)
  refine Lib.hid ?_
  go_wp2_with (at_builtin; refine wp_ln_byte rfl _ _ rfl rfl hln2 44 rfl (by decide) ?_)
  intro v3 w3 b3 e3 hln3
  go_wp2_with (go_at_call 21; refine (ln_price hln3 (midN m (mixI (stp r)) + 1 + mixI (stp r) / 3 % 4 / 3) (by omega) (by omega) (by decide)).mono ?_; rintro e w4 ⟨v4, b4, rfl, e4, hln4⟩; refine Hid.out ?_)
  refine Lib.hid ?_
  go_wp2_with (at_builtin; refine wp_ln_str rfl _ _ rfl rfl hln4 [44, 10] rfl 2 rfl (by decide) ?_)
  intro v5 w5 b5 e5 hln5
  have hfin : Ev B g n r m s xs (quoteB (midN m (mixI (stp r))) (mixI (stp r))) w w5 v5 := by
    have h9 := hend _ _ _ _ hln5
    rw [e5.out, e4.out, e3.out, e2.out, e1.out] at h9
    unfold quoteB
    rw [if_neg (by simpa using hq0), if_neg (by simpa using hq)]
    exact h9
  clear hln hln1 hln2 hln3 hln4 hln5 e1 e2 e3 e4 e5 hend
  go_wp2
  go_ret
  exact ⟨v5, rfl, hfin⟩

/-- The row's rest. -/
def rowB (M x : Int) (tr : Bool) : List UInt8 := if tr then tradeB M x else quoteB M x
theorem event_any (B g n : Nat) (r m s : Int) (sv : Value) (xs : List Value) (tr : Bool) (w : World) (hg : Gen 42 g r m s w) (hown : w.ownsRow B 5 1 sv n xs) (hBg : B ≤ g) (hlim : n ≤ 100000000)
    (htab : Tab B w) :
    Calls Tryd.prog 19 #[.pointer (some ⟨g, 0, none⟩), sv, .bool tr] w fun e w' => ∃ v', e = .returned v' ∧ Ev B g n r m s xs (rowB (midN m (mixI (stp r))) (mixI (stp r)) tr) w w' v' := by
  have q1 : ∀ (M x : Int), rowB M x true = tradeB M x := fun _ _ => rfl
  have q2 : ∀ (M x : Int), rowB M x false = quoteB M x := fun _ _ => rfl
  cases tr with
  | true =>
    refine (event_trade B g n r m s sv xs w hg hown hBg hlim htab).mono ?_
    rintro e w' ⟨v', h1, h2⟩
    refine ⟨v', h1, ?_⟩
    rw [q1]; exact h2
  | false =>
    by_cases h0 : mixI (stp r) / 3 / 4 % 32 = 0
    · refine (event_quote0 B g n r m s sv xs w hg hown hBg hlim htab (by simpa using h0)).mono ?_
      rintro e w' ⟨v', h1, h2⟩
      refine ⟨v', h1, ?_⟩
      rw [q2]; exact h2
    · by_cases h1 : mixI (stp r) / 3 / 4 % 32 = 1
      · refine (event_quote1 B g n r m s sv xs w hg hown hBg hlim htab (by simpa using h0) (by simpa using h1)).mono ?_
        rintro e w' ⟨v', h1, h2⟩
        refine ⟨v', h1, ?_⟩
        rw [q2]; exact h2
      · refine (event_quote2 B g n r m s sv xs w hg hown hBg hlim htab (by simpa using h0) (by simpa using h1)).mono ?_
        rintro e w' ⟨v', h1, h2⟩
        refine ⟨v', h1, ?_⟩
        rw [q2]; exact h2
end Go.Proofs.Qxb6600045aDoor
