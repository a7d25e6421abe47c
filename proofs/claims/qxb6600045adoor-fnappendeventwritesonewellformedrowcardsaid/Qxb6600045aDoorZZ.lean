/-
  SEAT b6600045aD: ZZAppendEvent (8).
-/
import Derived.Test.Qxb6600045aDoorEvent
namespace Go.Proofs.Qxb6600045aDoor
open Go.RowKit Go.Shelf

/-- WHAT ZZAppendEvent LEAVES of the ZZGen in block b and of the line. -/
structure Zz (B b n : Nat) (r m s : Int) (xs : List Value) (l : List UInt8) (w w' : World) (v' : Value) : Prop where
  gen : Gen 27 b (stp r) (midN m (mixI (stp r))) s w'
  own : w'.ownsRow B 5 1 v' (n + l.length) (xs ++ Lib.byteCells l)
  bel : Below B w w'
  oth : Lib.OthersKept 5 (some b) w w'

theorem own_set27 {w : World} {B n g : Nat} {v : Value} {xs : List Value} {r m s : Int} (h : w.ownsRow B 5 1 v n xs) (hg : Gen 27 g r m s w) (o : Nat) (u : Value) : (w.setCell ⟨g, o, none⟩ u).ownsRow B 5 1 v n xs := by
  refine h.kept (row := some g) ⟨rfl, rfl, rfl, by simp [World.setCell], fun k _ hk => Below.heap_setCell _ _ _ _ (fun e => hk (by rw [e]))⟩ ?_
  cases hv : v.ownBlock with
  | none => exact .inl rfl
  | some k =>
    refine .inr (fun e => ?_)
    obtain ⟨c, fz, hc⟩ := Lib.ownsRow_kind h k hv
    injection e with e
    subst e
    rw [hg.obj] at hc
    injection hc with hc
    injection hc with _ hc
    exact absurd hc (by decide)

theorem oth_weaken {w0 w w' : World} {g b : Nat} (h0 : Lib.OthersKept 5 (some b) w0 w) (hlt : w0.heap.size ≤ g) (h : Lib.OthersKept 5 (some g) w w') : Lib.OthersKept 5 (some b) w0 w' :=
  fun k o hk hb ho => h k o (h0 k o hk hb ho) (by
    have := (Array.getElem?_eq_some_iff.1 hk).1
    intro e; injection e; omega) ho

set_option maxHeartbeats 1000000 in
set_option maxRecDepth 100000 in
theorem zz_any (B b n : Nat) (r m s : Int) (sv : Value) (xs : List Value) (tr : Bool) (w : World) (hg : Gen 27 b r m s w) (hown : w.ownsRow B 5 1 sv n xs) (hBb : B ≤ b) (hlim : n ≤ 100000000)
    (htab : Tab B w) :
    Calls Tryd.prog 8 #[.pointer (some ⟨b, 0, none⟩), sv, .bool tr] w fun e w' => ∃ v', e = .returned v' ∧ Zz B b n r m s xs (rowB (midN m (mixI (stp r))) (mixI (stp r)) tr) w w' v' := by
  have h0 := hg.c0; have h1 := hg.c1; have h2 := hg.c2; have f0 := hg.fz 0; have f1 := hg.fz 1; have f2 := hg.fz 2; have hb := hg.lt
  have hB : B ≤ w.heap.size := by omega
  go_enter Tryd.func8, Tryd.ntmps8
  go_wp2
  go_region
  have hg1 : Gen 42 w.heap.size r m s (w.alloc (genObj 42 r m s)).drew := (Gen.new 42 r m s w).drew
  have hg2 : Gen 27 b r m s (w.alloc (genObj 42 r m s)).drew := (hg.alloc _).drew
  have hown1 : (w.alloc (genObj 42 r m s)).drew.ownsRow B 5 1 sv n xs := (hown.alloc _).drew
  have hbel1 : Below B w (w.alloc (genObj 42 r m s)).drew := ((Below.refl B w).alloc hB _).drew
  have hoth1 : Lib.OthersKept 5 (some b) w (w.alloc (genObj 42 r m s)).drew := ((Lib.OthersKept.refl 5 (some b) w).alloc _).drew
  have ht1 := htab.on hbel1
  have hsz : w.heap.size < (w.alloc (genObj 42 r m s)).drew.heap.size := hg1.lt
  change Exit.then _ _ _ _ (w.alloc (genObj 42 r m s)).drew
  generalize (w.alloc (genObj 42 r m s)).drew = W at hg1 hg2 hown1 hbel1 hoth1 ht1 hsz ⊢
  clear h0 h1 h2 f0 f1 f2
  go_wp2_with (go_at_call 19; refine (event_any B w.heap.size n r m s sv xs tr _ hg1 hown1 hB hlim ht1).mono ?_; rintro e w' ⟨v', rfl, hev⟩; refine Hid.out ?_)
  refine Lib.hid ?_
  obtain ⟨hg3, hown3, hbel3, hoth3⟩ := hev
  have hg4 := hg2.kept (by decide) hoth3 (by intro e; injection e; omega)
  have hbel4 := hbel1.trans hbel3
  have hoth4 := oth_weaken hoth1 (Nat.le_refl _) hoth3
  clear hg hg1 hg2 hown hown1 hbel1 hoth1 ht1 hbel3 hoth3 htab
  have h0 := hg3.c0; have h1 := hg3.c1; have h2 := hg3.c2
  have k0 := hg4.c0; have k1 := hg4.c1; have k2 := hg4.c2; have f0 := hg4.fz 0; have f1 := hg4.fz 1; have f2 := hg4.fz 2
  have hne : w.heap.size ≠ b := by omega
  go_wp2
  go_ret
  exact ⟨v', rfl, ((hg4.set0 _).set1 _).set2 _, own_set27 (own_set27 (own_set27 hown3 hg4 _ _) (hg4.set0 _) _ _) ((hg4.set0 _).set1 _) _ _, ((hbel4.setCell hBb _).setCell hBb _).setCell hBb _, ((hoth4.setCell ⟨b, 0, none⟩ rfl _).setCell ⟨b, 1, none⟩ rfl _).setCell ⟨b, 2, none⟩ rfl _⟩
end Go.Proofs.Qxb6600045aDoor
