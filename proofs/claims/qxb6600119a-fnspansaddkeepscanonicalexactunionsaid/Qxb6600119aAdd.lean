/-
  SEAT b6600119a: (*Spans).Add (32).
-/
import Derived.Test.Qxb6600119aIdx
import Derived.RegionTactic
import Derived.BigRegion
import Derived.Outline
import Derived.Lib.OwnKind
import Derived.Deep.DeepCutAuto
namespace Go.Proofs.Qxb6600119a
open Go.RowKit Go.Shelf
attribute [local go_sem ↓] Go.wp_at_zero Go.wp_at_succ

/-- A variable of type Spans in block p. -/
def VarAt (p : Nat) (v : Value) (w : World) : Prop := w.heap[p]? = some (.cells #[v] 41 (0, 0))
theorem VarAt.cell {p : Nat} {v : Value} {w : World} (h : VarAt p v w) : w.cell? ⟨p, 0, none⟩ = some v := by rw [cell_of_row w p 0 _ 41 _ h]; rfl
theorem VarAt.fz {p : Nat} {v : Value} {w : World} (h : VarAt p v w) : w.frozen? ⟨p, 0, none⟩ = false := frozen_row h
theorem VarAt.lt {p : Nat} {v : Value} {w : World} (h : VarAt p v w) : p < w.heap.size := heap_lt h
theorem VarAt.set {p : Nat} {v : Value} {w : World} (h : VarAt p v w) (x : Value) : VarAt p x (w.setCell ⟨p, 0, none⟩ x) := by
  unfold VarAt at *
  simp only [World.setCell, Array.getElem?_modify, h]
  simp

theorem own_below {w w' : World} {B n : Nat} {v : Value} {xs : List Value} (h : w.ownsRow B 53 2 v n xs) (hb : Below w.heap.size w w') : w'.ownsRow B 53 2 v n xs :=
  h.kept (row := none) ⟨hb.os, hb.tape, hb.output, hb.size, fun k hk _ => hb.block k hk⟩ (by cases v.ownBlock <;> simp)

/-- The box of 'start': what the loop does to the world. -/
structure Box (b : Nat) (s : Int) (w w' : World) : Prop where
  obj : w'.heap[b]? = some (.cells #[.int .u32 s] 45 (0, 0))
  grown : w.grownBy w' (some b)
  size : w'.heap.size = w.heap.size
theorem Box.cell {b : Nat} {s : Int} {w w' : World} (h : Box b s w w') : w'.cell? ⟨b, 0, none⟩ = some (.int .u32 s) := by rw [cell_of_row w' b 0 _ 45 _ h.obj]; rfl
theorem Box.fz {b : Nat} {s : Int} {w w' : World} (h : Box b s w w') : w'.frozen? ⟨b, 0, none⟩ = false := frozen_row h.obj
theorem Box.own {b : Nat} {s s0 : Int} {w w' : World} (h : Box b s w w') {B n : Nat} {v : Value} {xs : List Value} (ho : w.ownsRow B 53 2 v n xs) (hb : w.heap[b]? = some (.cells #[.int .u32 s0] 45 (0, 0))) : w'.ownsRow B 53 2 v n xs := by
  refine ho.kept h.grown ?_
  cases hv : v.ownBlock with
  | none => exact .inl rfl
  | some k =>
    refine .inr (fun e => ?_)
    obtain ⟨c, fz, hc⟩ := Lib.ownsRow_kind ho k hv
    injection e with e
    subst e
    rw [hb] at hc
    injection hc with hc
    injection hc with _ hc
    exact absurd hc (by decide)

theorem Box.set {b : Nat} {s : Int} {w w' : World} (h : Box b s w w') (x : Int) : Box b x w (w'.setCell ⟨b, 0, none⟩ (.int .u32 x)).drew := by
  refine ⟨?_, ⟨h.grown.os, h.grown.tape, h.grown.output, ?_, fun k hk hne => ?_⟩, ?_⟩
  · show (w'.setCell ⟨b, 0, none⟩ (.int .u32 x)).heap[b]? = _
    simp only [World.setCell, Array.getElem?_modify, h.obj]
    simp
  · have := h.grown.size
    simpa [World.drew, World.setCell] using this
  · show (w'.setCell ⟨b, 0, none⟩ (.int .u32 x)).heap[k]? = _
    rw [Below.heap_setCell _ _ _ _ (fun e => hne (by rw [e]))]
    exact h.grown.block k hk hne
  · have := h.size
    simpa [World.drew, World.setCell] using this
/-- A row of spans and a variable lie in two blocks. -/
theorem var_ne {w : World} {B n P : Nat} {v u : Value} {xs : List Value} (ho : w.ownsRow B 53 2 v n xs) (hP : VarAt P u w) : some P ≠ v.ownBlock := by
  intro e
  obtain ⟨c, fz, hc⟩ := Lib.ownsRow_kind ho P e.symm
  unfold VarAt at hP
  rw [hP] at hc
  injection hc with hc
  injection hc with _ hc
  exact absurd hc (by decide)
theorem own_setP {w : World} {B n P : Nat} {v u : Value} {xs : List Value} (ho : w.ownsRow B 53 2 v n xs) (hP : VarAt P u w) (x : Value) : (w.setCell ⟨P, 0, none⟩ x).ownsRow B 53 2 v n xs :=
  ho.kept (row := some P) ⟨rfl, rfl, rfl, by simp [World.setCell], fun k _ hk => Below.heap_setCell _ _ _ _ (fun e => hk (by rw [e]))⟩ (.inr (fun e => var_ne ho hP e.symm))

/-- An empty span is not added. -/
theorem add_none (P : Nat) (s e : Int) (w : World) (h : e ≤ s) :
    Calls Try.prog 32 #[.pointer (some ⟨P, 0, none⟩), .int .u32 s, .int .u32 e] w fun e' w' => e' = .returned (.tuple #[]) ∧ w' = w.alloc (.cells #[.int .u32 s] 45) := by
  go_enter Try.func32, Try.ntmps32
  go_wp2
  refine bodyPost_ret (results_none rfl _ _ _) rfl ?_
  exact ⟨rfl, rfl⟩

set_option maxHeartbeats 1000000 in
set_option maxRecDepth 100000 in
theorem add_some (B P n : Nat) (v : Value) (s e : Int) (sp : Sp) (w : World) (h : ¬ e ≤ s) (hn : sp.length = n) (hsm : n ≤ 900000) (hP : VarAt P v w) (hBP : B ≤ P) (hown : w.ownsRow B 53 2 v n (flat sp)) :
    Calls Try.prog 32 #[.pointer (some ⟨P, 0, none⟩), .int .u32 s, .int .u32 e] w fun e' w' => e' = .returned (.tuple #[]) ∧ ∃ v', VarAt P v' w' ∧ w'.ownsRow B 53 2 v' (addL sp s e).length (flat (addL sp s e)) ∧ Below B w w' := by
  have hc := hP.cell
  have hPl := hP.lt
  obtain ⟨ao, cap, rfl⟩ := own_form hown
  have hBw : B ≤ w.heap.size := by omega
  have hown1 := hown.alloc (.cells #[.int .u32 s] 45)
  go_enter Try.func32, Try.ntmps32
  go_wp2_with (go_at_call 45; refine (idx_any B w.heap.size n _ s sp _ hn (by omega) hown1 (by simp)).mono ?_; rintro e' w1 ⟨rfl, hb1⟩; refine Hid.out ?_)
  refine Lib.hid ?_
  have hfi := fidx_le sp s
  have hsz := hb1.size
  have hown2 : w1.ownsRow B 53 2 (.slice ao n cap) n (flat sp) := own_below hown1 hb1
  have hP2 : VarAt P (.slice ao n cap) w1 := (hb1.block P (by simp; omega)).trans ((Below.heap_alloc _ _ _ hPl).trans hP)
  have hbox : w1.heap[w.heap.size]? = some (.cells #[.int .u32 s] 45 (0, 0)) := (hb1.block _ (by simp)).trans (heap_alloc_new w _)
  have hbel : Below B w w1 := ((Below.refl B w).alloc hBw _).trans (hb1.mono (by simp; omega))
  simp at hsz
  clear hb1 hown1 hown hP hc
  go_upto_if 19 with fail
  go_cut [7] (fun v w' => v = .int .i64 (fidx sp s : Nat) ∧ w1 = w')
  case first =>
    by_cases hlt : fidx sp s < sp.length
    · have e1 : idxI sp s = (fidx sp s : Nat) := by unfold idxI; rw [if_pos hlt]
      rw [e1]
      generalize fidx sp s = F at *
      have : ¬ ((F : Int) < 0) := by omega
      go_wp2
      go_meet
      case rel => exact ⟨rfl, rfl⟩
    · have e1 : idxI sp s = -1 := by unfold idxI; rw [if_neg hlt]
      rw [e1]
      have e2 : fidx sp s = n := by omega
      go_wp2
      go_meet
      case rel => exact ⟨by simp [e2], rfl⟩
  obtain ⟨rfl, rfl⟩ := hcut
  go_wp2_with fail
  go_loopw [2, 8] (fun en j wr => ∃ (k : Nat) (s' e' : Int), fidx sp s ≤ k ∧ k ≤ n ∧ j = .int .i64 k ∧ en = .int .u32 e' ∧ Hid (absb (sp.drop k) s' e' = absb (sp.drop (fidx sp s)) s e) ∧ Box w.heap.size s' w1 wr) (fun _ j _ => n - (intOf j).toNat)
  case atStart => exact ⟨fidx sp s, s, e, Nat.le_refl _, by omega, rfl, rfl, Lib.hid rfl, ⟨hbox, World.grownBy.refl _ _, rfl⟩⟩
  case round =>
    obtain ⟨k, s', e', hk0, hk, rfl, rfl, HA, hbx⟩ := hrel
    have hown3 : wr.ownsRow B 53 2 (.slice ao n cap) n (flat sp) := hbx.own hown2 hbox
    have bc := hbx.cell
    have bf := hbx.fz
    by_cases hlt : k < n
    · obtain ⟨g, rfl⟩ : ∃ g, ao = some ⟨g, 0, none⟩ := by
        rcases hown3.2 with ⟨_, h9⟩ | ⟨g, c9, cur, hv, _⟩
        · omega
        · injection hv with e1 e2 e3
          exact ⟨g, e1⟩
      have hf := flat_at sp k (by omega)
      have c0 := hown3.cells (g := g) rfl _ _ hf.1
      have c1 := hown3.cells (g := g) rfl _ _ hf.2
      rw [Addr.add_lit, Nat.zero_add] at c0 c1
      have hdr : sp.drop k = sp.getD k (0, 0) :: sp.drop (k + 1) := by
        rw [List.drop_eq_getElem_cons (by omega)]; simp [List.getD_eq_getElem?_getD, show k < sp.length by omega]
      have i1 : (0 : Int) ≤ (k : Int) := by omega
      have i2 : (k : Int) < (n : Int) := by omega
      have hne : g ≠ w.heap.size := by
        intro e9
        have hkd := Lib.ownsRow_kind hown3 g rfl
        obtain ⟨c9, fz9, h9⟩ := hkd
        rw [e9, hbx.obj] at h9
        injection h9 with h9
        injection h9 with _ h9
        exact absurd h9 (by decide)
      by_cases hle : (sp.getD k (0, 0)).1 ≤ e'
      · have hstep := HA.out
        rw [hdr] at hstep
        simp only [absb] at hstep
        rw [if_pos hle] at hstep
        have HS := Lib.hid hstep
        clear HA hstep hdr hf
        generalize (sp.getD k (0, 0)).1 = p1 at *
        generalize (sp.getD k (0, 0)).2 = p2 at *
        go_wp2_with fail
        go_region
        go_wp2
        go_roundw
        case rel => exact ⟨k + 1, _, _, by omega, by omega, by go_num, rfl, HS, hbx.set _⟩
        case measure => simp [intOf]; omega
      · have hend : absb (sp.drop k) s' e' = (s', e', sp.drop k) := by rw [hdr]; simp only [absb]; rw [if_neg hle]
        have hadd : addL sp s e = sp.take (fidx sp s) ++ (s', e') :: sp.drop k := by
          unfold addL
          rw [if_neg (by omega), ← HA.out, hend]
        clear HA hend
        have hP3 : VarAt P (.slice (some ⟨g, 0, none⟩) n cap) wr := (hbx.grown.block P (by omega) (by intro e9; injection e9; omega)).trans hP2
        have hbel3 : Below B w wr := hbel.grown hbx.grown (by omega) (by intro q hq; injection hq; omega)
        have hsz3 := hbx.size
        have hown4 := hown3.alloc (.cells #[.int .u32 s', .int .u32 e'] 53)
        have hon : OneAt wr.heap.size s' e' (wr.alloc (.cells #[.int .u32 s', .int .u32 e'] 53)) := heap_alloc_new wr _
        have hne9 : Value.ownBlock (.slice (some ⟨g, 0, none⟩) n cap) ≠ some wr.heap.size := fun e9 => by have := (hown3.lt _ e9).2; omega
        have hcon := replace_any B wr.heap.size n (fidx sp s) k (.slice (some ⟨g, 0, none⟩) n cap) s' e' sp _ hn (by omega) hk0 hk (by simp; omega) hown4 hon hne9
        have hcon2 : Calls Try.prog 47 #[.slice (some ⟨g, 0, none⟩) n cap, .int .i64 (fidx sp s : Nat), .int .i64 k, .slice (some ⟨wr.heap.size, 0, none⟩) 1 1] (wr.alloc (.cells #[.int .u32 s', .int .u32 e'] 53)) fun e9 w9 => ∃ v', e9 = .returned v' ∧ VarAt P (.slice (some ⟨g, 0, none⟩) n cap) w9 ∧ w9.ownsRow B 53 2 v' (addL sp s e).length (flat (addL sp s e)) ∧ Below B w w9 := by
          refine hcon.mono ?_
          rintro e9 w9 ⟨v', he, ho, hgr⟩
          refine ⟨v', he, ?_, by rw [hadd]; exact ho, ?_⟩
          · have h8 : VarAt P (.slice (some ⟨g, 0, none⟩) n cap) (wr.alloc (.cells #[.int .u32 s', .int .u32 e'] 53)) := (Below.heap_alloc _ _ _ hP3.lt).trans hP3
            exact (hgr.block P h8.lt (var_ne hown4 h8)).trans h8
          · exact (hbel3.alloc (by omega) _).grown hgr (by simp; omega) (fun q hq => (hown4.lt q hq).1)
        have HC := Lib.hid hcon2
        clear hsz3 hadd hcon hcon2 hon hne9 hown4 hP3 hP2 hown2 hown3 hbox hbel hbel3 hfi
        clear hdr hf
        generalize (sp.getD k (0, 0)).1 = p1 at *
        generalize (sp.getD k (0, 0)).2 = p2 at *
        go_wp2_with (go_at_call 47; refine HC.out.mono ?_; rintro e9 w4 ⟨v', rfl, hP4, hown5, hbel4⟩; refine Hid.out ?_)
        refine Lib.hid ?_
        have pc := hP4.cell
        have pf := hP4.fz
        have hfin : VarAt P v' (w4.setCell ⟨P, 0, none⟩ v') := hP4.set v'
        have hown6 : (w4.setCell ⟨P, 0, none⟩ v').ownsRow B 53 2 v' (addL sp s e).length (flat (addL sp s e)) := own_setP hown5 hP4 v'
        have hbel5 : Below B w (w4.setCell ⟨P, 0, none⟩ v') := hbel4.setCell hBP _
        obtain ⟨a5, c5, rfl⟩ := own_form hown5
        clear HC hP4 hown5 hbel4 hbx
        go_wp2
        go_end0
        exact ⟨rfl, _, hfin, hown6, hbel5⟩
    · have hend : absb (sp.drop k) s' e' = (s', e', sp.drop k) := by rw [List.drop_of_length_le (by omega)]; rfl
      have hadd : addL sp s e = sp.take (fidx sp s) ++ (s', e') :: sp.drop k := by
        unfold addL
        rw [if_neg (by omega), ← HA.out, hend]
      clear HA hend
      have hP3 : VarAt P (.slice ao n cap) wr := (hbx.grown.block P (by omega) (by intro e9; injection e9; omega)).trans hP2
      have hbel3 : Below B w wr := hbel.grown hbx.grown (by omega) (by intro q hq; injection hq; omega)
      have hsz3 := hbx.size
      have hown4 := hown3.alloc (.cells #[.int .u32 s', .int .u32 e'] 53)
      have hon : OneAt wr.heap.size s' e' (wr.alloc (.cells #[.int .u32 s', .int .u32 e'] 53)) := heap_alloc_new wr _
      have hne9 : Value.ownBlock (.slice ao n cap) ≠ some wr.heap.size := fun e9 => by have := (hown3.lt _ e9).2; omega
      have hcon := replace_any B wr.heap.size n (fidx sp s) k (.slice ao n cap) s' e' sp _ hn (by omega) hk0 hk (by simp; omega) hown4 hon hne9
      have hcon2 : Calls Try.prog 47 #[.slice ao n cap, .int .i64 (fidx sp s : Nat), .int .i64 k, .slice (some ⟨wr.heap.size, 0, none⟩) 1 1] (wr.alloc (.cells #[.int .u32 s', .int .u32 e'] 53)) fun e9 w9 => ∃ v', e9 = .returned v' ∧ VarAt P (.slice ao n cap) w9 ∧ w9.ownsRow B 53 2 v' (addL sp s e).length (flat (addL sp s e)) ∧ Below B w w9 := by
        refine hcon.mono ?_
        rintro e9 w9 ⟨v', he, ho, hgr⟩
        refine ⟨v', he, ?_, by rw [hadd]; exact ho, ?_⟩
        · have h8 : VarAt P (.slice ao n cap) (wr.alloc (.cells #[.int .u32 s', .int .u32 e'] 53)) := (Below.heap_alloc _ _ _ hP3.lt).trans hP3
          exact (hgr.block P h8.lt (var_ne hown4 h8)).trans h8
        · exact (hbel3.alloc (by omega) _).grown hgr (by simp; omega) (fun q hq => (hown4.lt q hq).1)
      have HC := Lib.hid hcon2
      clear hsz3 hadd hcon hcon2 hon hne9 hown4 hP3 hP2 hown2 hown3 hbox hbel hbel3 hfi
      go_wp2_with (go_at_call 47; refine HC.out.mono ?_; rintro e9 w4 ⟨v', rfl, hP4, hown5, hbel4⟩; refine Hid.out ?_)
      refine Lib.hid ?_
      have pc := hP4.cell
      have pf := hP4.fz
      have hfin : VarAt P v' (w4.setCell ⟨P, 0, none⟩ v') := hP4.set v'
      have hown6 : (w4.setCell ⟨P, 0, none⟩ v').ownsRow B 53 2 v' (addL sp s e).length (flat (addL sp s e)) := own_setP hown5 hP4 v'
      have hbel5 : Below B w (w4.setCell ⟨P, 0, none⟩ v') := hbel4.setCell hBP _
      obtain ⟨a5, c5, rfl⟩ := own_form hown5
      clear HC hP4 hown5 hbel4 hbx
      go_wp2
      go_end0
      exact ⟨rfl, _, hfin, hown6, hbel5⟩

theorem add_any (B P n : Nat) (v : Value) (s e : Int) (sp : Sp) (w : World) (hn : sp.length = n) (hsm : n ≤ 900000) (hP : VarAt P v w) (hBP : B ≤ P) (hown : w.ownsRow B 53 2 v n (flat sp)) :
    Calls Try.prog 32 #[.pointer (some ⟨P, 0, none⟩), .int .u32 s, .int .u32 e] w fun e' w' => e' = .returned (.tuple #[]) ∧ ∃ v', VarAt P v' w' ∧ w'.ownsRow B 53 2 v' (addL sp s e).length (flat (addL sp s e)) ∧ Below B w w' := by
  by_cases h : e ≤ s
  · refine (add_none P s e w h).mono ?_
    rintro e' w' ⟨he, rfl⟩
    have ha : addL sp s e = sp := by unfold addL; rw [if_pos h]
    have hl := hP.lt
    refine ⟨he, v, (Below.heap_alloc _ _ _ hl).trans hP, ?_, (Below.refl B w).alloc (by omega) _⟩
    rw [ha, hn]
    exact hown.alloc _
  · exact add_some B P n v s e sp w h hn hsm hP hBP hown
end Go.Proofs.Qxb6600119a
