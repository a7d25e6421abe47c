/-
  SEAT b6600119a: Spans.Gaps (34).
-/
import Derived.Test.Qxb6600119aBuild
namespace Go.Proofs.Qxb6600119a
open Go.RowKit Go.Shelf
attribute [local go_sem ↓] Go.wp_at_zero Go.wp_at_succ

set_option maxHeartbeats 1000000 in
set_option maxRecDepth 100000 in
theorem gaps_any (B0 n : Nat) (v : Value) (len : Int) (sp : Sp) (w : World) (hn : sp.length = n) (hsm : n ≤ 900000) (hown0 : w.ownsRow B0 53 2 v n (flat sp)) :
    Calls Try.prog 34 #[v, .int .u32 len] w fun e w' => ∃ v', e = .returned v' ∧ w'.ownsRow w.heap.size 53 2 v' (gapsL sp len).length (flat (gapsL sp len)) ∧ Below w.heap.size w w' := by
  obtain ⟨ao, cap, rfl⟩ := own_form hown0
  obtain ⟨i0, hi, hz0, hz1, hz2⟩ := info_parts info53
  go_enter Try.func34, Try.ntmps34
  go_wp2_with fail
  go_loopw [5, 6, 12] (fun g at_ i wr => ∃ (k : Nat) (av : Int) (gs : Sp), k ≤ n ∧ i = .int .i64 k ∧ at_ = .int .u32 av ∧ Hid (gs ++ gapsFrom (sp.drop k) len av = gapsL sp len) ∧ gs.length ≤ k ∧ wr.ownsRow w.heap.size 53 2 g gs.length (flat gs) ∧ Below w.heap.size w wr) (fun _ _ i _ => n - (intOf i).toNat)
  case atStart => exact ⟨0, 0, [], Nat.zero_le _, rfl, rfl, Lib.hid (by simp [gapsL]), by simp, World.ownsRow_nil _ _ _ _, Below.refl _ _⟩
  case round =>
    obtain ⟨k, av, gs, hk, rfl, rfl, HA, hl, hown, hbel⟩ := hrel
    obtain ⟨a5, c5, rfl⟩ := own_form hown
    by_cases hlt : k < n
    · have hown3 := own_below hown0 hbel
      obtain ⟨g, rfl⟩ : ∃ g, ao = some ⟨g, 0, none⟩ := by
        rcases hown3.2 with ⟨_, h9⟩ | ⟨g, c9, cur, hv, _⟩
        · omega
        · injection hv with e1 e2 e3
          exact ⟨g, e1⟩
      have hf := flat_at sp k (by omega)
      have c0 := hown3.cells (g := g) rfl _ _ hf.1
      have c1 := hown3.cells (g := g) rfl _ _ hf.2
      rw [Addr.add_lit, Nat.zero_add] at c0 c1
      have hdr : sp.drop k = sp.getD k (0, 0) :: sp.drop (k + 1) := by
        rw [List.drop_eq_getElem_cons (by omega)]; simp [List.getD_eq_getElem?_getD, show k < sp.length by omega]
      have i1 : (0 : Int) ≤ (k : Int) := by omega
      have i2 : (k : Int) < (n : Int) := by omega
      have hS := HA.out
      rw [hdr] at hS
      simp only [gapsFrom] at hS
      clear HA hf hdr hown3
      generalize (sp.getD k (0, 0)).1 = p1 at *
      generalize (sp.getD k (0, 0)).2 = p2 at *
      by_cases hg : av < min p1 len
      · rw [if_pos hg] at hS
        have HS := Lib.hid hS
        clear hS
        have ho1 := (hown.alloc (.cells #[.int .u32 p1, .int .u32 p2] 53)).alloc (.cells #[.int .u32 av, .int .u32 (min p1 len)] 53)
        have hone : OneAt (wr.heap.size + 1) av (min p1 len) ((wr.alloc (.cells #[.int .u32 p1, .int .u32 p2] 53)).alloc (.cells #[.int .u32 av, .int .u32 (min p1 len)] 53)) := by
          have := heap_alloc_new (wr.alloc (.cells #[.int .u32 p1, .int .u32 p2] 53)) (.cells #[.int .u32 av, .int .u32 (min p1 len)] 53)
          rw [World.size_alloc] at this
          exact this
        have hbox : OneAt wr.heap.size p1 p2 ((wr.alloc (.cells #[.int .u32 p1, .int .u32 p2] 53)).alloc (.cells #[.int .u32 av, .int .u32 (min p1 len)] 53)) := (Below.heap_alloc _ _ _ (by simp)).trans (heap_alloc_new wr _)
        have hbel1 := (hbel.alloc hbel.size (.cells #[.int .u32 p1, .int .u32 p2] 53)).alloc (by have := hbel.size; simp; omega) (.cells #[.int .u32 av, .int .u32 (min p1 len)] 53)
        have hcs := hone.cells
        have hbs := hbel.size
        have hlt9 := hown.lt
        generalize hE : min p1 len = E at *
        clear hown0 hone hown
        go_wp2_with (at_builtin; refine wpList_append_own _ rfl _ _ 41 rfl w.heap.size 53 i0 spanZ 2 8 Try.underlying41 hi hz0 hz1 hz2 rfl (by decide) _ gs.length (flat gs) rfl ho1 ⟨wr.heap.size + 1, 0, none⟩ 1 1 [.int .u32 av, .int .u32 E] rfl rfl hcs (span_one av E) (by unfold maxLen; omega) (by omega) (by simp; omega) ?_)
        intro v4 w4 hown4 hgr4 hnil4
        have hb4 : OneAt wr.heap.size p1 p2 w4 := (hgr4.block _ (by simp; omega) (by intro e9; have := (hlt9 _ e9.symm).2; omega)).trans hbox
        have d0 := hb4.cells 0 _ rfl
        have d1 := hb4.cells 1 _ rfl
        rw [Addr.add_lit] at d0 d1
        have hbel4 : Below w.heap.size w w4 := hbel1.grown hgr4 (by simp; omega) (fun q hq => (hlt9 q hq).1)
        have hown5 : w4.ownsRow w.heap.size 53 2 v4 (gs ++ [(av, E)]).length (flat (gs ++ [(av, E)])) := by rw [flat_append, List.length_append]; exact hown4
        obtain ⟨a6, c6, rfl⟩ := own_form hown4
        clear ho1 hcs hgr4 hnil4 hb4 hbel1 hown4 hbox hlt9
        go_wp2
        go_roundw
        case rel => exact ⟨k + 1, _, gs ++ [(av, E)], by omega, by go_num, rfl, Lib.hid (by rw [List.append_assoc]; exact HS.out), by simp; omega, hown5, hbel4⟩
        case measure => simp [intOf]; omega
      · rw [if_neg hg] at hS
        have HS := Lib.hid hS
        have hbel1 := hbel.alloc hbel.size (.cells #[.int .u32 p1, .int .u32 p2] 53)
        have ho1 := hown.alloc (.cells #[.int .u32 p1, .int .u32 p2] 53)
        clear hS hown0 hown
        go_wp2
        go_roundw
        case rel => exact ⟨k + 1, _, gs, by omega, by go_num, rfl, HS, by omega, ho1, hbel1⟩
        case measure => simp [intOf]; omega
    · have hS := HA.out
      rw [List.drop_of_length_le (by omega)] at hS
      simp only [gapsFrom] at hS
      by_cases hg : av < len
      · rw [if_pos hg] at hS
        have ho1 := hown.alloc (.cells #[.int .u32 av, .int .u32 len] 53)
        have hone : OneAt wr.heap.size av len (wr.alloc (.cells #[.int .u32 av, .int .u32 len] 53)) := heap_alloc_new wr _
        have hbs := hbel.size
        have hbel1 := hbel.alloc hbs (.cells #[.int .u32 av, .int .u32 len] 53)
        have hcs := hone.cells
        have hlt9 := hown.lt
        have HS := Lib.hid hS
        clear hown0 hone hown hS HA
        go_wp2_with (at_builtin; refine wpList_append_own _ rfl _ _ 41 rfl w.heap.size 53 i0 spanZ 2 8 Try.underlying41 hi hz0 hz1 hz2 rfl (by decide) _ gs.length (flat gs) rfl ho1 ⟨wr.heap.size, 0, none⟩ 1 1 [.int .u32 av, .int .u32 len] rfl rfl hcs (span_one av len) (by unfold maxLen; omega) (by omega) (by simp; omega) ?_)
        intro v4 w4 hown4 hgr4 hnil4
        have hbel4 : Below w.heap.size w w4 := hbel1.grown hgr4 (by simp; omega) (fun q hq => (hlt9 q hq).1)
        have hown5 : w4.ownsRow w.heap.size 53 2 v4 (gapsL sp len).length (flat (gapsL sp len)) := by rw [← HS.out, flat_append, List.length_append]; exact hown4
        obtain ⟨a6, c6, rfl⟩ := own_form hown4
        clear ho1 hcs hgr4 hnil4 hbel1 hown4 hlt9 HS
        go_wp2
        go_ret
        exact ⟨_, rfl, hown5, hbel4⟩
      · rw [if_neg hg, List.append_nil] at hS
        have hown5 : wr.ownsRow w.heap.size 53 2 (.slice a5 gs.length c5) (gapsL sp len).length (flat (gapsL sp len)) := by rw [← hS]; exact hown
        clear hS HA hown0 hown
        go_wp2
        go_ret
        exact ⟨_, rfl, hown5, hbel⟩
end Go.Proofs.Qxb6600119a
