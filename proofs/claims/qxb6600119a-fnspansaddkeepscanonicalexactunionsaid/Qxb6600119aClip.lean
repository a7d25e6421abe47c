/-
  SEAT b6600119a: zzCloneU32 (21), zzClip (37), zzEqual (28).
-/
import Derived.Test.Qxb6600119aGaps
import Derived.BigQuiet
import Derived.Lib.SliceRun
namespace Go.Proofs.Qxb6600119a
open Go.RowKit Go.Shelf
attribute [local go_sem ↓] Go.wp_at_zero Go.wp_at_succ

theorem clone_nil (n c : Nat) (w : World) :
    Calls Try.prog 21 #[.slice none n c] w fun e w' => e = .returned (.slice none 0 0) ∧ w = w' := by
  have he := fun (w : World) => Lib.run_eql_slice_nil (P := Try.prog) w 37 45 none n c 0 0 Try.underlying37
  go_enter Try.func21, Try.ntmps21
  go_wp2
  go_ret
  exact ⟨rfl, rfl⟩

/-- A fresh row of n cells of which the first k are known. -/
structure Half (b n k : Nat) (xs : List Int) (w : World) : Prop where
  ex : ∃ A : Array Value, w.heap[b]? = some (.cells A 45 (0, 0)) ∧ A.size = n ∧ (∀ j, j < k → A[j]? = some (.int .u32 (xs.getD j 0)))
theorem Half.cell {b n k : Nat} {xs : List Int} {w : World} (h : Half b n k xs w) (j : Nat) (hj : j < k) : w.cell? ⟨b, j, none⟩ = some (.int .u32 (xs.getD j 0)) := by
  obtain ⟨A, hA, _, hj2⟩ := h.ex
  rw [cell_of_row w b j A 45 _ hA]; exact hj2 j hj
theorem Half.some {b n k : Nat} {xs : List Int} {w : World} (h : Half b n k xs w) (j : Nat) (hj : j < n) : ∃ v, w.cell? ⟨b, j, none⟩ = some v := by
  obtain ⟨A, hA, hs, _⟩ := h.ex
  rw [cell_of_row w b j A 45 _ hA]; exact ⟨A[j]'(by omega), Array.getElem?_eq_getElem (by omega)⟩
theorem Half.fz {b n k : Nat} {xs : List Int} {w : World} (h : Half b n k xs w) (j : Nat) : w.frozen? ⟨b, j, none⟩ = false := by
  obtain ⟨A, hA, _, _⟩ := h.ex
  exact frozen_row hA
theorem Half.set {b n k : Nat} {xs : List Int} {w : World} (h : Half b n k xs w) (hk : k < n) : Half b n (k + 1) xs (w.setCell ⟨b, k, none⟩ (.int .u32 (xs.getD k 0))) := by
  obtain ⟨A, hA, hs, hj⟩ := h.ex
  refine ⟨A.setIfInBounds k (.int .u32 (xs.getD k 0)), ?_, by simpa using hs, ?_⟩
  · simp only [World.setCell, Array.getElem?_modify, hA]
    simp
  · intro j hj9
    by_cases e : k = j
    · subst e; rw [Array.getElem?_setIfInBounds_self_of_lt (by omega)]
    · rw [Array.getElem?_setIfInBounds_ne e]; exact hj j (by omega)
theorem info45 : (Try.prog.info? 45).map (fun i => (i.zero, i.size, i.bytes)) = some (some (.int .u32 0), 1, 4) := by kernel_rfl

set_option maxHeartbeats 1000000 in
set_option maxRecDepth 100000 in
theorem clone_some (a : Addr) (n c : Nat) (xs : List Int) (w : World) (hsrc : ∀ j, j < n → w.cell? (a.add j) = some (.int .u32 (xs.getD j 0))) (hn : n ≤ 4096) :
    Calls Try.prog 21 #[.slice (some a) n c] w fun e w' => e = .returned (.slice (some ⟨w.heap.size, 0, none⟩) n n) ∧ Half w.heap.size n n xs w' ∧ Below w.heap.size w w' := by
  obtain ⟨i0, hi, hz0, hz1, hz2⟩ := info_parts info45
  have he := fun (w : World) => Lib.run_eql_slice_nil (P := Try.prog) w 37 45 (some a) n c 0 0 Try.underlying37
  go_enter Try.func21, Try.ntmps21
  go_wp2_with (at_make; refine wpList_make_full _ rfl _ _ 37 rfl w.heap.size 45 i0 (.int .u32 0) 1 Try.underlying37 hi hz0 hz1 _ _ _ _ n rfl rfl rfl rfl (by rw [hz2]; omega) (by unfold maxLen; omega) (Nat.le_refl _) ?_)
  intro w1 hown1 hgr1
  have hbel : Below w.heap.size w w1 := (Below.refl _ _).grown hgr1 (Nat.le_refl _) (by intro k hk; cases hk)
  have hh : Half w.heap.size n 0 xs w1 := by
    rcases hown1.2 with ⟨h0, _⟩ | ⟨g, cap, cur, hv, _, hg, _, _, hs, _⟩
    · cases h0
    · injection hv with e1 e2 e3
      injection e1 with e1
      injection e1 with e1
      subst e1; subst e3
      exact ⟨cur, hg, by simpa using hs, fun j hj => absurd hj (Nat.not_lt_zero _)⟩
  clear hown1 he hgr1
  go_wp2_with fail
  go_loopw [4] (fun i wr => ∃ (k : Nat), k ≤ n ∧ i = .int .i64 k ∧ Half w.heap.size n k xs wr ∧ Below w.heap.size w wr) (fun i _ => n - (intOf i).toNat)
  case atStart => exact ⟨0, Nat.zero_le _, rfl, hh, hbel⟩
  case round =>
    obtain ⟨k, hk, rfl, hk2, hb⟩ := hrel
    by_cases hlt : k < n
    · have h9 := hsrc k hlt
      have hsr : wr.cell? (a.add k) = some (.int .u32 (xs.getD k 0)) := by rw [hb.cell (World.block_lt_of_cell? w _ h9)]; exact h9
      obtain ⟨vo, hvo⟩ := hk2.some k hlt
      have hfz := hk2.fz k
      have hset := hk2.set hlt
      have hb2 : Below w.heap.size w (wr.setCell ⟨w.heap.size, k, none⟩ (.int .u32 (xs.getD k 0))) := hb.setCell (Nat.le_refl _) _
      have i1 : (0 : Int) ≤ (k : Int) := by omega
      have i2 : (k : Int) < (n : Int) := by omega
      clear hh hbel h9 hsrc hk2 hb
      generalize xs.getD k 0 = q at *
      go_wp2
      go_roundw
      case rel => exact ⟨k + 1, by omega, by go_num, hset, hb2⟩
      case measure => simp [intOf]; omega
    · obtain rfl : k = n := by omega
      clear hh hbel hsrc
      go_wp2
      go_ret
      exact ⟨rfl, hk2, hb⟩

set_option maxHeartbeats 1000000 in
set_option maxRecDepth 100000 in
theorem clip_any (B0 n : Nat) (v : Value) (len : Int) (sp : Sp) (w : World) (hn : sp.length = n) (hsm : n ≤ 100000) (hown0 : w.ownsRow B0 53 2 v n (flat sp)) :
    Calls Try.prog 37 #[v, .int .u32 len] w fun e w' => ∃ v', e = .returned v' ∧ w'.ownsRow w.heap.size 53 2 v' (clipL sp len).length (flat (clipL sp len)) ∧ Below w.heap.size w w' := by
  obtain ⟨ao, cap, rfl⟩ := own_form hown0
  go_enter Try.func37, Try.ntmps37
  go_wp2_with fail
  go_loopw [6] (fun i wr => ∃ (k : Nat) (v : Value) (cs : Sp), k ≤ n ∧ i = .int .i64 k ∧ Hid (buildL ((sp.drop k).map fun p => (min p.1 len, min p.2 len)) cs = clipL sp len) ∧ cs.length ≤ k ∧ VarAt w.heap.size v wr ∧ wr.ownsRow w.heap.size 53 2 v cs.length (flat cs) ∧ Below w.heap.size w wr) (fun i _ => n - (intOf i).toNat)
  case atStart => exact ⟨0, .slice none 0 0, [], Nat.zero_le _, rfl, Lib.hid (by simp [clipL]), by simp, heap_alloc_new w _, World.ownsRow_nil _ _ _ _, (Below.refl _ _).alloc (Nat.le_refl _) _⟩
  case round =>
    obtain ⟨k, v, cs, hk, rfl, HA, hl, hP, hown, hbel⟩ := hrel
    by_cases hlt : k < n
    · have hown3 := own_below hown0 hbel
      obtain ⟨g, rfl⟩ : ∃ g, ao = some ⟨g, 0, none⟩ := by
        rcases hown3.2 with ⟨_, h9⟩ | ⟨g, c9, cur, hv, _⟩
        · omega
        · injection hv with e1 e2 e3
          exact ⟨g, e1⟩
      have hgl : g < w.heap.size := (hown0.lt g rfl).2
      have hf := flat_at sp k (by omega)
      have c0 := hown3.cells (g := g) rfl _ _ hf.1
      have c1 := hown3.cells (g := g) rfl _ _ hf.2
      rw [Addr.add_lit, Nat.zero_add] at c0 c1
      have hdr : sp.drop k = sp.getD k (0, 0) :: sp.drop (k + 1) := by
        rw [List.drop_eq_getElem_cons (by omega)]; simp [List.getD_eq_getElem?_getD, show k < sp.length by omega]
      have HS := HA.out
      rw [hdr] at HS
      simp only [List.map_cons, buildL] at HS
      have HS := Lib.hid HS
      clear HA hown0 hown3 hf hdr
      generalize (sp.getD k (0, 0)).1 = p1 at *
      generalize (sp.getD k (0, 0)).2 = p2 at *
      have i1 : (0 : Int) ≤ (k : Int) := by omega
      have i2 : (k : Int) < (n : Int) := by omega
      have hcon := add_any w.heap.size w.heap.size _ v (min p1 len) (min p2 len) cs wr.drew rfl (by omega) (show VarAt w.heap.size v wr.drew from hP) (Nat.le_refl _) hown.drew
      have HC := Lib.hid hcon
      clear hcon
      go_wp2_with fail
      go_region_held3 (fun w' => w'.cell? ⟨g, k * 2, none⟩ = some (.int .u32 p1) ∧ w'.cell? ⟨g, k * 2 + 1, none⟩ = some (.int .u32 p2)) (first | exact ⟨(hb4.cell (p := ⟨g, k * 2, none⟩) hgl).trans c0, (hb4.cell (p := ⟨g, k * 2 + 1, none⟩) hgl).trans c1⟩ | exact ⟨c0, c1⟩ | go_keep) (first | (go_at_call 48; refine (min_any p1 len _).mono ?_; rintro e w' ⟨rfl, rfl⟩) | (go_at_call 48; refine (min_any p2 len _).mono ?_; rintro e w' ⟨rfl, rfl⟩) | (go_at_call 32; refine HC.out.mono ?_; rintro e w' ⟨rfl, v', hP4, hown4, hb4⟩))
      have hbel4 : Below w.heap.size w w' := hbel.drew.trans hb4
      have hlen := addL_length cs (min p1 len) (min p2 len)
      clear HC
      go_wp2
      go_roundw
      case rel => exact ⟨k + 1, v', addL cs (min p1 len) (min p2 len), by omega, by go_num, HS, by omega, hP4, hown4, hbel4⟩
      case measure => simp [intOf]; omega
    · have hE := HA.out
      rw [List.drop_of_length_le (by omega)] at hE
      simp only [List.map_nil, buildL] at hE
      have pc := hP.cell
      have hown5 : wr.ownsRow w.heap.size 53 2 v (clipL sp len).length (flat (clipL sp len)) := by rw [← hE]; exact hown
      obtain ⟨a5, c5, rfl⟩ := own_form hown
      clear hE HA hown hown0
      go_wp2
      go_ret
      exact ⟨_, rfl, hown5, hbel⟩
end Go.Proofs.Qxb6600119a
