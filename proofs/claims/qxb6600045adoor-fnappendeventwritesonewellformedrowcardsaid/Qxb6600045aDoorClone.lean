/-
  SEAT b6600045aD: cloneBytesB1 (7).
-/
import Derived.Test.Qxb6600045aDoorPrice
import Derived.Laws.CopyOwn
import Derived.Lib.SliceRun
namespace Go.Proofs.Qxb6600045aDoor
open Go.RowKit Go.Shelf

theorem clone_nil (n c : Nat) (w : World) :
    Calls Tryd.prog 7 #[.slice none n c] w fun e w' => e = .returned (.slice none 0 0) ∧ w = w' := by
  have he := fun (w : World) => Lib.run_eql_slice_nil (P := Tryd.prog) w 23 5 none n c 0 0 Tryd.underlying23
  go_enter Tryd.func7, Tryd.ntmps7
  go_wp2
  go_ret
  exact ⟨rfl, rfl⟩

theorem info1 : (Tryd.prog.info? 5).map (·.size) = some 1 := by kernel_rfl
set_option maxHeartbeats 1000000 in
theorem clone_some (a : Addr) (n c : Nat) (cs : List Value) (w : World) (hcl : cs.length = n) (hsrc : ∀ j v, cs[j]? = some v → w.cell? (a.add j) = some v) (h1 : ∀ v ∈ cs, v.oneCell' = true) (hn : n ≤ 100000000) :
    Calls Tryd.prog 7 #[.slice (some a) n c] w fun e w' => e = .returned (.slice (some ⟨w.heap.size, 0, none⟩) n n) ∧ w'.heap[w.heap.size]? = some (.cells cs.toArray 5 (0, 0)) ∧ Below w.heap.size w w' := by
  obtain ⟨i0, hi, hz0, hz1, hz2⟩ := info_parts infoByte
  have he := fun (w : World) => Lib.run_eql_slice_nil (P := Tryd.prog) w 23 5 (some a) n c 0 0 Tryd.underlying23
  go_enter Tryd.func7, Tryd.ntmps7
  go_wp2_with (at_make; refine wpList_make_full _ rfl _ _ 23 rfl w.heap.size 5 i0 (.int .u8 0) 1 Tryd.underlying23 hi hz0 hz1 _ _ _ _ n rfl rfl rfl rfl (by rw [hz2]; omega) (by unfold maxLen; omega) (Nat.le_refl _) ?_)
  intro w1 hown1 hgr1
  have hbel : Below w.heap.size w w1 := (Below.refl _ _).grown hgr1 (Nat.le_refl _) (by intro k hk; cases hk)
  obtain ⟨cur, hg, hsz⟩ : ∃ cur : Array Value, w1.heap[w.heap.size]? = some (.cells cur 5 (0, 0)) ∧ cur.size = n := by
    rcases hown1.2 with ⟨h0, _⟩ | ⟨g, cap, cur, hv, _, hg, _, _, hs, _⟩
    · cases h0
    · injection hv with e1 e2 e3
      injection e1 with e1
      injection e1 with e1
      subst e1; subst e3
      exact ⟨cur, hg, by simpa using hs⟩
  have hsrc1 : ∀ j v, cs[j]? = some v → w1.cell? (a.add j) = some v := fun j v hj => by
    have h9 := hsrc j v hj
    rw [hbel.cell (World.block_lt_of_cell? w _ h9)]; exact h9
  clear hown1 he
  go_wp2_with (refine wpList_copy_splice rfl _ _ 23 23 rfl 5 Tryd.underlying23 info1 (some ⟨w.heap.size, 0, none⟩) (some a) n n n c rfl rfl w.heap.size 0 cur.toList 5 (by simpa using hg) cs (by rw [hcl]; exact (Nat.min_self n).symm) (fun _ => ⟨rfl, a, rfl, hsrc1⟩) (by simp; omega) h1 w.heap.size w hbel (Nat.le_refl _) ?_)
  intro w2 HG hB
  have hsp : splice cur.toList 0 cs = cs := by simp [splice]; omega
  have hg2 := HG.out
  rw [hsp] at hg2
  clear HG hg hsrc1 hsp
  go_wp2
  go_ret
  exact ⟨rfl, hg2, hB⟩
end Go.Proofs.Qxb6600045aDoor
