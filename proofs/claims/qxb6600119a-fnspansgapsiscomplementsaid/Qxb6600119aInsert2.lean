/-
  SEAT b6600119a: slices.Insert (51) at Spans, one element inserted: no room; the three roads as one.
-/
import Derived.Test.Qxb6600119aInsert
namespace Go.Proofs.Qxb6600119a
open Go.RowKit
attribute [local go_sem ↓] Go.wp_at_zero Go.wp_at_succ

theorem grow_row (n i : Nat) (sp : Sp) (s e : Int) (zs : List Value) (hn : sp.length = n) (hi : i ≤ n) (hz : (n + 1 - i) * 2 ≤ zs.length) :
    (splice (splice (flat (sp.take i) ++ zs) (i * 2) [.int .u32 s, .int .u32 e]) ((i + 1) * 2) (flat (sp.drop i))).take ((n + 1) * 2) = flat (sp.take i ++ (s, e) :: sp.drop i) := by
  have hl1 : (flat (sp.take i)).length = i * 2 := by rw [flat_length, List.length_take]; omega
  have hl2 : (flat (sp.drop i)).length = (n - i) * 2 := by rw [flat_length, List.length_drop, hn]
  rw [cut3 zs 2 ((n - i) * 2)]
  have hX : ((zs.drop 2).take ((n - i) * 2)).length = (flat (sp.drop i)).length := by rw [hl2]; simp; omega
  have hY : (zs.take 2).length = 2 := by simp; omega
  rw [splice_mid _ (zs.take 2) _ _ _ hl1 (by rw [hY]; rfl)]
  rw [← List.append_assoc (flat (sp.take i)), splice_mid (flat (sp.take i) ++ _) _ _ _ _ (by rw [List.length_append, hl1]; simp; omega) hX, flat_ins]
  rw [← List.append_assoc]
  rw [List.take_append_of_le_length (by simp [hl1, hl2]; omega), List.take_of_length_le (by simp [hl1, hl2]; omega)]

set_option maxHeartbeats 1000000 in
/-- No room: a new row. -/
theorem insert_grow (B nb g n i : Nat) (s e : Int) (sp : Sp) (L : List Value) (w : World) (hn : sp.length = n) (hsm : n ≤ 1000000) (hi : i < n) (hBw : B ≤ w.heap.size)
    (hg : w.heap[g]? = some (.cells L.toArray 53 (0, 0))) (ht : L.take (n * 2) = flat sp) (h1 : OneAt nb s e w) :
    Calls Try.prog 51 #[.slice (some ⟨g, 0, none⟩) n n, .int .i64 i, .slice (some ⟨nb, 0, none⟩) 1 1] w fun e' w' => ∃ v', e' = .returned v' ∧ w'.ownsRow B 53 2 v' (n + 1) (flat (sp.take i ++ (s, e) :: sp.drop i)) ∧ w.grownBy w' (some g) := by
  obtain ⟨i0, hi0, hz0, hz1, hz2⟩ := info_parts info53
  have q1 : ¬ n = i := by omega
  have q2 : ¬ n = 0 := by omega
  have q4 : ((i : Int) == (n : Int)) = false := beq_eq_false_iff_ne.2 (by omega)
  have q6 : (i : Int) ≤ (n : Int) := by omega
  have q7 : i + (n + 1 - i) = n + 1 := by omega
  have hlg := heap_lt hg
  have hln := heap_lt h1
  have hsrc := row_src (i := i) hg ht hn
  have hsrc0 : ∀ j v, (flat (sp.take i))[j]? = some v → w.cell? ((⟨g, 0, none⟩ : Addr).add j) = some v := by
    intro j v hj
    rw [Addr.add_lit, Nat.zero_add, cell_of_row w g _ _ 53 _ hg]
    rw [← flat_take, ← ht, List.take_take, List.getElem?_take] at hj
    split at hj
    · simpa using hj
    · cases hj
  have hl1 : (flat (sp.take i)).length = i * 2 := by rw [flat_length, List.length_take]; omega
  have hl2 : (flat (sp.drop i)).length = (n - i) * 2 := by rw [flat_length, List.length_drop, hn]
  go_enter Try.func51, Try.ntmps51
  go_wp2_with (at_builtin; refine wpList_append_make rfl _ _ 41 3 53 rfl .i64 Try.underlying3 i0 spanZ 2 Try.underlying41 hi0 hz0 hz1 rfl (by decide) ⟨g, 0, none⟩ i n (flat (sp.take i)) rfl hl1 hsrc0 .i64 (n + 1 - i) _ rfl (by omega) (by omega) (by omega) (by omega) (by rw [hz2]; omega) (by unfold maxLen; omega) ?_)
  intro w2 cap' zs hzl hc1 hc2 HG hgr hsz
  have hfin := grow_row n i sp s e zs hn (by omega) (by omega)
  have hg2 := HG.out
  have hc := (show OneAt nb s e w2 from (hgr.block nb hln (by simp)).trans h1).cells
  have hgl : (flat (sp.take i) ++ zs).length = cap' * 2 := by rw [List.length_append, hl1, hzl]; omega
  have hsrc2 : ∀ W : World, W.heap[g]? = w2.heap[g]? → ∀ j v, (flat (sp.drop i))[j]? = some v → W.cell? ((⟨g, i * 2, none⟩ : Addr).add j) = some v := by
    intro W hW
    exact row_src (i := i) (hW.trans ((hgr.block g hlg (by simp)).trans hg)) ht hn
  generalize flat (sp.take i) ++ zs = L1 at *
  have q8 : ¬ cap' = i := by omega
  have q9 : ¬ cap' = i + 1 := by omega
  have q10 : n + 1 ≤ cap' := by omega
  clear HG hsrc0 hsrc
  go_wp2_with (refine wpList_copy_k rfl _ _ 41 40 rfl 53 i0 2 Try.underlying41 hi0 hz1 w.heap.size (i * 2) (n + 1 - i) (cap' - i) ⟨nb, 0, none⟩ 1 1 rfl rfl L1 53 hg2 [.int .u32 s, .int .u32 e] (by rw [show Nat.min 1 (n + 1 - i) = 1 from Nat.min_eq_left (by omega)]; rfl) hc (by rw [hgl]; simp; omega) (span_one s e) ?_)
  intro w3 HP3
  have hp3 := HP3.out
  have hg3 := hp3.obj
  have hgl3 : (splice L1 (i * 2) [Value.int .u32 s, Value.int .u32 e]).length = cap' * 2 := by rw [length_splice _ _ _ (by rw [hgl]; simp; omega), hgl]
  have hsrc3 := hsrc2 w3 (hp3.grown.block g (by omega) (by intro e; injection e; omega))
  generalize splice L1 (i * 2) [Value.int .u32 s, Value.int .u32 e] = L2 at *
  have HF := Lib.hid hfin
  have hgr3 : w.grownBy w3 none := ⟨hp3.grown.os.trans hgr.os, hp3.grown.tape.trans hgr.tape, hp3.grown.output.trans hgr.output, Nat.le_trans hgr.size hp3.grown.size, fun k hk _ => (hp3.grown.block k (by omega) (by intro e; injection e; omega)).trans (hgr.block k hk (by simp))⟩
  clear HP3 hp3 hg2 hc hsrc2 hfin hgr h1 hg ht
  go_wp2_with fail
  have r1 : IntKind.i64.wrap ((i : Int) + 1) = (i : Int) + 1 := by rw [IntKind.wrap_i64]; omega
  have r2 : (0 : Int) ≤ (i : Int) + 1 := by omega
  have r3 : ((i : Int) + 1).toNat = i + 1 := by omega
  have r4 : (i : Int) + 1 ≤ (n : Int) + 1 := by omega
  have r6 : (0 : Int) ≤ (i : Int) := by omega
  go_region_held3 (fun _ => True) (trivial) ((refine step_copy_k rfl _ _ 41 41 rfl 53 i0 2 Try.underlying41 hi0 hz1 w.heap.size ((i + 1) * 2) (n - i) (cap' - (i + 1)) ⟨g, i * 2, none⟩ (n - i) (n - i) (by rfl) (by rfl) L2 53 hg3 (flat (sp.drop i)) (by rw [hl2, show Nat.min (n - i) (n - i) = n - i from Nat.min_self _]) hsrc3 (by rw [hl2, hgl3]; omega) (flat_one _) ?_; intro w4 HP4))
  have hp4 := HP4.out
  have hown : w4.ownsRow B 53 2 (.slice (some ⟨w.heap.size, 0, none⟩) (n + 1) cap') (n + 1) (flat (sp.take i ++ (s, e) :: sp.drop i)) := by
    refine ⟨?_, .inr ⟨w.heap.size, cap', _, rfl, hBw, hp4.obj, by omega, hc2, ?_, ?_⟩⟩
    · rw [flat_length]; simp; omega
    · rw [List.size_toArray, length_splice _ _ _ (by rw [hl2, hgl3]; omega), hgl3]
    · exact HF.out
  have hgr4 : w.grownBy w4 (some g) := ⟨hp4.grown.os.trans hgr3.os, hp4.grown.tape.trans hgr3.tape, hp4.grown.output.trans hgr3.output, Nat.le_trans hgr3.size hp4.grown.size, fun k hk _ => (hp4.grown.block k (Nat.lt_of_lt_of_le hk hgr3.size) (by intro e; injection e; omega)).trans (hgr3.block k hk (by simp))⟩
  clear HP4 hp4 hg3 hsrc3 HF hgr3
  go_wp2
  go_ret
  exact ⟨_, rfl, hown, hgr4⟩

/-- slices.Insert(s, i, one span). -/
theorem insert_any (B nb n i : Nat) (v : Value) (s e : Int) (sp : Sp) (w : World) (hn : sp.length = n) (hsm : n ≤ 1000000) (hi : i ≤ n) (hBw : B ≤ w.heap.size)
    (hown : w.ownsRow B 53 2 v n (flat sp)) (h1 : OneAt nb s e w) (hne : v.ownBlock ≠ some nb) :
    Calls Try.prog 51 #[v, .int .i64 i, .slice (some ⟨nb, 0, none⟩) 1 1] w fun e' w' => ∃ v', e' = .returned v' ∧ w'.ownsRow B 53 2 v' (n + 1) (flat (sp.take i ++ (s, e) :: sp.drop i)) ∧ w.grownBy w' v.ownBlock := by
  by_cases hin : i = n
  · subst hin
    obtain ⟨ao, c, rfl⟩ := own_form hown
    refine (insert_end B nb i c ao s e sp w hn hsm hBw hown h1).mono ?_
    rintro e' w' ⟨v', he, ho, hgr⟩
    refine ⟨v', he, ?_, hgr⟩
    rw [List.take_of_length_le (by omega), List.drop_of_length_le (by omega)]
    exact ho
  · rcases hown.2 with ⟨_, h0⟩ | ⟨g, cap, cur, rfl, hBg, hg, hnc, hcm, hcs, htk⟩
    · omega
    · have hL : cur.toList.length = cap * 2 := by simpa using hcs
      have hg' : w.heap[g]? = some (.cells cur.toList.toArray 53 (0, 0)) := by simpa using hg
      have hb : Value.ownBlock (.slice (some ⟨g, 0, none⟩) n cap) = some g := rfl
      rw [hb] at hne ⊢
      by_cases hr : n + 1 ≤ cap
      · exact insert_shift B nb g n cap i s e sp cur.toList w hn hsm (by omega) hr hcm hBg hg' hL htk h1 (fun e => hne (by rw [e]))
      · obtain rfl : cap = n := by omega
        exact insert_grow B nb g cap i s e sp cur.toList w hn hsm (by omega) hBw hg' htk h1
end Go.Proofs.Qxb6600119a
