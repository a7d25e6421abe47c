/-
  SEAT b6600119a: slices.Insert (51) at Spans, one element inserted.
-/
import Derived.Test.Qxb6600119aRow2
import Derived.Outline
import Derived.Deep.RegionHeld3
import Derived.Deep.DrawnRows
namespace Go.Proofs.Qxb6600119a
open Go.RowKit
attribute [local go_sem ↓] Go.wp_at_zero Go.wp_at_succ

abbrev spanZ : Value := .agg #[.int .u32 0, .int .u32 0]
theorem info53 : (Try.prog.info? 53).map (fun i => (i.zero, i.size, i.bytes)) = some (some spanZ, 2, 8) := by kernel_rfl

/-- One span in a block of its own. -/
def OneAt (nb : Nat) (s e : Int) (w : World) : Prop := w.heap[nb]? = some (.cells #[.int .u32 s, .int .u32 e] 53 (0, 0))
theorem OneAt.cells {nb : Nat} {s e : Int} {w : World} (h : OneAt nb s e w) : ∀ j u, [Value.int .u32 s, Value.int .u32 e][j]? = some u → w.cell? ((⟨nb, 0, none⟩ : Addr).add j) = some u := by
  intro j u hj
  rw [Addr.add_lit, Nat.zero_add, cell_of_row w nb j _ 53 _ h]
  rw [← hj]
  match j with
  | 0 => rfl
  | 1 => rfl
  | j + 2 => simp
theorem span_one (s e : Int) : ∀ u ∈ [Value.int .u32 s, Value.int .u32 e], u.oneCell' = true := by
  intro u hu; simp at hu; rcases hu with rfl | rfl <;> rfl
theorem flat_ins (sp : Sp) (i : Nat) (s e : Int) : flat (sp.take i ++ (s, e) :: sp.drop i) = flat (sp.take i) ++ [Value.int .u32 s, Value.int .u32 e] ++ flat (sp.drop i) := by
  rw [flat_append]; simp [flat]

set_option maxHeartbeats 1000000 in
/-- At the end: append. -/
theorem insert_end (B nb n cap : Nat) (ao : Option Addr) (s e : Int) (sp : Sp) (w : World) (hn : sp.length = n) (hsm : n ≤ 1000000) (hBw : B ≤ w.heap.size)
    (hown : w.ownsRow B 53 2 (.slice ao n cap) n (flat sp)) (h1 : OneAt nb s e w) :
    Calls Try.prog 51 #[.slice ao n cap, .int .i64 n, .slice (some ⟨nb, 0, none⟩) 1 1] w fun e' w' => ∃ v', e' = .returned v' ∧ w'.ownsRow B 53 2 v' (n + 1) (flat (sp ++ [(s, e)])) ∧ w.grownBy w' (Value.ownBlock (.slice ao n cap)) := by
  obtain ⟨i0, hi, hz0, hz1, hz2⟩ := info_parts info53
  have hfl : flat (sp ++ [(s, e)]) = flat sp ++ [Value.int .u32 s, Value.int .u32 e] := by rw [flat_append]; rfl
  rw [hfl]
  have hc := h1.cells
  generalize flat sp = xs at *
  clear hfl
  by_cases hcn : cap = n
  · subst hcn
    go_enter Try.func51, Try.ntmps51
    go_wp2_with (at_builtin; refine wpList_append_own_u rfl _ _ 41 40 53 rfl Try.underlying40 B 53 i0 spanZ 2 8 Try.underlying41 hi hz0 hz1 hz2 rfl (by decide) _ cap xs rfl hown ⟨nb, 0, none⟩ 1 1 [.int .u32 s, .int .u32 e] rfl rfl hc (span_one s e) (by unfold maxLen; omega) (by omega) hBw ?_)
    intro v' w' hown' hgr
    clear hc h1 hown
    go_wp2
    go_ret
    exact ⟨v', rfl, hown', hgr⟩
  · go_enter Try.func51, Try.ntmps51
    go_wp2_with (at_builtin; refine wpList_append_own_u rfl _ _ 41 40 53 rfl Try.underlying40 B 53 i0 spanZ 2 8 Try.underlying41 hi hz0 hz1 hz2 rfl (by decide) _ n xs rfl hown ⟨nb, 0, none⟩ 1 1 [.int .u32 s, .int .u32 e] rfl rfl hc (span_one s e) (by unfold maxLen; omega) (by omega) hBw ?_)
    intro v' w' hown' hgr
    clear hc h1 hown
    go_wp2
    go_ret
    exact ⟨v', rfl, hown', hgr⟩

/-! ### The row behind the writes -/
theorem splice_mid (A X Z cs : List Value) (off : Nat) (hA : A.length = off) (hX : X.length = cs.length) : splice (A ++ (X ++ Z)) off cs = A ++ (cs ++ Z) := by
  subst hA
  unfold splice
  rw [List.take_left, ← hX, List.drop_append, Nat.add_sub_cancel_left, List.drop_of_length_le (by omega), List.drop_left, List.nil_append]
theorem cut3 (M : List Value) (a b : Nat) : M = M.take a ++ ((M.drop a).take b ++ M.drop (a + b)) := by
  rw [← List.drop_drop, List.take_append_drop, List.take_append_drop]
/-- The row: the first i elements, the others, the spare. -/
theorem row_cut (L : List Value) (n i : Nat) (sp : Sp) (ht : L.take (n * 2) = flat sp) : L = flat (sp.take i) ++ (flat (sp.drop i) ++ L.drop (n * 2)) := by
  rw [← List.append_assoc, ← flat_append, List.take_append_drop, ← ht, List.take_append_drop]
/-- 's[i:]' shifted up by one, then the element. -/
theorem shift_row (L : List Value) (n i : Nat) (sp : Sp) (s e : Int) (hn : sp.length = n) (hi : i ≤ n) (hL : (n + 1) * 2 ≤ L.length) (ht : L.take (n * 2) = flat sp) :
    (splice (splice L ((i + 1) * 2) (flat (sp.drop i))) (i * 2) [.int .u32 s, .int .u32 e]).take ((n + 1) * 2) = flat (sp.take i ++ (s, e) :: sp.drop i) := by
  have hl1 : (flat (sp.take i)).length = i * 2 := by rw [flat_length, List.length_take]; omega
  have hl2 : (flat (sp.drop i)).length = (n - i) * 2 := by rw [flat_length, List.length_drop, hn]
  have hR : (L.drop (n * 2)).length = L.length - n * 2 := by simp
  have hM : (flat (sp.drop i) ++ L.drop (n * 2)).length = (n - i) * 2 + (L.length - n * 2) := by rw [List.length_append, hl2, hR]
  have c1 := row_cut L n i sp ht
  rw [cut3 (flat (sp.drop i) ++ L.drop (n * 2)) 2 ((n - i) * 2)] at c1
  generalize flat (sp.drop i) ++ L.drop (n * 2) = M at *
  have hX : ((M.drop 2).take ((n - i) * 2)).length = (flat (sp.drop i)).length := by rw [hl2]; simp; omega
  have hY : (M.take 2).length = 2 := by simp; omega
  rw [c1, ← List.append_assoc (flat (sp.take i))]
  rw [splice_mid (flat (sp.take i) ++ M.take 2) _ _ _ _ (by rw [List.length_append, hl1, hY]; omega) hX]
  rw [List.append_assoc (flat (sp.take i)), splice_mid _ (M.take 2) _ _ _ hl1 (by rw [hY]; rfl), flat_ins]
  rw [← List.append_assoc, ← List.append_assoc]
  refine (congrArg (List.take · _) rfl).trans ?_
  rw [List.take_append_of_le_length (by simp [hl1, hl2]; omega), List.take_of_length_le (by simp [hl1, hl2]; omega)]

theorem heap_lt {w : World} {g : Nat} {o : Obj} (h : w.heap[g]? = some o) : g < w.heap.size := (Array.getElem?_eq_some_iff.1 h).1
theorem shape_row {w : World} {g : Nat} {L : Array Value} {t : TypeId} (h : w.heap[g]? = some (.cells L t (0, 0))) : w.shape? g = some (t, L.size) := by
  simp [World.shape?, h]
theorem frozen_row {w : World} {g o : Nat} {L : Array Value} {t : TypeId} (h : w.heap[g]? = some (.cells L t (0, 0))) : w.frozen? ⟨g, o, none⟩ = false := by
  simp [World.frozen?, h]
theorem overlaps_no (w : World) (nb g off lb cb : Nat) (s e : Int) (L : List Value) (h1 : OneAt nb s e w) (hg : w.heap[g]? = some (.cells L.toArray 53 (0, 0))) (hL : L.length ≠ 0) (hne : nb ≠ g) :
    (callFunc 52 #[.slice (some ⟨nb, 0, none⟩) 1 1, .slice (some ⟨g, off, none⟩) lb cb]).run Try.prog w = .ok (.value (.bool false)) w := by
  rw [run_callFunc_extern Try.func52 (by kernel_rfl) (by kernel_rfl) (by kernel_rfl) (e := Extern.SlicesOverlaps.overlaps #[40, 40] #[4]) (by kernel_rfl),
    Lib.run_overlaps_apart w 40 4 53 Try.underlying40 2 Try.sizeOf53 ⟨nb, 0, none⟩ ⟨g, off, none⟩ 1 1 lb cb hne 53 53 2 L.length (shape_row h1) (by simpa using shape_row hg) hL (frozen_row h1) (frozen_row h1)]
  rfl

theorem row_src {w : World} {g i n : Nat} {sp : Sp} {L : List Value} (hg : w.heap[g]? = some (.cells L.toArray 53 (0, 0))) (ht : L.take (n * 2) = flat sp) (hn : sp.length = n) :
    ∀ j v, (flat (sp.drop i))[j]? = some v → w.cell? ((⟨g, i * 2, none⟩ : Addr).add j) = some v := by
  intro j v hj
  rw [Addr.add_lit, cell_of_row w g _ _ 53 _ hg]
  rw [← flat_drop, List.getElem?_drop] at hj
  have hlt : i * 2 + j < n * 2 := by
    have := (List.getElem?_eq_some_iff.1 hj).1
    rw [flat_length, hn] at this; exact this
  rw [← ht, List.getElem?_take, if_pos hlt] at hj
  simpa using hj

set_option maxHeartbeats 1000000 in
/-- In place: there is room. -/
theorem insert_shift (B nb g n cap i : Nat) (s e : Int) (sp : Sp) (L : List Value) (w : World) (hn : sp.length = n) (hsm : n ≤ 1000000) (hi : i < n) (hroom : n + 1 ≤ cap) (hcm : cap ≤ maxLen) (hBg : B ≤ g)
    (hg : w.heap[g]? = some (.cells L.toArray 53 (0, 0))) (hL : L.length = cap * 2) (ht : L.take (n * 2) = flat sp) (h1 : OneAt nb s e w) (hne : nb ≠ g) :
    Calls Try.prog 51 #[.slice (some ⟨g, 0, none⟩) n cap, .int .i64 i, .slice (some ⟨nb, 0, none⟩) 1 1] w fun e' w' => ∃ v', e' = .returned v' ∧ w'.ownsRow B 53 2 v' (n + 1) (flat (sp.take i ++ (s, e) :: sp.drop i)) ∧ w.grownBy w' (some g) := by
  obtain ⟨i0, hi0, hz0, hz1, hz2⟩ := info_parts info53
  have hov := fun off lb cb => overlaps_no w nb g off lb cb s e L h1 hg (by omega) hne
  have q1 : ¬ cap = i := by omega
  have q2 : ¬ cap = 0 := by omega
  have q3 : ¬ cap = i + 1 := by omega
  have q4 : ((i : Int) == (n : Int)) = false := beq_eq_false_iff_ne.2 (by omega)
  have q5 : ¬ ((cap : Int) < (n : Int) + 1) := by omega
  have q6 : (i : Int) ≤ (n : Int) := by omega
  have q7 : (cap : Int) ≤ 9223372036854775807 := by unfold maxLen at hcm; omega
  go_enter Try.func51, Try.ntmps51
  go_wp2_with (simp only [hov])
  have hsrc := row_src (i := i) hg ht hn
  have hl2 : (flat (sp.drop i)).length = (n - i) * 2 := by rw [flat_length, List.length_drop, hn]
  clear hov
  have r1 : IntKind.i64.wrap ((i : Int) + 1) = (i : Int) + 1 := by rw [IntKind.wrap_i64]; omega
  have r2 : (0 : Int) ≤ (i : Int) + 1 := by omega
  have r3 : ((i : Int) + 1).toNat = i + 1 := by omega
  have r4 : (i : Int) + 1 ≤ (n : Int) + 1 := by omega
  have r5 : (i : Int) ≤ (n : Int) + 1 := by omega
  have r6 : (0 : Int) ≤ (i : Int) := by omega
  go_region_held3 (fun _ => True) (trivial) ((refine step_copy_k rfl _ _ 41 41 rfl 53 i0 2 Try.underlying41 hi0 hz1 g ((i + 1) * 2) (n - i) (cap - (i + 1)) ⟨g, i * 2, none⟩ (n + 1 - i) (cap - i) (by rfl) (by rfl) L 53 hg (flat (sp.drop i)) (by rw [hl2, show Nat.min (n + 1 - i) (n - i) = n - i from Nat.min_eq_right (by omega)]) hsrc (by rw [hl2, hL]; omega) (flat_one _) ?_; intro w2 HP))
  have hp2 := HP.out
  have h12 : OneAt nb s e w2 := (hp2.grown.block nb (heap_lt h1) (by intro e; injection e; omega)).trans h1
  have hls : (splice L ((i + 1) * 2) (flat (sp.drop i))).length = cap * 2 := by rw [length_splice _ _ _ (by rw [hl2, hL]; omega), hL]
  have hfin := shift_row L n i sp s e hn (by omega) (by omega) ht
  have hg2 := hp2.obj
  have hgr2 : w.grownBy w2 (some g) := ⟨hp2.grown.os, hp2.grown.tape, hp2.grown.output, hp2.grown.size, hp2.grown.block⟩
  generalize splice L ((i + 1) * 2) (flat (sp.drop i)) = L2 at hls hfin hg2
  have HF := Lib.hid hfin
  have hc2 := h12.cells
  clear HP hp2 hg h1 hsrc hL ht hfin
  go_wp2_with (refine wpList_copy_k rfl _ _ 41 40 rfl 53 i0 2 Try.underlying41 hi0 hz1 g (i * 2) (n + 1 - i) (cap - i) ⟨nb, 0, none⟩ 1 1 rfl rfl L2 53 hg2 [.int .u32 s, .int .u32 e] (by rw [show Nat.min 1 (n + 1 - i) = 1 from Nat.min_eq_left (by omega)]; rfl) hc2 (by rw [hls]; simp; omega) (span_one s e) ?_)
  intro w3 HP3
  have hp3 := HP3.out
  have hown : w3.ownsRow B 53 2 (.slice (some ⟨g, 0, none⟩) (n + 1) cap) (n + 1) (flat (sp.take i ++ (s, e) :: sp.drop i)) := by
    refine ⟨?_, .inr ⟨g, cap, _, rfl, hBg, hp3.obj, by omega, hcm, ?_, ?_⟩⟩
    · rw [flat_length]; simp; omega
    · rw [List.size_toArray, length_splice _ _ _ (by rw [hls]; simp; omega), hls]
    · exact HF.out
  have hgr3 : w.grownBy w3 (some g) := ⟨hp3.grown.os.trans hgr2.os, hp3.grown.tape.trans hgr2.tape, hp3.grown.output.trans hgr2.output, Nat.le_trans hgr2.size hp3.grown.size, fun k hk hne => (hp3.grown.block k (Nat.lt_of_lt_of_le hk hgr2.size) hne).trans (hgr2.block k hk hne)⟩
  clear HP3 hp3 hg2 h12 hc2 HF hgr2
  go_wp2
  go_ret
  exact ⟨_, rfl, hown, hgr3⟩
end Go.Proofs.Qxb6600119a
