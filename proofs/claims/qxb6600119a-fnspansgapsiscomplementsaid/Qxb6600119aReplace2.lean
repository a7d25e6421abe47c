/-
  SEAT b6600119a: slices.Replace (47) at Spans: a piece from the midst; the three roads as one.
-/
import Derived.Test.Qxb6600119aReplace
namespace Go.Proofs.Qxb6600119a
open Go.RowKit
attribute [local go_sem ↓] Go.wp_at_zero Go.wp_at_succ

theorem wpList_clear_none {P : Program} {w : World} {ops : Array Oper} {rest : List Oper} {o : Oper} {a : Act} {Q : Exit → Act → World → Prop} (hgd : o.guard = none) (d : Operand) (t : TypeId)
    (ho : o.op = .call { callee := .builtin .clear, args := #[d], argTypes := #[t] }) (elem : TypeId) (hu : P.underlying t = some (.slice elem)) (ad : Option Addr) (n c : Nat) (hd : a.eval d = .slice ad n c) (hn : n = 0)
    (h : wpList P ops Q rest (a.put o.dst (.tuple #[])) w) : wpList P ops Q (o :: rest) a w := by
  subst hn
  refine wpList_plain hgd fun K hK => ?_
  have hrun : (Builtin.clear_ #[t] o.type #[.slice ad 0 c]).run P w = .ok (.tuple #[]) w := by
    cases ad <;> simp [Builtin.clear_, run_underlying hu]
  unfold Oper.wp
  simp [execOp, ho, resolve, invoke, builtin, hd, hrun, Result.andThen]
  exact hK _ _ h

theorem splice_ge (L cs : List Value) (off k : Nat) (h : off + cs.length ≤ k) (ho : off ≤ L.length) : (splice L off cs)[k]? = L[k]? := by
  unfold splice
  rw [List.getElem?_append_right (by simp; omega), List.getElem?_append_right (by simp; omega), List.getElem?_drop]
  congr 1
  simp; omega
theorem min1 {a b : Value} (x : Nat) (h : 1 ≤ x) : [a, b].length = Nat.min 1 x * 2 := by rw [show Nat.min 1 x = 1 from Nat.min_eq_left h]; rfl
theorem mid_row (L : List Value) (n i j : Nat) (sp : Sp) (s e : Int) (hn : sp.length = n) (hij : i < j) (hjn : j ≤ n) (hL : n * 2 ≤ L.length) (ht : L.take (n * 2) = flat sp) :
    (splice (splice L (i * 2) [.int .u32 s, .int .u32 e]) ((i + 1) * 2) (flat (sp.drop j))).take ((i + 1 + (n - j)) * 2) = flat (sp.take i ++ (s, e) :: sp.drop j) := by
  have hl1 : (flat (sp.take i)).length = i * 2 := by rw [flat_length, List.length_take]; omega
  have hl2 : (flat (sp.drop j)).length = (n - j) * 2 := by rw [flat_length, List.length_drop, hn]
  have hp : L.take (i * 2) = flat (sp.take i) := by rw [← flat_take, ← ht, List.take_take, Nat.min_eq_left (by omega)]
  have c1 : L = L.take (i * 2) ++ ((L.drop (i * 2)).take 2 ++ L.drop (i * 2 + 2)) := cut3 L _ _
  have hY : ((L.drop (i * 2)).take 2).length = 2 := by simp; omega
  rw [hp] at c1
  have hZ : (L.drop (i * 2 + 2)).length = L.length - (i * 2 + 2) := by simp
  generalize (L.drop (i * 2)).take 2 = Y at *
  generalize L.drop (i * 2 + 2) = Z at *
  rw [c1, splice_mid _ Y _ _ _ hl1 (by rw [hY]; rfl)]
  have c2 : Z = Z.take ((n - j) * 2) ++ Z.drop ((n - j) * 2) := (List.take_append_drop _ _).symm
  rw [c2, ← List.append_assoc (flat (sp.take i))]
  rw [splice_mid (flat (sp.take i) ++ [Value.int .u32 s, Value.int .u32 e]) (Z.take ((n - j) * 2)) _ _ _ (by rw [List.length_append, hl1]; simp; omega) (by rw [hl2]; simp; omega)]
  rw [flat_append]
  have e9 : flat ((s, e) :: sp.drop j) = [Value.int .u32 s, Value.int .u32 e] ++ flat (sp.drop j) := rfl
  rw [e9, ← List.append_assoc, ← List.append_assoc]
  rw [List.take_append_of_le_length (by simp [hl1, hl2]; omega), List.take_of_length_le (by simp [hl1, hl2]; omega)]

set_option maxHeartbeats 2000000 in
set_option maxRecDepth 100000 in
theorem replace_mid (B nb g n cap i j : Nat) (s e : Int) (sp : Sp) (L : List Value) (w : World) (hn : sp.length = n) (hsm : n ≤ 1000000) (hij : i < j) (hjn : j < n) (hnc : n ≤ cap) (hcm : cap ≤ maxLen) (hBg : B ≤ g)
    (hg : w.heap[g]? = some (.cells L.toArray 53 (0, 0))) (hL : L.length = cap * 2) (ht : L.take (n * 2) = flat sp) (h1 : OneAt nb s e w) :
    Calls Try.prog 47 #[.slice (some ⟨g, 0, none⟩) n cap, .int .i64 i, .int .i64 j, .slice (some ⟨nb, 0, none⟩) 1 1] w fun e' w' => ∃ v', e' = .returned v' ∧ w'.ownsRow B 53 2 v' (i + 1 + (n - j)) (flat (sp.take i ++ (s, e) :: sp.drop j)) ∧ w.grownBy w' (some g) := by
  obtain ⟨i0, hi0, hz0, hz1, hz2⟩ := info_parts info53
  have q1 : ¬ cap = i := by omega
  have q2 : ¬ cap = 0 := by omega
  have q3 : ((i : Int) == (j : Int)) = false := beq_eq_false_iff_ne.2 (by omega)
  have q3' : ((j : Int) == (n : Int)) = false := beq_eq_false_iff_ne.2 (by omega)
  have q4 : (0 : Int) ≤ (i : Int) := by omega
  have q5 : (i : Int) ≤ (j : Int) := by omega
  have q5' : (i : Int) ≤ (n : Int) := by omega
  have q6 : (j : Int) ≤ (cap : Int) := by omega
  have q7 : (j : Int) ≤ (n : Int) := by omega
  have q8 : (0 : Int) ≤ (j : Int) := by omega
  have q9 : (i : Int) ≤ (cap : Int) := by omega
  have q10 : ¬ cap = j := by omega
  have hc := h1.cells
  have hfin := mid_row L n i j sp s e hn hij (by omega) (by omega) ht
  have hl2 : (flat (sp.drop j)).length = (n - j) * 2 := by rw [flat_length, List.length_drop, hn]
  have hlF : (flat (sp.take i ++ (s, e) :: sp.drop j)).length = (i + 1 + (n - j)) * 2 := by rw [flat_length]; simp; omega
  generalize flat (sp.take i ++ (s, e) :: sp.drop j) = F at *
  go_enter Try.func47, Try.ntmps47
  go_wp2_with fail
  go_quiet (fail)
  have hgd : (w.drewN nq).heap[g]? = some (.cells L.toArray 53 (0, 0)) := hg
  have hcd : ∀ j u, [Value.int .u32 s, Value.int .u32 e][j]? = some u → (w.drewN nq).cell? ((⟨nb, 0, none⟩ : Addr).add j) = some u := hc
  go_wp2_with (refine wpList_copy_k rfl _ _ 41 40 rfl 53 i0 2 Try.underlying41 hi0 hz1 g (i * 2) _ _ ⟨nb, 0, none⟩ 1 1 rfl rfl L 53 hgd [.int .u32 s, .int .u32 e] (min1 _ (by omega)) hcd (by rw [hL]; simp; omega) (span_one s e) ?_)
  intro w2 HP
  have hp2 := HP.out
  have hg2 := hp2.obj
  have hl3 : (splice L (i * 2) [Value.int .u32 s, Value.int .u32 e]).length = cap * 2 := by rw [length_splice _ _ _ (by simp; omega), hL]
  have hgr2 : w.grownBy w2 (some g) := ⟨hp2.grown.os, hp2.grown.tape, hp2.grown.output, hp2.grown.size, hp2.grown.block⟩
  have hdr : ∀ k, (i + 1) * 2 ≤ k → (splice L (i * 2) [Value.int .u32 s, Value.int .u32 e])[k]? = L[k]? := by
    intro k hk
    exact splice_ge L _ _ k (by simp; omega) (by omega)
  have hsrc : ∀ k v, (flat (sp.drop j))[k]? = some v → w2.cell? ((⟨g, j * 2, none⟩ : Addr).add k) = some v := by
    intro k v hk
    have h9 := row_src (i := j) hg ht hn k v hk
    rw [Addr.add_lit, cell_of_row w g _ _ 53 _ hg] at h9
    rw [Addr.add_lit, cell_of_row w2 g _ _ 53 _ hg2]
    simp only [List.getElem?_toArray] at h9 ⊢
    rw [hdr _ (by omega)]; exact h9
  generalize splice L (i * 2) [Value.int .u32 s, Value.int .u32 e] = L2 at *
  have HF := Lib.hid hfin
  clear HP hp2 hg hgd hc hcd h1 ht hfin hdr
  go_wp2_with fail
  have r1 : IntKind.i64.wrap ((i : Int) + 1) = (i : Int) + 1 := by rw [IntKind.wrap_i64]; omega
  have r2 : (0 : Int) ≤ (i : Int) + 1 := by omega
  have r3 : ((i : Int) + 1).toNat = i + 1 := by omega
  have r4 : (i : Int) + 1 ≤ (i : Int) + 1 + ((n - j : Nat) : Int) := by omega
  have r5 : ¬ cap = i + 1 := by omega
  go_region_held3 (fun _ => True) (trivial) ((refine step_copy_k rfl _ _ 41 41 rfl 53 i0 2 Try.underlying41 hi0 hz1 g ((i + 1) * 2) _ _ ⟨g, j * 2, none⟩ (n - j) (cap - j) (by rfl) (by rfl) L2 53 hg2 (flat (sp.drop j)) (by rw [hl2, show ∀ x, x = n - j → Nat.min (n - j) x = n - j from fun x hx => by rw [hx]; exact Nat.min_self _]; omega) hsrc (by rw [hl2, hl3]; omega) (flat_one _) ?_; intro w3 HP3))
  have hp3 := HP3.out
  have hg3 := hp3.obj
  have hl4 : (splice L2 ((i + 1) * 2) (flat (sp.drop j))).length = cap * 2 := by rw [length_splice _ _ _ (by rw [hl2, hl3]; omega), hl3]
  have hgr3 : w.grownBy w3 (some g) := ⟨hp3.grown.os.trans hgr2.os, hp3.grown.tape.trans hgr2.tape, hp3.grown.output.trans hgr2.output, Nat.le_trans hgr2.size hp3.grown.size, fun k hk hne => (hp3.grown.block k (Nat.lt_of_lt_of_le hk hgr2.size) hne).trans (hgr2.block k hk hne)⟩
  have hfin := HF.out
  generalize splice L2 ((i + 1) * 2) (flat (sp.drop j)) = L3 at *
  have HF2 := Lib.hid hfin
  clear HP3 hp3 hg2 hsrc HF hgr2 hfin
  by_cases hTn : i + 1 + (n - j) < n
  · have s1 : ¬ cap = i + 1 + (n - j) := by omega
    have s2 : (i : Int) + 1 + ((n - j : Nat) : Int) ≤ (n : Int) := by omega
    go_wp2_with (refine wpList_clear_k rfl _ 41 rfl 53 spanZ 2 Try.underlying41 Try.zeroValue53 rfl g ((i + 1 + (n - j)) * 2) (n - (i + 1 + (n - j))) (cap - (i + 1 + (n - j))) (by omega) rfl L3 53 hg3 (by omega) (zeros_one _) ?_)
    intro w4 zs hzs HP4
    have hp4 := HP4.out
    have hown : w4.ownsRow B 53 2 (.slice (some ⟨g, 0, none⟩) (i + 1 + (n - j)) cap) (i + 1 + (n - j)) F := by
      refine ⟨hlF, .inr ⟨g, cap, _, rfl, hBg, hp4.obj, by omega, hcm, ?_, ?_⟩⟩
      · rw [List.size_toArray, length_splice _ _ _ (by rw [hzs, hl4]; omega), hl4]
      · show (splice L3 ((i + 1 + (n - j)) * 2) zs).take ((i + 1 + (n - j)) * 2) = _
        unfold splice; rw [List.take_append_of_le_length (by simp; omega), List.take_take, Nat.min_self]; exact HF2.out
    have hgr4 : w.grownBy w4 (some g) := ⟨hp4.grown.os.trans hgr3.os, hp4.grown.tape.trans hgr3.tape, hp4.grown.output.trans hgr3.output, Nat.le_trans hgr3.size hp4.grown.size, fun k hk hne => (hp4.grown.block k (Nat.lt_of_lt_of_le hk hgr3.size) hne).trans (hgr3.block k hk hne)⟩
    clear HP4 hp4 hg3 HF2 hgr3
    go_wp2
    go_ret
    exact ⟨_, rfl, hown, hgr4⟩
  · have hown : w3.ownsRow B 53 2 (.slice (some ⟨g, 0, none⟩) (i + 1 + (n - j)) cap) (i + 1 + (n - j)) F :=
      ⟨hlF, .inr ⟨g, cap, _, rfl, hBg, hg3, by omega, hcm, by rw [List.size_toArray, hl4], HF2.out⟩⟩
    have s2 : (i : Int) + 1 + ((n - j : Nat) : Int) ≤ (n : Int) := by omega
    have s3 : n - (i + 1 + (n - j)) = 0 := by omega
    clear hg3 HF2
    by_cases s1 : cap = i + 1 + (n - j)
    · subst s1
      go_wp2_with (refine wpList_clear_none rfl _ 41 rfl 53 Try.underlying41 _ _ _ rfl (by omega) ?_)
      go_ret
      exact ⟨_, rfl, hown, hgr3⟩
    · go_wp2_with (refine wpList_clear_none rfl _ 41 rfl 53 Try.underlying41 _ _ _ rfl (by omega) ?_)
      go_ret
      exact ⟨_, rfl, hown, hgr3⟩

/-- slices.Replace(s, i, j, one span). -/
theorem replace_any (B nb n i j : Nat) (v : Value) (s e : Int) (sp : Sp) (w : World) (hn : sp.length = n) (hsm : n ≤ 1000000) (hij : i ≤ j) (hjn : j ≤ n) (hBw : B ≤ w.heap.size)
    (hown : w.ownsRow B 53 2 v n (flat sp)) (h1 : OneAt nb s e w) (hne : v.ownBlock ≠ some nb) :
    Calls Try.prog 47 #[v, .int .i64 i, .int .i64 j, .slice (some ⟨nb, 0, none⟩) 1 1] w fun e' w' => ∃ v', e' = .returned v' ∧ w'.ownsRow B 53 2 v' (sp.take i ++ (s, e) :: sp.drop j).length (flat (sp.take i ++ (s, e) :: sp.drop j)) ∧ w.grownBy w' v.ownBlock := by
  by_cases h0 : i = j
  · subst h0
    refine (replace_ins B nb n i v s e sp w hn hsm hjn hBw hown h1 hne).mono ?_
    rintro e' w' ⟨v', he, ho, hgr⟩
    refine ⟨v', he, ?_, hgr⟩
    rw [show (sp.take i ++ (s, e) :: sp.drop i).length = n + 1 by simp; omega]
    exact ho
  · rcases hown.2 with ⟨_, h9⟩ | ⟨g, cap, cur, rfl, hBg, hg, hnc, hcm, hcs, htk⟩
    · omega
    · have hL : cur.toList.length = cap * 2 := by simpa using hcs
      have hg' : w.heap[g]? = some (.cells cur.toList.toArray 53 (0, 0)) := by simpa using hg
      have hb : Value.ownBlock (.slice (some ⟨g, 0, none⟩) n cap) = some g := rfl
      rw [hb] at hne ⊢
      by_cases hjn' : j = n
      · subst hjn'
        refine (replace_tail B nb g j cap i s e sp cur.toList w hn hsm (by omega) hnc hcm hBg hg' hL htk h1).mono ?_
        rintro e' w' ⟨v', he, ho, hgr⟩
        refine ⟨v', he, ?_, hgr⟩
        rw [List.drop_of_length_le (by omega)]
        rw [show (sp.take i ++ [(s, e)]).length = i + 1 by simp; omega]
        exact ho
      · refine (replace_mid B nb g n cap i j s e sp cur.toList w hn hsm (by omega) (by omega) hnc hcm hBg hg' hL htk h1).mono ?_
        rintro e' w' ⟨v', he, ho, hgr⟩
        refine ⟨v', he, ?_, hgr⟩
        rw [show (sp.take i ++ (s, e) :: sp.drop j).length = i + 1 + (n - j) by simp; omega]
        exact ho
end Go.Proofs.Qxb6600119a
