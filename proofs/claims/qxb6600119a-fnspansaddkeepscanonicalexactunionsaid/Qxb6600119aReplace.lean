/-
  SEAT b6600119a: slices.Replace (47) at Spans: s[i:j] replaced by one element.
-/
import Derived.Test.Qxb6600119aInsert2
import Derived.Deep.QuietTactic
import Derived.BigQuiet
import Derived.Outline
namespace Go.Proofs.Qxb6600119a
open Go.RowKit
attribute [local go_sem ↓] Go.wp_at_zero Go.wp_at_succ

/-- An append with room, written out. -/
theorem wpList_append_put {P : Program} {w : World} {ops : Array Oper} {rest : List Oper} {o : Oper} {a : Act} {Q : Exit → Act → World → Prop} (hgd : o.guard = none) (s x : Operand) (t u e e' : TypeId)
    (ho : o.op = .call { callee := .builtin .append, args := #[s, x], argTypes := #[t, u] }) (hu : P.underlying u = some (.slice e')) (i : TypeInfo) (size : Nat) (ht : P.underlying t = some (.slice e)) (hi : P.info? e = some i) (hsize : i.size = size)
    (g n cap : Nat) (L : List Value) (hs : a.eval s = .slice (some ⟨g, 0, none⟩) n cap) (hg : w.heap[g]? = some (.cells L.toArray e (0, 0)))
    (ad : Addr) (m c : Nat) (news : List Value) (hx : a.eval x = .slice (some ad) m c) (hl : news.length = m * size) (hnews : ∀ j u, news[j]? = some u → w.cell? (ad.add j) = some u) (h1 : ∀ u ∈ news, u.oneCell' = true)
    (hroom : n + m ≤ cap) (hfit : n * size + news.length ≤ L.length)
    (h : ∀ w', Hid (Put g e (splice L (n * size) news) w w') → wpList P ops Q rest (a.put o.dst (.slice (some ⟨g, 0, none⟩) (n + m) cap)) w') : wpList P ops Q (o :: rest) a w := by
  subst hsize
  refine wpList_plain hgd fun K hK => ?_
  have hr := run_append_room (P := P) w t o.type e i ht hi g n cap L.toArray hg ad m c news hl hnews h1 hroom (by simpa using hfit)
  rw [← append_types w t u o.type e e' i _ _ _ _ ht hu hi] at hr
  unfold Oper.wp execOp
  simp only [ho, resolve, invoke, builtin, Sem.run_bind, Sem.run_pure, Result.andThen_ok, List.map_toArray, List.map_cons, List.map_nil, hs, hx, hr]
  refine hK _ _ (h _ ?_)
  have := put_mk hg (splice L (n * i.size) news)
  simpa [splice, Hid] using this

set_option maxHeartbeats 1000000 in
set_option maxRecDepth 100000 in
/-- Nothing is replaced: Insert. -/
theorem replace_ins (B nb n i : Nat) (v : Value) (s e : Int) (sp : Sp) (w : World) (hn : sp.length = n) (hsm : n ≤ 1000000) (hi : i ≤ n) (hBw : B ≤ w.heap.size)
    (hown : w.ownsRow B 53 2 v n (flat sp)) (h1 : OneAt nb s e w) (hne : v.ownBlock ≠ some nb) :
    Calls Try.prog 47 #[v, .int .i64 i, .int .i64 i, .slice (some ⟨nb, 0, none⟩) 1 1] w fun e' w' => ∃ v', e' = .returned v' ∧ w'.ownsRow B 53 2 v' (n + 1) (flat (sp.take i ++ (s, e) :: sp.drop i)) ∧ w.grownBy w' v.ownBlock := by
  have hins := insert_any B nb n i v s e sp w hn hsm hi hBw hown h1 hne
  have hc : ∃ ao c, v = .slice ao n c ∧ n ≤ c ∧ c ≤ maxLen := by
    rcases hown.2 with ⟨rfl, rfl⟩ | ⟨g, cap, cur, rfl, _, _, hnc, hcm, _⟩
    · exact ⟨_, _, rfl, Nat.le_refl _, by unfold maxLen; omega⟩
    · exact ⟨_, _, rfl, hnc, hcm⟩
  obtain ⟨ao, c, rfl, hnc, hcm⟩ := hc
  have HI := Lib.hid hins
  clear hins hown h1 hne
  have q1 : (0 : Int) ≤ (i : Int) := by omega
  have q2 : (i : Int) ≤ (c : Int) := by omega
  generalize flat (sp.take i ++ (s, e) :: sp.drop i) = F at *
  by_cases hci : c = i
  · have hni : n = i := by omega
    subst hni
    subst hci
    go_enter Try.func47, Try.ntmps47
    go_wp2_with (go_at_call 51; refine HI.out.mono ?_; rintro e' w' ⟨v', rfl, ho, hgr⟩)
    go_ret
    exact ⟨v', rfl, ho, hgr⟩
  · go_enter Try.func47, Try.ntmps47
    go_wp2_with (go_at_call 51; refine HI.out.mono ?_; rintro e' w' ⟨v', rfl, ho, hgr⟩)
    go_ret
    exact ⟨v', rfl, ho, hgr⟩

theorem zeros_one (n : Nat) : ∀ v ∈ (Builtin.zeroCells spanZ.cells n).toList, v.oneCell' = true := by
  intro v hv
  simp [Builtin.zeroCells, Value.cells] at hv
  obtain ⟨a, _, rfl⟩ := hv
  have : a % 2 = 0 ∨ a % 2 = 1 := by omega
  rcases this with h | h <;> simp [h] <;> rfl

set_option maxHeartbeats 1000000 in
set_option maxRecDepth 100000 in
/-- All from i on is replaced. -/
theorem replace_tail (B nb g n cap i : Nat) (s e : Int) (sp : Sp) (L : List Value) (w : World) (hn : sp.length = n) (hsm : n ≤ 1000000) (hi : i < n) (hnc : n ≤ cap) (hcm : cap ≤ maxLen) (hBg : B ≤ g)
    (hg : w.heap[g]? = some (.cells L.toArray 53 (0, 0))) (hL : L.length = cap * 2) (ht : L.take (n * 2) = flat sp) (h1 : OneAt nb s e w) :
    Calls Try.prog 47 #[.slice (some ⟨g, 0, none⟩) n cap, .int .i64 i, .int .i64 n, .slice (some ⟨nb, 0, none⟩) 1 1] w fun e' w' => ∃ v', e' = .returned v' ∧ w'.ownsRow B 53 2 v' (i + 1) (flat (sp.take i ++ [(s, e)])) ∧ w.grownBy w' (some g) := by
  obtain ⟨i0, hi0, hz0, hz1, hz2⟩ := info_parts info53
  have q1 : ¬ cap = i := by omega
  have q2 : ¬ cap = 0 := by omega
  have q3 : ((i : Int) == (n : Int)) = false := beq_eq_false_iff_ne.2 (by omega)
  have q4 : (0 : Int) ≤ (i : Int) := by omega
  have q5 : (i : Int) ≤ (n : Int) := by omega
  have q6 : (n : Int) ≤ (cap : Int) := by omega
  have hc := h1.cells
  have hl1 : (flat (sp.take i)).length = i * 2 := by rw [flat_length, List.length_take]; omega
  have hp : L.take (i * 2) = flat (sp.take i) := by rw [← flat_take, ← ht, List.take_take, Nat.min_eq_left (by omega)]
  have hfl : flat (sp.take i ++ [(s, e)]) = L.take (i * 2) ++ [Value.int .u32 s, Value.int .u32 e] := by rw [flat_append, hp]; rfl
  rw [hfl]
  have hlp : (L.take (i * 2)).length = i * 2 := by rw [hp]; exact hl1
  clear hp hl1 hfl ht
  by_cases hlast : i + 1 = n
  · subst hlast
    have q7 : ¬ ((i : Int) + 1 < ((i + 1 : Nat) : Int)) := by omega
    go_enter Try.func47, Try.ntmps47
    go_wp2_with (at_builtin; refine wpList_append_put rfl _ _ 41 40 53 53 rfl Try.underlying40 i0 2 Try.underlying41 hi0 hz1 g i cap L rfl hg ⟨nb, 0, none⟩ 1 1 [.int .u32 s, .int .u32 e] rfl rfl hc (span_one s e) (by omega) (by simp; omega) ?_)
    intro w2 HP
    have hp2 := HP.out
    have hown : w2.ownsRow B 53 2 (.slice (some ⟨g, 0, none⟩) (i + 1) cap) (i + 1) (L.take (i * 2) ++ [Value.int .u32 s, Value.int .u32 e]) := by
      refine ⟨by rw [List.length_append, hlp]; simp; omega, .inr ⟨g, cap, _, rfl, hBg, hp2.obj, by omega, hcm, ?_, ?_⟩⟩
      · rw [List.size_toArray, length_splice _ _ _ (by simp; omega), hL]
      · unfold splice; rw [← List.append_assoc, List.take_append_of_le_length (by simp; omega), List.take_of_length_le (by simp; omega)]
    have hgr := hp2.grown
    clear HP hp2 hg h1 hc
    go_wp2
    go_ret
    exact ⟨_, rfl, hown, hgr⟩
  · have q7 : ((i : Int) + 1 < (n : Int)) := by omega
    have q8 : ¬ cap = i + 1 := by omega
    go_enter Try.func47, Try.ntmps47
    go_wp2_with (at_builtin; refine wpList_append_put rfl _ _ 41 40 53 53 rfl Try.underlying40 i0 2 Try.underlying41 hi0 hz1 g i cap L rfl hg ⟨nb, 0, none⟩ 1 1 [.int .u32 s, .int .u32 e] rfl rfl hc (span_one s e) (by omega) (by simp; omega) ?_)
    intro w2 HP
    have hp2 := HP.out
    have hg2 := hp2.obj
    have hl2 : (splice L (i * 2) [Value.int .u32 s, Value.int .u32 e]).length = cap * 2 := by rw [length_splice _ _ _ (by simp; omega), hL]
    have htk : (splice L (i * 2) [Value.int .u32 s, Value.int .u32 e]).take ((i + 1) * 2) = L.take (i * 2) ++ [Value.int .u32 s, Value.int .u32 e] := by
      unfold splice; rw [← List.append_assoc, List.take_append_of_le_length (by simp; omega), List.take_of_length_le (by simp; omega)]
    have hgr2 := hp2.grown
    generalize splice L (i * 2) [Value.int .u32 s, Value.int .u32 e] = L2 at *
    have HT := Lib.hid htk
    clear HP hp2 hg h1 hc htk
    go_wp2_with (refine wpList_clear_k rfl _ 41 rfl 53 spanZ 2 Try.underlying41 Try.zeroValue53 rfl g ((i + 1) * 2) (n - (i + 1)) (cap - (i + 1)) (by omega) rfl L2 53 hg2 (by omega) (zeros_one _) ?_)
    intro w3 zs hzs HP3
    have hp3 := HP3.out
    have hown : w3.ownsRow B 53 2 (.slice (some ⟨g, 0, none⟩) (i + 1) cap) (i + 1) (L.take (i * 2) ++ [Value.int .u32 s, Value.int .u32 e]) := by
      refine ⟨by rw [List.length_append, hlp]; simp; omega, .inr ⟨g, cap, _, rfl, hBg, hp3.obj, by omega, hcm, ?_, ?_⟩⟩
      · rw [List.size_toArray, length_splice _ _ _ (by rw [hzs]; omega), hl2]
      · show (splice L2 ((i + 1) * 2) zs).take ((i + 1) * 2) = _
        unfold splice; rw [List.take_append_of_le_length (by simp; omega), List.take_take, Nat.min_self]; exact HT.out
    have hgr3 : w.grownBy w3 (some g) := ⟨hp3.grown.os.trans hgr2.os, hp3.grown.tape.trans hgr2.tape, hp3.grown.output.trans hgr2.output, Nat.le_trans hgr2.size hp3.grown.size, fun k hk hne => (hp3.grown.block k (Nat.lt_of_lt_of_le hk hgr2.size) hne).trans (hgr2.block k hk hne)⟩
    clear HP3 hp3 hg2 HT hgr2
    go_wp2
    go_ret
    exact ⟨_, rfl, hown, hgr3⟩
end Go.Proofs.Qxb6600119a
