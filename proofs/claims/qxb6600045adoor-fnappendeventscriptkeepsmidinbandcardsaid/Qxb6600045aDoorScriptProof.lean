/-
  SEAT b6600045aD: Rows.FnAppendEventScriptKeepsMidInBandSaid, and its card.
-/
import Derived.Test.Qxb6600045aDoorScript
import Derived.Test.Qxb6600045aDoorLaid
import Derived.Test.Qxb6600045aDoorTie
import Derived.Test.Qxb6600045aDoorCards
import Derived.OpenShut
import Derived.ChangeOld
import Derived.Below
import Derived.Deep.Grids
import Derived.SevenTiedAt
namespace Go.Proofs.Qxb6600045aDoor
open Go.ChangeShapes Go.WideShapes Go.ChangeAt Go.RowKit
set_option linter.unusedVariables false

set_option maxRecDepth 100000 in
theorem script_zero (r m s : Int) (ao : Option Addr) (c : Nat) (w : World) :
    Calls Tryd.prog 4 #[.int .u64 r, .int .i64 m, .int .i64 s, .slice ao 0 c] w fun e w' => e = .returned (.bool true) ∧ Below w.heap.size w w' := by
  by_cases hlo : 10800 ≤ m
  · by_cases hhi : m ≤ 11200
    all_goals
      go_enter Tryd.func4, Tryd.ntmps4
      go_wp2_with (go_at_call 16; refine (bytes16 _ _ _ _ _ _ _ (by omega)).mono ?_; rintro e w' ⟨rfl, rfl⟩)
      refine wp_loop_rounds 1 ?_
      rw [rounds_succ]
      go_wp2
      go_ret
      exact ⟨rfl, ((Below.refl _ w).alloc (Nat.le_refl _) _).alloc (by simp) _⟩
  · go_enter Tryd.func4, Tryd.ntmps4
    go_wp2_with (go_at_call 16; refine (bytes16 _ _ _ _ _ _ _ (by omega)).mono ?_; rintro e w' ⟨rfl, rfl⟩)
    refine wp_loop_rounds 1 ?_
    rw [rounds_succ]
    go_wp2
    go_ret
    exact ⟨rfl, ((Below.refl _ w).alloc (Nat.le_refl _) _).alloc (by simp) _⟩

/-- What the walk is told of a slice of bools that came in. -/
def IsBools (w : World) (a : Option Addr) (len cap : Nat) (B : Nat → Bool) : Prop :=
  (a = none ∧ len = 0 ∧ cap = 0) ∨ ∃ x, a = some x ∧ len ≤ cap ∧ cap ≤ maxLen ∧ ∀ i, i < cap → w.cell? (x.add i) = some (.bool (B i))

theorem script_walk (r m s : Int) (ao : Option Addr) (len cap : Nat) (B : Nat → Bool) (w : World) (w1 : (Lit.int .i64 m).wf = true) (hb : IsBools w ao len cap B) (ht : Tab w.heap.size w) :
    Calls Tryd.prog 4 #[.int .u64 r, .int .i64 m, .int .i64 s, .slice ao len cap] w fun e w' => e = .returned (.bool true) ∧ Below w.heap.size w w' := by
  by_cases h0 : len = 0
  · subst h0; exact script_zero r m s ao cap w
  rcases hb with ⟨_, h, _⟩ | ⟨x, rfl, hl, hm, hc⟩
  · exact absurd h h0
  · by_cases h4 : 4096 < len
    · exact script_long r m s (some x) len cap w h4 (by unfold maxLen at hm; omega)
    · obtain ⟨b, off, spot⟩ := x
      have hspot : spot = none := by simpa [Addr.add] using World.cell?_spot (hc 0 (by omega))
      subst hspot
      have hc' : ∀ j, j < len → w.cell? ⟨b, off + j, none⟩ = some (.bool (((List.range len).map B).getD j false)) := by
        intro j hj
        rw [← Go.WideShapes.add_plain, hc j (by omega)]
        simp [List.getD, hj]
      have hlt : b < w.heap.size := World.block_lt_of_cell? w _ (hc' 0 (by omega))
      obtain ⟨m0, m1⟩ := bounds_i64 w1
      exact script_short r m s b off len cap _ w (by omega) hlt hc' m0 m1 ht

set_option maxRecDepth 100000 in
theorem script_lifted (os : Os) (started : os.Started) (H : Type) (enc : TypeId × Value → H) :
    ReturnsInHanded {} Tryd.checked os 4 .any (fun w args => (Rows.fnAppendEventScriptKeepsMidInBandSpec.pre enc Tryd.prog Tryd.f4 [] false w args ∧ laidMetH Tryd.prog laid3 w) ∧ sizedMet enc Tryd.prog Tryd.f4 (OpenSpec.ofChange Rows.fnAppendEventScriptKeepsMidInBandSpec) false w args)
      (Rows.fnAppendEventScriptKeepsMidInBandSpec.post enc Tryd.prog Tryd.f4 false true false false) := by
  refine returnsInHanded_of_change_and (C := Tryd.checked) (X := fun w _ => laidMetH Tryd.prog laid3 w) (fun _ _ _ hh h => h.of_heap hh) own started (by kernel_rfl) Tryd.func4
    (ChangeSpec.witness_shaped (enc := enc) (C := Tryd.checked) (os := os) (X := fun w _ => laidMetH Tryd.prog laid3 w) false (World.doorLaid Tryd.prog 24 os) #[.int .u64 0, .int .i64 0, .int .i64 0, .slice none 0 0] 8 rfl (World.shaped_of_RefB (by kernel_rfl) (by kernel_rfl)) (by kernel_rfl) (by kernel_rfl) (by kernel_rfl) (door_met os _)) ?_
  intro W base args ds gs before hval0 hW _ _ hL _
  have hval : ∀ (j : Nat) t v, Tryd.f4.params[j]? = some t → args[j]? = some v → Value.okWide Tryd.prog W .any base t v := hval0
  have hW' := hW
  obtain ⟨p, q, hA0, hV, rfl, hfz, hnd⟩ := hW
  have hA : DataW.TrodAll enc Tryd.prog W 0 (fun _ => true) true Tryd.f4.params.toList args.toList ds p := hA0
  rw [Tryd.params4] at hA hval
  obtain ⟨v0, vs0, d0, ds0, p0, q0, hargs, rfl, rfl, h0, r0⟩ := trodAll_cons hA
  obtain ⟨v1, vs1, d1, ds1, p1, q1, rfl, rfl, rfl, h1, r1⟩ := trodAll_cons r0
  obtain ⟨v2, vs2, d2, ds2, p2, q2, rfl, rfl, rfl, h2, r2⟩ := trodAll_cons r1
  obtain ⟨v3, vs3, d3, ds3, p3, q3, rfl, rfl, rfl, h3, r3⟩ := trodAll_cons r2
  obtain ⟨rfl, rfl, rfl⟩ := trodAll_nil r3
  obtain rfl : args = #[v0, v1, v2, v3] := by cases args; simp_all
  obtain ⟨rfl, rfl⟩ := trodVars_none hV
  obtain ⟨a0, rfl, rfl, rfl, w0⟩ := open_int Tryd.underlying22 (hval 0 22 v0 rfl rfl) h0
  obtain ⟨a1, rfl, rfl, rfl, w1⟩ := open_int Tryd.underlying2 (hval 1 2 v1 rfl rfl) h1
  obtain ⟨a2, rfl, rfl, rfl, w2⟩ := open_int Tryd.underlying3 (hval 2 3 v2 rfl rfl) h2
  obtain ⟨a3, len3, cap3, rfl⟩ := okWide_slice Tryd.underlying37 (hval 3 37 v3 rfl rfl)
  have k3 := h3
  have lt3 : ∀ x ∈ p3, x.block < W.heap.size := by obtain ⟨m, hm⟩ := k3; exact DataW.trod_lt m _ _ _ hm
  obtain ⟨z3, w3⟩ : ∃ B, IsBools W a3 len3 cap3 B := by
    obtain ⟨fuel, hf⟩ := h3
    rcases Go.Deep.open_bools Tryd.underlying37 Tryd.underlying4 (by kernel_rfl) hf with ⟨hcs, _⟩ | ⟨x, l, c, B, hcs, _, hl, hm, _, hcell⟩
    · simp [Value.cells] at hcs
      obtain ⟨rfl, rfl, rfl⟩ := hcs
      exact ⟨fun _ => false, .inl ⟨rfl, rfl, rfl⟩⟩
    · simp [Value.cells] at hcs
      obtain ⟨rfl, rfl, rfl⟩ := hcs
      exact ⟨B, .inr ⟨_, rfl, hl, hm, hcell⟩⟩
  clear hA0 hval0
  refine (script_walk a0 a1 a2 a3 len3 cap3 z3 W w1 w3 (tab_of_laid hL)).mono fun e W' ⟨he, bel⟩ => ?_
  subst he
  exact ⟨_, rfl, _, _, _, [], _, [], hW', trodAll_mk1 (shut_bool Tryd.underlying4 _), (trodAll_cons_mk (shut_int Tryd.underlying22 w0) (trodAll_cons_mk (shut_int Tryd.underlying2 w1) (trodAll_cons_mk (shut_int Tryd.underlying3 w2) (trodAll_cons_mk (Below.trod laidOut (by kernel_rfl) (of_decide_eq_true (by kernel_rfl)) k3 bel lt3) trodAll_mk0)))), rfl, bel.frame _, fun h => by cases h⟩

theorem script_said : Rows.FnAppendEventScriptKeepsMidInBandSaid :=
  OpenClaim.holds_of_wide 4 Tryd.f4 rfl rfl rfl rfl rfl rfl rfl ⟨rfl, rfl, rfl, rfl, rfl⟩ rfl rfl rfl rfl rfl (by kernel_rfl) Tryd.func4 (by kernel_rfl)
    (of_decide_eq_true (by kernel_rfl)) (by unfold Func.isWrapper; first | (rw [if_pos (by decide +kernel)]; kernel_rfl) | (rw [if_neg (by decide +kernel)]; exact ⟨rfl, rfl⟩))
    (fun os started H enc _ => script_lifted os started H enc)

/-- ████ THE CARD ████ -/
theorem script_card : Rows.FnAppendEventScriptKeepsMidInBandCardSaid :=
  Claim7.holds_tied_plain_at .later [] [.data, .data, .data] true Rows.fnAppendEventScriptKeepsMidInBandCard.stood.harness false
    script_said (fun _ h => by cases h) (by kernel_rfl) (fun _ h => by cases h) fnAppendEventScriptKeepsMidInBand_row_tie rfl ⟨rfl, rfl⟩ (by kernel_rfl) rfl
    (fun f fn hf hfn => by
      obtain rfl : f = 4 := Option.some.inj ((show Tryd.prog.funcNamed Rows.fnAppendEventScriptKeepsMidInBandRow.func = some 4 by kernel_rfl).symm.trans hf) |>.symm
      obtain rfl : fn = Tryd.f4 := (Option.some.inj (Tryd.func4.symm.trans hfn)).symm
      exact ⟨by kernel_rfl, fun j t ht => by
        rw [Tryd.params4] at ht
        have hm : t ∈ [22, 2, 3, 37] := by simpa using Array.mem_of_getElem? ht
        have hall : ([22, 2, 3, 37].all fun u => !Tryd.prog.wantsStandIn u) = true := by kernel_rfl
        exact (show Tryd.prog.wantsStandIn t = false by simpa using List.all_eq_true.1 hall t hm)⟩)
    (by kernel_rfl)
end Go.Proofs.Qxb6600045aDoor
