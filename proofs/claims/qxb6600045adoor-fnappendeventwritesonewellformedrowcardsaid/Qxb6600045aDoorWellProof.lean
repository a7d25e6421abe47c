/-
  SEAT b6600045aD: Rows.FnAppendEventWritesOneWellFormedRowSaid, and its card.
-/
import Derived.Test.Qxb6600045aDoorWell4
import Derived.Test.Qxb6600045aDoorLaid
import Derived.Test.Qxb6600045aDoorTie
import Derived.Test.Qxb6600045aDoorCards
import Derived.OpenShut
import Derived.ChangeOld
import Derived.Below
import Derived.SevenTiedAt
namespace Go.Proofs.Qxb6600045aDoor
open Go.ChangeShapes Go.WideShapes Go.ChangeAt Go.RowKit
set_option linter.unusedVariables false

/-- What the walk is told of a slice of bytes that came in. -/
def IsRow (w : World) (a : Option Addr) (len cap : Nat) (zs : List Int) : Prop :=
  (a = none ∧ len = 0 ∧ cap = 0 ∧ zs = []) ∨
  ∃ x, a = some x ∧ len ≤ cap ∧ cap ≤ maxLen ∧ zs.length = cap ∧ (∀ i, i < zs.length → w.cell? (x.add i) = some (.int .u8 (zs.getD i 0))) ∧ ∀ n ∈ zs, (Lit.int .u8 n).wf = true
/-- As bytes. -/
def asBytes (zs : List Int) : List UInt8 := zs.map fun z => UInt8.ofNat z.toNat
theorem asBytes_cells (zs : List Int) (h : ∀ n ∈ zs, (Lit.int .u8 n).wf = true) : Lib.byteCells (asBytes zs) = zs.map (Value.int .u8) := by
  simp only [Lib.byteCells, asBytes, List.map_map]
  refine List.map_congr_left fun z hz => ?_
  obtain ⟨h0, h1⟩ := bounds_u8 (h z hz)
  show Value.int .u8 ((UInt8.ofNat z.toNat).toNat : Int) = _
  congr 1
  rw [UInt8.toNat_ofNat']
  omega

theorem well_walk (r m s : Int) (ao : Option Addr) (len cap : Nat) (zs : List Int) (tr : Bool) (w : World) (hb : IsRow w ao len cap zs) (ht : Tab w.heap.size w) :
    Calls Tryd.prog 3 #[.int .u64 r, .int .i64 m, .int .i64 s, .slice ao len cap, .bool tr] w fun e w' => e = .returned (.bool true) ∧ Below w.heap.size w w' := by
  have hm : len ≤ maxLen := by
    rcases hb with ⟨_, h, _, _⟩ | ⟨_, _, h1, h2, _⟩
    · omega
    · omega
  by_cases h4 : 1048576 < len
  · exact well_long r m s ao len cap tr w h4 (by unfold maxLen at hm; omega)
  · obtain ⟨l, hl, hin⟩ : ∃ l : List UInt8, l.length = len ∧ In w ao l := by
      rcases hb with ⟨rfl, rfl, _, rfl⟩ | ⟨x, rfl, h1, h2, h3, hc, hwf⟩
      · exact ⟨[], rfl, .inl ⟨rfl, rfl⟩⟩
      · refine ⟨asBytes (zs.take len), by simp [asBytes]; omega, .inr ⟨x, rfl, fun j v hj => ?_⟩⟩
        rw [asBytes_cells _ (fun n hn => hwf n (List.mem_of_mem_take hn))] at hj
        have hj2 : j < len := by
          rcases Nat.lt_or_ge j len with h | h
          · exact h
          · rw [List.getElem?_eq_none (by simp; omega)] at hj; cases hj
        rw [hc j (by omega), ← hj]
        simp [List.getD_eq_getElem?_getD, hj2, show j < zs.length from by omega]
    cases tr
    · exact well_quote r m s ao len cap l w hl (by omega) hin ht
    · exact well_trade r m s ao len cap l w hl (by omega) hin ht

set_option maxRecDepth 100000 in
theorem well_lifted (os : Os) (started : os.Started) (H : Type) (enc : TypeId × Value → H) :
    ReturnsInHanded {} Tryd.checked os 3 .any (fun w args => (Rows.fnAppendEventWritesOneWellFormedRowSpec.pre enc Tryd.prog Tryd.f3 [] false w args ∧ laidMetH Tryd.prog laid3 w) ∧ sizedMet enc Tryd.prog Tryd.f3 (OpenSpec.ofChange Rows.fnAppendEventWritesOneWellFormedRowSpec) false w args)
      (Rows.fnAppendEventWritesOneWellFormedRowSpec.post enc Tryd.prog Tryd.f3 false true false false) := by
  refine returnsInHanded_of_change_and (C := Tryd.checked) (X := fun w _ => laidMetH Tryd.prog laid3 w) (fun _ _ _ hh h => h.of_heap hh) own started (by kernel_rfl) Tryd.func3
    (ChangeSpec.witness_shaped (enc := enc) (C := Tryd.checked) (os := os) (X := fun w _ => laidMetH Tryd.prog laid3 w) false (World.doorLaid Tryd.prog 24 os) #[.int .u64 0, .int .i64 0, .int .i64 0, .slice none 0 0, .bool false] 8 rfl (World.shaped_of_RefB (by kernel_rfl) (by kernel_rfl)) (by kernel_rfl) (by kernel_rfl) (by kernel_rfl) (door_met os _)) ?_
  intro W base args ds gs before hval0 hW _ _ hL _
  have hval : ∀ (j : Nat) t v, Tryd.f3.params[j]? = some t → args[j]? = some v → Value.okWide Tryd.prog W .any base t v := hval0
  have hW' := hW
  obtain ⟨p, q, hA0, hV, rfl, hfz, hnd⟩ := hW
  have hA : DataW.TrodAll enc Tryd.prog W 0 (fun _ => true) true Tryd.f3.params.toList args.toList ds p := hA0
  rw [Tryd.params3] at hA hval
  obtain ⟨v0, vs0, d0, ds0, p0, q0, hargs, rfl, rfl, h0, r0⟩ := trodAll_cons hA
  obtain ⟨v1, vs1, d1, ds1, p1, q1, rfl, rfl, rfl, h1, r1⟩ := trodAll_cons r0
  obtain ⟨v2, vs2, d2, ds2, p2, q2, rfl, rfl, rfl, h2, r2⟩ := trodAll_cons r1
  obtain ⟨v3, vs3, d3, ds3, p3, q3, rfl, rfl, rfl, h3, r3⟩ := trodAll_cons r2
  obtain ⟨v4, vs4, d4, ds4, p4, q4, rfl, rfl, rfl, h4, r4⟩ := trodAll_cons r3
  obtain ⟨rfl, rfl, rfl⟩ := trodAll_nil r4
  obtain rfl : args = #[v0, v1, v2, v3, v4] := by cases args; simp_all
  obtain ⟨rfl, rfl⟩ := trodVars_none hV
  obtain ⟨a0, rfl, rfl, rfl, w0⟩ := open_int Tryd.underlying22 (hval 0 22 v0 rfl rfl) h0
  obtain ⟨a1, rfl, rfl, rfl, w1⟩ := open_int Tryd.underlying2 (hval 1 2 v1 rfl rfl) h1
  obtain ⟨a2, rfl, rfl, rfl, w2⟩ := open_int Tryd.underlying3 (hval 2 3 v2 rfl rfl) h2
  obtain ⟨a3, len3, cap3, rfl⟩ := okWide_slice Tryd.underlying23 (hval 3 23 v3 rfl rfl)
  have k3 := h3
  have lt3 : ∀ x ∈ p3, x.block < W.heap.size := by obtain ⟨m, hm⟩ := k3; exact DataW.trod_lt m _ _ _ hm
  obtain ⟨z3, w3⟩ : ∃ zs, IsRow W a3 len3 cap3 zs := by
    obtain ⟨fuel, hf⟩ := h3
    rcases open_ints Tryd.underlying23 Tryd.underlying5 (by kernel_rfl) hf with ⟨hcs, _⟩ | ⟨x, l, c, zs, hcs, _, hl, hm, hz, _, hcell, hwz⟩
    · simp [Value.cells] at hcs
      obtain ⟨rfl, rfl, rfl⟩ := hcs
      exact ⟨[], .inl ⟨rfl, rfl, rfl, rfl⟩⟩
    · simp [Value.cells] at hcs
      obtain ⟨rfl, rfl, rfl⟩ := hcs
      exact ⟨zs, .inr ⟨_, rfl, hl, hm, by simpa using hz, hcell, hwz⟩⟩
  obtain ⟨a4, rfl, rfl, rfl⟩ := open_bool Tryd.underlying4 (hval 4 4 v4 rfl rfl) h4
  clear hA0 hval0
  refine (well_walk a0 a1 a2 a3 len3 cap3 z3 a4 W w3 (tab_of_laid hL)).mono fun e W' ⟨he, bel⟩ => ?_
  subst he
  exact ⟨_, rfl, _, _, _, [], _, [], hW', trodAll_mk1 (shut_bool Tryd.underlying4 _), (trodAll_cons_mk (shut_int Tryd.underlying22 w0) (trodAll_cons_mk (shut_int Tryd.underlying2 w1) (trodAll_cons_mk (shut_int Tryd.underlying3 w2) (trodAll_cons_mk (Below.trod laidOut (by kernel_rfl) (of_decide_eq_true (by kernel_rfl)) k3 bel lt3) (trodAll_cons_mk (shut_bool Tryd.underlying4 _) trodAll_mk0))))), rfl, bel.frame _, fun h => by cases h⟩

theorem well_said : Rows.FnAppendEventWritesOneWellFormedRowSaid :=
  OpenClaim.holds_of_wide 3 Tryd.f3 rfl rfl rfl rfl rfl rfl rfl ⟨rfl, rfl, rfl, rfl, rfl⟩ rfl rfl rfl rfl rfl (by kernel_rfl) Tryd.func3 (by kernel_rfl)
    (of_decide_eq_true (by kernel_rfl)) (by unfold Func.isWrapper; first | (rw [if_pos (by decide +kernel)]; kernel_rfl) | (rw [if_neg (by decide +kernel)]; exact ⟨rfl, rfl⟩))
    (fun os started H enc _ => well_lifted os started H enc)

/-- ████ THE CARD ████ -/
theorem well_card : Rows.FnAppendEventWritesOneWellFormedRowCardSaid :=
  Claim7.holds_tied_plain_at .later [] [.data, .data, .data] true Rows.fnAppendEventWritesOneWellFormedRowCard.stood.harness false
    well_said (fun _ h => by cases h) (by kernel_rfl) (fun _ h => by cases h) fnAppendEventWritesOneWellFormedRow_row_tie rfl ⟨rfl, rfl⟩ (by kernel_rfl) rfl
    (fun f fn hf hfn => by
      obtain rfl : f = 3 := Option.some.inj ((show Tryd.prog.funcNamed Rows.fnAppendEventWritesOneWellFormedRowRow.func = some 3 by kernel_rfl).symm.trans hf) |>.symm
      obtain rfl : fn = Tryd.f3 := (Option.some.inj (Tryd.func3.symm.trans hfn)).symm
      exact ⟨by kernel_rfl, fun j t ht => by
        rw [Tryd.params3] at ht
        have hm : t ∈ [22, 2, 3, 23, 4] := by simpa using Array.mem_of_getElem? ht
        have hall : ([22, 2, 3, 23, 4].all fun u => !Tryd.prog.wantsStandIn u) = true := by kernel_rfl
        exact (show Tryd.prog.wantsStandIn t = false by simpa using List.all_eq_true.1 hall t hm)⟩)
    (by kernel_rfl)
end Go.Proofs.Qxb6600045aDoor
