/-
  SEAT b6600119a: ROWS OF SPANS (two cells an element): copy, clear, append as laws for the walk.
-/
import Derived.Test.Qxb6600119aRows
import Derived.WalkKit
import Derived.WalkSpells
import Derived.OwnWalk
import Derived.WalkSmall
import Derived.BigCall
import Derived.Deep.AppendSrc
import Derived.Deep.RegionLaw
import Derived.Lib.AppendZerosOnto
import Derived.Lib.Overlaps
import Derived.Lib.Hide
import Derived.Laws.CopyOwn
import Derived.Laws.Externs
namespace Go.Proofs.Qxb6600119a
open Go.RowKit

/-! ### Spans as pairs of numbers -/
abbrev Sp := List (Int × Int)
def flat : Sp → List Value
  | [] => []
  | p :: r => .int .u32 p.1 :: .int .u32 p.2 :: flat r
theorem flat_length (l : Sp) : (flat l).length = l.length * 2 := by
  induction l with
  | nil => rfl
  | cons p r ih => simp [flat, ih]; omega
theorem flat_append (a b : Sp) : flat (a ++ b) = flat a ++ flat b := by
  induction a with
  | nil => rfl
  | cons p r ih => simp [flat, ih]
theorem flat_take (l : Sp) (k : Nat) : (flat l).take (k * 2) = flat (l.take k) := by
  induction l generalizing k with
  | nil => simp [flat]
  | cons p r ih =>
    cases k with
    | zero => simp [flat]
    | succ k => rw [show (k + 1) * 2 = k * 2 + 2 by omega]; simp [flat, ih]
theorem flat_drop (l : Sp) (k : Nat) : (flat l).drop (k * 2) = flat (l.drop k) := by
  induction l generalizing k with
  | nil => simp [flat]
  | cons p r ih =>
    cases k with
    | zero => simp [flat]
    | succ k => rw [show (k + 1) * 2 = k * 2 + 2 by omega]; simp [flat, ih]
theorem flat_one (l : Sp) : ∀ v ∈ flat l, v.oneCell' = true := by
  induction l with
  | nil => intro v h; cases h
  | cons p r ih =>
    intro v h
    simp [flat] at h
    rcases h with rfl | rfl | h
    · rfl
    · rfl
    · exact ih v h
theorem flat_at (l : Sp) (k : Nat) (h : k < l.length) : (flat l)[k * 2]? = some (.int .u32 (l.getD k (0, 0)).1) ∧ (flat l)[k * 2 + 1]? = some (.int .u32 (l.getD k (0, 0)).2) := by
  induction l generalizing k with
  | nil => simp at h
  | cons p r ih =>
    cases k with
    | zero => simp [flat]
    | succ k =>
      have := ih k (by simpa using h)
      rw [show (k + 1) * 2 = k * 2 + 2 by omega]
      simpa [flat] using this

/-! ### copy and clear into a row that is known whole -/
section
variable {P : Program}
theorem run_copy_k (w : World) (dT sT ty elem : TypeId) (i : TypeInfo) (size : Nat) (hu : P.underlying dT = some (.slice elem)) (hi : P.info? elem = some i) (hsz : i.size = size)
    (g off dLen dCap : Nat) (a : Addr) (sLen sCap : Nat) (L : List Value) (t : TypeId) (cs : List Value) (hg : w.heap[g]? = some (.cells L.toArray t (0, 0))) (hn : cs.length = Nat.min sLen dLen * size)
    (hsrc : ∀ j v, cs[j]? = some v → w.cell? (a.add j) = some v) (hfit : off + cs.length ≤ L.length) (h1 : ∀ v ∈ cs, v.oneCell' = true) :
    (Builtin.copy_ #[dT, sT] ty #[.slice (some ⟨g, off, none⟩) dLen dCap, .slice (some a) sLen sCap]).run P w =
      .ok (goInt (Nat.min sLen dLen)) (w.setRow g (splice L off cs).toArray) := by
  have hl := run_loadCells_list (P := P) w a cs hsrc
  have hst := run_storeCells_at P g off t cs 0 L.toArray w hg (by simpa using hfit) h1
  subst hsz
  rw [hn] at hl
  simp [Builtin.copy_, run_underlying hu, Builtin.lenOf, Builtin.firstCells, sizeOf, typeInfo, hi, hl, hst, splice]

/-- What a write into row g leaves. -/
structure Put (g : Nat) (t : TypeId) (L' : List Value) (w w' : World) : Prop where
  obj : w'.heap[g]? = some (.cells L'.toArray t (0, 0))
  grown : w.grownBy w' (some g)
  size : w'.heap.size = w.heap.size
theorem put_mk {w : World} {g : Nat} {t : TypeId} {L : List Value} (hg : w.heap[g]? = some (.cells L.toArray t (0, 0))) (L' : List Value) : Put g t L' w (w.setRow g L'.toArray) :=
  ⟨setRow_heap w g _ _ t _ hg, ⟨rfl, rfl, rfl, by simp, fun k _ hk => setRow_other w g k _ (fun e => hk (by rw [e]))⟩, by simp⟩

theorem wpList_copy_k {w : World} {ops : Array Oper} {rest : List Oper} {o : Oper} {a : Act} {Q : Exit → Act → World → Prop} (hgd : o.guard = none) (d s : Operand) (dT sT : TypeId)
    (ho : o.op = .call { callee := .builtin .copy, args := #[d, s], argTypes := #[dT, sT] }) (elem : TypeId) (i : TypeInfo) (size : Nat) (hu : P.underlying dT = some (.slice elem)) (hi : P.info? elem = some i) (hsz : i.size = size)
    (g off dLen dCap : Nat) (ad : Addr) (sLen sCap : Nat) (hd : a.eval d = .slice (some ⟨g, off, none⟩) dLen dCap) (hs : a.eval s = .slice (some ad) sLen sCap)
    (L : List Value) (t : TypeId) (hg : w.heap[g]? = some (.cells L.toArray t (0, 0))) (cs : List Value) (hn : cs.length = Nat.min sLen dLen * size)
    (hsrc : ∀ j v, cs[j]? = some v → w.cell? (ad.add j) = some v) (hfit : off + cs.length ≤ L.length) (h1 : ∀ v ∈ cs, v.oneCell' = true)
    (h : ∀ w', Hid (Put g t (splice L off cs) w w') → wpList P ops Q rest (a.put o.dst (goInt (Nat.min sLen dLen))) w') : wpList P ops Q (o :: rest) a w := by
  refine wpList_plain hgd fun K hK => ?_
  have hrun := run_copy_k (P := P) w dT sT o.type elem i size hu hi hsz g off dLen dCap ad sLen sCap L t cs hg hn hsrc hfit h1
  unfold Oper.wp
  simp [execOp, ho, resolve, invoke, builtin, hd, hs, hrun, Result.andThen]
  exact hK _ _ (h _ (put_mk hg _))
theorem step_copy_k {ops : Array Oper} {o : Oper} {a : Act} {w : World} {K : Act → World → Prop} {Q : Exit → Act → World → Prop} {E : Prop} (hgd : o.guard = none) (d s : Operand) (dT sT : TypeId)
    (ho : o.op = .call { callee := .builtin .copy, args := #[d, s], argTypes := #[dT, sT] }) (elem : TypeId) (i : TypeInfo) (size : Nat) (hu : P.underlying dT = some (.slice elem)) (hi : P.info? elem = some i) (hsz : i.size = size)
    (g off dLen dCap : Nat) (ad : Addr) (sLen sCap : Nat) (hd : a.eval d = .slice (some ⟨g, off, none⟩) dLen dCap) (hs : a.eval s = .slice (some ad) sLen sCap)
    (L : List Value) (t : TypeId) (hg : w.heap[g]? = some (.cells L.toArray t (0, 0))) (cs : List Value) (hn : cs.length = Nat.min sLen dLen * size)
    (hsrc : ∀ j v, cs[j]? = some v → w.cell? (ad.add j) = some v) (hfit : off + cs.length ≤ L.length) (h1 : ∀ v ∈ cs, v.oneCell' = true)
    (h : ∀ w', Hid (Put g t (splice L off cs) w w') → K (a.put o.dst (goInt (Nat.min sLen dLen))) w') :
    if Region.wanted o (yielded ops a.tmps) = true then Oper.wp P o a w K Q else E := by
  have hw : Region.wanted o (yielded ops a.tmps) = true := by simp [Region.wanted, hgd]
  rw [if_pos hw]
  have hrun := run_copy_k (P := P) w dT sT o.type elem i size hu hi hsz g off dLen dCap ad sLen sCap L t cs hg hn hsrc hfit h1
  unfold Oper.wp
  simp [execOp, ho, resolve, invoke, builtin, hd, hs, hrun, Result.andThen]
  exact h _ (put_mk hg _)

theorem size_zeroCells2 (z : Array Value) (n : Nat) : (Builtin.zeroCells z n).toList.length = n * z.size := by simp [Builtin.zeroCells]
theorem run_clear_k (w : World) (t ty elem : TypeId) (z : Value) (size : Nat) (hu : P.underlying t = some (.slice elem)) (hz : ∀ w, (zeroValue elem).run P w = .ok z w) (hzs : z.cells.size = size)
    (g off n c : Nat) (hn : 0 < n) (L : List Value) (tt : TypeId) (hg : w.heap[g]? = some (.cells L.toArray tt (0, 0))) (hfit : off + n * size ≤ L.length) (h1 : ∀ v ∈ (Builtin.zeroCells z.cells n).toList, v.oneCell' = true) :
    (Builtin.clear_ #[t] ty #[.slice (some ⟨g, off, none⟩) n c]).run P w = .ok (.tuple #[]) (w.setRow g (splice L off (Builtin.zeroCells z.cells n).toList).toArray) := by
  have hst := run_storeCells_at P g off tt (Builtin.zeroCells z.cells n).toList 0 L.toArray w hg (by rw [size_zeroCells2, hzs]; simpa using hfit) h1
  obtain ⟨m, rfl⟩ : ∃ m, n = m + 1 := ⟨n - 1, by omega⟩
  simp [Builtin.clear_, run_underlying hu, hz, hst, splice]
theorem wpList_clear_k {w : World} {ops : Array Oper} {rest : List Oper} {o : Oper} {a : Act} {Q : Exit → Act → World → Prop} (hgd : o.guard = none) (d : Operand) (t : TypeId)
    (ho : o.op = .call { callee := .builtin .clear, args := #[d], argTypes := #[t] }) (elem : TypeId) (z : Value) (size : Nat) (hu : P.underlying t = some (.slice elem)) (hz : ∀ w, (zeroValue elem).run P w = .ok z w) (hzs : z.cells.size = size)
    (g off n c : Nat) (hn : 0 < n) (hd : a.eval d = .slice (some ⟨g, off, none⟩) n c) (L : List Value) (tt : TypeId) (hg : w.heap[g]? = some (.cells L.toArray tt (0, 0))) (hfit : off + n * size ≤ L.length) (h1 : ∀ v ∈ (Builtin.zeroCells z.cells n).toList, v.oneCell' = true)
    (h : ∀ w' zs, zs.length = n * size → Hid (Put g tt (splice L off zs) w w') → wpList P ops Q rest (a.put o.dst (.tuple #[])) w') : wpList P ops Q (o :: rest) a w := by
  refine wpList_plain hgd fun K hK => ?_
  have hrun := run_clear_k (P := P) w t o.type elem z size hu hz hzs g off n c hn L tt hg hfit h1
  unfold Oper.wp
  simp [execOp, ho, resolve, invoke, builtin, hd, hrun, Result.andThen]
  exact hK _ _ (h _ (Builtin.zeroCells z.cells n).toList (by rw [size_zeroCells2, hzs]) (put_mk hg _))
end
end Go.Proofs.Qxb6600119a
