/-
  SEAT b6600119a: slices.IndexFunc (45) at Spans with Add's closure (46).
-/
import Derived.Test.Qxb6600119aReplace2
import Derived.Test.Qxb6600119aShelf
import Derived.Test.Qxb6600119aPlain
namespace Go.Proofs.Qxb6600119a
open Go.RowKit Go.Shelf

def encP (x : Int × Int) : List Value := [.int .u32 x.1, .int .u32 x.2]

/-- Add's closure: 'x.End >= start', start in the cell of block bx. -/
theorem pred46 (s : Int) (bx : Nat) (w : World) (hB : bx < w.heap.size) (hcell : w.cell? ⟨bx, 0, none⟩ = some (.int .u32 s)) :
    PredBelow Try.prog 46 #[.pointer (some ⟨bx, 0, none⟩)] (fun x => .agg (encP x).toArray) (fun x => decide (s ≤ x.2)) w := fun W x hb => by
  have hc : W.cell? ⟨bx, 0, none⟩ = some (.int .u32 s) := (hb.cell (p := ⟨bx, 0, none⟩) hB).trans hcell
  have hBW : bx < W.heap.size := Nat.lt_of_lt_of_le hB hb.size
  have hne : bx ≠ W.heap.size := by omega
  show Calls Try.prog 46 #[.agg #[.int .u32 x.1, .int .u32 x.2], .pointer (some ⟨bx, 0, none⟩)] W _
  go_enter Try.func46, Try.ntmps46
  go_wp2
  all_goals (go_ret; exact ⟨by simp_all, hb.alloc hb.size _⟩)

/-- IndexFunc's answer. -/
def idxI (sp : Sp) (s : Int) : Int := if fidx sp s < sp.length then (fidx sp s : Nat) else -1
theorem idx_from (sp : Sp) (s : Int) (k : Nat) : Lib.idxByFrom (fun _ (y : Int × Int) => decide (s ≤ y.2)) default sp k = if fidx sp s < sp.length then ((k + fidx sp s : Nat) : Int) else -1 := by
  induction sp generalizing k with
  | nil => simp [Lib.idxByFrom]
  | cons p r ih =>
    by_cases h : s ≤ p.2
    · have e1 : fidx (p :: r) s = 0 := by simp [fidx, h]
      rw [e1]
      simp [Lib.idxByFrom, h]
    · have e1 : fidx (p :: r) s = fidx r s + 1 := by simp [fidx, h]
      have e2 : Lib.idxByFrom (fun _ (y : Int × Int) => decide (s ≤ y.2)) default (p :: r) k = Lib.idxByFrom (fun _ (y : Int × Int) => decide (s ≤ y.2)) default r (k + 1) := by
        simp [Lib.idxByFrom, h]
      rw [e1, e2, ih (k + 1)]
      by_cases h2 : fidx r s < r.length
      · rw [if_pos h2, if_pos (by simp; omega)]; congr 1; omega
      · rw [if_neg h2, if_neg (by simp; omega)]
theorem idx_eq (sp : Sp) (s : Int) : Lib.idxBy (fun _ (y : Int × Int) => decide (s ≤ y.2)) sp default = idxI sp s := by
  unfold Lib.idxBy idxI
  rw [idx_from sp s 0]; simp

theorem idx_zero (ao : Option Addr) (c : Nat) (f : Value) (w : World) :
    Calls Try.prog 45 #[.slice ao 0 c, f] w fun e w' => e = .returned (.int .i64 (-1)) ∧ Below w.heap.size w w' := by
  go_enter Try.func45, Try.ntmps45
  go_wp2
  refine wp_loop_rounds 1 ?_
  rw [rounds_succ]
  go_wp2
  go_ret
  exact ⟨rfl, Below.refl _ _⟩

theorem idx_any (B bx n : Nat) (v : Value) (s : Int) (sp : Sp) (w : World) (hn : sp.length = n) (hsm : n ≤ 1000000) (hown : w.ownsRow B 53 2 v n (flat sp)) (hcell : w.cell? ⟨bx, 0, none⟩ = some (.int .u32 s)) :
    Calls Try.prog 45 #[v, .func (.func 46) #[] #[.pointer (some ⟨bx, 0, none⟩)]] w fun e w' => e = .returned (.int .i64 (idxI sp s)) ∧ Below w.heap.size w w' := by
  have hB : bx < w.heap.size := World.block_lt_of_cell? w _ hcell
  by_cases h0 : n = 0
  · subst h0
    obtain rfl : sp = [] := List.eq_nil_of_length_eq_zero hn
    obtain ⟨ao, c, rfl⟩ := own_form hown
    exact idx_zero ao c _ w
  rcases hown.2 with ⟨_, h9⟩ | ⟨g, cap, cur, rfl, hBg, hg, hnc, hcm, hcs, htk⟩
  · exact absurd h9 h0
  · have eg : ∀ args w, (callFunc 46 args).run Try.prog w = .ok (.enter 46 args) w := enters_of Try.func46 (by kernel_rfl) rfl
    have hcon := AnyQ.slices_IndexFunc Try.lays45 2 Try.isAgg53 Try.sizeOf53 encP (fun _ => rfl) (fun x => decide (s ≤ x.2)) 46 #[.pointer (some ⟨bx, 0, none⟩)] eg g 0 n cap sp w
      (pred46 s bx w hB hcell) (by omega) (by omega) (heap_lt hg) (fun j hj i x hi => by
        have hf := flat_at sp j hj
        have hc9 := hown.cells (g := g) rfl
        have hgd : sp.getD j (0, 0) = sp[j]! := by simp [List.getD_eq_getElem?_getD, hj]
        rw [hgd] at hf
        generalize sp[j]! = y at hi hf
        match i, hi with
        | 0, hi =>
          have := hc9 _ _ hf.1
          rw [Addr.add_lit] at this
          simp [encP] at hi; rw [← hi]; simpa using this
        | 1, hi =>
          have := hc9 _ _ hf.2
          rw [Addr.add_lit] at this
          simp [encP] at hi; rw [← hi]; simpa using this
        | i + 2, hi => simp [encP] at hi)
    rw [List.take_of_length_le (by omega), idx_eq] at hcon
    exact hcon
end Go.Proofs.Qxb6600119a
