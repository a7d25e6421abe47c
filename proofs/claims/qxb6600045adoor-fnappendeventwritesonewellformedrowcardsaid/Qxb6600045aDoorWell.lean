/-
  SEAT b6600045aD: THE WALK OF FnAppendEventWritesOneWellFormedRow (3): what leads up to the readers.
-/
import Derived.Test.Qxb6600045aDoorZZ
import Derived.Test.Qxb6600045aDoorClone
import Derived.Test.Qxb6600045aDoorBody
import Derived.Deep.DeepCutAuto
import Derived.Outline
namespace Go.Proofs.Qxb6600045aDoor
open Go.RowKit Go.Shelf

/-- A slice of bytes that may be nil: it reads as l. -/
def In (w : World) (a : Option Addr) (l : List UInt8) : Prop :=
  (a = none ∧ l = []) ∨ ∃ x, a = some x ∧ ∀ j v, (Lib.byteCells l)[j]? = some v → w.cell? (x.add j) = some v
theorem byteCells_one (l : List UInt8) : ∀ v ∈ Lib.byteCells l, v.oneCell' = true := by
  intro v hv; simp [Lib.byteCells] at hv; obtain ⟨b, _, rfl⟩ := hv; rfl

theorem byteCells_at (l : List UInt8) (j : Nat) (hj : j < l.length) : (Lib.byteCells l)[j]? = some (.int .u8 (l.getD j 0).toNat) := by
  rw [List.getD_eq_getElem?_getD, List.getElem?_eq_getElem hj]; simp [Lib.byteCells, hj]

/-- cloneBytesB1. -/
theorem clone_any (a : Option Addr) (n c : Nat) (l : List UInt8) (w : World) (hl : l.length = n) (hn : n ≤ 100000000) (h : In w a l) :
    Calls Tryd.prog 7 #[.slice a n c] w fun e w' => ∃ a' c', e = .returned (.slice a' n c') ∧ w'.ownsRow w.heap.size 5 1 (.slice a' n c') n (Lib.byteCells l) ∧ Below w.heap.size w w' := by
  rcases h with ⟨rfl, rfl⟩ | ⟨x, rfl, hc⟩
  · subst hl
    refine (clone_nil 0 c w).mono ?_
    rintro e w' ⟨rfl, rfl⟩
    exact ⟨none, 0, rfl, World.ownsRow_nil _ _ _ _, Below.refl _ _⟩
  · refine (clone_some x n c (Lib.byteCells l) w (by simp [Lib.byteCells, hl]) hc (byteCells_one l) hn).mono ?_
    rintro e w' ⟨rfl, hg, hb⟩
    exact ⟨_, _, rfl, ⟨by simp [Lib.byteCells, hl], .inr ⟨w.heap.size, n, _, rfl, Nat.le_refl _, hg, Nat.le_refl _, by unfold maxLen; omega, by simp [Lib.byteCells, hl], List.take_of_length_le (by simp [Lib.byteCells, hl])⟩⟩, hb⟩

/-- An owned row is read. -/
theorem in_own {w : World} {B n c : Nat} {a : Option Addr} {l : List UInt8} (h : w.ownsRow B 5 1 (.slice a n c) n (Lib.byteCells l)) (hl : l.length = n) : In w a l := by
  rcases h.2 with ⟨h0, h1⟩ | ⟨g, cap, cur, hv, _⟩
  · injection h0 with h0
    exact .inl ⟨h0, List.eq_nil_of_length_eq_zero (by omega)⟩
  · injection hv with e1 e2 e3
    subst e1
    exact .inr ⟨_, rfl, h.cells (g := g) rfl⟩
theorem tab_up {B B1 : Nat} {w W : World} (h : Tab B w) (hb : Below B w W) (h1 : B ≤ B1) : Tab B1 W := fun w' h' => h w' (hb.trans (h'.mono h1))

set_option maxRecDepth 100000 in
/-- zzBytes_..: at most 1048576 bytes: true. -/
theorem bytes6 (r m s : Int) (ao : Option Addr) (n c : Nat) (tr : Bool) (w : World) (h : n ≤ 1048576) :
    Calls Tryd.prog 6 #[.int .u64 r, .int .i64 m, .int .i64 s, .slice ao n c, .bool tr] w fun e w' => e = .returned (.bool true) ∧ w = w' := by
  have g1 : ¬ (1048576 : Int) < (n : Int) := by omega
  go_enter Tryd.func6, Tryd.ntmps6
  go_wp2
  go_ret
  exact ⟨rfl, rfl⟩
set_option maxRecDepth 100000 in
theorem well_long (r m s : Int) (ao : Option Addr) (n c : Nat) (tr : Bool) (w : World) (h : 1048576 < n) (hm : n ≤ 9223372036854775807) :
    Calls Tryd.prog 3 #[.int .u64 r, .int .i64 m, .int .i64 s, .slice ao n c, .bool tr] w fun e w' => e = .returned (.bool true) ∧ Below w.heap.size w w' := by
  have g1 : (1048576 : Int) < (n : Int) := by omega
  go_enter Tryd.func3, Tryd.ntmps3
  go_wp2
  go_ret
  exact ⟨rfl, Below.refl _ _⟩

/-- equalBytesB1 at a piece of a row and a slice that may be nil. -/
theorem equal_any (g o n c c' : Nat) (a : Option Addr) (l : List UInt8) (w : World) (hl : l.length = n) (hn : n ≤ 100000000) (h1 : Cs w g o l) (h2 : In w a l) :
    Calls Tryd.prog 9 #[.slice (some ⟨g, o, none⟩) n c, .slice a n c'] w fun e w' => e = .returned (.bool true) ∧ ∃ q, w' = w.drewN q := by
  by_cases h0 : n = 0
  · subst h0; exact equal_zero _ _ _ _ _
  rcases h2 with ⟨_, rfl⟩ | ⟨x, rfl, hc⟩
  · simp at hl; omega
  · obtain ⟨b', o', spot⟩ := x
    have hc0 := hc 0 _ (List.getElem?_eq_getElem (by simp [Lib.byteCells]; omega))
    have hspot : spot = none := by simpa [Addr.add] using World.cell?_spot hc0
    subst hspot
    refine equal_yes g o b' o' n c c' l w hl (by omega) h1 (fun j hj => ?_)
    rw [← Go.WideShapes.add_plain]
    exact hc j _ (byteCells_at _ j hj)

/-- WHAT LIES BEHIND ZZAppendEvent. -/
structure Out (W : World) (b g n cap : Nat) (r M s : Int) (a : Option Addr) (l body : List UInt8) (w : World) : Prop where
  gen : Gen 27 b (stp r) M s w
  pre : Cs w g 0 l
  suf : Cs w g n (body ++ [10])
  line : In w a l
  cap : n + body.length + 1 ≤ cap
  bel : Below W.heap.size W w
theorem Out.drewN {W : World} {b g n cap : Nat} {r M s : Int} {a : Option Addr} {l body : List UInt8} {w : World} (h : Out W b g n cap r M s a l body w) (q : Nat) : Out W b g n cap r M s a l body (w.drewN q) :=
  ⟨⟨h.gen.obj⟩, h.pre, h.suf, h.line, h.cap, below_drewN h.bel q⟩

theorem out_of {w : World} {B n : Nat} {v : Value} {l body : List UInt8} (hl : l.length = n) (h : w.ownsRow B 5 1 v (n + (body ++ [10]).length) (Lib.byteCells l ++ Lib.byteCells (body ++ [10]))) :
    ∃ g cap, v = .slice (some ⟨g, 0, none⟩) (n + (body.length + 1)) cap ∧ n + body.length + 1 ≤ cap ∧ Cs w g 0 l ∧ Cs w g n (body ++ [10]) := by
  rcases h.2 with ⟨_, h0⟩ | ⟨g, cap, cur, rfl, h1, h2, h3, h4, h5, h6⟩
  · simp at h0
  · have hc : ∀ j u, (Lib.byteCells (l ++ (body ++ [10])))[j]? = some u → w.cell? ((⟨g, 0, none⟩ : Addr).add j) = some u := by
      rw [Lib.byteCells_append]; exact h.cells (g := g) rfl
    have hcs : Cs w g 0 (l ++ (body ++ [10])) := by
      intro j hj
      rw [← Go.WideShapes.add_plain]
      exact hc j _ (byteCells_at _ j hj)
    refine ⟨g, cap, by simp, by simp at h3; omega, ?_, ?_⟩
    · have := Cs.mid (p := []) (l := l) (q := body ++ [10]) (by simpa using hcs); simpa using this
    · have := Cs.mid (p := l) (l := body ++ [10]) (q := []) (by simpa using hcs); simpa [hl] using this

/-- The row's body. -/
theorem rowB_body (M x : Int) (tr : Bool) (h0 : 10800 ≤ M) (h1 : M ≤ 11200) : ∃ body, rowB M x tr = body ++ [10] ∧ body.length ≤ 200 := by
  have p1 := priceB_len M (by omega) (by omega)
  have p2 := priceB_len (M + x / 3 / 4 % 2) (by omega) (by omega)
  have p3 := priceB_len (M + 1 + x / 3 % 4 / 3) (by omega) (by omega)
  have p4 := dec_len (1 + x / 3 / 4 / 2 % 20) (by omega)
  cases tr
  · refine ⟨_, quote_row M x, ?_⟩
    rw [row_t0]
    unfold bidT askT
    split <;> split <;> simp [quoT] <;> omega
  · refine ⟨_, trade_row M x, ?_⟩
    rw [row_t0]
    simp [trdT]; omega
end Go.Proofs.Qxb6600045aDoor
