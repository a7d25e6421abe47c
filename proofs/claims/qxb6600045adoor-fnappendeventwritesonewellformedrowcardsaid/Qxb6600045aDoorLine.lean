/-
  SEAT b6600045aD: A LINE OF THE CALL's OWN THAT IS APPENDED TO: one notion ('Ln'), and a law an operation.
-/
import Derived.Test.Qxb6600045aDoorPrice
namespace Go.Proofs.Qxb6600045aDoor
open Go.RowKit Go.Shelf

/-- A digit string's length. -/
theorem dec_len (u : Int) (h1 : u < 100) : (Lib.decDigits u.toNat).length ≤ 20 := by
  rw [Lib.decDigits_length]; exact Lib.nDigits_le20 _ (by omega)
theorem priceB_len (t : Int) (h0 : 0 ≤ t) (h1 : t ≤ 1000000) : (priceB t).length ≤ 24 := by
  have la := Lib.itoa_length_le (t * 25 / 100) (by omega) (by omega)
  simp [priceB]; omega

/-- Since the world W: 'v' owns, from block B on, the n0 cells xs0 and behind them the bytes bs, at most k of them; below B nothing has turned, nor has any block that is no row of bytes. -/
structure Ln (B : Nat) (W : World) (n0 : Nat) (xs0 : List Value) (k : Nat) (bs : List UInt8) (v : Value) (w : World) : Prop where
  own : w.ownsRow B 5 1 v (n0 + bs.length) (xs0 ++ Lib.byteCells bs)
  bel : Below B W w
  oth : Lib.OthersKept 5 none W w
  base : B ≤ W.heap.size
  tab : Tab B W
  small : n0 ≤ 100000000
  len : bs.length ≤ k
  lim : k ≤ 100000000

theorem Ln.start {B n : Nat} {W : World} {xs : List Value} {v : Value} (h : W.ownsRow B 5 1 v n xs) (hB : B ≤ W.heap.size) (ht : Tab B W) (hs : n ≤ 100000000) : Ln B W n xs 0 [] v W :=
  ⟨by simpa [Lib.byteCells] using h, Below.refl _ _, Lib.OthersKept.refl _ _ _, hB, ht, hs, Nat.le_refl _, by decide⟩
theorem Ln.baseW {B n0 k : Nat} {W w : World} {xs0 : List Value} {bs : List UInt8} {v : Value} (h : Ln B W n0 xs0 k bs v w) : B ≤ w.heap.size := Nat.le_trans h.base h.bel.size

theorem Ln.step {B n0 k : Nat} {W w w' : World} {xs0 : List Value} {bs l : List UInt8} {v v' : Value} (h : Ln B W n0 xs0 k bs v w) {j : Nat} (hl : l.length ≤ j) (hj : k + j ≤ 100000000)
    (hown : w'.ownsRow B 5 1 v' (n0 + bs.length + l.length) (xs0 ++ Lib.byteCells bs ++ Lib.byteCells l)) (hb : Below B w w') (ho : Lib.OthersKept 5 none w w') : Ln B W n0 xs0 (k + j) (bs ++ l) v' w' := by
  refine ⟨?_, h.bel.trans hb, h.oth.trans ho, h.base, h.tab, h.small, ?_, hj⟩
  · have e1 : n0 + (bs ++ l).length = n0 + bs.length + l.length := by rw [List.length_append]; omega
    have e2 : xs0 ++ Lib.byteCells (bs ++ l) = xs0 ++ Lib.byteCells bs ++ Lib.byteCells l := by rw [Lib.byteCells_append, List.append_assoc]
    rw [e1, e2]; exact hown
  · have := h.len; rw [List.length_append]; omega

theorem ln_price {B n0 k : Nat} {W w : World} {xs0 : List Value} {bs : List UInt8} {v : Value} (h : Ln B W n0 xs0 k bs v w) (t : Int) (h0 : 0 ≤ t) (h1 : t ≤ 1000000) (hk : k + 24 ≤ 100000000) :
    Calls Tryd.prog 21 #[v, .int .i64 t] w fun e w' => ∃ v' b', e = .returned v' ∧ Hid (b' = bs ++ priceB t) ∧ Ln B W n0 xs0 (k + 24) b' v' w' := by
  refine (price_any B _ t h0 h1 v _ w h.own h.baseW (by have := h.small; have := h.len; omega) (h.tab.on h.bel)).mono ?_
  rintro e w' ⟨v', rfl, h2, h3, h4⟩
  exact ⟨v', _, rfl, Lib.hid rfl, h.step (priceB_len t h0 h1) hk h2 h3 h4⟩

theorem ln_uint {B n0 k : Nat} {W w : World} {xs0 : List Value} {bs : List UInt8} {v : Value} (h : Ln B W n0 xs0 k bs v w) (u : Int) (h0 : 0 ≤ u) (h1 : u < 100) (hk : k + 20 ≤ 100000000) :
    Calls Tryd.prog 22 #[v, .int .u64 u, .int .i64 10] w fun e w' => ∃ v' b', e = .returned v' ∧ Hid (b' = bs ++ Lib.decDigits u.toNat) ∧ Ln B W n0 xs0 (k + 20) b' v' w' := by
  refine (appendUint_any B _ u h0 h1 v _ w h.own h.baseW (by have := h.small; have := h.len; omega)).mono ?_
  rintro e w' ⟨v', rfl, h2, h3, h4⟩
  exact ⟨v', _, rfl, Lib.hid rfl, h.step (dec_len u h1) hk h2 h3 h4⟩

/-- 'append(line, "constant"...)'. -/
theorem wp_ln_str {ops : Array Oper} {rest : List Oper} {o : Oper} {a : Act} {Q : Exit → Act → World → Prop} {w : World} (hgd : o.guard = none) (sl x : Operand)
    (ho : o.op = .call { callee := .builtin .append, args := #[sl, x], argTypes := #[23, 9] })
    {B n0 k : Nat} {W : World} {xs0 : List Value} {bs : List UInt8} {v : Value} (hs : a.eval sl = v) (h : Ln B W n0 xs0 k bs v w) (l : List UInt8) (hx : a.eval x = .string ⟨l.toArray⟩)
    (j : Nat) (hj : l.length = j) (hk : k + j ≤ 100000000)
    (kk : ∀ v' w' b', Hid (b' = bs ++ l) → Ln B W n0 xs0 (k + j) b' v' w' → wpList Tryd.prog ops Q rest (a.put o.dst v') w') : wpList Tryd.prog ops Q (o :: rest) a w := by
  obtain ⟨i0, hi, hz0, hz1, hz2⟩ := info_parts infoByte
  have hsz : (⟨l.toArray⟩ : ByteArray).size = l.length := by simp [ByteArray.size]
  have hsm := h.small
  have hln := h.len
  refine Lib.wpList_append_own_string w hgd sl x 23 9 ho B 5 i0 Tryd.underlying23 Tryd.underlying9 hi hz0 hz1 hz2 v _ _ hs h.own ⟨l.toArray⟩ hx (by rw [hsz]; unfold maxLen; omega) (by rw [hsz]; omega) h.baseW ?_
  intro v' w' h2 h3 _
  refine kk v' w' _ (Lib.hid rfl) (h.step (l := l) (Nat.le_of_eq hj) hk ?_ ?_ ?_)
  · rw [hsz] at h2; exact h2
  · exact (Below.refl B _).grown h3 h.baseW (fun k hk => (h.own.lt k hk).1)
  · exact (Lib.OthersKept.refl _ _ _).grown h3 (Lib.ownsRow_kind h.own)

/-- 'append(line, c)', the constant byte c behind its new block. -/
theorem wp_ln_byte {ops : Array Oper} {rest : List Oper} {o : Oper} {a : Act} {Q : Exit → Act → World → Prop} {w : World} (hgd : o.guard = none) (sl x : Operand)
    (ho : o.op = .call { callee := .builtin .append, args := #[sl, x], argTypes := #[23, 23] })
    {B n0 k : Nat} {W : World} {xs0 : List Value} {bs : List UInt8} {v : Value} (hs : a.eval sl = v) (h : Ln B W n0 xs0 k bs v w) (c : UInt8) (hx : a.eval x = .slice (some ⟨w.heap.size, 0, none⟩) 1 1)
    (hk : k + 1 ≤ 100000000)
    (kk : ∀ v' w' b', Hid (b' = bs ++ [c]) → Ln B W n0 xs0 (k + 1) b' v' w' → wpList Tryd.prog ops Q rest (a.put o.dst v') w') : wpList Tryd.prog ops Q (o :: rest) a (w.alloc (.cells #[.int .u8 c.toNat] 5)) := by
  obtain ⟨i0, hi, hz0, hz1, hz2⟩ := info_parts infoByte
  have hsm := h.small
  have hln := h.len
  have hb := h.baseW
  have hown := h.own.alloc (.cells #[.int .u8 c.toNat] 5)
  refine wpList_append_own _ hgd sl x 23 ho B 5 i0 (.int .u8 0) 1 1 Tryd.underlying23 hi hz0 hz1 hz2 rfl (by decide) v _ _ hs hown ⟨w.heap.size, 0, none⟩ 1 1 [Value.int .u8 c.toNat] hx rfl (cell_one_new _ _ _) (by intro u' hu'; simp at hu'; subst hu'; rfl) (by unfold maxLen; omega) (by omega) (by simp; omega) ?_
  intro v' w' h2 h3 _
  refine kk v' w' _ (Lib.hid rfl) (h.step (l := [c]) (Nat.le_refl _) hk ?_ ?_ ?_)
  · exact h2
  · exact ((Below.refl B _).alloc hb _).grown h3 (by simp; omega) (fun k hk => (h.own.lt k hk).1)
  · exact ((Lib.OthersKept.refl _ _ _).alloc _).grown h3 (Lib.ownsRow_kind hown)
end Go.Proofs.Qxb6600045aDoor
