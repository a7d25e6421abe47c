/-
  SEAT b6600045aD: strconv.AppendInt and AppendUint by the shelf's contracts; appendPrice (21).
-/
import Derived.Test.Qxb6600045aDoorGen
import Derived.Test.Qxb6600045aDoorShelf
import Derived.Lib.AppendIntMem
import Derived.Lib.ItoaLen
import Derived.Lib.AppendStr
import Derived.Lib.OwnKind
import Derived.Lib.Slices
import Derived.Lib.Hide
import Derived.OwnWalk
import Derived.BigCall
import Derived.WalkSmall
namespace Go.Proofs.Qxb6600045aDoor
open Go.RowKit Go.Shelf

/-- The table of powers, by its name in the given row. -/
abbrev powName : String := Rows.fnAppendEventScriptKeepsMidInBandRow.named.headD default
abbrev Tab (B : Nat) (w : World) : Prop := Lib.TabBelow Tryd.prog B w powName .u64 Lib.pow10Tab

theorem appendInt_any (B n : Nat) (i : Int) (h0 : -9223372036854775808 ≤ i) (h1 : i ≤ 9223372036854775807) (sv : Value) (xs : List Value) (w : World) (hown : w.ownsRow B 5 1 sv n xs) (hBw : B ≤ w.heap.size) (hlim : n + 21 ≤ 140737488355328)
    (htab : Tab B w) :
    Calls Tryd.prog 23 #[sv, .int .i64 i, .int .i64 10] w fun e w' => ∃ v', e = .returned v' ∧ w'.ownsRow B 5 1 v' (n + (Lib.itoa i).length) (xs ++ Lib.byteCells (Lib.itoa i)) ∧ Below B w w' ∧ Lib.OthersKept 5 none w w' :=
  Any.strconv_AppendInt_10 Tryd.laysM176 B n i h0 h1 sv xs w hown hBw hlim htab

theorem appendUintI_any (B n u : Nat) (hu : u < 100) (sv : Value) (xs : List Value) (w : World) (hown : w.ownsRow B 5 1 sv n xs) (hBw : B ≤ w.heap.size) (hlim : n + 20 ≤ 140737488355328) :
    Calls Tryd.prog 24 #[sv, .int .u64 u, .int .i64 10] w fun e w' => ∃ v', e = .returned v' ∧ w'.ownsRow B 5 1 v' (n + (Lib.decDigits u).length) (xs ++ Lib.byteCells (Lib.decDigits u)) ∧ Below B w w' ∧ Lib.OthersKept 5 none w w' :=
  Any.internal_strconv_AppendUint_10_small Tryd.laysM288 B n u hu sv xs w hown hBw hlim

theorem appendUint_any (B n : Nat) (u : Int) (hu0 : 0 ≤ u) (hu : u < 100) (sv : Value) (xs : List Value) (w : World) (hown : w.ownsRow B 5 1 sv n xs) (hBw : B ≤ w.heap.size) (hlim : n + 20 ≤ 140737488355328) :
    Calls Tryd.prog 22 #[sv, .int .u64 u, .int .i64 10] w fun e w' => ∃ v', e = .returned v' ∧ w'.ownsRow B 5 1 v' (n + (Lib.decDigits u.toNat).length) (xs ++ Lib.byteCells (Lib.decDigits u.toNat)) ∧ Below B w w' ∧ Lib.OthersKept 5 none w w' := by
  obtain ⟨u, rfl⟩ := Int.eq_ofNat_of_zero_le hu0
  rw [Int.toNat_natCast]
  go_enter Tryd.func22, Tryd.ntmps22
  go_wp2_with (go_at_call 24; refine (appendUintI_any B n u (by omega) sv xs _ hown hBw hlim).mono ?_; rintro e w1 ⟨v1, rfl, hown1, hnx1, hok⟩)
  go_ret
  exact ⟨v1, rfl, hown1, hnx1, hok⟩

theorem infoByte : (Tryd.prog.info? 5).map (fun i => (i.zero, i.size, i.bytes)) = some (some (.int .u8 0), 1, 1) := by kernel_rfl

/-- A digit's byte. -/
def dgB (z : Int) : UInt8 := UInt8.ofNat (48 + z).toNat
theorem dgB_toNat (z : Int) (h0 : 0 ≤ z) (h1 : z ≤ 9) : ((dgB z).toNat : Int) = 48 + z := by
  unfold dgB
  rw [UInt8.toNat_ofNat']
  omega
/-- A price's text. -/
def priceB (t : Int) : List UInt8 := Lib.itoa (t * 25 / 100) ++ [46, dgB (t * 25 % 100 / 10), dgB (t * 25 % 10)]

set_option maxHeartbeats 4000000 in
set_option maxRecDepth 100000 in
theorem price_any (B n : Nat) (t : Int) (h0 : 0 ≤ t) (h1 : t ≤ 1000000) (sv : Value) (xs : List Value) (w : World) (hown : w.ownsRow B 5 1 sv n xs) (hBw : B ≤ w.heap.size) (hlim : n ≤ 1000000000)
    (htab : Tab B w) :
    Calls Tryd.prog 21 #[sv, .int .i64 t] w fun e w' => ∃ v', e = .returned v' ∧ w'.ownsRow B 5 1 v' (n + (priceB t).length) (xs ++ Lib.byteCells (priceB t)) ∧ Below B w w' ∧ Lib.OthersKept 5 none w w' := by
  obtain ⟨i0, hi, hz0, hz1, hz2⟩ := info_parts infoByte
  have la := Lib.itoa_length_le (t * 25 / 100) (by omega) (by omega)
  go_enter Tryd.func21, Tryd.ntmps21
  go_wp2_with (go_at_call 23; refine (appendInt_any B n (t * 25 / 100) (by omega) (by omega) sv xs _ hown hBw (by omega) htab).mono ?_; rintro e w1 ⟨v1, rfl, hown1, hnx1, hok1⟩; refine Hid.out ?_)
  refine Lib.hid ?_
  have hB1 : B ≤ w1.heap.size := by have := hnx1.size; omega
  go_wp2_with (at_builtin; refine wpList_append_own _ rfl _ _ 23 rfl B 5 i0 (.int .u8 0) 1 1 Tryd.underlying23 hi hz0 hz1 hz2 rfl (by decide) _ _ _ rfl (hown1.alloc _) ⟨w1.heap.size, 0, none⟩ 1 1 [Value.int .u8 46] rfl rfl (cell_one_new _ _ _) (by intro u' hu'; simp at hu'; subst hu'; rfl) (by unfold maxLen; omega) (by omega) (by simp; omega) ?_)
  intro v2 w2 hown2 hgrow2 _
  have hnx2 : Below B w w2 := (hnx1.alloc hB1 _).grown hgrow2 (by simp; omega) (fun k hk => (hown1.lt k hk).1)
  have hok2 : Lib.OthersKept 5 none w w2 := (hok1.alloc _).grown hgrow2 (Lib.ownsRow_kind (hown1.alloc _))
  have hB2 : B ≤ w2.heap.size := by have := hnx2.size; omega
  go_wp2_with (at_builtin; refine wpList_append_own _ rfl _ _ 23 rfl B 5 i0 (.int .u8 0) 1 1 Tryd.underlying23 hi hz0 hz1 hz2 rfl (by decide) _ _ _ rfl (hown2.alloc _) ⟨w2.heap.size, 0, none⟩ 2 2 [Value.int .u8 (48 + t * 25 % 100 / 10), Value.int .u8 (48 + t * 25 % 10)] rfl rfl (cell_two_new _ _ _ _) (by intro u' hu'; simp at hu'; rcases hu' with rfl | rfl <;> rfl) (by unfold maxLen; omega) (by omega) (by simp; omega) ?_)
  intro v3 w3 hown3 hgrow3 _
  have hnx3 : Below B w w3 := (hnx2.alloc hB2 _).grown hgrow3 (by simp; omega) (fun k hk => (hown2.lt k hk).1)
  have hok3 : Lib.OthersKept 5 none w w3 := (hok2.alloc _).grown hgrow3 (Lib.ownsRow_kind (hown2.alloc _))
  have e1 := dgB_toNat (t * 25 % 100 / 10) (by omega) (by omega)
  have e2 := dgB_toNat (t * 25 % 10) (by omega) (by omega)
  have eL : xs ++ Lib.byteCells (Lib.itoa (t * 25 / 100)) ++ [Value.int .u8 46] ++ [Value.int .u8 (48 + t * 25 % 100 / 10), Value.int .u8 (48 + t * 25 % 10)] = xs ++ Lib.byteCells (priceB t) := by
    rw [← e1, ← e2]; simp [Lib.byteCells, priceB]
  have eN : n + (Lib.itoa (t * 25 / 100)).length + 1 + 2 = n + (priceB t).length := by simp [priceB]; omega
  have hown4 : w3.ownsRow B 5 1 v3 (n + (priceB t).length) (xs ++ Lib.byteCells (priceB t)) := by rw [← eN, ← eL]; simpa using hown3
  clear hown3 e1 e2 eL eN
  go_wp2
  go_ret
  exact ⟨v3, rfl, hown4, hnx3, hok3⟩
end Go.Proofs.Qxb6600045aDoor
