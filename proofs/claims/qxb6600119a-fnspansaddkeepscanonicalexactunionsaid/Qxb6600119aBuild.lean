/-
  SEAT b6600119a: zzMinU32 (48), zzBuild (22).
-/
import Derived.Test.Qxb6600119aAdd
import Derived.Deep.RegionHeld3
import Derived.Deep.DrawnRows
namespace Go.Proofs.Qxb6600119a
open Go.RowKit Go.Shelf
attribute [local go_sem ↓] Go.wp_at_zero Go.wp_at_succ

theorem min_any (x y : Int) (w : World) : Calls Try.prog 48 #[.int .u32 x, .int .u32 y] w fun e w' => e = .returned (.int .u32 (min x y)) ∧ w = w' := by
  by_cases h : x < y
  · rw [show min x y = x by omega]
    go_enter Try.func48, Try.ntmps48
    go_wp2
    go_ret
    exact ⟨rfl, rfl⟩
  · rw [show min x y = y by omega]
    go_enter Try.func48, Try.ntmps48
    go_wp2
    go_ret
    exact ⟨rfl, rfl⟩

/-- The pairs of a script. -/
def pairsOf : List Int → List (Int × Int)
  | a :: b :: r => (a, b) :: pairsOf r
  | _ => []
theorem pairs_step (xs : List Int) (k : Nat) (h : k + 1 < xs.length) : pairsOf (xs.drop k) = (xs.getD k 0, xs.getD (k + 1) 0) :: pairsOf (xs.drop (k + 2)) := by
  rw [List.drop_eq_getElem_cons (show k < xs.length by omega), List.drop_eq_getElem_cons (show k + 1 < xs.length by omega)]
  simp [pairsOf, List.getD_eq_getElem?_getD, h, show k < xs.length by omega]
theorem pairs_end (xs : List Int) (k : Nat) (h : ¬ k + 1 < xs.length) : pairsOf (xs.drop k) = [] := by
  match hm : xs.drop k with
  | [] => rfl
  | [_] => rfl
  | _ :: _ :: r => have := congrArg List.length hm; simp at this; omega

set_option maxHeartbeats 1000000 in
set_option maxRecDepth 100000 in
theorem build_any (b n cap : Nat) (ao : Option Addr) (xs : List Int) (w : World) (hx : xs.length = n) (hn : n ≤ 4096) (ha : n = 0 ∨ ao = some ⟨b, 0, none⟩) (hcl : ∀ k, k < n → w.cell? ⟨b, k, none⟩ = some (.int .u32 (xs.getD k 0))) (hb : b < w.heap.size ∨ n = 0) :
    Calls Try.prog 22 #[.slice ao n cap] w fun e w' => ∃ v, e = .returned v ∧ w'.ownsRow w.heap.size 53 2 v (buildL (pairsOf xs) []).length (flat (buildL (pairsOf xs) [])) ∧ Below w.heap.size w w' := by
  go_enter Try.func22, Try.ntmps22
  go_wp2_with fail
  go_loopw [4] (fun i wr => ∃ (k : Nat) (v : Value) (sp : Sp), k ≤ n ∧ i = .int .i64 k ∧ Hid (buildL (pairsOf (xs.drop k)) sp = buildL (pairsOf xs) []) ∧ sp.length ≤ k ∧ VarAt w.heap.size v wr ∧ wr.ownsRow w.heap.size 53 2 v sp.length (flat sp) ∧ Below w.heap.size w wr) (fun i _ => n - (intOf i).toNat)
  case atStart => exact ⟨0, .slice none 0 0, [], Nat.zero_le _, rfl, Lib.hid (by simp), by simp, heap_alloc_new w _, World.ownsRow_nil _ _ _ _, (Below.refl _ _).alloc (Nat.le_refl _) _⟩
  case round =>
    obtain ⟨k, v, sp, hk, rfl, HA, hl, hP, hown, hbel⟩ := hrel
    by_cases hlt : k + 1 < n
    · obtain rfl : ao = some ⟨b, 0, none⟩ := ha.resolve_left (by omega)
      have hb' : b < w.heap.size := hb.resolve_right (by omega)
      have c0 := (hbel.cell (p := ⟨b, k, none⟩) hb').trans (hcl k (by omega))
      have c1 := (hbel.cell (p := ⟨b, k + 1, none⟩) hb').trans (hcl (k + 1) (by omega))
      have HS := HA.out
      rw [pairs_step xs k (by omega)] at HS
      simp only [buildL] at HS
      have HS := Lib.hid HS
      clear HA hcl
      generalize xs.getD k 0 = p1 at *
      generalize xs.getD (k + 1) 0 = p2 at *
      have i1 : (0 : Int) ≤ (k : Int) := by omega
      have i2 : (k : Int) < (n : Int) := by omega
      have i3 : (k : Int) + 1 < (n : Int) := by omega
      have i4 : IntKind.i64.wrap ((k : Int) + 1) = (k : Int) + 1 := by rw [IntKind.wrap_i64]; omega
      have i5 : ((k : Int) + 1).toNat = k + 1 := by omega
      have i6 : (0 : Int) ≤ (k : Int) + 1 := by omega
      have ho : wr.drew.ownsRow w.heap.size 53 2 v sp.length (flat sp) := hown.drew
      have hP9 : VarAt w.heap.size v wr.drew := hP
      have hcon := add_any w.heap.size w.heap.size _ v p1 p2 sp wr.drew rfl (by omega) hP9 (Nat.le_refl _) ho
      have HC := Lib.hid hcon
      clear hcon ho hP9
      go_wp2_with fail
      go_region_held3 (fun w' => w'.cell? ⟨b, k, none⟩ = some (.int .u32 p1) ∧ w'.cell? ⟨b, k + 1, none⟩ = some (.int .u32 p2)) (first | exact ⟨(hb4.cell (p := ⟨b, k, none⟩) hb').trans c0, (hb4.cell (p := ⟨b, k + 1, none⟩) hb').trans c1⟩ | exact ⟨c0, c1⟩ | go_keep) (first | (go_at_call 32; refine HC.out.mono ?_; rintro e w' ⟨rfl, v', hP4, hown4, hb4⟩))
      have hbel4 : Below w.heap.size w w' := hbel.drew.trans hb4
      have hlen := addL_length sp p1 p2
      clear HC
      go_wp2
      go_roundw
      case rel => exact ⟨k + 2, v', addL sp p1 p2, by omega, by go_num, HS, by omega, hP4, hown4, hbel4⟩
      case measure => simp [intOf]; omega
    · have hE := HA.out
      rw [pairs_end xs k (by omega)] at hE
      simp only [buildL] at hE
      have pc := hP.cell
      have hown5 : wr.ownsRow w.heap.size 53 2 v (buildL (pairsOf xs) []).length (flat (buildL (pairsOf xs) [])) := by rw [← hE]; exact hown
      obtain ⟨a5, c5, rfl⟩ := own_form hown
      have hlt2 : ¬ ((k : Int) + 1 < (n : Int)) := by omega
      clear hE HA hcl hown
      go_wp2
      go_ret
      exact ⟨_, rfl, hown5, hbel⟩
end Go.Proofs.Qxb6600119a
