/-
  SEAT b6600045aD: THE WALK OF FnAppendEventScriptKeepsMidInBand (4).
-/
import Derived.Test.Qxb6600045aDoorZZ
import Derived.Deep.RegionHeld3
import Derived.Deep.DrawnRows
import Derived.Deep.DeepCutAuto
namespace Go.Proofs.Qxb6600045aDoor
open Go.RowKit Go.Shelf
attribute [local go_sem ↓] Go.wp_at_zero Go.wp_at_succ

/-- A script of more than 4096 events: true at once. -/
theorem script_long (r m s : Int) (ao : Option Addr) (n c : Nat) (w : World) (h : 4096 < n) (hm : n ≤ 9223372036854775807) :
    Calls Tryd.prog 4 #[.int .u64 r, .int .i64 m, .int .i64 s, .slice ao n c] w fun e w' => e = .returned (.bool true) ∧ Below w.heap.size w w' := by
  by_cases h1 : 1048576 < n
  · have g1 : (1048576 : Int) < (n : Int) := by omega
    go_enter Tryd.func4, Tryd.ntmps4
    go_wp2
    go_ret
    exact ⟨rfl, Below.refl _ _⟩
  · have g1 : ¬ (1048576 : Int) < (n : Int) := by omega
    have g2 : (4096 : Int) < (n : Int) := by omega
    go_enter Tryd.func4, Tryd.ntmps4
    go_wp2
    go_ret
    exact ⟨rfl, Below.refl _ _⟩

/-- The row's rest ends in a line end, and is short. -/
theorem rowB_end (M x : Int) (tr : Bool) (h0 : 10800 ≤ M) (h1 : M ≤ 11200) : ∃ l, rowB M x tr = l ++ [10] ∧ l.length ≤ 200 := by
  have p1 := priceB_len M (by omega) (by omega)
  have p2 := priceB_len (M + x / 3 / 4 % 2) (by omega) (by omega)
  have p3 := priceB_len (M + 1 + x / 3 % 4 / 3) (by omega) (by omega)
  have p4 := dec_len (1 + x / 3 / 4 / 2 % 20) (by omega)
  unfold rowB tradeB quoteB
  split
  · exact ⟨[44, 116, 114, 97, 100, 101, 44] ++ priceB (M + x / 3 / 4 % 2) ++ [44] ++ Lib.decDigits (1 + x / 3 / 4 / 2 % 20).toNat ++ [44, 44, 44], by simp, by simp only [List.length_append, List.length_cons, List.length_nil]; omega⟩
  · split
    · exact ⟨[44, 113, 117, 111, 116, 101, 44, 44, 44] ++ priceB M ++ [44, 44], by simp, by simp only [List.length_append, List.length_cons, List.length_nil]; omega⟩
    · split
      · exact ⟨[44, 113, 117, 111, 116, 101, 44, 44, 44] ++ [44] ++ priceB (M + 1 + x / 3 % 4 / 3) ++ [44], by simp, by simp only [List.length_append, List.length_cons, List.length_nil]; omega⟩
      · exact ⟨[44, 113, 117, 111, 116, 101, 44, 44, 44] ++ priceB M ++ [44] ++ priceB (M + 1 + x / 3 % 4 / 3) ++ [44], by simp, by simp only [List.length_append, List.length_cons, List.length_nil]; omega⟩

/-- What the loop holds. -/
structure Held (W : World) (r m s m0 : Int) (v : Value) (inB : Bool) (w : World) : Prop where
  gs : Gen 27 W.heap.size r m s w
  gt : Gen 27 (W.heap.size + 1) r m0 s w
  own : ∃ nl xs, w.ownsRow W.heap.size 5 1 v nl xs
  bel : Below W.heap.size W w
  band : inB = true → 10800 ≤ m ∧ m ≤ 11200

/-- zzBytes_..: at most 1048576 events: true. -/
theorem bytes16 (r m s : Int) (ao : Option Addr) (n c : Nat) (w : World) (h : n ≤ 1048576) :
    Calls Tryd.prog 16 #[.int .u64 r, .int .i64 m, .int .i64 s, .slice ao n c] w fun e w' => e = .returned (.bool true) ∧ w = w' := by
  have g1 : ¬ (1048576 : Int) < (n : Int) := by omega
  go_enter Tryd.func16, Tryd.ntmps16
  go_wp2
  go_ret
  exact ⟨rfl, rfl⟩

/-- 'line[:0]'. -/
theorem slice0 {w : World} {B n : Nat} {v : Value} {xs : List Value} (h : w.ownsRow B 5 1 v n xs) :
    ∃ v0, (∀ W, (Instr.slice 23 v none (some (.int .i64 0)) none).run Tryd.prog W = .ok v0 W) ∧ w.ownsRow B 5 1 v0 0 [] := by
  rcases h.2 with ⟨rfl, rfl⟩ | ⟨g, cap, cur, rfl, h1, h2, h3, h4, h5, h6⟩
  · exact ⟨.slice none 0 0, fun W => by kernel_rfl, World.ownsRow_nil _ _ _ _⟩
  · refine ⟨.slice (some ⟨g, 0, none⟩) 0 cap, fun W => ?_, ⟨by simp, .inr ⟨g, cap, cur, rfl, h1, h2, by omega, h4, h5, by simp⟩⟩⟩
    have e : Tryd.prog.elem 23 = 5 := by kernel_rfl
    rw [run_slice_h (P := Tryd.prog) (w := W) 23 (some ⟨g, 0, none⟩) n cap (by rw [e]; exact Tryd.underlying23) .i64 0 (by decide) (by omega)]
    rw [e, Tryd.sizeOf5 W]
    simp [sliced, Result.andThen, Addr.add_lit]

theorem own_len {w : World} {B n : Nat} {v : Value} {xs : List Value} {l : List UInt8} (h : w.ownsRow B 5 1 v (n + (l ++ [10]).length) (xs ++ Lib.byteCells (l ++ [10]))) :
    ∃ g cap, v = .slice (some ⟨g, 0, none⟩) (n + (l.length + 1)) cap ∧ w.cell? ⟨g, n + l.length, none⟩ = some (.int .u8 10) := by
  have hx := h.1
  rcases h.2 with ⟨_, h0⟩ | ⟨g, cap, cur, rfl, h1, h2, h3, h4, h5, h6⟩
  · simp at h0
  · refine ⟨g, cap, by simp, ?_⟩
    have hc := h.cells (g := g) rfl (n + l.length) (.int .u8 10) (by
      have e : xs.length = n := by simp [Lib.byteCells] at hx; omega
      rw [Lib.byteCells_append, ← List.append_assoc, List.getElem?_append_right (by simp [Lib.byteCells]; omega)]
      simp [Lib.byteCells, e])
    rwa [Addr.add_lit, Nat.zero_add] at hc

/-- A generator in another block than the one that ran. -/
theorem Gen.grown {t : TypeId} {b c : Nat} {r m s : Int} {w w' : World} (h : Gen t b r m s w) (hg : w.grownBy w' (some c)) (hne : b ≠ c) : Gen t b r m s w' :=
  ⟨(hg.block b h.lt (by intro e; injection e; omega)).trans h.obj⟩
theorem own_grown27 {w w' : World} {B n g : Nat} {v : Value} {xs : List Value} {r m s : Int} (h : w.ownsRow B 5 1 v n xs) (hg : Gen 27 g r m s w) (hgr : w.grownBy w' (some g)) : w'.ownsRow B 5 1 v n xs := by
  refine h.kept hgr ?_
  cases hv : v.ownBlock with
  | none => exact .inl rfl
  | some k =>
    refine .inr (fun e => ?_)
    obtain ⟨c, fz, hc⟩ := Lib.ownsRow_kind h k hv
    injection e with e
    subst e
    rw [hg.obj] at hc
    injection hc with hc
    injection hc with _ hc
    exact absurd hc (by decide)

/-- Within the band the mid moves by a tick at most. -/
theorem midN_step (m x : Int) : 10800 ≤ m → m ≤ 11200 → -1 ≤ midN m x - m ∧ midN m x - m ≤ 1 := by
  intro h0 h1
  unfold midN wrap64
  omega

set_option maxHeartbeats 1000000 in
set_option maxRecDepth 100000 in
theorem script_short (r m s : Int) (b off n c : Nat) (ts : List Bool) (w : World) (h : n ≤ 4096) (hb : b < w.heap.size) (hcell : ∀ j, j < n → w.cell? ⟨b, off + j, none⟩ = some (.bool (ts.getD j false)))
    (hm0 : -9223372036854775808 ≤ m) (hm1 : m ≤ 9223372036854775807) (htab : Tab w.heap.size w) :
    Calls Tryd.prog 4 #[.int .u64 r, .int .i64 m, .int .i64 s, .slice (some ⟨b, off, none⟩) n c] w fun e w' => e = .returned (.bool true) ∧ Below w.heap.size w w' := by
  have g2 : ¬ (4096 : Int) < (n : Int) := by omega
  go_enter Tryd.func4, Tryd.ntmps4
  go_upto_region 9 with (go_at_call 16; refine (bytes16 _ _ _ _ _ _ _ (by omega)).mono ?_; rintro e w' ⟨rfl, rfl⟩)
  go_cut [13] (fun ib w1 => ∃ inB : Bool, ib = .bool inB ∧ (inB = true → 10800 ≤ m ∧ m ≤ 11200) ∧ w1 = (w.alloc (genObj 27 r m s)).alloc (genObj 27 r m s))
  case first =>
    by_cases hlo : 10800 ≤ m
    · by_cases hhi : m ≤ 11200
      · go_wp2
        go_meet
        case rel => exact ⟨true, rfl, fun _ => ⟨hlo, hhi⟩, rfl⟩
      · go_wp2
        go_meet
        case rel => exact ⟨false, rfl, fun e => absurd e (by decide), rfl⟩
    · go_wp2
      go_meet
      case rel => exact ⟨false, rfl, fun e => absurd e (by decide), rfl⟩
  obtain ⟨inB0, rfl, hib, rfl⟩ := hcut
  go_wp2_with fail
  go_loopw [11, 12, 13, 14, 15] (fun v p ib i d wr => ∃ (k : Nat) (rk mk : Int) (inB : Bool), k ≤ n ∧ i = .int .i64 k ∧ p = .int .i64 mk ∧ ib = .bool inB ∧ Held w rk mk s m v inB wr ∧ -9223372036854775808 ≤ mk ∧ mk ≤ 9223372036854775807) (fun _ _ _ i _ _ => n - (intOf i).toNat)
  case atStart =>
    refine ⟨0, r, m, inB0, Nat.zero_le _, rfl, rfl, rfl, ⟨?_, ?_, ?_, ?_, ?_⟩, hm0, hm1⟩
    · exact (Gen.new 27 r m s w).alloc _
    · have := Gen.new 27 r m s (w.alloc (genObj 27 r m s)); simpa using this
    · exact ⟨0, [], World.ownsRow_nil _ _ _ _⟩
    · exact ((Below.refl _ w).alloc (Nat.le_refl _) _).alloc (by simp) _
    · exact hib
  case round =>
    obtain ⟨k, rk, mk, inB, hk, rfl, rfl, rfl, hh, hk0, hk1⟩ := hrel
    by_cases hlt : k < n
    · obtain ⟨hgs, hgt, ⟨nl, xs, hown⟩, hbel, hband⟩ := hh
      obtain ⟨v0, hsl, hown0⟩ := slice0 hown
      have hc : wr.cell? ⟨b, off + k, none⟩ = some (.bool (ts.getD k false)) := (hbel.cell (p := ⟨b, off + k, none⟩) hb).trans (hcell k hlt)
      generalize ts.getD k false = tr at hc
      have ht := htab.on hbel.drew
      clear hcell hown
      go_wp2_with fail
      go_region_held3 (fun w' => w'.cell? ⟨b, off + k, none⟩ = some (.bool tr)) (first | (exact (hz.bel.cell (p := ⟨b, off + k, none⟩) hb).trans hc) | go_keep) (first | (go_at_call 8; refine (zz_any w.heap.size w.heap.size 0 rk mk s v0 [] tr _ hgs.drew hown0.drew (Nat.le_refl _) (by omega) ht).mono ?_; rintro e w' ⟨v', rfl, hz⟩))
      obtain ⟨zg, zo, zb, zk⟩ := hz
      have hgt' := hgt.drew.kept (by decide) zk (by simp)
      have hbel' := hbel.drew.trans zb
      obtain ⟨y0, y1⟩ := midN_bd mk (mixI (stp rk))
      have hd := midN_step mk (mixI (stp rk))
      obtain ⟨l, hl, hll⟩ := rowB_end (midN mk (mixI (stp rk))) (mixI (stp rk)) tr y0 y1
      rw [hl] at zo
      obtain ⟨g, cap, hv, _⟩ := own_len zo
      have HV := Lib.hid hv
      clear hl hc hsl hgs hgt hbel hown0 ht htab zb zk hv
      generalize midN mk (mixI (stp rk)) = M at *
      go_wp2_with (go_at_call 17; refine (zznext_any _ rk m s _ hgt').mono ?_; rintro e w2 ⟨rfl, hgt2, hgr⟩; refine Hid.out ?_)
      refine Lib.hid ?_
      have zg2 := zg.grown hgr (by omega)
      have zo2 := own_grown27 zo hgt' hgr
      have hbel2 : Below w.heap.size w w2 := hbel'.grown hgr (by have := hbel'.size; omega) (by intro k hk; injection hk; omega)
      have hheld : Held w (stp rk) M s m v' true w2 := ⟨zg2, hgt2, ⟨_, _, zo2⟩, hbel2, fun _ => ⟨y0, y1⟩⟩
      obtain rfl := HV.out
      obtain ⟨g', cap', hv', hlast⟩ := own_len zo2
      obtain ⟨rfl, rfl⟩ : g' = g ∧ cap' = cap := by injection hv' with a1 a2 a3; injection a1 with a1; injection a1 with a1; exact ⟨a1.symm, a3.symm⟩
      have c0 := zg2.c0; have c1 := zg2.c1; have c2 := zg2.c2; have d0 := hgt2.c0
      clear HV hv' zg zo zo2 zg2 hgt' hgt2 hgr hbel' hbel2
      rw [Nat.zero_add] at hlast hheld ⊢
      generalize l.length = L at *
      cases inB
      · go_wp2
        go_roundw
        case rel => exact ⟨k + 1, _, M, true, by omega, by go_num, rfl, rfl, hheld, by omega, by omega⟩
        case measure => simp [intOf]; omega
      · obtain ⟨b0, b1⟩ := hband rfl
        obtain ⟨d1, d2⟩ := hd b0 b1
        go_wp2
        go_roundw
        case rel => exact ⟨k + 1, _, M, true, by omega, by go_num, rfl, rfl, hheld, by omega, by omega⟩
        case measure => simp [intOf]; omega
    · go_wp2
      go_ret
      exact ⟨rfl, hh.bel⟩
end Go.Proofs.Qxb6600045aDoor
