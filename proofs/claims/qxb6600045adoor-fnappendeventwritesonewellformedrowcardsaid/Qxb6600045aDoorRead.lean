/-
  SEAT b6600045aD: THE LAW's OWN READERS OF BYTES: equalBytesB1 (9), hasByteB1 (10), countByteB1 (11), fieldB1 (12), isTextB1 (13).
-/
import Derived.Test.Qxb6600045aDoorRows
import Derived.WalkKit
import Derived.WalkSpells
import Derived.RegionTactic
import Derived.Deep.QuietTactic
import Derived.BigQuiet
import Derived.Lib.Hide
namespace Go.Proofs.Qxb6600045aDoor
open Go.RowKit

/-- From offset o of block b on lie the bytes l. -/
def Cs (w : World) (b o : Nat) (l : List UInt8) : Prop := ∀ j, j < l.length → w.cell? ⟨b, o + j, none⟩ = some (.int .u8 (l.getD j 0).toNat)
theorem Cs.drewN {w : World} {b o : Nat} {l : List UInt8} (h : Cs w b o l) (n : Nat) : Cs (w.drewN n) b o l := h
theorem Cs.mid {w : World} {b o : Nat} {l p q : List UInt8} (h : Cs w b o (p ++ l ++ q)) : Cs w b (o + p.length) l := by
  intro j hj
  have := h (p.length + j) (by simp; omega)
  rw [Nat.add_assoc, this]
  have e : (p ++ l ++ q).getD (p.length + j) 0 = l.getD j 0 := by
    rw [List.getD_eq_getElem?_getD, List.getD_eq_getElem?_getD, List.append_assoc, List.getElem?_append_right (by omega), Nat.add_sub_cancel_left, List.getElem?_append_left hj]
  rw [e]
theorem byte_lt (c : UInt8) : (0 : Int) ≤ (c.toNat : Int) ∧ (c.toNat : Int) ≤ 255 := ⟨by omega, by have := c.toNat_lt; omega⟩

theorem take_snocD (l : List UInt8) (k : Nat) (h : k < l.length) : l.take (k + 1) = l.take k ++ [l.getD k 0] := by
  rw [List.take_succ_eq_append_getElem h]; simp [List.getD_eq_getElem?_getD, h]

/-- hasByteB1: the byte is not there. -/
theorem has_no (b o n c : Nat) (ch : UInt8) (l : List UInt8) (w : World) (hl : l.length = n) (hn : n ≤ 1000000000) (hcs : Cs w b o l) (hno : ch ∉ l) :
    Calls Tryd.prog 10 #[.slice (some ⟨b, o, none⟩) n c, .int .u8 ch.toNat] w fun e w' => e = .returned (.bool false) ∧ w = w' := by
  go_enter Tryd.func10, Tryd.ntmps10
  go_wp2
  go_loop [5] (fun i => ∃ k : Nat, k ≤ n ∧ i = .int .i64 k) (fun i => n - (intOf i).toNat)
  case atStart => exact ⟨0, Nat.zero_le _, rfl⟩
  case round =>
    obtain ⟨k, hk, rfl⟩ := hrel
    by_cases hlt : k < n
    · have hc := hcs k (by omega)
      have hne : (((l.getD k 0).toNat : Int) == (ch.toNat : Int)) = false := by
        have hm : l.getD k 0 ∈ l := by rw [List.getD_eq_getElem?_getD, List.getElem?_eq_getElem (by omega)]; simp
        have : l.getD k 0 ≠ ch := fun e => hno (e ▸ hm)
        have h2 : (l.getD k 0).toNat ≠ ch.toNat := fun e => this (UInt8.toNat_inj.1 e)
        exact beq_eq_false_iff_ne.2 (by omega)
      generalize (l.getD k 0).toNat = x at *
      clear hcs
      go_wp2
      go_round
      case rel => exact ⟨k + 1, by omega, by go_num⟩
      case measure => simp [intOf]; omega
    · go_wp2
      go_ret
      exact ⟨rfl, rfl⟩

/-- countByteB1. -/
theorem count_any (b o n c : Nat) (ch : UInt8) (l : List UInt8) (w : World) (hl : l.length = n) (hn : n ≤ 1000000000) (hcs : Cs w b o l) :
    Calls Tryd.prog 11 #[.slice (some ⟨b, o, none⟩) n c, .int .u8 ch.toNat] w fun e w' => e = .returned (.int .i64 (l.count ch : Nat)) ∧ w = w' := by
  go_enter Tryd.func11, Tryd.ntmps11
  go_wp2
  go_loop [5, 6] (fun q i => ∃ k : Nat, k ≤ n ∧ i = .int .i64 k ∧ q = .int .i64 ((l.take k).count ch : Nat)) (fun _ i => n - (intOf i).toNat)
  case atStart => exact ⟨0, Nat.zero_le _, rfl, by simp⟩
  case round =>
    obtain ⟨k, hk, rfl, rfl⟩ := hrel
    have hb : (l.take k).count ch ≤ n := by have := List.count_le_length (a := ch) (l := l.take k); simp at this; omega
    by_cases hlt : k < n
    · have hc := hcs k (by omega)
      have hs : (l.take (k + 1)).count ch = (l.take k).count ch + (if l.getD k 0 = ch then 1 else 0) := by
        rw [take_snocD l k (by omega), List.count_append]; simp [List.count_cons]
      by_cases he : l.getD k 0 = ch
      · have HS := Lib.hid hs
        have hbe : (((l.getD k 0).toNat : Int) == (ch.toNat : Int)) = true := by rw [he]; simp
        clear hs hcs
        generalize hq : (l.take k).count ch = q at *
        generalize (l.getD k 0).toNat = x at *
        go_wp2
        go_round
        case rel => exact ⟨k + 1, by omega, by go_num, by rw [HS.out, if_pos he]; go_num⟩
        case measure => simp [intOf]; omega
      · have HS := Lib.hid hs
        have hbe : (((l.getD k 0).toNat : Int) == (ch.toNat : Int)) = false := by
          have h2 : (l.getD k 0).toNat ≠ ch.toNat := fun e => he (UInt8.toNat_inj.1 e)
          exact beq_eq_false_iff_ne.2 (by omega)
        clear hs hcs
        generalize hq : (l.take k).count ch = q at *
        generalize (l.getD k 0).toNat = x at *
        go_wp2
        go_round
        case rel => exact ⟨k + 1, by omega, by go_num, by rw [HS.out, if_neg he]; go_num⟩
        case measure => simp [intOf]; omega
    · have hkn : k = n := by omega
      go_wp2
      go_ret
      exact ⟨by rw [List.take_of_length_le (by omega)]; rfl, rfl⟩
/-- Where the piece begins that a text ends in: behind the last comma. -/
def stC (l : List UInt8) : Nat := l.length - (l.reverse.takeWhile (fun c => c != 44)).length
theorem stC_nil : stC [] = 0 := rfl
theorem stC_comma (l : List UInt8) : stC (l ++ [44]) = l.length + 1 := by simp [stC]
theorem stC_other (l : List UInt8) (c : UInt8) (h : c ≠ 44) : stC (l ++ [c]) = stC l := by
  have hb : (c != 44) = true := by simp [h]
  have hle : (l.reverse.takeWhile (fun c => c != 44)).length ≤ l.length := by
    have := (List.takeWhile_sublist (fun c : UInt8 => c != 44) (l := l.reverse)).length_le; simpa using this
  simp [stC, hb]
theorem stC_le (l : List UInt8) : stC l ≤ l.length := by unfold stC; omega
theorem stC_free (p m : List UInt8) (h : 44 ∉ m) : stC (p ++ m) = stC p := by
  unfold stC
  rw [List.reverse_append, List.takeWhile_append_of_pos (by intro a ha; simp at ha; simp; intro e; subst e; exact h ha)]
  simp
  omega
theorem count_other (l : List UInt8) (c : UInt8) (h : c ≠ 44) : (l ++ [c]).count 44 = l.count 44 := by
  rw [List.count_append, List.count_cons, List.count_nil, if_neg (by simpa using h)]; rfl
theorem sdata_at (s : ByteArray) (k : Nat) (h : k < s.size) : s.data.toList.getD k 0 = s[k] := by
  have h' : k < s.data.toList.length := by simpa using h
  rw [List.getD_eq_getElem?_getD, List.getElem?_eq_getElem h']; rfl
/-- A piece's head: what stands ahead of it is nothing, or ends in a comma; it bears as many commas as the piece's number says. -/
def Head (p : List UInt8) (k : Nat) : Prop := stC p = p.length ∧ p.count 44 = k

theorem take_pre (p m q : List UInt8) (k : Nat) (h1 : p.length ≤ k) (h2 : k ≤ p.length + m.length) : (p ++ m ++ q).take k = p ++ m.take (k - p.length) := by
  obtain ⟨j, rfl⟩ := Nat.exists_eq_add_of_le h1
  rw [List.append_assoc, List.take_length_add_append, Nat.add_sub_cancel_left, List.take_append_of_le_length (by omega)]

set_option maxHeartbeats 1000000 in
/-- fieldB1: the piece m behind the head p. -/
theorem field_any (b o n c want P M : Nat) (p m q : List UInt8) (w : World) (hP : p.length = P) (hM : m.length = M) (hl : (p ++ m ++ q).length = n) (hn : n ≤ 1000000000) (hcap : n < c) (hcs : Cs w b o (p ++ m ++ q)) (hp : Head p want) (hm : 44 ∉ m) (hq : q = [] ∨ ∃ q', q = 44 :: q') :
    Calls Tryd.prog 12 #[.slice (some ⟨b, o, none⟩) n c, .int .i64 want] w fun e w' => e = .returned (.slice (some ⟨b, o + P, none⟩) M (c - P)) ∧ w = w' := by
  obtain ⟨hst, hct⟩ := hp
  have hlen : p.length + m.length + q.length = n := by simp at hl; omega
  have hmc : m.count 44 = 0 := List.count_eq_zero.2 hm
  have hfull : ∀ k, p.length ≤ k → k ≤ p.length + m.length → ((p ++ m ++ q).take k).count 44 = want ∧ stC ((p ++ m ++ q).take k) = p.length := by
    intro k h1 h2
    have hf : 44 ∉ m.take (k - p.length) := fun h => hm (List.mem_of_mem_take h)
    rw [take_pre p m q k h1 h2, List.count_append, stC_free _ _ hf, hct, hst, List.count_eq_zero.2 hf]
    exact ⟨rfl, rfl⟩
  have hbefore : ∀ k, k < p.length → (p ++ m ++ q).getD k 0 = 44 → ((p ++ m ++ q).take k).count 44 < want := by
    intro k h1 h2
    have e1 : (p ++ m ++ q).take k = p.take k := by rw [List.append_assoc, List.take_append_of_le_length (by omega)]
    have e2 : p.getD k 0 = 44 := by
      rw [← h2, List.append_assoc, List.getD_eq_getElem?_getD, List.getD_eq_getElem?_getD, List.getElem?_append_left h1]
    have e3 : p.count 44 = (p.take (k + 1)).count 44 + (p.drop (k + 1)).count 44 := by rw [← List.count_append, List.take_append_drop]
    rw [take_snocD p k h1, List.count_append, e2] at e3
    rw [e1]
    simp at e3
    omega
  have hmid : ∀ k, p.length ≤ k → k < p.length + m.length → (p ++ m ++ q).getD k 0 ≠ 44 := by
    intro k h1 h2 e
    apply hm
    obtain ⟨j, rfl⟩ := Nat.exists_eq_add_of_le h1
    rw [List.append_assoc, List.getD_eq_getElem?_getD, List.getElem?_append_right (by omega), Nat.add_sub_cancel_left, List.getElem?_append_left (by omega), List.getElem?_eq_getElem (by omega)] at e
    simp at e
    rw [← e]; exact List.getElem_mem _
  have hend : p.length + m.length < n → (p ++ m ++ q).getD (p.length + m.length) 0 = 44 := by
    intro h
    rcases hq with rfl | ⟨q', rfl⟩
    · simp at hlen; omega
    · rw [List.getD_eq_getElem?_getD, List.getElem?_append_right (by simp)]
      simp
  rw [hP, hM] at hend hlen hfull hmid
  rw [hP] at hbefore
  generalize p ++ m ++ q = l at *
  clear hP hM hst hct hmc hm hq
  go_enter Tryd.func12, Tryd.ntmps12
  go_wp2
  go_loop [5, 6, 7] (fun col st i => ∃ k : Nat, k ≤ P + M ∧ i = .int .i64 k ∧ col = .int .i64 ((l.take k).count 44 : Nat) ∧ st = .int .i64 (stC (l.take k) : Nat)) (fun _ _ i => n - (intOf i).toNat)
  case atStart => exact ⟨0, Nat.zero_le _, rfl, by simp, by simp [stC_nil]⟩
  case round =>
    obtain ⟨k, hk, rfl, rfl, rfl⟩ := hrel
    have hb : (l.take k).count 44 ≤ n := by have := List.count_le_length (a := (44 : UInt8)) (l := l.take k); simp at this; omega
    have hs1 : stC (l.take k) ≤ n := by have := stC_le (l.take k); simp at this; omega
    have hne : ¬ c = P := by omega
    by_cases hlt : k < n
    · have hc := hcs k (by omega)
      by_cases hend' : k = P + M
      · -- the comma behind the piece
        obtain ⟨f1, f2⟩ := hfull k (by omega) (by omega)
        have h44 := hend (by omega)
        rw [hend', h44] at hc
        rw [f1, f2]
        subst hend'
        clear hcs hfull hbefore hmid hend f1 f2 hs1 hb h44
        go_wp2
        go_ret
        exact ⟨rfl, rfl⟩
      · by_cases hcm : l.getD k 0 = 44
        · -- a comma ahead of the piece
          have hkp : k < P := by
            rcases Nat.lt_or_ge k P with h | h
            · exact h
            · exact absurd hcm (hmid k h (by omega))
          have hlw := hbefore k hkp hcm
          have hsn : l.take (k + 1) = l.take k ++ [44] := by rw [take_snocD l k (by omega), hcm]
          have e1 : (l.take (k + 1)).count 44 = (l.take k).count 44 + 1 := by rw [hsn]; simp
          have e2 : stC (l.take (k + 1)) = k + 1 := by rw [hsn, stC_comma]; simp; omega
          have E1 := Lib.hid e1
          have E2 := Lib.hid e2
          rw [hcm] at hc
          clear hcs hfull hbefore hmid hend hsn e1 e2 hcm
          generalize (l.take k).count 44 = C at *
          generalize stC (l.take k) = S at *
          have hw : ((C : Int) == (want : Int)) = false := beq_eq_false_iff_ne.2 (by omega)
          go_wp2
          go_round
          case rel => exact ⟨k + 1, by omega, by go_num, by rw [E1.out]; go_num, by rw [E2.out]; go_num⟩
          case measure => simp [intOf]; omega
        · have hsn : l.take (k + 1) = l.take k ++ [l.getD k 0] := take_snocD l k (by omega)
          have e1 : (l.take (k + 1)).count 44 = (l.take k).count 44 := by rw [hsn, count_other _ _ hcm]
          have e2 : stC (l.take (k + 1)) = stC (l.take k) := by rw [hsn, stC_other _ _ hcm]
          have E1 := Lib.hid e1
          have E2 := Lib.hid e2
          have hbe : (((l.getD k 0).toNat : Int) == 44) = false := by
            have h2 : (l.getD k 0).toNat ≠ 44 := fun e => hcm (UInt8.toNat_inj.1 e)
            exact beq_eq_false_iff_ne.2 (by omega)
          clear hcs hfull hbefore hmid hend hsn e1 e2 hcm
          generalize (l.take k).count 44 = C at *
          generalize stC (l.take k) = S at *
          generalize (l.getD k 0).toNat = x at *
          go_wp2
          go_round
          case rel => exact ⟨k + 1, by omega, by go_num, by rw [E1.out], by rw [E2.out]⟩
          case measure => simp [intOf]; omega
    · have hkn : k = n := by omega
      obtain ⟨f1, f2⟩ := hfull k (by omega) (by omega)
      rw [f1, f2]
      have hMn : n = P + M := by omega
      clear hcs hfull hbefore hmid hend f1 f2 hs1 hb
      subst hkn
      subst hMn
      go_wp2
      go_ret
      exact ⟨by simp, rfl⟩
/-- isTextB1: the very text. -/
theorem text_yes (b o n c : Nat) (s : ByteArray) (w : World) (hn : s.size = n) (hn' : n ≤ 1000) (hcs : Cs w b o s.data.toList) :
    Calls Tryd.prog 13 #[.slice (some ⟨b, o, none⟩) n c, .string s] w fun e w' => e = .returned (.bool true) ∧ ∃ q, w' = w.drewN q := by
  have g0 : ((n : Int) != (s.size : Int)) = false := by rw [hn]; simp
  go_enter Tryd.func13, Tryd.ntmps13
  go_wp2
  go_loopw [5] (fun i wr => ∃ k q : Nat, k ≤ n ∧ i = .int .i64 k ∧ wr = w.drewN q) (fun i _ => n - (intOf i).toNat)
  case atStart => exact ⟨0, 0, Nat.zero_le _, rfl, rfl⟩
  case round =>
    obtain ⟨k, q, hk, rfl, rfl⟩ := hrel
    by_cases hlt : k < n
    · have hc : w.cell? ⟨b, o + k, none⟩ = some (.int .u8 (s[k]'(by omega)).toNat) := by
        rw [← sdata_at s k (by omega)]
        exact hcs k (by rw [Array.length_toList, show s.data.size = s.size from rfl]; omega)
      clear hcs
      have h1 : (k : Int) < (n : Int) := by omega
      have h2 : (k : Int) < (s.size : Int) := by omega
      have h3 : k < s.size := by omega
      go_wp2_with fail
      go_quiet (fail)
      go_wp2
      go_roundw
      case rel => exact ⟨k + 1, _, by omega, by go_num, rfl⟩
      case measure => simp [intOf]; omega
    · go_wp2
      go_ret
      exact ⟨rfl, q, rfl⟩

/-- equalBytesB1 at two slices that read alike. -/
theorem equal_zero (a a' : Option Addr) (c c' : Nat) (w : World) :
    Calls Tryd.prog 9 #[.slice a 0 c, .slice a' 0 c'] w fun e w' => e = .returned (.bool true) ∧ ∃ q, w' = w.drewN q := by
  go_enter Tryd.func9, Tryd.ntmps9
  go_wp2
  refine wp_loop_rounds 1 ?_
  rw [rounds_succ]
  go_wp2
  go_ret
  exact ⟨rfl, 0, rfl⟩
theorem equal_yes (b o b' o' n c c' : Nat) (l : List UInt8) (w : World) (hl : l.length = n) (hn : n ≤ 1000000000) (h1 : Cs w b o l) (h2 : Cs w b' o' l) :
    Calls Tryd.prog 9 #[.slice (some ⟨b, o, none⟩) n c, .slice (some ⟨b', o', none⟩) n c'] w fun e w' => e = .returned (.bool true) ∧ ∃ q, w' = w.drewN q := by
  go_enter Tryd.func9, Tryd.ntmps9
  go_wp2
  go_loopw [5] (fun i wr => ∃ k q : Nat, k ≤ n ∧ i = .int .i64 k ∧ wr = w.drewN q) (fun i _ => n - (intOf i).toNat)
  case atStart => exact ⟨0, 0, Nat.zero_le _, rfl, rfl⟩
  case round =>
    obtain ⟨k, q, hk, rfl, rfl⟩ := hrel
    by_cases hlt : k < n
    · have c1 := h1 k (by omega)
      have c2 := h2 k (by omega)
      clear h1 h2
      generalize (l.getD k 0).toNat = x at *
      have g1 : (k : Int) < (n : Int) := by omega
      go_wp2_with fail
      go_quiet (fail)
      go_wp2
      go_roundw
      case rel => exact ⟨k + 1, _, by omega, by go_num, rfl⟩
      case measure => simp [intOf]; omega
    · go_wp2
      go_ret
      exact ⟨rfl, q, rfl⟩
end Go.Proofs.Qxb6600045aDoor
