/-
  SEAT b6600119a: what is known of a script's numbers.
-/
import Derived.Test.Qxb6600119aTile
import Derived.Test.Qxb6600119aLaw
namespace Go.Proofs.Qxb6600119a
theorem wf_u32 {n : Int} (h : (Lit.int .u32 n).wf = true) : 0 ≤ n ∧ n < 4294967296 := by
  simp [Lit.wf] at h
  have h0 : IntKind.u32.min = 0 := rfl
  have h1 : IntKind.u32.max = 4294967295 := rfl
  omega
theorem pairs_nn : ∀ (xs : List Int), (∀ n ∈ xs, 0 ≤ n) → ∀ p ∈ pairsOf xs, 0 ≤ p.1
  | [], _ => fun p hp => by simp [pairsOf] at hp
  | [_], _ => fun p hp => by simp [pairsOf] at hp
  | a :: b :: r, h => fun p hp => by
    simp only [pairsOf] at hp
    rcases List.mem_cons.1 hp with rfl | hp
    · exact h a (by simp)
    · exact pairs_nn r (fun n hn => h n (by simp [hn])) p hp
theorem build_can (xs : List Int) (h : ∀ n ∈ xs, 0 ≤ n) : canF 0 (buildL (pairsOf xs) []) := (buildL_spec (pairsOf xs) [] trivial (pairs_nn xs h)).1
end Go.Proofs.Qxb6600119a
