/-
  SEAT b6600119a: append whose two arguments have two slice types over one element; append of 'make'.
-/
import Derived.Test.Qxb6600119aRow
namespace Go.Proofs.Qxb6600119a
open Go.RowKit
section
variable {P : Program}
theorem append_types (w : World) (t u ty e e' : TypeId) (i : TypeInfo) (b : Option Addr) (n c : Nat) (x : Value) (ht : P.underlying t = some (.slice e)) (hu : P.underlying u = some (.slice e')) (hi : P.info? e = some i) :
    (Builtin.append_ #[t, u] ty #[.slice b n c, x]).run P w = (Builtin.append_ #[t, t] ty #[.slice b n c, x]).run P w := by
  simp [Builtin.append_, run_underlying ht, run_underlying hu, sizeOf, typeInfo, hi]
theorem own_form {w : World} {base : Nat} {e : TypeId} {size : Nat} {v : Value} {n : Nat} {xs : List Value} (h : w.ownsRow base e size v n xs) : ∃ b c, v = .slice b n c := by
  rcases h.2 with ⟨rfl, rfl⟩ | ⟨g, cap, cur, rfl, _⟩
  · exact ⟨_, _, rfl⟩
  · exact ⟨_, _, rfl⟩

theorem wpList_append_own_u {w : World} {ops : Array Oper} {rest : List Oper} {o : Oper} {a : Act} {Q : Exit → Act → World → Prop} (hgd : o.guard = none) (s x : Operand) (t u e' : TypeId)
    (ho : o.op = .call { callee := .builtin .append, args := #[s, x], argTypes := #[t, u] }) (hu : P.underlying u = some (.slice e'))
    (base : Nat) (e : TypeId) (i : TypeInfo) (z : Value) (size bytes : Nat) (ht : P.underlying t = some (.slice e)) (hi : P.info? e = some i) (hz : i.zero = some z)
    (hsize : i.size = size) (hby : i.bytes = bytes) (hzs : z.cells.size = size) (hsz : 0 < size)
    (v : Value) (n : Nat) (xs : List Value) (hs : a.eval s = v) (hown : w.ownsRow base e size v n xs)
    (ad : Addr) (m c : Nat) (news : List Value) (hx : a.eval x = .slice (some ad) m c) (hl : news.length = m * size) (hnews : ∀ j u, news[j]? = some u → w.cell? (ad.add j) = some u) (h1 : ∀ u ∈ news, u.oneCell' = true)
    (h63 : n + m ≤ maxLen) (hbytes : (n + m) * bytes ≤ 140737488355328) (hbase : base ≤ w.heap.size)
    (h : ∀ v' w', w'.ownsRow base e size v' (n + m) (xs ++ news) → w.grownBy w' v.ownBlock → wpList P ops Q rest (a.put o.dst v') w') : wpList P ops Q (o :: rest) a w := by
  refine wpList_plain hgd fun K hK => ?_
  obtain ⟨v', w', hr, h2, h3, h4⟩ := run_append_own (P := P) w base t o.type e i z size bytes ht hi hz hsize hby hzs hsz v n xs hown ad m c news hl hnews h1 h63 hbytes hbase
  obtain ⟨b0, c0, rfl⟩ := own_form hown
  rw [← append_types w t u o.type e e' i _ _ _ _ ht hu hi] at hr
  unfold Oper.wp execOp
  simp only [ho, resolve, invoke, builtin, Sem.run_bind, Sem.run_pure, Result.andThen_ok, List.map_toArray, List.map_cons, List.map_nil, hs, hx, hr]
  exact hK _ _ (h v' w' h2 h3)

/-- 'append(s[:i], make(S, k)...)' where there is no room: a new row: the first i elements, zeros, more zeros. -/
theorem wpList_append_make {w : World} {ops : Array Oper} {rest : List Oper} {o : Oper} {a : Act} {Q : Exit → Act → World → Prop} (hgd : o.guard = none) (s x : Operand) (t tn e : TypeId)
    (ho : o.op = .call { callee := .builtin .append, args := #[s, x], argTypes := #[t, tn] }) (kn : IntKind) (htn : P.underlying tn = some (.int kn))
    (i : TypeInfo) (z : Value) (size : Nat) (ht : P.underlying t = some (.slice e)) (hi : P.info? e = some i) (hz : i.zero = some z) (hsize : i.size = size) (hzs : z.cells.size = size) (hsz : 0 < size)
    (ad : Addr) (n cap : Nat) (olds : List Value) (hs : a.eval s = .slice (some ad) n cap) (hol : olds.length = n * size) (holds : ∀ j u, olds[j]? = some u → w.cell? (ad.add j) = some u)
    (kq : IntKind) (k : Nat) (X : Int) (hx : a.eval x = .int kq X) (hX : X = (k : Int)) (h0 : 0 < k) (hg : cap < n + k) (hnc : n ≤ cap) (hbytes : (n + k) * i.bytes ≤ 140737488355328) (h63 : n + k ≤ maxLen)
    (h : ∀ w' cap' zs, zs.length = (cap' - n) * size → n + k ≤ cap' → cap' ≤ maxLen → Hid (w'.heap[w.heap.size]? = some (.cells (olds ++ zs).toArray e (0, 0))) → w.grownBy w' none → w'.heap.size = w.heap.size + 1 →
      wpList P ops Q rest (a.put o.dst (.slice (some ⟨w.heap.size, 0, none⟩) (n + k) cap')) w') : wpList P ops Q (o :: rest) a w := by
  subst hsize
  subst hX
  refine wpList_plain hgd fun K hK => ?_
  have hold : (Builtin.firstCells i.size n (.slice (some ad) n cap)).run P w.drew = .ok olds.toArray w.drew := run_firstCells_some w.drew i.size n ad n cap olds hol (by simpa using holds)
  have h63' : n + k ≤ 9223372036854775807 := by simp only [maxLen] at h63; omega
  have hr := Lib.run_append_grow_zeros (P := P) w t tn o.type e i z kq kn ht htn hi hz (some ad) n cap olds hold k h0 hsz hg (by omega) (by rw [Nat.add_mul] at hbytes; omega) (growslice_fits (by omega) hbytes)
  unfold Oper.wp execOp
  simp only [ho, resolve, invoke, builtin, Sem.run_bind, Sem.run_pure, Result.andThen_ok, List.map_toArray, List.map_cons, List.map_nil, hs, hx, hr]
  have hge := grownCap_ge w (n + k) cap e
  refine hK _ _ (h _ (grownCap w (n + k) cap e) ((Builtin.zeroCells z.cells k).toList ++ (Builtin.zeroCells z.cells (grownCap w (n + k) cap e - (n + k))).toList) ?_ hge (grownCap_le_maxLen w (n + k) cap e h63) ?_ ⟨rfl, rfl, rfl, by simp, fun j hj _ => Below.heap_alloc w.drew _ j hj⟩ (by simp))
  · rw [List.length_append, size_zeroCells2, size_zeroCells2, hzs, ← Nat.add_mul]
    congr 1
    omega
  · show _ = _
    refine (heap_alloc_new w.drew _).trans ?_
    congr 3
    simp
end
end Go.Proofs.Qxb6600119a
