import Derived.Test.Qxb6003717aE5
namespace Go.Proofs.Qxb6003717a

theorem drop_at {α : Type} {l : List α} {k : Nat} {x : α} (h : l[k]? = some x) : l.drop k = x :: l.drop (k + 1) := by
  obtain ⟨hk, e⟩ := List.getElem?_eq_some_iff.1 h
  rw [List.drop_eq_getElem_cons hk, e]
theorem known_drop {ns : List (ByteArray × Nat)} {k : Nat} {s : ByteArray} {m : Nat} (h : ns[k]? = some (s, m)) : knownOf (ns.drop k) = List.replicate m s ++ knownOf (ns.drop (k + 1)) := by
  rw [drop_at h]; rfl
theorem unres_drop {ns : List (ByteArray × Nat)} {k : Nat} {s : ByteArray} {m : Nat} (h : ns[k]? = some (s, m)) : unresOf (ns.drop k) = (if m = 0 then [s] else []) ++ unresOf (ns.drop (k + 1)) := by
  rw [drop_at h]; rfl
theorem known_take {ns : List (ByteArray × Nat)} {k : Nat} {s : ByteArray} {m : Nat} (h : ns[k]? = some (s, m)) : (knownOf (ns.take (k + 1))).length = (knownOf (ns.take k)).length + m := by
  rw [List.take_add_one, h]
  show (knownOf (ns.take k ++ [(s, m)])).length = _
  rw [knownOf_snoc]; simp
theorem unres_take {ns : List (ByteArray × Nat)} {k : Nat} {s : ByteArray} {m : Nat} (h : ns[k]? = some (s, m)) : (unresOf (ns.take (k + 1))).length = (unresOf (ns.take k)).length + (if m = 0 then 1 else 0) := by
  rw [List.take_add_one, h]
  show (unresOf (ns.take k ++ [(s, m)])).length = _
  rw [unresOf_snoc]; split <;> simp
theorem known_end {ns : List (ByteArray × Nat)} {k : Nat} (h : ns.length ≤ k) : knownOf (ns.drop k) = [] := by rw [List.drop_eq_nil_of_le h]; rfl
theorem unres_end {ns : List (ByteArray × Nat)} {k : Nat} (h : ns.length ≤ k) : unresOf (ns.drop k) = [] := by rw [List.drop_eq_nil_of_le h]; rfl
theorem nsOf_at {sv : List (List ByteArray × Int)} {k : Nat} {ss : List ByteArray} {g : Nat} (h : sv[k]? = some (ss, (g : Int))) : (nsOf sv)[k]? = some (mkW ss, g) := by
  unfold nsOf; rw [List.getElem?_map, h]; rfl
theorem pop_rep (s : ByteArray) (m j : Nat) (hj : j < m) (l : List ByteArray) : List.replicate (m - j) s ++ l = s :: (List.replicate (m - (j + 1)) s ++ l) := by
  rw [show m - j = (m - (j + 1)) + 1 by omega, List.replicate_succ]; rfl
end Go.Proofs.Qxb6003717a
