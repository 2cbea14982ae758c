import Derived.Test.Qxb6003717aP3
namespace Go.Proofs.Qxb6003717a

/-- How many of the keys of K lie among its first k. -/
def part (K : List (List Int)) (k : Nat) : Nat := K.countP fun y => decide (y ∈ K.take k)

theorem part_zero (K : List (List Int)) : part K 0 = 0 := by simp [part]
theorem part_le (K : List (List Int)) (k : Nat) : part K k ≤ K.length := List.countP_le_length
theorem part_all (K : List (List Int)) (k : Nat) (h : K.length ≤ k) : part K k = K.length := by
  rw [part, List.take_of_length_le h, List.countP_eq_length]
  intro y hy
  simpa using hy

theorem countP_or {α : Type} (p q : α → Bool) (l : List α) (h : ∀ x ∈ l, ¬ (p x = true ∧ q x = true)) : l.countP (fun x => p x || q x) = l.countP p + l.countP q := by
  induction l with
  | nil => rfl
  | cons x l ih =>
    have h1 := h x (by simp)
    have h2 := ih (fun y hy => h y (by simp [hy]))
    simp only [List.countP_cons, h2]
    cases hp : p x <;> cases hq : q x <;> simp_all <;> omega

theorem part_new {K : List (List Int)} {k : Nat} {x : List Int} (hx : K[k]? = some x) (hn : x ∉ K.take k) : part K (k + 1) = part K k + K.countP fun y => decide (y = x) := by
  unfold part
  rw [← countP_or]
  · congr 1
    funext y
    rw [List.take_add_one, hx]
    simp
  · intro y _ ⟨h1, h2⟩
    simp at h1 h2
    subst h2
    exact hn h1
theorem part_old {K : List (List Int)} {k : Nat} {x : List Int} (hx : K[k]? = some x) (hn : x ∈ K.take k) : part K (k + 1) = part K k := by
  unfold part
  congr 1
  funext y
  rw [List.take_add_one, hx]
  simp
  rintro rfl
  exact hn

theorem mem_take_succ {K : List (List Int)} {k : Nat} {x : List Int} (hx : K[k]? = some x) (y : List Int) : y ∈ K.take (k + 1) ↔ y ∈ K.take k ∨ x = y := by
  rw [List.take_add_one, hx]
  simp [eq_comm]

end Go.Proofs.Qxb6003717a
