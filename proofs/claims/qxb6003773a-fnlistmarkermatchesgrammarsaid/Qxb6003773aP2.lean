import Derived.Test.Qxb6003773aP1
namespace Go.Proofs.Qxb6003773a

theorem digits_stop (xs : List Int) : ∀ f j, j + f = 9 → j ≤ xs.length → (xs.take j).all dig = true → ∃ j', j' ≤ 9 ∧ j' ≤ xs.length ∧ (xs.take j').all dig = true ∧ StopAt xs j'
  | 0, j, h, hl, hd => ⟨j, by omega, hl, hd, .inr (.inl (by omega))⟩
  | f + 1, j, h, hl, hd => by
    by_cases hj : j = xs.length
    · exact ⟨j, by omega, hl, hd, .inl hj⟩
    · have hx : xs[j]? = some (xs[j]'(by omega)) := List.getElem?_eq_getElem _
      cases hdg : dig (xs[j]'(by omega)) with
      | false => exact ⟨j, by omega, hl, hd, .inr (.inr ⟨_, hx, hdg⟩)⟩
      | true => exact digits_stop xs f (j + 1) (by omega) (by omega) (by rw [take_all hx, hd, hdg]; rfl)

/-- listMarker has an answer .. -/
theorem LM_exists (xs : List Int) (intr : Bool) (hn : 0 < xs.length) : ∃ r, LM xs intr r := by
  have hx : xs[0]? = some (xs[0]'hn) := List.getElem?_eq_getElem _
  cases hb : bul (xs[0]'hn) with
  | true => exact ⟨_, .inl ⟨_, hx, hb, rfl⟩⟩
  | false =>
    obtain ⟨j, h9, hl, hd, hs⟩ := digits_stop xs 9 0 (by omega) (by omega) rfl
    by_cases h0 : j = 0 ∨ j = xs.length
    · exact ⟨0, .inr ⟨_, hx, hb, j, h9, hd, hs, .inl ⟨by rcases h0 with h | h; exact .inl h; exact .inr (.inl h), rfl⟩⟩⟩
    · have hj : xs[j]? = some (xs[j]'(by omega)) := List.getElem?_eq_getElem _
      cases hdt : dot (xs[j]'(by omega)) with
      | false => exact ⟨0, .inr ⟨_, hx, hb, j, h9, hd, hs, .inl ⟨.inr (.inr ⟨_, hj, hdt⟩), rfl⟩⟩⟩
      | true => exact ⟨_, .inr ⟨_, hx, hb, j, h9, hd, hs, .inr ⟨by omega, _, hj, hdt, rfl⟩⟩⟩
/-- .. and but one. -/
theorem LM_half {xs : List Int} {intr : Bool} {r r' : Nat} (hn : 0 < xs.length) (h : LM xs intr r) (h' : LM xs intr r') (h0 : r ≠ 0) : r' = r := by
  obtain ⟨a1, a2, a3, a4⟩ := LM_law hn h
  obtain ⟨_, _, b3, b4⟩ := LM_law hn h'
  by_cases h1 : r = 1
  · have hx : xs[0]? = some (xs[0]'hn) := List.getElem?_eq_getElem _
    have := (a3 _ hx).symm.trans (b3 _ hx)
    rw [decide_eq_true h1] at this
    have := of_decide_eq_true this.symm
    omega
  · obtain ⟨j, rfl⟩ : ∃ j, r = j + 1 := ⟨r - 1, by omega⟩
    have hj : xs[j]? = some (xs[j]'(by omega)) := List.getElem?_eq_getElem _
    have := (a4 j _ (by omega) (by omega) hj).symm.trans (b4 j _ (by omega) (by omega) hj)
    rw [decide_eq_true rfl] at this
    have := of_decide_eq_true this.symm
    omega
theorem LM_unique {xs : List Int} {intr : Bool} {r r' : Nat} (hn : 0 < xs.length) (h : LM xs intr r) (h' : LM xs intr r') : r' = r := by
  by_cases h0 : r = 0
  · by_cases h0' : r' = 0
    · omega
    · exact (LM_half hn h' h h0').symm
  · exact LM_half hn h h' h0

/-- The length that the law's loop has found among those below k. -/
def found (r k : Nat) : Nat := if r < k then r else 0
theorem found_hit {r j : Nat} (h : r = j + 1) : found r (j + 1) = 0 ∧ found r (j + 1 + 1) = j + 1 := by unfold found; subst h; simp
theorem found_miss {r j : Nat} (h : r ≠ j + 1) : found r (j + 1 + 1) = found r (j + 1) := by unfold found; split <;> split <;> omega
theorem found_all {r j : Nat} (h : r ≤ j) : found r (j + 1) = r := by unfold found; rw [if_pos (by omega)]
end Go.Proofs.Qxb6003773a
