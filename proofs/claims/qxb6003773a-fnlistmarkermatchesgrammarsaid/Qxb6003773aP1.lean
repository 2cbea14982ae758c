import Derived.Test.Qxb6003773aA6
namespace Go.Proofs.Qxb6003773a

def valF (s : Int) (xs : List Int) : Int := xs.foldl (fun s x => 10 * s + (x - 48)) s
theorem valF_ge (ds : List Int) (h : ds.all dig = true) (s : Int) (hs : 1 ≤ s) : s ≤ valF s ds ∧ (ds ≠ [] → 10 ≤ valF s ds) := by
  induction ds generalizing s with
  | nil => exact ⟨Int.le_refl _, fun h => absurd rfl h⟩
  | cons x ds ih =>
    rw [List.all_cons, Bool.and_eq_true] at h
    have hx : 48 ≤ x ∧ x ≤ 57 := by have := h.1; unfold dig at this; simpa using this
    have := (ih h.2 (10 * s + (x - 48)) (by omega)).1
    show s ≤ valF (10 * s + (x - 48)) ds ∧ (_ → 10 ≤ valF (10 * s + (x - 48)) ds)
    omega
/-- Digits spell 1 just where they are zeros and a last 1. -/
theorem sayOne_val (ds : List Int) (h : ds.all dig = true) : sayOne ds = decide (val ds = 1) := by
  induction ds with
  | nil => rfl
  | cons x ds ih =>
    rw [List.all_cons, Bool.and_eq_true] at h
    have hx : 48 ≤ x ∧ x ≤ 57 := by have := h.1; unfold dig at this; simpa using this
    by_cases h48 : x = 48
    · subst h48
      have e1 : sayOne (48 :: ds) = sayOne ds := rfl
      have e2 : val (48 :: ds) = val ds := rfl
      rw [e1, e2]
      exact ih h.2
    · have e2 : val (x :: ds) = valF (x - 48) ds := by
        show valF (10 * 0 + (x - 48)) ds = _
        congr 1; omega
      have hv := valF_ge ds h.2 (x - 48) (by omega)
      unfold sayOne
      rw [List.dropWhile_cons_of_neg (by simpa using h48), e2]
      by_cases hd : ds = []
      · subst hd
        show decide ([x] = [49]) = decide (x - 48 = 1)
        by_cases h49 : x = 49
        · subst h49; rfl
        · rw [decide_eq_false (show ¬ x - 48 = 1 by omega)]; simp [h49]
      · have := hv.2 hd
        rw [decide_eq_false (show ¬ valF (x - 48) ds = 1 by omega)]
        simp [hd]

theorem dot_not_dig {d : Int} (h : dot d = true) : dig d = false := by
  unfold dot at h
  simp at h
  rcases h with rfl | rfl <;> rfl
theorem bul_not_dig {d : Int} (h : bul d = true) : dig d = false := by
  unfold bul at h
  simp at h
  rcases h with (rfl | rfl) | rfl <;> rfl
theorem all_take_at {xs : List Int} {j i : Nat} {x : Int} (h : (xs.take j).all dig = true) (hi : i < j) (hx : xs[i]? = some x) : dig x = true := by
  rw [List.all_eq_true] at h
  refine h x ?_
  have : (xs.take j)[i]? = some x := by rw [List.getElem?_take, if_pos hi]; exact hx
  exact List.mem_of_getElem? this

/-- The grammar's length is listMarker's, and no other. -/
theorem LM_law {xs : List Int} {intr : Bool} {r : Nat} (hn : 0 < xs.length) (h : LM xs intr r) :
    r ≤ xs.length ∧ r ≤ 10 ∧ (∀ x0, xs[0]? = some x0 → mk1 xs x0 intr = decide (r = 1)) ∧ ∀ j d, 0 < j → j ≤ 9 → xs[j]? = some d → mkO xs j d intr = decide (r = j + 1) := by
  rcases h with ⟨x0, hx, hb, hr⟩ | ⟨x0, hx, hb, j0, hj9, hall, hstop, hrest⟩
  · have hr1 : r ≤ 1 := by rw [hr]; split <;> omega
    refine ⟨by omega, by omega, fun y hy => ?_, fun j d hj hj9 hd => ?_⟩
    · rw [hx] at hy
      cases hy
      unfold mk1
      rw [hb, hr]
      cases tl xs 1 intr true <;> rfl
    · rw [decide_eq_false (by omega)]
      have : (xs.take j).all dig = false := by
        cases hh : (xs.take j).all dig with
        | false => rfl
        | true =>
          have := all_take_at hh hj hx
          rw [bul_not_dig hb] at this
          cases this
      unfold mkO
      rw [this]
      simp
  · have other : ∀ j d, 0 < j → j ≤ 9 → xs[j]? = some d → dot d = true → (xs.take j).all dig = true → j ≠ j0 → False := by
      intro j d hj hjn hd hdot hdg hne
      have hjl : j < xs.length := (List.getElem?_eq_some_iff.1 hd).1
      rcases Nat.lt_or_gt_of_ne hne with hlt | hgt
      · have := all_take_at hall hlt hd
        rw [dot_not_dig hdot] at this
        cases this
      · rcases hstop with e | e | ⟨x, hx', hdx⟩
        · omega
        · omega
        · have := all_take_at hdg hgt hx'
          rw [hdx] at this
          cases this
    have mk1f : ∀ y, xs[0]? = some y → mk1 xs y intr = false := by
      intro y hy
      rw [hx] at hy
      cases hy
      unfold mk1
      rw [hb]
      rfl
    have mkOf : ∀ j d, 0 < j → j ≤ 9 → xs[j]? = some d → j ≠ j0 → mkO xs j d intr = false := by
      intro j d hj hjn hd hne
      unfold mkO
      cases h1 : dot d with
      | false => rfl
      | true =>
        cases h2 : (xs.take j).all dig with
        | false => rfl
        | true => exact (other j d hj hjn hd h1 h2 hne).elim
    rcases hrest with ⟨hno, hr⟩ | ⟨hj0, d0, hd0, hdot0, hr⟩
    · subst hr
      refine ⟨by omega, by omega, fun y hy => by rw [mk1f y hy]; rfl, fun j d hj hjn hd => ?_⟩
      rw [decide_eq_false (by omega)]
      by_cases hne : j = j0
      · subst hne
        have hjl : j < xs.length := (List.getElem?_eq_some_iff.1 hd).1
        rcases hno with e | e | ⟨d', hd', hdf⟩
        · omega
        · omega
        · rw [hd] at hd'
          cases hd'
          unfold mkO
          rw [hdf]
          rfl
      · exact mkOf j d hj hjn hd hne
    · have hjl : j0 < xs.length := (List.getElem?_eq_some_iff.1 hd0).1
      have hr1 : r = 0 ∨ r = j0 + 1 := by rw [hr]; split <;> omega
      refine ⟨by omega, by omega, fun y hy => by rw [mk1f y hy, decide_eq_false (by omega)], fun j d hj hjn hd => ?_⟩
      by_cases hne : j = j0
      · subst hne
        rw [hd] at hd0
        cases hd0
        unfold mkO
        rw [hdot0, hall, sayOne_val _ hall, hr]
        cases tl xs (j + 1) intr (decide (val (xs.take j) = 1)) <;> simp
      · rw [mkOf j d hj hjn hd hne, decide_eq_false (by omega)]
end Go.Proofs.Qxb6003773a
