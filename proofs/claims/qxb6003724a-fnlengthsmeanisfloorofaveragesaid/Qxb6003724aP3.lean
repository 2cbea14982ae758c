import Derived.Test.Qxb6003724aP2
namespace Go.Proofs.Qxb6003724a
open Go.RowKit

def mn (x y : Int) : Int := if y < x then y else x
def sumL (s : Int) (xs : List Int) : Int := xs.foldl (· + ·) s
def minF (m : Int) (xs : List Int) : Int := xs.foldl mn m
/-- Every number lies from 0 to 2^40. -/
def Tame (xs : List Int) : Prop := ∀ x ∈ xs, 0 ≤ x ∧ x ≤ 1099511627776

theorem sumL_snoc (s : Int) (xs : List Int) (d : Int) : sumL s (xs ++ [d]) = sumL s xs + d := by simp [sumL]
theorem minF_snoc (s : Int) (xs : List Int) (d : Int) : minF s (xs ++ [d]) = mn (minF s xs) d := by simp [minF]
theorem sumL_start (s : Int) (xs : List Int) : sumL s xs = s + sumL 0 xs := by
  induction xs generalizing s with
  | nil => simp [sumL]
  | cons x xs ih =>
    show sumL (s + x) xs = s + sumL (0 + x) xs
    rw [ih (s + x), ih (0 + x)]; omega
theorem sumL_cons (x : Int) (xs : List Int) : sumL 0 (x :: xs) = x + sumL 0 xs := by
  show sumL (0 + x) xs = _
  rw [sumL_start]; omega
theorem sumW_plain (xs : List Int) (h : Tame xs) (s : Int) (hs : 0 ≤ s) (hb : s + xs.length * 1099511627776 ≤ 4611686018427387904) : sumW s xs = sumL s xs := by
  induction xs generalizing s with
  | nil => rfl
  | cons x xs ih =>
    have hx := h x (by simp)
    have e : wrap64 (s + x) = s + x := by
      simp only [List.length_cons] at hb
      unfold wrap64
      omega
    show sumW (wrap64 (s + x)) xs = sumL (s + x) xs
    rw [e]
    refine ih (fun y hy => h y (by simp [hy])) _ (by omega) ?_
    simp only [List.length_cons] at hb
    omega
theorem sumL_le (xs : List Int) (c : Int) (h : ∀ x ∈ xs, x ≤ c) : sumL 0 xs ≤ c * xs.length := by
  induction xs with
  | nil => simp [sumL]
  | cons x xs ih =>
    have h1 := ih (fun y hy => h y (by simp [hy]))
    have h2 := h x (by simp)
    rw [sumL_cons, List.length_cons]
    have : c * ((xs.length + 1 : Nat) : Int) = c * xs.length + c := by rw [Int.natCast_add, Int.mul_add]; simp
    omega
theorem le_sumL (xs : List Int) (c : Int) (h : ∀ x ∈ xs, c ≤ x) : c * xs.length ≤ sumL 0 xs := by
  induction xs with
  | nil => simp [sumL]
  | cons x xs ih =>
    have h1 := ih (fun y hy => h y (by simp [hy]))
    have h2 := h x (by simp)
    rw [sumL_cons, List.length_cons]
    have : c * ((xs.length + 1 : Nat) : Int) = c * xs.length + c := by rw [Int.natCast_add, Int.mul_add]; simp
    omega
theorem minF_le (m : Int) (xs : List Int) : minF m xs ≤ m ∧ ∀ x ∈ xs, minF m xs ≤ x := by
  induction xs generalizing m with
  | nil => exact ⟨Int.le_refl _, by simp⟩
  | cons y xs ih =>
    have h := ih (mn m y)
    have h2 : mn m y ≤ m ∧ mn m y ≤ y := by unfold mn; split <;> omega
    refine ⟨Int.le_trans h.1 h2.1, fun x hx => ?_⟩
    rcases List.mem_cons.1 hx with rfl | hx
    · exact Int.le_trans h.1 h2.2
    · exact h.2 x hx
theorem le_maxF (m : Int) (xs : List Int) : ∀ x ∈ xs, x ≤ maxF m xs := by
  induction xs generalizing m with
  | nil => simp
  | cons y xs ih =>
    intro x hx
    rcases List.mem_cons.1 hx with rfl | hx
    · have h1 := maxF_ge (mx m x) xs
      have h2 : x ≤ mx m x := by unfold mx; split <;> omega
      exact Int.le_trans h2 h1
    · exact ih (mx m y) x hx
theorem maxF_first (x : Int) (xs : List Int) (h : 0 ≤ x) : maxF 0 (x :: xs) = maxF x (x :: xs) := by
  show maxF (mx 0 x) xs = maxF (mx x x) xs
  congr 1
  unfold mx
  split <;> split <;> omega

/-- What the mean is. -/
theorem mean_law (xs : List Int) (x0 : Int) (h : Tame xs) (hx : xs[0]? = some x0) :
    (sumL 0 xs / (xs.length : Int)) * xs.length ≤ sumL 0 xs ∧ sumL 0 xs < (sumL 0 xs / (xs.length : Int) + 1) * xs.length ∧ minF x0 xs ≤ sumL 0 xs / (xs.length : Int) ∧ sumL 0 xs / (xs.length : Int) ≤ maxF x0 xs ∧ maxF 0 xs = maxF x0 xs ∧ 0 ≤ sumL 0 xs / (xs.length : Int) ∧ sumL 0 xs / (xs.length : Int) ≤ 1099511627776 := by
  have hl : 0 < xs.length := (List.getElem?_eq_some_iff.1 hx).1
  have hl' : (0 : Int) < (xs.length : Int) := by omega
  have g0 := le_sumL xs 0 (fun x hx => (h x hx).1)
  have g1 := sumL_le xs 1099511627776 (fun x hx => (h x hx).2)
  have g2 := le_sumL xs (minF x0 xs) (minF_le x0 xs).2
  have g3 := sumL_le xs (maxF x0 xs) (le_maxF x0 xs)
  refine ⟨Int.ediv_mul_le _ (by omega), Int.lt_ediv_add_one_mul_self _ hl', (Int.le_ediv_iff_mul_le hl').2 g2, ?_, ?_, (Int.le_ediv_iff_mul_le hl').2 (by omega), ?_⟩
  · have := Int.ediv_le_ediv hl' g3
    rw [Int.mul_ediv_cancel _ (by omega)] at this
    exact this
  · cases xs with
    | nil => simp at hx
    | cons y ys =>
      simp at hx
      subst hx
      exact maxF_first y ys (h y (by simp)).1
  · have := Int.ediv_le_ediv hl' g1
    rw [Int.mul_ediv_cancel _ (by omega)] at this
    exact this
end Go.Proofs.Qxb6003724a
