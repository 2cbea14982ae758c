import Derived.Test.Qxb6003724aB1
namespace Go.Proofs.Qxb6003724a
open Go.RowKit

/-- The sum as int64 keeps it, and the greatest, of a list, from a start on. -/
def sumW (s : Int) (xs : List Int) : Int := xs.foldl (fun a d => wrap64 (a + d)) s
def maxF (m : Int) (xs : List Int) : Int := xs.foldl mx m

theorem sumW_snoc (s : Int) (xs : List Int) (d : Int) : sumW s (xs ++ [d]) = wrap64 (sumW s xs + d) := by simp [sumW]
theorem maxF_snoc (m : Int) (xs : List Int) (d : Int) : maxF m (xs ++ [d]) = mx (maxF m xs) d := by simp [maxF]

theorem wrap_wrap (a b : Int) : wrap64 (wrap64 a + b) = wrap64 (a + b) := by unfold wrap64; omega
theorem wrap_comm (a b : Int) : wrap64 (a + b) = wrap64 (b + a) := by rw [Int.add_comm]
theorem sumW_wrap (s : Int) (ys : List Int) : wrap64 (s + sumW 0 ys) = wrap64 (sumW s ys) := by
  have gen : ∀ (ys : List Int) (s t : Int), wrap64 (s + sumW t ys) = wrap64 (sumW (s + t) ys) := by
    intro ys
    induction ys with
    | nil => intro s t; rfl
    | cons y ys ih =>
      intro s t
      show wrap64 (s + sumW (wrap64 (t + y)) ys) = wrap64 (sumW (wrap64 (s + t + y)) ys)
      rw [ih]
      have : ∀ (ys : List Int) (a b : Int), wrap64 a = wrap64 b → wrap64 (sumW a ys) = wrap64 (sumW b ys) := by
        intro ys
        induction ys with
        | nil => intro a b h; exact h
        | cons z zs ih2 =>
          intro a b h
          show wrap64 (sumW (wrap64 (a + z)) zs) = wrap64 (sumW (wrap64 (b + z)) zs)
          apply ih2
          rw [← wrap_wrap a z, ← wrap_wrap b z, h]
      apply this
      unfold wrap64
      omega
  have := gen ys s 0
  rw [Int.add_zero] at this
  exact this
theorem sumW_in (s : Int) (ys : List Int) (hs : wrap64 s = s) : wrap64 (sumW s ys) = sumW s ys := by
  induction ys generalizing s with
  | nil => exact hs
  | cons y ys ih =>
    show wrap64 (sumW (wrap64 (s + y)) ys) = _
    exact ih _ (by unfold wrap64; omega)
/-- To add on is to merge. -/
theorem sumW_merge (xs ys : List Int) : sumW (sumW 0 xs) ys = wrap64 (sumW 0 xs + sumW 0 ys) := by
  rw [sumW_wrap, sumW_in _ _ (sumW_in 0 xs (by unfold wrap64; omega))]

theorem mx_comm (a b : Int) : mx a b = mx b a := by unfold mx; split <;> split <;> omega
theorem maxF_ge (m : Int) (ys : List Int) : m ≤ maxF m ys := by
  induction ys generalizing m with
  | nil => exact Int.le_refl _
  | cons y ys ih =>
    have h1 := ih (mx m y)
    have h2 : m ≤ mx m y := by unfold mx; split <;> omega
    exact Int.le_trans h2 h1
theorem maxF_mx (m t : Int) (ys : List Int) : maxF (mx m t) ys = mx m (maxF t ys) := by
  induction ys generalizing t with
  | nil => rfl
  | cons y ys ih =>
    show maxF (mx (mx m t) y) ys = mx m (maxF (mx t y) ys)
    rw [← ih]
    congr 1
    unfold mx
    by_cases h1 : t > m <;> by_cases h2 : y > t <;> by_cases h3 : y > m <;> simp [h1, h2, h3] <;> omega
theorem maxF_merge (xs ys : List Int) : maxF (maxF 0 xs) ys = mx (maxF 0 xs) (maxF 0 ys) := by
  rw [← maxF_mx]
  congr 1
  have := maxF_ge 0 xs
  unfold mx
  split <;> omega
end Go.Proofs.Qxb6003724a
