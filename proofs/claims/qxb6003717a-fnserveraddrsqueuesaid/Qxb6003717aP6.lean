import Derived.Test.Qxb6003717aP5
namespace Go.Proofs.Qxb6003717a

/-- The law's own loop: do the first i labels of z agree with those of n's tail? -/
def upto (z n : List ByteArray) (i : Nat) : Bool := decide (z.length < n.length ∧ ((n.drop (n.length - z.length)).take i).map key = (z.take i).map key)

theorem upto_zero (z n : List ByteArray) : upto z n 0 = decide (z.length < n.length) := by simp [upto]
theorem upto_all (z n : List ByteArray) (i : Nat) (h : z.length ≤ i) (hl : z.length < n.length) : upto z n i = underB z n := by
  unfold upto underB
  rw [List.take_of_length_le h, List.take_of_length_le (by rw [List.length_drop]; omega)]
theorem upto_step {z n : List ByteArray} {i : Nat} {s t : ByteArray} (hs : z[i]? = some s) (ht : n[n.length - z.length + i]? = some t) (hu : upto z n i = true) : upto z n (i + 1) = decide (key s = key t) := by
  unfold upto at hu ⊢
  rw [decide_eq_true_eq] at hu
  have hd : (n.drop (n.length - z.length))[i]? = some t := by rw [List.getElem?_drop]; exact ht
  rw [take_succ_of hd, take_succ_of hs, List.map_append, List.map_append, hu.2]
  congr 1
  apply propext
  constructor
  · intro h
    have := List.append_cancel_left h.2
    simp at this
    exact this.symm
  · intro h
    exact ⟨hu.1, by simp [h]⟩
theorem upto_false {z n : List ByteArray} {i : Nat} (hu : upto z n i = false) : underB z n = false := by
  cases h : underB z n with
  | false => rfl
  | true =>
    unfold underB at h
    rw [decide_eq_true_eq] at h
    unfold upto at hu
    rw [decide_eq_false_iff_not] at hu
    exact absurd ⟨h.1, by rw [List.map_take, h.2, List.map_take]⟩ hu
theorem underB_lt {z n : List ByteArray} (h : underB z n = true) : z.length < n.length := by
  unfold underB at h
  rw [decide_eq_true_eq] at h
  exact h.1
theorem wantL_true {z n : List ByteArray} (h : underB z n = true) : wantL z n = n.drop (n.length - z.length - 1) := by unfold wantL; rw [if_pos h]
theorem wantL_false {z n : List ByteArray} (h : underB z n = false) : wantL z n = n := by unfold wantL; rw [if_neg (by rw [h]; decide)]
end Go.Proofs.Qxb6003717a
