import Derived.Test.Qxb6003717aP1
namespace Go.Proofs.Qxb6003717a

/-- One label in wire form. -/
def lab (s : ByteArray) : List UInt8 := UInt8.ofNat s.size :: s.data.toList
/-- The wire form of labels. -/
def wl (ss : List ByteArray) : List UInt8 := ss.flatMap lab
/-- Is the name of these labels well formed? -/
def okN (ss : List ByteArray) : Bool := ss.all (fun s => decide (0 < s.size ∧ s.size ≤ 63)) && decide ((wl ss).length ≤ 254)
/-- The wire form that zzMkName hands back. -/
def mkW (ss : List ByteArray) : ByteArray := if okN ss then ⟨(wl ss).toArray⟩ else ⟨#[]⟩

theorem lab_length (s : ByteArray) : (lab s).length = 1 + s.size := by
  have : s.data.toList.length = s.size := by simp
  simp only [lab, List.length_cons, this]
  omega

theorem wl_nil : wl [] = [] := rfl
theorem wl_append (l r : List ByteArray) : wl (l ++ r) = wl l ++ wl r := by simp [wl]
theorem wl_snoc (l : List ByteArray) (s : ByteArray) : wl (l ++ [s]) = wl l ++ lab s := by simp [wl]
theorem wl_cons (s : ByteArray) (l : List ByteArray) : wl (s :: l) = lab s ++ wl l := by simp [wl]

theorem okN_nil : okN [] = true := by simp [okN, wl]
theorem okN_snoc (l : List ByteArray) (s : ByteArray) : okN (l ++ [s]) = true ↔ okN l = true ∧ 0 < s.size ∧ s.size ≤ 63 ∧ (wl l).length + 1 + s.size ≤ 254 := by
  simp only [okN, wl_snoc, List.length_append, lab_length, List.all_append, List.all_cons, List.all_nil, Bool.and_true, Bool.and_eq_true, decide_eq_true_eq]
  constructor
  · rintro ⟨⟨h1, h2⟩, h3⟩
    exact ⟨⟨h1, by omega⟩, h2.1, h2.2, by omega⟩
  · rintro ⟨⟨h1, h2⟩, h3, h4, h5⟩
    exact ⟨⟨h1, h3, h4⟩, by omega⟩

theorem okN_append_left {l r : List ByteArray} (h : okN (l ++ r) = true) : okN l = true := by
  simp only [okN, wl_append, List.length_append, List.all_append, Bool.and_eq_true, decide_eq_true_eq] at h ⊢
  exact ⟨h.1.1, by omega⟩
theorem okN_append_right {l r : List ByteArray} (h : okN (l ++ r) = true) : okN r = true := by
  simp only [okN, wl_append, List.length_append, List.all_append, Bool.and_eq_true, decide_eq_true_eq] at h ⊢
  exact ⟨h.1.2, by omega⟩

theorem take_succ_of {ss : List ByteArray} {k : Nat} {s : ByteArray} (h : ss[k]? = some s) : ss.take (k + 1) = ss.take k ++ [s] := by
  rw [List.take_add_one, h]; rfl

/-- One more label fits. -/
theorem okN_next {ss : List ByteArray} {k : Nat} {s : ByteArray} (h : ss[k]? = some s) (hk : okN (ss.take k) = true) (h0 : 0 < s.size) (h1 : s.size ≤ 63) (h2 : (wl (ss.take k)).length + 1 + s.size + 1 ≤ 255) :
    okN (ss.take (k + 1)) = true := by
  rw [take_succ_of h, okN_snoc]
  exact ⟨hk, h0, h1, by omega⟩

/-- One that does not. -/
theorem okN_bad {ss : List ByteArray} {k : Nat} {s : ByteArray} (h : ss[k]? = some s) (hb : s.size = 0 ∨ 63 < s.size ∨ 255 < (wl (ss.take k)).length + 1 + s.size + 1) : okN ss = false := by
  cases hc : okN ss with
  | false => rfl
  | true =>
    have : okN (ss.take (k + 1)) = true := by
      rw [← List.take_append_drop (k + 1) ss] at hc
      exact okN_append_left hc
    rw [take_succ_of h, okN_snoc] at this
    omega

theorem wl_next {ss : List ByteArray} {k : Nat} {s : ByteArray} (h : ss[k]? = some s) : wl (ss.take (k + 1)) = wl (ss.take k) ++ lab s := by
  rw [take_succ_of h, wl_snoc]

theorem mkW_ok {ss : List ByteArray} (h : okN ss = true) : mkW ss = ⟨(wl ss).toArray⟩ := by simp [mkW, h]
theorem mkW_bad {ss : List ByteArray} (h : okN ss = false) : mkW ss = ⟨#[]⟩ := by simp [mkW, h]

theorem mkW_data {ss : List ByteArray} (h : okN ss = true) : (mkW ss).data.toList = wl ss := by simp [mkW, h]

theorem okN_len {ss : List ByteArray} (h : okN ss = true) : (wl ss).length ≤ 254 := by
  simp only [okN, Bool.and_eq_true, decide_eq_true_eq] at h
  exact h.2

theorem mkW_size_le (ss : List ByteArray) : (mkW ss).size ≤ 254 := by
  cases h : okN ss with
  | true =>
    have := okN_len h
    rw [mkW_ok h]
    show (wl ss).toArray.size ≤ 254
    simpa using this
  | false => rw [mkW_bad h]; decide

end Go.Proofs.Qxb6003717a
