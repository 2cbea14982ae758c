import Derived.Test.Qxb6003717aP3
namespace Go.Proofs.Qxb6003717a

/-- The wire form of labels, as a string. -/
def W (l : List ByteArray) : ByteArray := ⟨(wl l).toArray⟩
theorem W_data (l : List ByteArray) : (W l).data.toList = wl l := by simp [W]
theorem W_size (l : List ByteArray) : (W l).size = (wl l).length := by
  show (wl l).toArray.size = _
  simp
theorem mkW_eq_W {l : List ByteArray} (h : okN l = true) : mkW l = W l := mkW_ok h
theorem key_W (l : List ByteArray) : key (W l) = keyL (wl l) := by rw [key_eq_keyL, W_data]

theorem okN_cons {s : ByteArray} {r : List ByteArray} (h : okN (s :: r) = true) : okN r = true ∧ 0 < s.size ∧ s.size ≤ 63 := by
  simp only [okN, wl_cons, List.length_append, List.all_cons, Bool.and_eq_true, decide_eq_true_eq] at h ⊢
  exact ⟨⟨h.1.2, by omega⟩, h.1.1.1, h.1.1.2⟩

theorem lowN_small (n : Nat) (h : n ≤ 63) : lowN (((UInt8.ofNat n).toNat : Nat) : Int) = n := by
  have : (UInt8.ofNat n).toNat = n := by simp; omega
  rw [this]
  unfold lowN
  rw [if_neg (by omega)]

theorem keyL_lab (s : ByteArray) (h : s.size ≤ 63) : keyL (lab s) = (s.size : Int) :: key s := by
  show lowN (((UInt8.ofNat s.size).toNat : Nat) : Int) :: keyL s.data.toList = _
  rw [lowN_small _ h]
  rfl

/-- Two well-formed names fold to the same bytes just when they have the same labels, folded. -/
theorem keyL_wl_iff : ∀ (a b : List ByteArray), okN a = true → okN b = true → (keyL (wl a) = keyL (wl b) ↔ a.map key = b.map key)
  | [], [], _, _ => by simp
  | [], s :: r, _, hb => by
    have := (okN_cons hb).2
    rw [wl_cons, keyL_append, keyL_lab s this.2]
    simp [wl, keyL]
  | s :: r, [], ha, _ => by
    have := (okN_cons ha).2
    rw [wl_cons, keyL_append, keyL_lab s this.2]
    simp [wl, keyL]
  | s :: r, t :: u, ha, hb => by
    have h1 := okN_cons ha
    have h2 := okN_cons hb
    rw [wl_cons, wl_cons, keyL_append, keyL_append, keyL_lab s h1.2.2, keyL_lab t h2.2.2]
    have ih := keyL_wl_iff r u h1.1 h2.1
    constructor
    · intro h
      simp only [List.cons_append, List.cons.injEq] at h
      have hl : (key s).length = (key t).length := by rw [key_length, key_length]; omega
      obtain ⟨e1, e2⟩ := List.append_inj h.2 hl
      simp only [List.map_cons, List.cons.injEq]
      exact ⟨e1, ih.1 e2⟩
    · intro h
      simp only [List.map_cons, List.cons.injEq] at h
      have hl : s.size = t.size := by rw [← key_length, ← key_length, h.1]
      rw [h.1, ih.2 h.2, hl]

theorem key_W_iff {a b : List ByteArray} (ha : okN a = true) (hb : okN b = true) : key (W a) = key (W b) ↔ a.map key = b.map key := by
  rw [key_W, key_W]
  exact keyL_wl_iff a b ha hb

/-- childOf, on labels: the first suffix whose parent folds to z; else all of n. -/
def childL (z : ByteArray) (n : List ByteArray) : List ByteArray → List ByteArray
  | [] => n
  | s :: r => if key (W r) = key z then s :: r else childL z n r

theorem childL_suffix (z : ByteArray) (n : List ByteArray) : ∀ l : List ByteArray, okN n = true → okN l = true → okN (childL z n l) = true
  | [], hn, _ => hn
  | s :: r, hn, hl => by
    unfold childL
    split
    · exact hl
    · exact childL_suffix z n r hn (okN_cons hl).1

/-- Does n lie strictly under z? -/
def underB (z n : List ByteArray) : Bool := decide (z.length < n.length ∧ (n.drop (n.length - z.length)).map key = z.map key)

theorem childL_spec (z : List ByteArray) (hz : okN z = true) (n : List ByteArray) : ∀ l : List ByteArray, okN l = true →
    childL (W z) n l = if z.length < l.length ∧ (l.drop (l.length - z.length)).map key = z.map key then l.drop (l.length - z.length - 1) else n
  | [], _ => by simp [childL]
  | s :: r, hl => by
    have hr := (okN_cons hl).1
    unfold childL
    rw [childL_spec z hz n r hr]
    by_cases h : r.map key = z.map key
    · have hlen : r.length = z.length := by have := congrArg List.length h; simpa using this
      rw [if_pos ((key_W_iff hr hz).2 h), if_pos]
      · rw [List.length_cons, show r.length + 1 - z.length - 1 = 0 by omega]
        rfl
      · rw [List.length_cons, show r.length + 1 - z.length = 1 by omega]
        exact ⟨by omega, by simpa using h⟩
    · rw [if_neg (fun c => h ((key_W_iff hr hz).1 c))]
      by_cases h2 : z.length < r.length
      · have e1 : (s :: r).length - z.length = (r.length - z.length) + 1 := by rw [List.length_cons]; omega
        have e2 : (s :: r).length - z.length - 1 = (r.length - z.length - 1) + 1 := by rw [List.length_cons]; omega
        rw [e1, List.drop_succ_cons]
        by_cases h3 : (r.drop (r.length - z.length)).map key = z.map key
        · rw [if_pos ⟨h2, h3⟩, if_pos ⟨by simp; omega, h3⟩, show r.length - z.length + 1 - 1 = (r.length - z.length - 1) + 1 by omega, List.drop_succ_cons]
        · rw [if_neg (by intro c; exact h3 c.2), if_neg (by intro c; exact h3 c.2)]
      · rw [if_neg (by intro c; exact h2 c.1), if_neg]
        intro ⟨c1, c2⟩
        rw [List.length_cons] at c1
        have : r.length = z.length := by omega
        rw [List.length_cons, show r.length + 1 - z.length = 1 by omega] at c2
        exact h (by simpa using c2)

/-- What childOf gives for a well-formed zone. -/
def wantL (z n : List ByteArray) : List ByteArray := if underB z n = true then n.drop (n.length - z.length - 1) else n
theorem childL_want (z n : List ByteArray) (hz : okN z = true) (hn : okN n = true) : childL (W z) n n = wantL z n := by
  rw [childL_spec z hz n n hn]
  unfold wantL underB
  simp only [decide_eq_true_eq]
theorem okN_wantL {z n : List ByteArray} (hn : okN n = true) : okN (wantL z n) = true := by
  unfold wantL
  split
  · have := hn
    rw [← List.take_append_drop (n.length - z.length - 1) n] at this
    exact okN_append_right this
  · exact hn
theorem childL_again (z n : List ByteArray) (hz : okN z = true) (hn : okN n = true) : childL (W z) (wantL z n) (wantL z n) = wantL z n := by
  rw [childL_want z _ hz (okN_wantL hn)]
  by_cases h : underB z n = true
  · have e : wantL z n = n.drop (n.length - z.length - 1) := by unfold wantL; rw [if_pos h]
    unfold underB at h
    rw [decide_eq_true_eq] at h
    rw [e]
    unfold wantL
    have hl : (n.drop (n.length - z.length - 1)).length = z.length + 1 := by rw [List.length_drop]; omega
    split
    · rw [hl, show z.length + 1 - z.length - 1 = 0 by omega]
      rfl
    · rfl
  · have e : wantL z n = n := by unfold wantL; rw [if_neg h]
    rw [e, e]

end Go.Proofs.Qxb6003717a
