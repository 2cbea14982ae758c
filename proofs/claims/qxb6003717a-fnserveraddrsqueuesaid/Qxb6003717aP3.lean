import Derived.Test.Qxb6003717aP2
namespace Go.Proofs.Qxb6003717a

def lowB (c : UInt8) : UInt8 := if 65 ≤ c ∧ c ≤ 90 then c + 32 else c
def upB (c : UInt8) : UInt8 := if 97 ≤ c ∧ c ≤ 122 then c - 32 else c
def upN (c : Int) : Int := if 97 ≤ c ∧ c ≤ 122 then c - 32 else c

theorem lowB_toNat (c : UInt8) : ((lowB c).toNat : Int) = lowN (c.toNat : Int) := by
  have := c.toNat_lt
  unfold lowB lowN
  by_cases h : 65 ≤ c ∧ c ≤ 90
  · rw [if_pos h]
    simp only [UInt8.le_iff_toNat_le] at h
    have h1 : UInt8.toNat 65 = 65 := rfl
    have h2 : UInt8.toNat 90 = 90 := rfl
    have h3 : UInt8.toNat 32 = 32 := rfl
    rw [h1, h2] at h
    rw [if_pos (by omega), UInt8.toNat_add, h3]
    omega
  · rw [if_neg h]
    simp only [UInt8.le_iff_toNat_le] at h
    have h1 : UInt8.toNat 65 = 65 := rfl
    have h2 : UInt8.toNat 90 = 90 := rfl
    rw [h1, h2] at h
    rw [if_neg (by omega)]

theorem upB_toNat (c : UInt8) : ((upB c).toNat : Int) = upN (c.toNat : Int) := by
  have := c.toNat_lt
  unfold upB upN
  by_cases h : 97 ≤ c ∧ c ≤ 122
  · rw [if_pos h]
    have hs : (32 : UInt8) ≤ c := by
      rw [UInt8.le_iff_toNat_le]
      simp only [UInt8.le_iff_toNat_le] at h
      have h1 : UInt8.toNat 97 = 97 := rfl
      have h3 : UInt8.toNat 32 = 32 := rfl
      omega
    simp only [UInt8.le_iff_toNat_le] at h
    have h1 : UInt8.toNat 97 = 97 := rfl
    have h2 : UInt8.toNat 122 = 122 := rfl
    have h3 : UInt8.toNat 32 = 32 := rfl
    rw [h1, h2] at h
    rw [if_pos (by omega), UInt8.toNat_sub_of_le _ _ hs, h3]
    omega
  · rw [if_neg h]
    simp only [UInt8.le_iff_toNat_le] at h
    have h1 : UInt8.toNat 97 = 97 := rfl
    have h2 : UInt8.toNat 122 = 122 := rfl
    rw [h1, h2] at h
    rw [if_neg (by omega)]

/-- A string, byte by byte turned. -/
def mapS (f : UInt8 → UInt8) (s : ByteArray) : ByteArray := ⟨s.data.map f⟩
theorem mapS_size (f : UInt8 → UInt8) (s : ByteArray) : (mapS f s).size = s.size := by
  show (s.data.map f).size = s.data.size
  simp

theorem lowN_lowN (c : Int) : lowN (lowN c) = lowN c := by unfold lowN; (repeat' split) <;> omega
theorem lowN_upN (c : Int) : lowN (upN c) = lowN c := by unfold lowN upN; (repeat' split) <;> omega

theorem key_lowS (s : ByteArray) : key (mapS lowB s) = key s := by
  simp only [key, mapS, Array.toList_map, List.map_map]
  apply List.map_congr_left
  intro c _
  show lowN ((lowB c).toNat : Int) = _
  rw [lowB_toNat, lowN_lowN]
theorem key_upS (s : ByteArray) : key (mapS upB s) = key s := by
  simp only [key, mapS, Array.toList_map, List.map_map]
  apply List.map_congr_left
  intro c _
  show lowN ((upB c).toNat : Int) = _
  rw [upB_toNat, lowN_upN]

/-- The folded bytes of a list. -/
def keyL (l : List UInt8) : List Int := l.map fun c => lowN c.toNat
theorem keyL_append (a b : List UInt8) : keyL (a ++ b) = keyL a ++ keyL b := by simp [keyL]
theorem key_eq_keyL (s : ByteArray) : key s = keyL s.data.toList := rfl

/-- Labels whose strings are turned without a change of size or key: the same name. -/
theorem wl_map (f : ByteArray → ByteArray) (hsz : ∀ s, (f s).size = s.size) (hk : ∀ s, key (f s) = key s) : ∀ ss : List ByteArray, keyL (wl (ss.map f)) = keyL (wl ss)
  | [] => rfl
  | s :: r => by
    rw [List.map_cons, wl_cons, wl_cons, keyL_append, keyL_append, wl_map f hsz hk r]
    congr 1
    have h1 := hk s
    rw [key_eq_keyL, key_eq_keyL] at h1
    show keyL (UInt8.ofNat (f s).size :: (f s).data.toList) = keyL (UInt8.ofNat s.size :: s.data.toList)
    rw [hsz s]
    simp only [keyL, List.map_cons]
    congr 1

theorem okN_map (f : ByteArray → ByteArray) (hsz : ∀ s, (f s).size = s.size) (hk : ∀ s, key (f s) = key s) (ss : List ByteArray) : okN (ss.map f) = okN ss := by
  have h1 : (wl (ss.map f)).length = (wl ss).length := by
    have := congrArg List.length (wl_map f hsz hk ss)
    simpa [keyL] using this
  have h2 : (ss.map f).all (fun s => decide (0 < s.size ∧ s.size ≤ 63)) = ss.all (fun s => decide (0 < s.size ∧ s.size ≤ 63)) := by
    rw [List.all_map]
    congr 1
    funext s
    simp [hsz]
  unfold okN
  rw [h1, h2]

theorem key_mkW_map (f : ByteArray → ByteArray) (hsz : ∀ s, (f s).size = s.size) (hk : ∀ s, key (f s) = key s) (ss : List ByteArray) : key (mkW (ss.map f)) = key (mkW ss) := by
  cases h : okN ss with
  | true =>
    rw [key_eq_keyL, key_eq_keyL, mkW_data h, mkW_data (by rw [okN_map f hsz hk]; exact h), wl_map f hsz hk]
  | false =>
    rw [mkW_bad h, mkW_bad (by rw [okN_map f hsz hk]; exact h)]

end Go.Proofs.Qxb6003717a
