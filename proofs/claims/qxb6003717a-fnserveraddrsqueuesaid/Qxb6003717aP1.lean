import Derived.WalkKit
namespace Go.Proofs.Qxb6003717a

/-- ASCII lower case, on numbers. -/
def lowN (c : Int) : Int := if 65 ≤ c ∧ c ≤ 90 then c + 32 else c

/-- The bytes of a string, folded to lower case, as numbers. -/
def key (s : ByteArray) : List Int := s.data.toList.map fun c => lowN c.toNat

theorem key_length (s : ByteArray) : (key s).length = s.size := by simp [key]

theorem key_at (s : ByteArray) (k : Nat) (h : k < s.size) : (key s)[k]? = some (lowN (s[k].toNat : Int)) := by
  have h' : k < s.data.toList.length := by simpa using h
  simp only [key, List.getElem?_map, List.getElem?_eq_getElem h', Option.map_some]
  rfl

/-- Do the two agree on the first k bytes? -/
theorem key_take_succ {a b : ByteArray} {k : Nat} (ha : k < a.size) (hb : k < b.size) :
    (key a).take (k + 1) = (key b).take (k + 1) ↔ (key a).take k = (key b).take k ∧ lowN (a[k].toNat : Int) = lowN (b[k].toNat : Int) := by
  rw [List.take_add_one, List.take_add_one, key_at a k ha, key_at b k hb]
  constructor
  · intro h
    have hl : ((key a).take k).length = ((key b).take k).length := by simp [key_length]; omega
    have := List.append_inj h hl
    exact ⟨this.1, by simpa using this.2⟩
  · rintro ⟨h1, h2⟩
    rw [h1, h2]

theorem key_eq_of_take {a b : ByteArray} (hs : a.size = b.size) (h : (key a).take a.size = (key b).take a.size) : key a = key b := by
  rwa [List.take_of_length_le (by rw [key_length]; omega), List.take_of_length_le (by rw [key_length]; omega)] at h

theorem key_ne_of_take {a b : ByteArray} {k : Nat} (ha : k < a.size) (hb : k < b.size) (h : lowN (a[k].toNat : Int) ≠ lowN (b[k].toNat : Int)) : key a ≠ key b := by
  intro e
  have := key_at a k ha
  rw [e, key_at b k hb] at this
  exact h (by simpa using this.symm)

theorem key_ne_of_size {a b : ByteArray} (h : a.size ≠ b.size) : key a ≠ key b := by
  intro e
  have := congrArg List.length e
  rw [key_length, key_length] at this
  exact h this

end Go.Proofs.Qxb6003717a
