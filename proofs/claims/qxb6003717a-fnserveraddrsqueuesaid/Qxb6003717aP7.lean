import Derived.Test.Qxb6003717aP3
namespace Go.Proofs.Qxb6003717a

/-- withServer, on plain lists: each server is its name and how many addresses it has. -/
def wsv (s : ByteArray) : List (ByteArray × Nat) → List (ByteArray × Nat)
  | [] => [(s, 1)]
  | x :: r => if key x.1 = key s then (x.1, max x.2 1) :: r else x :: wsv s r

/-- No server among the first k has s's name. -/
def NoKey (s : ByteArray) (ns : List (ByteArray × Nat)) (k : Nat) : Prop := ∀ x ∈ ns.take k, key x.1 ≠ key s

theorem noKey_zero (s : ByteArray) (ns : List (ByteArray × Nat)) : NoKey s ns 0 := by intro x hx; simp at hx
theorem noKey_succ {s : ByteArray} {ns : List (ByteArray × Nat)} {k : Nat} {x : ByteArray × Nat} (h : NoKey s ns k) (hx : ns[k]? = some x) (hk : key x.1 ≠ key s) : NoKey s ns (k + 1) := by
  intro y hy
  rw [List.take_add_one, hx] at hy
  simp at hy
  rcases hy with hy | rfl
  · exact h y hy
  · exact hk

theorem wsv_found {s : ByteArray} : ∀ {ns : List (ByteArray × Nat)} {k : Nat} {x : ByteArray × Nat}, NoKey s ns k → ns[k]? = some x → key x.1 = key s → wsv s ns = ns.set k (x.1, max x.2 1)
  | [], k, x, _, hx, _ => by simp at hx
  | y :: r, 0, x, _, hx, hk => by
    simp at hx
    subst hx
    simp [wsv, hk]
  | y :: r, k + 1, x, h, hx, hk => by
    have hy : key y.1 ≠ key s := h y (by simp)
    have hr : NoKey s r k := fun z hz => h z (by simp [hz])
    rw [wsv, if_neg hy, wsv_found hr (by simpa using hx) hk]
    rfl
theorem wsv_none {s : ByteArray} : ∀ {ns : List (ByteArray × Nat)} {k : Nat}, NoKey s ns k → ns.length ≤ k → wsv s ns = ns ++ [(s, 1)]
  | [], _, _, _ => rfl
  | y :: r, 0, _, h => by simp at h
  | y :: r, k + 1, h, hl => by
    have hy : key y.1 ≠ key s := h y (by simp)
    have hr : NoKey s r k := fun z hz => h z (by simp [hz])
    rw [wsv, if_neg hy, wsv_none hr (by simpa using hl)]
    rfl
theorem wsv_again (s : ByteArray) : ∀ ns : List (ByteArray × Nat), wsv s (wsv s ns) = wsv s ns
  | [] => by simp [wsv]
  | x :: r => by
    by_cases h : key x.1 = key s
    · have e : wsv s (x :: r) = (x.1, max x.2 1) :: r := by rw [wsv, if_pos h]
      rw [e, wsv, if_pos h]
      simp
    · have e : wsv s (x :: r) = x :: wsv s r := by rw [wsv, if_neg h]
      rw [e, wsv, if_neg h, wsv_again s r]
theorem wsv_has (s : ByteArray) : ∀ ns : List (ByteArray × Nat), ∃ x ∈ wsv s ns, key x.1 = key s
  | [] => ⟨(s, 1), by simp [wsv], rfl⟩
  | x :: r => by
    unfold wsv
    by_cases h : key x.1 = key s
    · rw [if_pos h]
      exact ⟨(x.1, max x.2 1), by simp, h⟩
    · rw [if_neg h]
      obtain ⟨y, hy, hk⟩ := wsv_has s r
      exact ⟨y, by simp [hy], hk⟩
theorem wsv_length (s : ByteArray) : ∀ ns : List (ByteArray × Nat), (wsv s ns).length ≤ ns.length + 1
  | [] => by simp [wsv]
  | x :: r => by
    unfold wsv
    split
    · simp
    · have := wsv_length s r
      simp
      omega
theorem wsv_names {P : ByteArray → Prop} (s : ByteArray) (hs : P s) : ∀ ns : List (ByteArray × Nat), (∀ x ∈ ns, P x.1) → ∀ x ∈ wsv s ns, P x.1
  | [], _ => by intro x hx; simp [wsv] at hx; rw [hx]; exact hs
  | y :: r, h => by
    intro x hx
    unfold wsv at hx
    split at hx
    · simp at hx
      rcases hx with rfl | hx
      · exact h y (by simp)
      · exact h x (by simp [hx])
    · simp at hx
      rcases hx with rfl | hx
      · exact h _ (by simp)
      · exact wsv_names s hs r (fun z hz => h z (by simp [hz])) x hx

theorem set_same {ns : List (ByteArray × Nat)} {k : Nat} {x : ByteArray × Nat} (h : ns[k]? = some x) (hm : 0 < x.2) : ns.set k (x.1, max x.2 1) = ns := by
  have : max x.2 1 = x.2 := by omega
  rw [this]
  apply List.ext_getElem?
  intro i
  rw [List.getElem?_set]
  by_cases e : k = i
  · subst e
    have hl : k < ns.length := (List.getElem?_eq_some_iff.1 h).1
    rw [if_pos rfl, if_pos hl, h]
  · rw [if_neg e]
end Go.Proofs.Qxb6003717a
