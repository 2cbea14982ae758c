import Derived.Test.Qxb6003717aA1
namespace Go.Proofs.Qxb6003717a
open Go.RowKit

/-- A wire.Name as a value. -/
abbrev nm (s : ByteArray) : Value := .agg #[.string s]

set_option maxHeartbeats 400000 in
theorem zzName_any (s : ByteArray) (w : World) :
    Calls Try.prog 32 #[.string s] w fun e w' => e = .returned (nm s) ∧ Below w.heap.size w w' := by
  go_enter Try.func32, Try.ntmps32
  go_wp2
  exact bodyPost_ret (v := .agg #[.string s]) (by simp [results, Try.results32, go_sem]) rfl ⟨rfl, (Below.refl _ _).alloc (Nat.le_refl _) _⟩

set_option maxHeartbeats 400000 in
theorem zzWire_any (s : ByteArray) (w : World) :
    Calls Try.prog 12 #[nm s] w fun e w' => e = .returned (.string s) ∧ Below w.heap.size w w' := by
  go_enter Try.func12, Try.ntmps12
  go_wp2
  go_ret
  exact ⟨rfl, (Below.refl _ _).alloc (Nat.le_refl _) _⟩

theorem below_drewN {B : Nat} {a w : World} (h : Below B a w) (n : Nat) : Below B a (w.drewN n) := ⟨h.os, h.tape, h.output, h.size, h.block⟩

set_option maxHeartbeats 400000 in
theorem equalFold_any (a b : ByteArray) (w : World) (hs : a.size ≤ maxLen) :
    Calls Try.prog 41 #[nm a, nm b] w fun e w' => e = .returned (.bool (decide (key a = key b))) ∧ Below w.heap.size w w' := by
  unfold maxLen at hs
  by_cases hsz : a.size = b.size
  · have HS : Hid (a.size = b.size) := hsz
    have hsz' : ((a.size : Int) != (b.size : Int)) = false := by simp; omega
    clear hsz
    go_enter Try.func41, Try.ntmps41
    go_wp2
    go_loopw [5] (fun i wr => ∃ k : Nat, k ≤ a.size ∧ i = .int .i64 k ∧ Hid ((key a).take k = (key b).take k) ∧ wr.cell? ⟨w.heap.size, 0, none⟩ = some (.string a) ∧ wr.cell? ⟨w.heap.size + 1, 0, none⟩ = some (.string b) ∧ Below w.heap.size w wr) (fun i _ => a.size - (intOf i).toNat)
    case atStart => exact ⟨0, Nat.zero_le _, rfl, by simp [Hid], by simp [go_sem], by simp [go_sem], ((Below.refl _ _).alloc (Nat.le_refl _) _).alloc (by simp) _⟩
    case round =>
      obtain ⟨k, hk, rfl, hkey, hca, hcb, hbel⟩ := hrel
      by_cases hlt : k < a.size
      · have hlb : k < b.size := by have := HS.out; omega
        by_cases hc : lowN (a[k].toNat : Int) = lowN (b[k].toNat : Int)
        · have HK : Hid ((key a).take (k + 1) = (key b).take (k + 1)) := (key_take_succ hlt hlb).2 ⟨hkey.out, hc⟩
          go_wp2
          go_quiet ((go_at_call 45; exact Calls.quiet_of_same (lower_u8 _ _)))
          go_wp2
          go_roundw
          case rel => exact ⟨k + 1, by omega, by go_num, HK, hca, hcb, below_drewN hbel _⟩
          case measure => simp [intOf]; omega
        · have HN : Hid (key a ≠ key b) := key_ne_of_take hlt hlb hc
          go_wp2
          go_quiet ((go_at_call 45; exact Calls.quiet_of_same (lower_u8 _ _)))
          go_wp2
          go_ret
          exact ⟨by simp [HN.out], below_drewN hbel _⟩
      · have HE : Hid (key a = key b) := key_eq_of_take HS.out (by have := hkey.out; rwa [show k = a.size by omega] at this)
        go_wp2
        go_ret
        exact ⟨by simp [HE.out], hbel⟩
  · have HN : Hid (key a ≠ key b) := key_ne_of_size hsz
    have hsz' : ((a.size : Int) != (b.size : Int)) = true := by simp; omega
    clear hsz
    go_enter Try.func41, Try.ntmps41
    go_wp2
    go_ret
    exact ⟨by simp [HN.out], ((Below.refl _ _).alloc (Nat.le_refl _) _).alloc (by simp) _⟩
end Go.Proofs.Qxb6003717a
