import Derived.Test.Qxb6003717aRows
import Derived.Test.Qxb6003717aP1
import Derived.WalkKit
import Derived.WalkSpells
import Derived.WalkLawsBesides
import Derived.Deep.QuietTactic
import Derived.BigQuiet
namespace Go.Proofs.Qxb6003717a
open Go.RowKit

set_option maxHeartbeats 400000 in
theorem zzLower_any (c : Int) (h0 : 0 ≤ c) (h1 : c ≤ 255) (w : World) :
    Calls Try.prog 33 #[.int .u8 c] w fun e w' => e = .returned (.int .u8 (lowN c)) ∧ w' = w := by
  by_cases ha : 65 ≤ c
  · by_cases hb : c ≤ 90
    · have hl : lowN c = c + 32 := by simp [lowN, ha, hb]
      rw [hl]
      clear hl
      go_enter Try.func33, Try.ntmps33
      go_wp2
      go_ret
      exact ⟨rfl, rfl⟩
    · have hl : lowN c = c := by simp [lowN, hb]
      rw [hl]
      clear hl
      go_enter Try.func33, Try.ntmps33
      go_wp2
      go_ret
      exact ⟨rfl, rfl⟩
  · have hl : lowN c = c := by simp [lowN, ha]
    rw [hl]
    clear hl
    go_enter Try.func33, Try.ntmps33
    go_wp2
    go_ret
    exact ⟨rfl, rfl⟩

set_option maxHeartbeats 400000 in
theorem lower_any (c : Int) (h0 : 0 ≤ c) (h1 : c ≤ 255) (w : World) :
    Calls Try.prog 45 #[.int .u8 c] w fun e w' => e = .returned (.int .u8 (lowN c)) ∧ w' = w := by
  by_cases ha : 65 ≤ c
  · by_cases hb : c ≤ 90
    · have hl : lowN c = c + 97 - 65 := by simp [lowN, ha, hb]; omega
      rw [hl]
      clear hl
      go_enter Try.func45, Try.ntmps45
      go_wp2
      go_ret
      exact ⟨rfl, rfl⟩
    · have hl : lowN c = c := by simp [lowN, hb]
      rw [hl]
      clear hl
      go_enter Try.func45, Try.ntmps45
      go_wp2
      go_ret
      exact ⟨rfl, rfl⟩
  · have hl : lowN c = c := by simp [lowN, ha]
    rw [hl]
    clear hl
    go_enter Try.func45, Try.ntmps45
    go_wp2
    go_ret
    exact ⟨rfl, rfl⟩

theorem u8_bd (c : UInt8) : (0 : Int) ≤ (c.toNat : Int) ∧ (c.toNat : Int) ≤ 255 := by
  have := c.toNat_lt
  omega

theorem zzLower_u8 (c : UInt8) (w : World) :
    Calls Try.prog 33 #[.int .u8 (c.toNat : Int)] w fun e w' => e = .returned (.int .u8 (lowN (c.toNat : Int))) ∧ w' = w :=
  zzLower_any _ (u8_bd c).1 (u8_bd c).2 w

theorem lower_u8 (c : UInt8) (w : World) :
    Calls Try.prog 45 #[.int .u8 (c.toNat : Int)] w fun e w' => e = .returned (.int .u8 (lowN (c.toNat : Int))) ∧ w' = w :=
  lower_any _ (u8_bd c).1 (u8_bd c).2 w

theorem drewN_step {w wr : World} {m : Nat} (h : Hid (∃ n, wr = w.drewN n)) : Hid (∃ n, wr.drewN m = w.drewN n) := by
  obtain ⟨n, rfl⟩ := h
  exact ⟨n + m, by rw [World.drewN_drewN]⟩

set_option maxHeartbeats 400000 in
theorem zzFoldEq_any (a b : ByteArray) (w : World) (hs : a.size ≤ maxLen) :
    Calls Try.prog 11 #[.string a, .string b] w fun e w' => e = .returned (.bool (decide (key a = key b))) ∧ ∃ n, w' = w.drewN n := by
  unfold maxLen at hs
  by_cases hsz : a.size = b.size
  · go_enter Try.func11, Try.ntmps11
    go_wp2
    go_loopw [5] (fun i wr => ∃ k : Nat, k ≤ a.size ∧ i = .int .i64 k ∧ Hid ((key a).take k = (key b).take k) ∧ Hid (∃ n, wr = w.drewN n)) (fun i _ => a.size - (intOf i).toNat)
    case atStart => exact ⟨0, Nat.zero_le _, rfl, by simp [Hid], ⟨0, rfl⟩⟩
    case round =>
      obtain ⟨k, hk, rfl, hkey, hwr⟩ := hrel
      by_cases hlt : k < a.size
      · have hlb : k < b.size := by omega
        by_cases hc : lowN (a[k].toNat : Int) = lowN (b[k].toNat : Int)
        · have HK : Hid ((key a).take (k + 1) = (key b).take (k + 1)) := (key_take_succ hlt hlb).2 ⟨hkey.out, hc⟩
          go_wp2
          go_quiet ((go_at_call 33; exact Calls.quiet_of_same (zzLower_u8 _ _)))
          go_wp2
          go_roundw
          case rel => exact ⟨k + 1, by omega, by go_num, HK, drewN_step hwr⟩
          case measure => simp [intOf]; omega
        · have HN : Hid (key a ≠ key b) := key_ne_of_take hlt hlb hc
          go_wp2
          go_quiet ((go_at_call 33; exact Calls.quiet_of_same (zzLower_u8 _ _)))
          go_wp2
          go_ret
          exact ⟨by simp [HN.out], (drewN_step hwr).out⟩
      · have HE : Hid (key a = key b) := key_eq_of_take hsz (by have := hkey.out; rwa [show k = a.size by omega] at this)
        go_wp2
        go_ret
        exact ⟨by simp [HE.out], hwr.out⟩
  · have HN : Hid (key a ≠ key b) := key_ne_of_size hsz
    have hsz' : ((a.size : Int) != (b.size : Int)) = true := by simp; omega
    clear hsz
    go_enter Try.func11, Try.ntmps11
    go_wp2
    go_ret
    exact ⟨by simp [HN.out], 0, rfl⟩
end Go.Proofs.Qxb6003717a
