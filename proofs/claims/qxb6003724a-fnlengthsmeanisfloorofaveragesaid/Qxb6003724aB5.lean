import Derived.Test.Qxb6003724aB4
import Derived.Test.Qxb6003724aP3
namespace Go.Proofs.Qxb6003724a
open Go.RowKit

set_option maxRecDepth 100000 in
set_option maxHeartbeats 400000 in
theorem bytesMean_any (a : Option Addr) (n cap : Nat) (w : World) (hn : n ≤ maxLen) :
    Calls Try.prog 13 #[.slice a n cap] w fun e w' => RetB e ∧ w' = w := by
  unfold maxLen at hn
  by_cases h1 : 1048576 < n
  · go_enter Try.func13, Try.ntmps13
    go_wp2
    go_ret
    exact ⟨⟨_, rfl⟩, rfl⟩
  · go_enter Try.func13, Try.ntmps13
    go_wp2
    go_ret
    exact ⟨⟨_, rfl⟩, rfl⟩

set_option maxRecDepth 100000 in
set_option maxHeartbeats 400000 in
theorem mean_zero (w : World) : Calls Try.prog 19 #[.agg #[.int .i64 0, .int .i64 0, .int .i64 0]] w fun e w' => e = .returned (.int .i64 0) ∧ Below w.heap.size w w' := by
  go_enter Try.func19, Try.ntmps19
  go_wp2
  go_ret
  exact ⟨rfl, (Below.refl _ _).alloc (Nat.le_refl _) _⟩

set_option maxRecDepth 100000 in
set_option maxHeartbeats 400000 in
theorem mean_any (n : Nat) (s m : Int) (w : World) (hn : 0 < n) (hs : 0 ≤ s) (hs1 : s ≤ 4611686018427387904) : Calls Try.prog 19 #[.agg #[.int .i64 n, .int .i64 s, .int .i64 m]] w fun e w' => e = .returned (.int .i64 (s / n)) ∧ Below w.heap.size w w' := by
  have h0 : ((n : Int) == 0) = false := by simp; omega
  have h1 : (n : Int) ≠ 0 := by omega
  go_enter Try.func19, Try.ntmps19
  go_wp2
  go_ret
  exact ⟨rfl, (Below.refl _ _).alloc (Nat.le_refl _) _⟩

set_option maxRecDepth 100000 in
set_option maxHeartbeats 400000 in
theorem zzMean_zero (w : World) : Calls Try.prog 14 #[.int .i64 0, .int .i64 0, .int .i64 0] w fun e w' => e = .returned (.int .i64 0) ∧ Below w.heap.size w w' := by
  go_enter Try.func14, Try.ntmps14
  go_wp2_with (go_at_call 19; refine (told (mean_zero _)).mono ?_)
  intro e w1 hp
  obtain ⟨rfl, hb⟩ := hp.out
  have Hb := hid hb
  clear hp hb
  go_wp2
  go_ret
  exact ⟨rfl, Hb.out⟩

set_option maxRecDepth 100000 in
set_option maxHeartbeats 400000 in
theorem zzMean_any (n : Nat) (s m : Int) (w : World) (hn : 0 < n) (hs : 0 ≤ s) (hs1 : s ≤ 4611686018427387904) : Calls Try.prog 14 #[.int .i64 n, .int .i64 s, .int .i64 m] w fun e w' => e = .returned (.int .i64 (s / n)) ∧ Below w.heap.size w w' := by
  go_enter Try.func14, Try.ntmps14
  go_wp2_with (go_at_call 19; refine (told (mean_any n s m _ hn hs hs1)).mono ?_)
  intro e w1 hp
  obtain ⟨rfl, hb⟩ := hp.out
  have Hb := hid hb
  clear hp hb
  go_wp2
  go_ret
  exact ⟨rfl, Hb.out⟩

theorem tame_snoc {xs : List Int} {k : Nat} {x : Int} (h : Tame (xs.take k)) (hx : xs[k]? = some x) (h0 : 0 ≤ x) (h1 : x ≤ 1099511627776) : Tame (xs.take (k + 1)) := by
  rw [take_succ_at hx]
  intro y hy
  rcases List.mem_append.1 hy with hy | hy
  · exact h y hy
  · simp at hy; subst hy; exact ⟨h0, h1⟩

set_option maxRecDepth 100000 in
set_option maxHeartbeats 2000000 in
theorem mean_walk (a : Option Addr) (n cap : Nat) (xs : List Int) (w : World) (h : Ints w a n xs) :
    Calls Try.prog 6 #[.slice a n cap] w fun e w' => e = .returned (.bool true) ∧ Below w.heap.size w w' := by
  have hn := h.lim
  have H := hid h
  clear h
  go_enter Try.func6, Try.ntmps6
  go_wp2_with (go_at_call 13; refine (told (bytesMean_any a n cap _ hn)).mono ?_)
  intro e w' hp
  obtain ⟨⟨r, rfl⟩, hw⟩ := hp.out
  replace hw := hw.symm
  subst hw
  clear hp
  unfold maxLen at hn
  cases r with
  | false =>
    go_wp2
    go_ret
    exact ⟨rfl, Below.refl _ _⟩
  | true =>
  by_cases hb1 : 65536 < n
  · go_wp2
    go_ret
    exact ⟨rfl, Below.refl _ _⟩
  have hb3 : ¬ (1048576 : Int) < 8 * (n : Int) := by omega
  by_cases h0 : n = 0
  · subst h0
    go_wp2_with (go_at_call 14; refine (told (zzMean_zero _)).mono ?_)
    intro e w1 hp
    obtain ⟨rfl, hb⟩ := hp.out
    have Hb := hid hb
    clear hp hb
    go_wp2
    go_ret
    exact ⟨rfl, Hb.out⟩
  have h0b : ((n : Int) == 0) = false := by simp; omega
  go_wp2
  go_loopw [3] (fun i wr => ∃ k : Nat, k ≤ n ∧ i = .int .i64 k ∧ Hid (Tame (xs.take k)) ∧ wr = w) (fun i _ => n - (intOf i).toNat)
  case atStart => exact ⟨0, Nat.zero_le _, rfl, by intro x hx; simp at hx, rfl⟩
  case round =>
    obtain ⟨k, hk, rfl, htame, rfl⟩ := hrel
    by_cases hlt : k < n
    · obtain ⟨b, off, x, rfl, hc, hx, hb⟩ := H.out.at_ hlt
      have Hx := hid hx
      clear hx
      have hk0 : (0 : Int) ≤ (k : Int) := by omega
      have hk1 : (k : Int) < (n : Int) := by omega
      by_cases hx0 : x < 0
      · go_wp2
        go_ret
        exact ⟨rfl, Below.refl _ _⟩
      by_cases hx1 : 1099511627776 < x
      · go_wp2
        go_ret
        exact ⟨rfl, Below.refl _ _⟩
      have Hts := hid (tame_snoc htame.out Hx.out (by omega) (by omega))
      go_wp2
      go_roundw
      case rel => exact ⟨k + 1, by omega, by go_num, Hts, by first | rfl | trivial⟩
      case measure => simp [intOf]; omega
    · have hkn : k = n := by omega
      subst hkn
      have Ht : Hid (Tame xs) := by
        have := htame.out
        rw [List.take_of_length_le (by rw [H.out.len]; exact Nat.le_refl _)] at this
        exact this
      clear htame
      go_wp2_with (go_at_call 10; refine (told (clone_any a k cap xs _ H.out (by omega))).mono ?_)
      intro e w2 hp
      obtain ⟨⟨a2, c2, rfl, hs2⟩, hb⟩ := hp.out
      have Hb2 := hid hb
      have Hs2 := hid hs2
      clear hp hb hs2
      go_wp2_with (go_at_call 11; refine (told (addAll_any 0 0 0 a2 k c2 xs _ Hs2.out (by omega) (by omega) (by omega))).mono ?_)
      intro e w3 hp
      obtain ⟨rfl, hb⟩ := hp.out
      have Hb3 := hid (ext_trans Hb2.out hb)
      have Hs3 := hid (Hs2.out.below hb)
      clear hp hb Hb2 Hs2
      rw [Int.zero_add]
      obtain ⟨b, off, x0, hae, hc0, hx0, hb⟩ := Hs3.out.at_ (show 0 < k by omega)
      subst hae
      rw [Nat.add_zero] at hc0
      have hk1 : (0 : Int) < (k : Int) := by omega
      have hlen := H.out.len
      have hml := mean_law xs x0 Ht.out hx0
      have hS := sumW_plain xs Ht.out 0 (by omega) (by omega)
      have hS0 := le_sumL xs 0 (fun x hx => (Ht.out x hx).1)
      have hS1 := sumL_le xs 1099511627776 (fun x hx => (Ht.out x hx).2)
      rw [hS, hml.2.2.2.2.1]
      rw [hlen] at hml hS1 hS0
      have Hx0 := hid hx0
      have Hlen := hid hlen
      obtain ⟨S, hSe⟩ : ∃ S, S = sumL 0 xs := ⟨_, rfl⟩
      obtain ⟨HI, hHI⟩ : ∃ HI, HI = maxF x0 xs := ⟨_, rfl⟩
      obtain ⟨LO, hLO⟩ : ∃ LO, LO = minF x0 xs := ⟨_, rfl⟩
      obtain ⟨q, hq⟩ : ∃ q, q = S / (k : Int) := ⟨_, rfl⟩
      rw [← hSe, ← hHI, ← hLO, ← hq] at hml
      rw [← hSe] at hS0 hS1
      rw [← hSe, ← hHI]
      obtain ⟨m1, m2, m3, m4, _, m6, m7⟩ := hml
      have HS := hid hSe
      have HHI := hid hHI
      have HLO := hid hLO
      have Hq := hid hq
      have Hm1 := hid m1
      have Hm2 := hid m2
      have hS0' : 0 ≤ S := by omega
      have hS1' : S ≤ 1099511627776 * k := hS1
      clear hx0 hlen hS hSe hHI hLO hq m1 m2 hS0 hS1
      go_wp2
      go_quiet (fail)
      go_wp2
      obtain ⟨wo, hwo⟩ : ∃ wo : World, wo = wr := ⟨_, rfl⟩
      go_loopw [7, 8, 9, 10] (fun t l g i wx => ∃ (k2 : Nat) (T L G : Int), k2 ≤ k ∧ i = .int .i64 k2 ∧ t = .int .i64 T ∧ l = .int .i64 L ∧ g = .int .i64 G ∧ 0 ≤ T ∧ T ≤ 1099511627776 * k2 ∧ Hid (T = sumL 0 (xs.take k2) ∧ L = minF x0 (xs.take k2) ∧ G = maxF x0 (xs.take k2)) ∧ Hid (Below w3.heap.size w3 wx)) (fun _ _ _ i _ => k - (intOf i).toNat)
      case atStart => exact ⟨0, 0, x0, x0, Nat.zero_le _, rfl, rfl, rfl, rfl, by omega, by omega, ⟨rfl, rfl, rfl⟩, below_drewN (Below.refl _ _) _⟩
      case round =>
        obtain ⟨k2, T, L, G, hk2, rfl, rfl, rfl, rfl, hT0, hT1, he, hbx⟩ := hrel
        by_cases hlt2 : k2 < k
        · obtain ⟨b', off', x, hae, hc, hx, hb'⟩ := (Hs3.out.below hbx.out).at_ hlt2
          cases hae
          have htm := Ht.out x (List.mem_of_getElem? hx)
          have Hts := hid (take_succ_at hx)
          have hx0 := htm.1
          have hx1 := htm.2
          clear hx htm
          have hk20 : (0 : Int) ≤ (k2 : Int) := by omega
          have hk21 : (k2 : Int) < (k : Int) := by omega
          have HT : Hid (T + x = sumL 0 (xs.take (k2 + 1))) := by show _ = _; rw [Hts.out, sumL_snoc, he.out.1]
          have HL : Hid (mn L x = minF x0 (xs.take (k2 + 1))) := by show _ = _; rw [Hts.out, minF_snoc, he.out.2.1]
          have HG : Hid (mx G x = maxF x0 (xs.take (k2 + 1))) := by show _ = _; rw [Hts.out, maxF_snoc, he.out.2.2]
          clear Hts he
          by_cases hl : x < L
          · have HL2 : Hid (x = minF x0 (xs.take (k2 + 1))) := by have := HL.out; unfold mn at this; rw [if_pos hl] at this; exact this
            clear HL
            by_cases hg : x > G
            · have HG2 : Hid (x = maxF x0 (xs.take (k2 + 1))) := by have := HG.out; unfold mx at this; rw [if_pos hg] at this; exact this
              clear HG
              go_wp2
              go_roundw
              case rel => exact ⟨k2 + 1, T + x, x, x, by omega, by go_num, rfl, rfl, rfl, by omega, by omega, ⟨HT.out, HL2.out, HG2.out⟩, hbx⟩
              case measure => simp [intOf]; omega
            · have HG2 : Hid (G = maxF x0 (xs.take (k2 + 1))) := by have := HG.out; unfold mx at this; rw [if_neg hg] at this; exact this
              clear HG
              go_wp2
              go_roundw
              case rel => exact ⟨k2 + 1, T + x, x, G, by omega, by go_num, rfl, rfl, rfl, by omega, by omega, ⟨HT.out, HL2.out, HG2.out⟩, hbx⟩
              case measure => simp [intOf]; omega
          · have HL2 : Hid (L = minF x0 (xs.take (k2 + 1))) := by have := HL.out; unfold mn at this; rw [if_neg hl] at this; exact this
            clear HL
            by_cases hg : x > G
            · have HG2 : Hid (x = maxF x0 (xs.take (k2 + 1))) := by have := HG.out; unfold mx at this; rw [if_pos hg] at this; exact this
              clear HG
              go_wp2
              go_roundw
              case rel => exact ⟨k2 + 1, T + x, L, x, by omega, by go_num, rfl, rfl, rfl, by omega, by omega, ⟨HT.out, HL2.out, HG2.out⟩, hbx⟩
              case measure => simp [intOf]; omega
            · have HG2 : Hid (G = maxF x0 (xs.take (k2 + 1))) := by have := HG.out; unfold mx at this; rw [if_neg hg] at this; exact this
              clear HG
              go_wp2
              go_roundw
              case rel => exact ⟨k2 + 1, T + x, L, G, by omega, by go_num, rfl, rfl, rfl, by omega, by omega, ⟨HT.out, HL2.out, HG2.out⟩, hbx⟩
              case measure => simp [intOf]; omega
        · have hkn : k2 = k := by omega
          subst hkn
          have he' := he.out
          rw [List.take_of_length_le (by rw [Hlen.out]; exact Nat.le_refl _), ← HS.out, ← HLO.out, ← HHI.out] at he'
          obtain ⟨rfl, rfl, rfl⟩ := he'
          clear he hT0 hT1
          go_wp2_with (go_at_call 14; refine (told (zzMean_any k2 T G _ (by omega) hS0' (by omega))).mono ?_)
          intro e w5 hp
          obtain ⟨rfl, hb5⟩ := hp.out
          have Hb5 := hid (ext_trans Hb3.out (ext_trans hbx.out hb5))
          clear hp hb5
          rw [← Hq.out]
          have n0 : 0 ≤ q * (k2 : Int) := Int.mul_nonneg m6 (by omega)
          have n1 := Hm1.out
          have n2 := Hm2.out
          have n3 : (q + 1) * (k2 : Int) = q * (k2 : Int) + (k2 : Int) := by rw [Int.add_mul]; omega
          have n4 : (q + 1) * (k2 : Int) ≤ 4611686018427387904 := by omega
          have n5 : 0 ≤ (q + 1) * (k2 : Int) := by omega
          have n6 : q * (k2 : Int) ≤ 4611686018427387904 := by omega
          clear n3
          go_wp2
          go_ret
          exact ⟨rfl, Hb5.out⟩
end Go.Proofs.Qxb6003724a
