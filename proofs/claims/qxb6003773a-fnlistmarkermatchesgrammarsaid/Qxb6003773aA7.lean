import Derived.Test.Qxb6003773aP2
namespace Go.Proofs.Qxb6003773a
open Go.RowKit

set_option maxRecDepth 100000 in
set_option maxHeartbeats 2000000 in
theorem list_walk (a : Option Addr) (n cap : Nat) (xs : List Int) (intr : Bool) (w : World) (h : Bts w a n xs) :
    Calls Try.prog 3 #[.slice a n cap, .bool intr] w fun e w' => e = .returned (.bool true) ∧ Below w.heap.size w w' := by
  have hn := h.lim
  have hlen := h.len
  have H := hid h
  clear h
  go_enter Try.func3, Try.ntmps3
  go_wp2_with (go_at_call 4; refine (told (zzBytes_any a n cap intr _ hn)).mono ?_)
  intro e w' hp
  obtain ⟨⟨r, rfl⟩, hw⟩ := hp.out
  replace hw := hw.symm
  subst hw
  clear hp
  unfold maxLen at hn
  cases r with
  | false =>
    go_wp2
    go_ret
    exact ⟨rfl, Below.refl _ _⟩
  | true =>
  by_cases hb1 : 1048576 < n
  · go_wp2
    go_ret
    exact ⟨rfl, Below.refl _ _⟩
  by_cases h0 : n = 0
  · subst h0
    go_wp2
    go_ret
    exact ⟨rfl, Below.refl _ _⟩
  have h0b : ((n : Int) == 0) = false := by simp; omega
  go_wp2_with (go_at_call 5; refine (told (clone_any a n cap xs _ H.out (by omega) (by omega))).mono ?_)
  intro e w2 hp
  obtain ⟨⟨rfl, hs2⟩, hb⟩ := hp.out
  have Hb2 := hid hb
  have Hs2 := hid hs2
  clear hp hb hs2 H
  generalize hR : w.heap.size = R at Hs2 ⊢
  clear hR
  obtain ⟨r, hr⟩ := LM_exists xs intr (by omega)
  have Hr := hid hr
  have hlaw := LM_law (by omega) hr
  have hrn := hlaw.1
  rw [hlen] at hrn
  have hr10 := hlaw.2.1
  have Hl1 := hid hlaw.2.2.1
  have Hl2 := hid hlaw.2.2.2
  clear hr hlaw
  go_wp2
  go_loopw [5, 6] (fun t i wr => ∃ j F : Nat, j ≤ n ∧ j ≤ 10 ∧ i = .int .i64 ((j : Int) + 1) ∧ t = .int .i64 (F : Int) ∧ Hid (F = found r (j + 1)) ∧ wr = w2) (fun _ i _ => n + 1 - (intOf i).toNat)
  case atStart => exact ⟨0, 0, by omega, by omega, rfl, rfl, by show _ = _; unfold found; split <;> omega, rfl⟩
  case round =>
    obtain ⟨j, F, hjn, hj10, rfl, rfl, HF, rfl⟩ := hrel
    by_cases hgo : j < n ∧ j < 10
    · obtain ⟨hlt, hlt10⟩ := hgo
      obtain ⟨b', off', x0, hae, hc, hx, hx0, hx1⟩ := Hs2.out.at_ hlt
      cases hae
      have Hx := hid hx
      clear hx hc
      have hI1 : (j : Int) + 1 ≤ (n : Int) := by omega
      have hI2 : (j : Int) + 1 ≤ 10 := by omega
      by_cases hj0 : j = 0
      · subst hj0
        cases hdm : decide (r = 0 + 1) with
        | true =>
          have hrk := of_decide_eq_true hdm
          obtain ⟨f1, f2⟩ := found_hit hrk
          rw [f1] at HF
          have hF : F = 0 := HF.out
          subst hF
          have HF2 := hid f2
          go_wp2_with (go_at_call 6; refine (told (marker_one R 0 n xs intr x0 _ Hs2.out (by omega) (by omega) Hx.out)).mono ?_)
          intro e w3 hp
          obtain ⟨rfl, rfl⟩ := hp.out
          rw [Hl1.out x0 Hx.out, hdm]
          clear hp hdm hrk f1 f2 HF
          go_wp2
          go_roundw
          case rel => exact ⟨0 + 1, 0 + 1, by omega, by omega, by go_num, by go_num, HF2.out.symm, by first | rfl | trivial⟩
          case measure => simp [intOf]; omega
        | false =>
          have hrk := of_decide_eq_false hdm
          have f2 := found_miss hrk
          rw [← f2] at HF
          go_wp2_with (go_at_call 6; refine (told (marker_one R 0 n xs intr x0 _ Hs2.out (by omega) (by omega) Hx.out)).mono ?_)
          intro e w3 hp
          obtain ⟨rfl, rfl⟩ := hp.out
          rw [Hl1.out x0 Hx.out, hdm]
          clear hp hdm hrk f2
          go_wp2
          go_roundw
          case rel => exact ⟨0 + 1, F, by omega, by omega, by go_num, rfl, HF, by first | rfl | trivial⟩
          case measure => simp [intOf]; omega
      · have hj0' : 0 < j := by omega
        cases hdm : decide (r = j + 1) with
        | true =>
          have hrk := of_decide_eq_true hdm
          obtain ⟨f1, f2⟩ := found_hit hrk
          rw [f1] at HF
          have hF : F = 0 := HF.out
          subst hF
          have HF2 := hid f2
          go_wp2_with (go_at_call 6; refine (told (marker_ord R 0 n xs intr j x0 _ Hs2.out (by omega) (by omega) (by omega) (by omega) Hx.out)).mono ?_)
          intro e w3 hp
          obtain ⟨rfl, rfl⟩ := hp.out
          rw [Hl2.out j x0 hj0' (by omega) Hx.out, hdm]
          clear hp hdm hrk f1 f2 HF
          go_wp2
          go_roundw
          case rel => exact ⟨j + 1, j + 1, by omega, by omega, by go_num, by go_num, HF2.out.symm, by first | rfl | trivial⟩
          case measure => simp [intOf]; omega
        | false =>
          have hrk := of_decide_eq_false hdm
          have f2 := found_miss hrk
          rw [← f2] at HF
          go_wp2_with (go_at_call 6; refine (told (marker_ord R 0 n xs intr j x0 _ Hs2.out (by omega) (by omega) (by omega) (by omega) Hx.out)).mono ?_)
          intro e w3 hp
          obtain ⟨rfl, rfl⟩ := hp.out
          rw [Hl2.out j x0 hj0' (by omega) Hx.out, hdm]
          clear hp hdm hrk f2
          go_wp2
          go_roundw
          case rel => exact ⟨j + 1, F, by omega, by omega, by go_num, rfl, HF, by first | rfl | trivial⟩
          case measure => simp [intOf]; omega
    · have hF : F = r := by rw [HF.out]; exact found_all (by omega)
      subst hF
      clear HF
      have fin : Hid (∀ r', LM xs intr r' → r' = F) := fun r' h' => LM_unique (by omega) Hr.out h'
      by_cases hlt : j < n
      · have hlt10 : ¬ ((j : Int) + 1 ≤ 10) := by omega
        have hI1 : (j : Int) + 1 ≤ (n : Int) := by omega
        go_wp2_with (go_at_call 7; refine (told (zzListMarker_any R 0 n xs intr _ Hs2.out (by omega) (by omega))).mono ?_)
        intro e w3 hp
        obtain ⟨⟨r', rfl, hr'⟩, rfl⟩ := hp.out
        have hre := fin.out r' hr'
        subst hre
        clear hp hr' fin
        go_wp2
        go_ret
        exact ⟨by simp, Hb2.out⟩
      · have hI1 : ¬ ((j : Int) + 1 ≤ (n : Int)) := by omega
        go_wp2_with (go_at_call 7; refine (told (zzListMarker_any R 0 n xs intr _ Hs2.out (by omega) (by omega))).mono ?_)
        intro e w3 hp
        obtain ⟨⟨r', rfl, hr'⟩, rfl⟩ := hp.out
        have hre := fin.out r' hr'
        subst hre
        clear hp hr' fin
        go_wp2
        go_ret
        exact ⟨by simp, Hb2.out⟩
end Go.Proofs.Qxb6003773a
