import Derived.Test.Qxb6003724aB3
namespace Go.Proofs.Qxb6003724a
open Go.RowKit

/-- A bool came back. -/
def RetB (e : Ending) : Prop := ∃ r, e = .returned (.bool r)

set_option maxRecDepth 100000 in
set_option maxHeartbeats 400000 in
theorem bytesMerge_any (a a1 : Option Addr) (n cap n1 cap1 : Nat) (w : World) (hn : n ≤ maxLen) (hn1 : n1 ≤ maxLen) :
    Calls Try.prog 9 #[.slice a n cap, .slice a1 n1 cap1] w fun e w' => RetB e ∧ w' = w := by
  unfold maxLen at hn hn1
  by_cases h1 : 1048576 < n
  · go_enter Try.func9, Try.ntmps9
    go_wp2
    go_ret
    exact ⟨⟨_, rfl⟩, rfl⟩
  by_cases h2 : 1048576 < n1
  · go_enter Try.func9, Try.ntmps9
    go_wp2
    go_ret
    exact ⟨⟨_, rfl⟩, rfl⟩
  by_cases h3 : 1048576 < n + n1
  · have h3' : (1048576 : Int) < (n : Int) + (n1 : Int) := by omega
    go_enter Try.func9, Try.ntmps9
    go_wp2
    go_ret
    exact ⟨⟨_, rfl⟩, rfl⟩
  · go_enter Try.func9, Try.ntmps9
    go_wp2
    go_ret
    exact ⟨⟨_, rfl⟩, rfl⟩

set_option maxRecDepth 100000 in
set_option maxHeartbeats 1000000 in
theorem merge_walk (a : Option Addr) (n cap : Nat) (xs : List Int) (a1 : Option Addr) (n1 cap1 : Nat) (ys : List Int) (w : World) (h : Ints w a n xs) (h1 : Ints w a1 n1 ys) :
    Calls Try.prog 5 #[.slice a n cap, .slice a1 n1 cap1] w fun e w' => e = .returned (.bool true) ∧ Below w.heap.size w w' := by
  have hn := h.lim
  have hn1 := h1.lim
  have H := hid h
  have H1 := hid h1
  clear h h1
  go_enter Try.func5, Try.ntmps5
  go_wp2_with (go_at_call 9; refine (told (bytesMerge_any a a1 n cap n1 cap1 _ hn hn1)).mono ?_)
  intro e w' hp
  obtain ⟨⟨r, rfl⟩, hw⟩ := hp.out
  replace hw := hw.symm
  subst hw
  clear hp
  unfold maxLen at hn hn1
  cases r with
  | false =>
    go_wp2
    go_ret
    exact ⟨rfl, Below.refl _ _⟩
  | true =>
  by_cases hb1 : 65536 < n
  · go_wp2
    go_ret
    exact ⟨rfl, Below.refl _ _⟩
  by_cases hb2 : 65536 < n1
  · go_wp2
    go_ret
    exact ⟨rfl, Below.refl _ _⟩
  have hb3' : ¬ (1048576 : Int) < 8 * ((n : Int) + (n1 : Int)) := by omega
  go_wp2_with (go_at_call 10; refine (told (clone_any a n cap xs _ H.out (by omega))).mono ?_)
  intro e w2 hp
  obtain ⟨⟨a2, c2, rfl, hs2⟩, hb⟩ := hp.out
  have Hb2 := hid hb
  have Hs2 := hid hs2
  have Ht2 := hid (H1.out.below hb)
  clear hp hb hs2
  go_wp2_with (go_at_call 10; refine (told (clone_any a1 n1 cap1 ys _ Ht2.out (by omega))).mono ?_)
  intro e w3 hp
  obtain ⟨⟨a3, c3, rfl, hs3⟩, hb⟩ := hp.out
  have Hb3 := hid (ext_trans Hb2.out hb)
  have Hs3 := hid (Hs2.out.below hb)
  have Ht3 := hid hs3
  clear hp hb hs3 Hb2 Hs2 Ht2
  go_wp2_with (go_at_call 11; refine (told (addAll_any 0 0 0 a2 n c2 xs _ Hs3.out (by omega) (by omega) (by omega))).mono ?_)
  intro e w4 hp
  obtain ⟨rfl, hb⟩ := hp.out
  have Hb4 := hid (ext_trans Hb3.out hb)
  have Ht4 := hid (Ht3.out.below hb)
  clear hp hb Hb3 Hs3 Ht3
  rw [Int.zero_add]
  go_wp2_with (go_at_call 11; refine (told (addAll_any 0 0 0 a3 n1 c3 ys _ Ht4.out (by omega) (by omega) (by omega))).mono ?_)
  intro e w5 hp
  obtain ⟨rfl, hb⟩ := hp.out
  have Hb5 := hid (ext_trans Hb4.out hb)
  have Ht5 := hid (Ht4.out.below hb)
  clear hp hb Hb4 Ht4
  rw [Int.zero_add]
  go_wp2_with (go_at_call 12; refine (told (zzMerge_any n (sumW 0 xs) (maxF 0 xs) n1 (sumW 0 ys) (maxF 0 ys) _ (by omega) (by omega) (by omega) (by omega))).mono ?_)
  intro e w6 hp
  obtain ⟨rfl, hb⟩ := hp.out
  have Hb6 := hid (ext_trans Hb5.out hb)
  have Ht6 := hid (Ht5.out.below hb)
  clear hp hb Hb5 Ht5
  go_wp2_with (go_at_call 12; refine (told (zzMerge_any n1 (sumW 0 ys) (maxF 0 ys) n (sumW 0 xs) (maxF 0 xs) _ (by omega) (by omega) (by omega) (by omega))).mono ?_)
  intro e w7 hp
  obtain ⟨rfl, hb⟩ := hp.out
  have Hb7 := hid (ext_trans Hb6.out hb)
  have Ht7 := hid (Ht6.out.below hb)
  clear hp hb Hb6 Ht6
  go_wp2_with (go_at_call 11; refine (told (addAll_any n (sumW 0 xs) (maxF 0 xs) a3 n1 c3 ys _ Ht7.out (by omega) (by omega) (by omega))).mono ?_)
  intro e w8 hp
  obtain ⟨rfl, hb⟩ := hp.out
  have Hb8 := hid (ext_trans Hb7.out hb)
  clear hp hb Hb7 Ht7
  rw [sumW_merge, maxF_merge, Int.add_comm (n1 : Int) (n : Int), wrap_comm (sumW 0 ys) (sumW 0 xs), mx_comm (maxF 0 ys) (maxF 0 xs)]
  go_wp2
  go_ret
  exact ⟨by simp, Hb8.out⟩
end Go.Proofs.Qxb6003724a
