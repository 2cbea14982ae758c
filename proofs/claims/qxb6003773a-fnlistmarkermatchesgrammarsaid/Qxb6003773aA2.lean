import Derived.Test.Qxb6003773aA1
namespace Go.Proofs.Qxb6003773a
open Go.RowKit

set_option maxRecDepth 100000 in
set_option maxHeartbeats 400000 in
theorem blankLine_any (a : Option Addr) (n cap : Nat) (xs : List Int) (w : World) (h : Bts w a n xs) (hn : n ≤ 1048576) : Calls Try.prog 14 #[.slice a n cap] w fun e w' => e = .returned (.bool (xs.all blank)) ∧ w' = w := by
  have H := hid h
  clear h
  go_enter Try.func14, Try.ntmps14
  go_wp2
  go_loopw [7] (fun i wr => ∃ k : Nat, k ≤ n ∧ i = .int .i64 k ∧ Hid (xs.all blank = (xs.drop k).all blank) ∧ wr = w) (fun i _ => n - (intOf i).toNat)
  case atStart => exact ⟨0, Nat.zero_le _, rfl, rfl, rfl⟩
  case round =>
    obtain ⟨k, hk, rfl, he, rfl⟩ := hrel
    by_cases hlt : k < n
    · obtain ⟨b, off, x, rfl, hc, hx, h0, h1⟩ := H.out.at_ hlt
      have He : Hid (xs.all blank = (blank x && (xs.drop (k + 1)).all blank)) := by show _ = _; rw [he.out, all_drop _ hx]
      clear he hx
      have hk0 : (0 : Int) ≤ (k : Int) := by omega
      have hk1 : (k : Int) < (n : Int) := by omega
      by_cases h32 : x = 32
      · subst h32
        have Hf : Hid (xs.all blank = (xs.drop (k + 1)).all blank) := by show _ = _; rw [He.out]; rfl
        clear He
        go_wp2
        go_roundw
        case rel => exact ⟨k + 1, by omega, by go_num, Hf, by first | rfl | trivial⟩
        case measure => simp [intOf]; omega
      have b32 : (x == 32) = false := by simpa using h32
      by_cases h9 : x = 9
      · subst h9
        have Hf : Hid (xs.all blank = (xs.drop (k + 1)).all blank) := by show _ = _; rw [He.out]; rfl
        clear He
        go_wp2
        go_roundw
        case rel => exact ⟨k + 1, by omega, by go_num, Hf, by first | rfl | trivial⟩
        case measure => simp [intOf]; omega
      · have b9 : (x == 9) = false := by simpa using h9
        have Hf : Hid (xs.all blank = false) := by show _ = _; rw [He.out]; unfold blank; rw [b32, b9]; rfl
        have n32 : (x != 32) = true := by simpa using h32
        have n9 : (x != 9) = true := by simpa using h9
        clear He
        go_wp2
        go_ret
        exact ⟨by rw [Hf.out]; rfl, rfl⟩
    · have Hf : Hid (xs.all blank = true) := by show _ = _; rw [he.out, List.drop_eq_nil_of_le (by rw [H.out.len]; omega)]; rfl
      clear he
      go_wp2
      go_ret
      exact ⟨by rw [Hf.out]; rfl, rfl⟩

/-- Leading zeros, then a single 1. -/
def sayOne (xs : List Int) : Bool := decide (xs.dropWhile (fun x => x == 48) = [49])
theorem sayOne_zero {xs : List Int} {k : Nat} (h : xs[k]? = some 48) : sayOne (xs.drop k) = sayOne (xs.drop (k + 1)) := by
  obtain ⟨hk, e⟩ := List.getElem?_eq_some_iff.1 h
  rw [List.drop_eq_getElem_cons hk, e]; rfl
theorem sayOne_stop {xs : List Int} {k : Nat} {x : Int} (h : xs[k]? = some x) (hx : x ≠ 48) : sayOne (xs.drop k) = (decide ((xs.length : Int) - k = 1) && x == 49) := by
  obtain ⟨hk, e⟩ := List.getElem?_eq_some_iff.1 h
  rw [List.drop_eq_getElem_cons hk, e]
  unfold sayOne
  rw [List.dropWhile_cons_of_neg (by simpa using hx)]
  by_cases h1 : (xs.length : Int) - k = 1
  · have : xs.drop (k + 1) = [] := List.drop_eq_nil_of_le (by omega)
    rw [this, decide_eq_true h1]
    by_cases h2 : x = 49
    · subst h2; rfl
    · simp [h2]
  · have : xs.drop (k + 1) ≠ [] := by
      intro hh
      have := List.drop_eq_nil_iff.1 hh
      omega
    rw [decide_eq_false h1]
    simp [this]

set_option maxRecDepth 100000 in
set_option maxHeartbeats 400000 in
theorem sayOne_any (a : Option Addr) (n cap : Nat) (xs : List Int) (w : World) (h : Bts w a n xs) (hn : n ≤ 1048576) : Calls Try.prog 8 #[.slice a n cap] w fun e w' => e = .returned (.bool (sayOne xs)) ∧ w' = w := by
  have H := hid h
  have hlen := h.len
  clear h
  go_enter Try.func8, Try.ntmps8
  go_wp2
  go_loopw [3] (fun i wr => ∃ k : Nat, k ≤ n ∧ i = .int .i64 k ∧ Hid (sayOne xs = sayOne (xs.drop k)) ∧ wr = w) (fun i _ => n - (intOf i).toNat)
  case atStart => exact ⟨0, Nat.zero_le _, rfl, rfl, rfl⟩
  case round =>
    obtain ⟨k, hk, rfl, he, rfl⟩ := hrel
    by_cases hlt : k < n
    · obtain ⟨b, off, x, rfl, hc, hx, h0, h1⟩ := H.out.at_ hlt
      have hk0 : (0 : Int) ≤ (k : Int) := by omega
      have hk1 : (k : Int) < (n : Int) := by omega
      by_cases h48 : x = 48
      · subst h48
        have Hf : Hid (sayOne xs = sayOne (xs.drop (k + 1))) := by show _ = _; rw [he.out, sayOne_zero hx]
        clear he hx
        go_wp2
        go_roundw
        case rel => exact ⟨k + 1, by omega, by go_num, Hf, by first | rfl | trivial⟩
        case measure => simp [intOf]; omega
      · have b48 : (x == 48) = false := by simpa using h48
        have Hf : Hid (sayOne xs = (decide ((n : Int) - k = 1) && x == 49)) := by show _ = _; rw [he.out, sayOne_stop hx h48, hlen]
        clear he hx
        by_cases h1' : (n : Int) - k = 1
        · have Hg : Hid (sayOne xs = (x == 49)) := by show _ = _; rw [Hf.out, decide_eq_true h1']; rfl
          clear Hf
          go_wp2
          go_ret
          exact ⟨by rw [Hg.out]; rfl, rfl⟩
        · have Hg : Hid (sayOne xs = false) := by show _ = _; rw [Hf.out, decide_eq_false h1']; rfl
          have hbf : ((n : Int) - k == 1) = false := by simpa using h1'
          clear Hf
          go_wp2
          go_ret
          exact ⟨by rw [Hg.out]; rfl, rfl⟩
    · have hkn : k = n := by omega
      subst hkn
      have Hg : Hid (sayOne xs = false) := by show _ = _; rw [he.out, List.drop_eq_nil_of_le (by omega)]; rfl
      clear he
      go_wp2
      go_ret
      exact ⟨by rw [Hg.out]; rfl, rfl⟩
end Go.Proofs.Qxb6003773a
