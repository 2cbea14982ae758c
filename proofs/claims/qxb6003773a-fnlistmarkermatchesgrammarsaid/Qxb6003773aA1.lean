import Derived.Test.Qxb6003773aRows
import Derived.WalkKit
import Derived.WalkSpells
import Derived.WalkLawsBesides
import Derived.Deep.QuietTactic
import Derived.BigQuiet
import Derived.Laws.CopyOwn
import Derived.Deep.OwnRows
namespace Go.Proofs.Qxb6003773a
open Go.RowKit

theorem hid {p : Prop} (h : p) : Hid p := h
/-- A contract whose post the walk's simp leaves as it is. -/
theorem told {P : Program} {f : FuncId} {args : Array Value} {w : World} {Q : Ending → World → Prop} (h : Calls P f args w Q) : Calls P f args w fun e w' => Hid (Q e w') := h

def blank (x : Int) : Bool := x == 32 || x == 9
def dig (x : Int) : Bool := decide (48 ≤ x) && decide (x ≤ 57)

/-- A slice of n bytes at a, the numbers xs. -/
structure Bts (w : World) (a : Option Addr) (n : Nat) (xs : List Int) : Prop where
  len : xs.length = n
  lim : n ≤ maxLen
  rng : ∀ x ∈ xs, 0 ≤ x ∧ x ≤ 255
  mem : n = 0 ∨ ∃ b off, a = some ⟨b, off, none⟩ ∧ ∀ i x, xs[i]? = some x → w.cell? ⟨b, off + i, none⟩ = some (.int .u8 x)
theorem Bts.at_ {w : World} {a : Option Addr} {n : Nat} {xs : List Int} (h : Bts w a n xs) {k : Nat} (hk : k < n) : ∃ b off x, a = some ⟨b, off, none⟩ ∧ w.cell? ⟨b, off + k, none⟩ = some (.int .u8 x) ∧ xs[k]? = some x ∧ 0 ≤ x ∧ x ≤ 255 := by
  rcases h.mem with h0 | ⟨b, off, ha, hc⟩
  · omega
  · have hx : xs[k]? = some (xs[k]'(by have := h.len; omega)) := List.getElem?_eq_getElem _
    exact ⟨b, off, _, ha, hc k _ hx, hx, (h.rng _ (List.mem_of_getElem? hx)).1, (h.rng _ (List.mem_of_getElem? hx)).2⟩

set_option maxRecDepth 100000 in
set_option maxHeartbeats 400000 in
theorem zzBlank_any (x : Int) (w : World) : Calls Try.prog 9 #[.int .u8 x] w fun e w' => e = .returned (.bool (blank x)) ∧ w' = w := by
  by_cases h : x = 32
  · subst h
    go_enter Try.func9, Try.ntmps9
    go_wp2
    go_ret
    exact ⟨rfl, rfl⟩
  · have hb : (x == 32) = false := by simpa using h
    have Hb : Hid (blank x = (x == 9)) := by show _ = _; unfold blank; rw [hb]; rfl
    go_enter Try.func9, Try.ntmps9
    go_wp2
    go_ret
    exact ⟨by rw [Hb.out]; rfl, rfl⟩

set_option maxRecDepth 100000 in
set_option maxHeartbeats 400000 in
theorem isBlank_any (x : Int) (w : World) : Calls Try.prog 13 #[.int .i32 x] w fun e w' => e = .returned (.bool (blank x)) ∧ w' = w := by
  by_cases h : x = 32
  · subst h
    go_enter Try.func13, Try.ntmps13
    go_wp2
    go_ret
    exact ⟨rfl, rfl⟩
  · have hb : (x == 32) = false := by simpa using h
    have Hb : Hid (blank x = (x == 9)) := by show _ = _; unfold blank; rw [hb]; rfl
    go_enter Try.func13, Try.ntmps13
    go_wp2
    go_ret
    exact ⟨by rw [Hb.out]; rfl, rfl⟩

set_option maxRecDepth 100000 in
set_option maxHeartbeats 400000 in
theorem isDigit_any (x : Int) (w : World) : Calls Try.prog 12 #[.int .u8 x] w fun e w' => e = .returned (.bool (dig x)) ∧ w' = w := by
  by_cases h : 48 ≤ x
  · have Hb : Hid (dig x = decide (x ≤ 57)) := by show _ = _; unfold dig; rw [decide_eq_true h]; rfl
    go_enter Try.func12, Try.ntmps12
    go_wp2
    go_ret
    exact ⟨by rw [Hb.out]; rfl, rfl⟩
  · have Hb : Hid (dig x = false) := by show _ = _; unfold dig; rw [decide_eq_false h]; rfl
    go_enter Try.func12, Try.ntmps12
    go_wp2
    go_ret
    exact ⟨by rw [Hb.out]; rfl, rfl⟩

theorem all_drop {xs : List Int} {k : Nat} {x : Int} (p : Int → Bool) (h : xs[k]? = some x) : (xs.drop k).all p = (p x && (xs.drop (k + 1)).all p) := by
  obtain ⟨hk, e⟩ := List.getElem?_eq_some_iff.1 h
  rw [List.drop_eq_getElem_cons hk, e]; simp

set_option maxRecDepth 100000 in
set_option maxHeartbeats 400000 in
theorem allBlank_any (a : Option Addr) (n cap : Nat) (xs : List Int) (w : World) (h : Bts w a n xs) (hn : n ≤ 1048576) : Calls Try.prog 10 #[.slice a n cap] w fun e w' => e = .returned (.bool (xs.all blank)) ∧ w' = w := by
  have H := hid h
  clear h
  go_enter Try.func10, Try.ntmps10
  go_wp2
  go_loopw [3] (fun i wr => ∃ k : Nat, k ≤ n ∧ i = .int .i64 k ∧ Hid (xs.all blank = (xs.drop k).all blank) ∧ wr = w) (fun i _ => n - (intOf i).toNat)
  case atStart => exact ⟨0, Nat.zero_le _, rfl, rfl, rfl⟩
  case round =>
    obtain ⟨k, hk, rfl, he, rfl⟩ := hrel
    by_cases hlt : k < n
    · obtain ⟨b, off, x, rfl, hc, hx, h0, h1⟩ := H.out.at_ hlt
      have He : Hid (xs.all blank = (blank x && (xs.drop (k + 1)).all blank)) := by show _ = _; rw [he.out, all_drop _ hx]
      clear he hx
      have hk0 : (0 : Int) ≤ (k : Int) := by omega
      have hk1 : (k : Int) < (n : Int) := by omega
      go_wp2_with (go_at_call 9; refine (told (zzBlank_any x _)).mono ?_)
      intro e w1 hp
      obtain ⟨rfl, rfl⟩ := hp.out
      clear hp
      cases hb : blank x with
      | false =>
        have Hf : Hid (xs.all blank = false) := by show _ = _; rw [He.out, hb]; rfl
        clear He
        go_wp2
        go_ret
        exact ⟨by rw [Hf.out]; rfl, rfl⟩
      | true =>
        have Hf : Hid (xs.all blank = (xs.drop (k + 1)).all blank) := by show _ = _; rw [He.out, hb]; rfl
        clear He
        go_wp2
        go_roundw
        case rel => exact ⟨k + 1, by omega, by go_num, Hf, by first | rfl | trivial⟩
        case measure => simp [intOf]; omega
    · have Hf : Hid (xs.all blank = true) := by show _ = _; rw [he.out, List.drop_eq_nil_of_le (by rw [H.out.len]; omega)]; rfl
      clear he
      go_wp2
      go_ret
      exact ⟨by rw [Hf.out]; rfl, rfl⟩
end Go.Proofs.Qxb6003773a
