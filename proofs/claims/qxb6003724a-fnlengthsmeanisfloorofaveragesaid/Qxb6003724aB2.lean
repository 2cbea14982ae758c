import Derived.Test.Qxb6003724aP2
namespace Go.Proofs.Qxb6003724a
open Go.RowKit

/-- A slice of n int64 at a, the numbers xs. -/
structure Ints (w : World) (a : Option Addr) (n : Nat) (xs : List Int) : Prop where
  len : xs.length = n
  lim : n ≤ maxLen
  mem : n = 0 ∨ ∃ b off, a = some ⟨b, off, none⟩ ∧ ∀ i x, xs[i]? = some x → w.cell? ⟨b, off + i, none⟩ = some (.int .i64 x)
theorem Ints.at_ {w : World} {a : Option Addr} {n : Nat} {xs : List Int} (h : Ints w a n xs) {k : Nat} (hk : k < n) : ∃ b off x, a = some ⟨b, off, none⟩ ∧ w.cell? ⟨b, off + k, none⟩ = some (.int .i64 x) ∧ xs[k]? = some x ∧ b < w.heap.size := by
  rcases h.mem with h0 | ⟨b, off, ha, hc⟩
  · omega
  · have hx : xs[k]? = some (xs[k]'(by have := h.len; omega)) := List.getElem?_eq_getElem _
    exact ⟨b, off, _, ha, hc k _ hx, hx, World.block_lt_of_cell? _ _ (hc k _ hx)⟩
theorem Ints.below {w w' : World} {a : Option Addr} {n : Nat} {xs : List Int} (h : Ints w a n xs) (hb : Below w.heap.size w w') : Ints w' a n xs := by
  refine ⟨h.len, h.lim, ?_⟩
  rcases h.mem with h0 | ⟨b, off, ha, hc⟩
  · exact .inl h0
  · refine .inr ⟨b, off, ha, fun i x hx => ?_⟩
    have := hc i x hx
    rw [hb.cell (by exact World.block_lt_of_cell? _ _ this)]
    exact this
theorem ext_trans {w w1 w2 : World} (h1 : Below w.heap.size w w1) (h2 : Below w1.heap.size w1 w2) : Below w.heap.size w w2 := h1.trans (h2.mono h1.size)
theorem take_succ_at {xs : List Int} {k : Nat} {x : Int} (h : xs[k]? = some x) : xs.take (k + 1) = xs.take k ++ [x] := by rw [List.take_add_one, h]; rfl

set_option maxRecDepth 100000 in
set_option maxHeartbeats 400000 in
theorem addAll_any (n0 s m : Int) (a : Option Addr) (n cap : Nat) (xs : List Int) (w : World) (h : Ints w a n xs) (hn : 0 ≤ n0) (hn1 : n0 ≤ 65536) (hl : n ≤ 65536) :
    Calls Try.prog 11 #[.int .i64 n0, .int .i64 s, .int .i64 m, .slice a n cap] w fun e w' => e = .returned (.tuple #[.int .i64 (n0 + n), .int .i64 (sumW s xs), .int .i64 (maxF m xs)]) ∧ Below w.heap.size w w' := by
  have H := hid h
  clear h
  go_enter Try.func11, Try.ntmps11
  go_wp2
  go_loopw [0, 1, 2, 11] (fun t u v i wr => ∃ k : Nat, k ≤ n ∧ i = .int .i64 k ∧ t = .int .i64 (n0 + k) ∧ u = .int .i64 (sumW s (xs.take k)) ∧ v = .int .i64 (maxF m (xs.take k)) ∧ Hid (Below w.heap.size w wr)) (fun _ _ _ i _ => n - (intOf i).toNat)
  case atStart => exact ⟨0, Nat.zero_le _, rfl, by simp, rfl, rfl, Below.refl _ _⟩
  case round =>
    obtain ⟨k, hk, rfl, rfl, rfl, rfl, hbel⟩ := hrel
    by_cases hlt : k < n
    · obtain ⟨b, off, x, rfl, hc, hx, hb⟩ := (H.out.below hbel.out).at_ hlt
      have Ht := hid (take_succ_at hx)
      clear hx
      have hk0 : (0 : Int) ≤ (k : Int) := by omega
      have hk1 : (k : Int) < (n : Int) := by omega
      go_wp2_with (go_at_call 17; refine (told (zzAdd_any (n0 + k) (sumW s (xs.take k)) (maxF m (xs.take k)) x _ (by omega) (by omega))).mono ?_)
      intro e w1 hp
      obtain ⟨rfl, hb1⟩ := hp.out
      have Hb1 := hid (ext_trans hbel.out hb1)
      clear hp hb1
      go_wp2
      go_roundw
      case rel => exact ⟨k + 1, by omega, by go_num, by go_num, by rw [Ht.out, sumW_snoc], by rw [Ht.out, maxF_snoc], Hb1⟩
      case measure => simp [intOf]; omega
    · have hkn : k = n := by omega
      subst hkn
      have ht : xs.take k = xs := List.take_of_length_le (by have := H.out.len; omega)
      rw [ht]
      clear ht
      go_wp2
      exact bodyPost_ret (v := .tuple #[.int .i64 (n0 + k), .int .i64 (sumW s xs), .int .i64 (maxF m xs)]) (by simp [results, Try.results11, go_sem]) rfl ⟨rfl, hbel.out⟩
end Go.Proofs.Qxb6003724a
