import Derived.Test.Qxb6003717aA2
namespace Go.Proofs.Qxb6003717a
open Go.RowKit

/-- A slice of n strings ss lies in memory at a. -/
structure Strs (w : World) (a : Option Addr) (n : Nat) (ss : List ByteArray) : Prop where
  len : ss.length = n
  lim : n ≤ maxLen
  lims : ∀ s ∈ ss, s.size ≤ maxLen
  mem : n = 0 ∨ ∃ b off, a = some ⟨b, off, none⟩ ∧ ∀ i, i < n → w.cell? ⟨b, off + i, none⟩ = some (.string (ss.getD i ByteArray.empty))

theorem Strs.below {w w' : World} {a : Option Addr} {n : Nat} {ss : List ByteArray} (h : Strs w a n ss) (hb : Below w.heap.size w w') : Strs w' a n ss := by
  refine ⟨h.len, h.lim, h.lims, ?_⟩
  rcases h.mem with h0 | ⟨b, off, ha, hc⟩
  · exact .inl h0
  · refine .inr ⟨b, off, ha, fun i hi => ?_⟩
    rw [hb.cell (World.block_lt_of_cell? _ _ (hc i hi))]
    exact hc i hi

/-- The k-th string, as the walk wants it. -/
theorem Strs.at_ {w : World} {a : Option Addr} {n : Nat} {ss : List ByteArray} (h : Strs w a n ss) {k : Nat} (hk : k < n) :
    ∃ b off s, a = some ⟨b, off, none⟩ ∧ w.cell? ⟨b, off + k, none⟩ = some (.string s) ∧ ss[k]? = some s ∧ s ∈ ss ∧ b < w.heap.size := by
  rcases h.mem with h0 | ⟨b, off, ha, hc⟩
  · omega
  · have hl : k < ss.length := by have := h.len; omega
    refine ⟨b, off, ss[k], ha, ?_, List.getElem?_eq_getElem hl, List.getElem_mem hl, World.block_lt_of_cell? _ _ (hc k hk)⟩
    rw [hc k hk, List.getD_eq_getElem?_getD, List.getElem?_eq_getElem hl]
    rfl

def Small (ss : List ByteArray) : Prop := ss.length ≤ 1048576 ∧ ∀ s ∈ ss, s.size ≤ 1048576

set_option maxHeartbeats 400000 in
theorem zzLabelBytes_any (a : Option Addr) (n cap : Nat) (ss : List ByteArray) (w : World) (h : Strs w a n ss) (hsm : Small ss) :
    Calls Try.prog 8 #[.slice a n cap] w fun e w' => (∃ r : Int, e = .returned (.int .i64 r) ∧ 0 ≤ r ∧ r ≤ 1048577) ∧ w' = w := by
  have hn : n ≤ 1048576 := by have := hsm.1; have := h.len; omega
  go_enter Try.func8, Try.ntmps8
  go_wp2
  go_loop [3, 4] (fun t i => ∃ k : Nat, k ≤ n ∧ i = .int .i64 k ∧ ∃ r : Int, t = .int .i64 r ∧ 0 ≤ r ∧ r ≤ 1048576) (fun _ i => n - (intOf i).toNat)
  case atStart => exact ⟨0, Nat.zero_le _, rfl, 24, rfl, by omega, by omega⟩
  case round =>
    obtain ⟨k, hk, rfl, r, rfl, hr0, hr1⟩ := hrel
    by_cases hlt : k < n
    · obtain ⟨b, off, s, rfl, hcell, hs, hmem, hb⟩ := h.at_ hlt
      have hsz := hsm.2 s hmem
      clear hs hmem
      by_cases hgt : 1048576 < r + (16 + (s.size : Int))
      · go_wp2
        go_ret
        exact ⟨⟨_, rfl, by omega, by omega⟩, rfl⟩
      · go_wp2
        go_round
        case rel => exact ⟨k + 1, by omega, by go_num, _, rfl, by omega, by omega⟩
        case measure => simp [intOf]; omega
    · go_wp2
      go_ret
      exact ⟨⟨_, rfl, by omega, by omega⟩, rfl⟩
end Go.Proofs.Qxb6003717a
