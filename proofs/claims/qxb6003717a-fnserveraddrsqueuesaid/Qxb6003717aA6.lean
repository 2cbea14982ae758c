import Derived.Test.Qxb6003717aA5
namespace Go.Proofs.Qxb6003717a
open Go.RowKit

/-- A slice of n slices of strings lies in memory at a. -/
structure Grid (w : World) (a : Option Addr) (n : Nat) (hs : List (List ByteArray)) : Prop where
  len : hs.length = n
  lim : n ≤ maxLen
  mem : n = 0 ∨ ∃ b off, a = some ⟨b, off, none⟩ ∧ ∀ i, i < n → ∃ ai ci, w.cell? ⟨b, off + i, none⟩ = some (.slice ai (hs.getD i []).length ci) ∧ Strs w ai (hs.getD i []).length (hs.getD i [])

theorem Grid.below {w w' : World} {a : Option Addr} {n : Nat} {hs : List (List ByteArray)} (h : Grid w a n hs) (hb : Below w.heap.size w w') : Grid w' a n hs := by
  refine ⟨h.len, h.lim, ?_⟩
  rcases h.mem with h0 | ⟨b, off, ha, hc⟩
  · exact .inl h0
  · refine .inr ⟨b, off, ha, fun i hi => ?_⟩
    obtain ⟨ai, ci, h1, h2⟩ := hc i hi
    exact ⟨ai, ci, by rw [hb.cell (World.block_lt_of_cell? _ _ h1)]; exact h1, h2.below hb⟩

theorem Grid.at_ {w : World} {a : Option Addr} {n : Nat} {hs : List (List ByteArray)} (h : Grid w a n hs) {k : Nat} (hk : k < n) :
    ∃ b off ai m ci ss, a = some ⟨b, off, none⟩ ∧ w.cell? ⟨b, off + k, none⟩ = some (.slice ai m ci) ∧ Strs w ai m ss ∧ hs[k]? = some ss ∧ ss ∈ hs ∧ b < w.heap.size := by
  rcases h.mem with h0 | ⟨b, off, ha, hc⟩
  · omega
  · have hl : k < hs.length := by have := h.len; omega
    obtain ⟨ai, ci, h1, h2⟩ := hc k hk
    have e : hs.getD k [] = hs[k] := by simp [List.getD_eq_getElem?_getD, List.getElem?_eq_getElem hl]
    rw [e] at h1 h2
    exact ⟨b, off, ai, _, ci, hs[k], ha, h1, h2, List.getElem?_eq_getElem hl, List.getElem_mem hl, World.block_lt_of_cell? _ _ h1⟩

theorem forall_take_succ {α : Type} {P : α → Prop} {l : List α} {k : Nat} {x : α} (hx : l[k]? = some x) (h : ∀ y ∈ l.take k, P y) (hp : P x) : ∀ y ∈ l.take (k + 1), P y := by
  rw [List.take_add_one, hx]
  intro y hy
  simp at hy
  rcases hy with hy | rfl
  · exact h y hy
  · exact hp
theorem forall_take_all {α : Type} {P : α → Prop} {l : List α} {k : Nat} (hk : l.length ≤ k) (h : ∀ y ∈ l.take k, P y) : ∀ y ∈ l, P y := by
  rwa [List.take_of_length_le hk] at h

/-- The call hands back a bool of which Q holds. -/
def RetB (e : Ending) (Q : Bool → Prop) : Prop := ∃ r, e = .returned (.bool r) ∧ Q r
theorem RetB.mk {Q : Bool → Prop} (r : Bool) (h : Q r) : RetB (.returned (.bool r)) Q := ⟨r, rfl, h⟩

set_option maxRecDepth 10000 in
set_option maxHeartbeats 1000000 in
theorem zzBytesHints_any (a : Option Addr) (n cap : Nat) (hs : List (List ByteArray)) (qa : Option Addr) (qn qc : Nat) (qs : List ByteArray) (w : World) (h : Grid w a n hs) (hq : Strs w qa qn qs) :
    Calls Try.prog 27 #[.slice a n cap, .slice qa qn qc] w fun e w' => RetB e (fun r => r = true → hs.length ≤ 1048576 ∧ (∀ ss ∈ hs, Small ss) ∧ Small qs) ∧ w' = w := by
  have hn := h.lim
  have hqn := hq.lim
  unfold maxLen at hn hqn
  by_cases hbig : 1048576 < n
  · go_enter Try.func27, Try.ntmps27
    go_wp2
    go_ret
    exact ⟨RetB.mk false (by simp), rfl⟩
  go_enter Try.func27, Try.ntmps27
  go_wp2
  go_loop [5, 6] (fun t i => ∃ k : Nat, k ≤ n ∧ i = .int .i64 k ∧ (∃ r : Int, t = .int .i64 r ∧ 0 ≤ r ∧ r ≤ 1048576) ∧ Hid (∀ ss ∈ hs.take k, Small ss)) (fun _ i => n - (intOf i).toNat)
  case atStart => exact ⟨0, Nat.zero_le _, rfl, ⟨_, rfl, by omega, by omega⟩, by simp [Hid]⟩
  case round =>
    obtain ⟨k, hk, rfl, ⟨r, rfl, hr0, hr1⟩, hsm⟩ := hrel
    by_cases hlt : k < n
    · obtain ⟨b, off, ai, m, ci, ss, rfl, hcell, hss, hat, hmem, hb⟩ := h.at_ hlt
      have Hat : Hid (hs[k]? = some ss) := hat
      have hm := hss.lim
      have Hm : Hid (ss.length = m) := hss.len
      unfold maxLen at hm
      clear hat hmem
      by_cases hm1 : 1048576 < m
      · go_wp2
        go_ret
        exact ⟨RetB.mk false (by simp), rfl⟩
      by_cases hm2 : 1048576 < r + (m : Int)
      · go_wp2
        go_ret
        exact ⟨RetB.mk false (by simp), rfl⟩
      go_wp2
      go_loop [5, 7] (fun t i => ∃ j : Nat, j ≤ m ∧ i = .int .i64 j ∧ (∃ r : Int, t = .int .i64 r ∧ 0 ≤ r ∧ r ≤ 1048576) ∧ Hid (∀ s ∈ ss.take j, s.size ≤ 1048576)) (fun _ i => m - (intOf i).toNat)
      case atStart => exact ⟨0, Nat.zero_le _, rfl, ⟨_, rfl, by omega, by omega⟩, by simp [Hid]⟩
      case round =>
        obtain ⟨j, hj, rfl, ⟨r2, rfl, hr20, hr21⟩, hsz⟩ := hrel
        by_cases hlt2 : j < m
        · obtain ⟨b2, off2, s, rfl, hcell2, hat2, hmem2, hb2⟩ := hss.at_ hlt2
          have Hat2 : Hid (ss[j]? = some s) := hat2
          have hls := hss.lims s hmem2
          unfold maxLen at hls
          clear hat2 hmem2
          by_cases hs1 : 1048576 < s.size
          · go_wp2
            go_ret
            exact ⟨RetB.mk false (by simp), rfl⟩
          by_cases hs2 : 1048576 < r2 + (s.size : Int)
          · go_wp2
            go_ret
            exact ⟨RetB.mk false (by simp), rfl⟩
          go_wp2
          go_round
          case rel => exact ⟨j + 1, by omega, by go_num, ⟨_, rfl, by omega, by omega⟩, forall_take_succ Hat2.out hsz.out (by omega)⟩
          case measure => simp [intOf]; omega
        · have Hok : Hid (Small ss) := ⟨by rw [Hm.out]; omega, forall_take_all (by rw [Hm.out]; omega) hsz.out⟩
          go_wp2
          go_round
          case rel => exact ⟨k + 1, by omega, by go_num, ⟨_, rfl, by omega, by omega⟩, forall_take_succ Hat.out hsm.out Hok.out⟩
          case measure => simp [intOf]; omega
    · have Hall : Hid (∀ ss ∈ hs, Small ss) := forall_take_all (by have := h.len; omega) hsm.out
      clear hsm
      by_cases hq1 : 1048576 < qn
      · go_wp2
        go_ret
        exact ⟨RetB.mk false (by simp), rfl⟩
      by_cases hq2 : 1048576 < r + (qn : Int)
      · go_wp2
        go_ret
        exact ⟨RetB.mk false (by simp), rfl⟩
      go_wp2
      go_loop [5, 8] (fun t i => ∃ j : Nat, j ≤ qn ∧ i = .int .i64 j ∧ (∃ r : Int, t = .int .i64 r ∧ 0 ≤ r ∧ r ≤ 1048576) ∧ Hid (∀ s ∈ qs.take j, s.size ≤ 1048576)) (fun _ i => qn - (intOf i).toNat)
      case atStart => exact ⟨0, Nat.zero_le _, rfl, ⟨_, rfl, by omega, by omega⟩, by simp [Hid]⟩
      case round =>
        obtain ⟨j, hj, rfl, ⟨r2, rfl, hr20, hr21⟩, hsz⟩ := hrel
        by_cases hlt2 : j < qn
        · obtain ⟨b2, off2, s, rfl, hcell2, hat2, hmem2, hb2⟩ := hq.at_ hlt2
          have Hat2 : Hid (qs[j]? = some s) := hat2
          have hls := hq.lims s hmem2
          unfold maxLen at hls
          clear hat2 hmem2
          by_cases hs1 : 1048576 < s.size
          · go_wp2
            go_ret
            exact ⟨RetB.mk false (by simp), rfl⟩
          by_cases hs2 : 1048576 < r2 + (s.size : Int)
          · go_wp2
            go_ret
            exact ⟨RetB.mk false (by simp), rfl⟩
          go_wp2
          go_round
          case rel => exact ⟨j + 1, by omega, by go_num, ⟨_, rfl, by omega, by omega⟩, forall_take_succ Hat2.out hsz.out (by omega)⟩
          case measure => simp [intOf]; omega
        · have Hok : Hid (Small qs) := ⟨by rw [hq.len]; omega, forall_take_all (by rw [hq.len]; omega) hsz.out⟩
          go_wp2
          go_ret
          exact ⟨RetB.mk true (fun _ => ⟨by rw [h.len]; omega, Hall.out, Hok.out⟩), rfl⟩
end Go.Proofs.Qxb6003717a
