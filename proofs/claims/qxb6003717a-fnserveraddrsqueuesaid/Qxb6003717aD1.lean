import Derived.Test.Qxb6003717aC4
namespace Go.Proofs.Qxb6003717a
open Go.RowKit

/-- A slice of n ZZServer lies in memory at a. -/
structure Srvs (w : World) (a : Option Addr) (n : Nat) (sv : List (List ByteArray × Int)) : Prop where
  len : sv.length = n
  lim : n ≤ maxLen
  nums : ∀ x ∈ sv, -9223372036854775808 ≤ x.2 ∧ x.2 ≤ 9223372036854775807
  mem : n = 0 ∨ ∃ b off, a = some ⟨b, off, none⟩ ∧ ∀ i x, sv[i]? = some x → ∃ ai ci, w.cell? ⟨b, off + i * 2, none⟩ = some (.slice ai x.1.length ci) ∧ w.cell? ⟨b, off + i * 2 + 1, none⟩ = some (.int .i64 x.2) ∧ Strs w ai x.1.length x.1

def AllSmall (sv : List (List ByteArray × Int)) : Prop := ∀ x ∈ sv, Small x.1

theorem Srvs.below {w w' : World} {a : Option Addr} {n : Nat} {sv : List (List ByteArray × Int)} (h : Srvs w a n sv) (hb : Below w.heap.size w w') : Srvs w' a n sv := by
  refine ⟨h.len, h.lim, h.nums, ?_⟩
  rcases h.mem with h0 | ⟨b, off, ha, hc⟩
  · exact .inl h0
  · refine .inr ⟨b, off, ha, fun i x hi => ?_⟩
    obtain ⟨ai, ci, h1, h2, h3⟩ := hc i x hi
    exact ⟨ai, ci, cell_below h1 hb, cell_below h2 hb, h3.below hb⟩

theorem Srvs.at_ {w : World} {a : Option Addr} {n : Nat} {sv : List (List ByteArray × Int)} (h : Srvs w a n sv) {k : Nat} (hk : k < n) :
    ∃ b off ai m ci ss g, a = some ⟨b, off, none⟩ ∧ w.cell? ⟨b, off + k * 2, none⟩ = some (.slice ai m ci) ∧ w.cell? ⟨b, off + k * 2 + 1, none⟩ = some (.int .i64 g) ∧ Strs w ai m ss ∧ sv[k]? = some (ss, g) ∧ (ss, g) ∈ sv ∧ b < w.heap.size ∧ -9223372036854775808 ≤ g ∧ g ≤ 9223372036854775807 := by
  rcases h.mem with h0 | ⟨b, off, ha, hc⟩
  · omega
  · have hl : k < sv.length := by have := h.len; omega
    have hx : sv[k]? = some sv[k] := List.getElem?_eq_getElem hl
    obtain ⟨ai, ci, h1, h2, h3⟩ := hc k _ hx
    have hm : sv[k] ∈ sv := List.getElem_mem hl
    exact ⟨b, off, ai, _, ci, _, _, ha, h1, h2, h3, hx, hm, World.block_lt_of_cell? _ _ h1, (h.nums _ hm).1, (h.nums _ hm).2⟩

set_option maxRecDepth 10000 in
set_option maxHeartbeats 1000000 in
theorem zzBytesWith_any (a : Option Addr) (n cap : Nat) (sv : List (List ByteArray × Int)) (qa : Option Addr) (qn qc : Nat) (qs : List ByteArray) (w : World) (h : Srvs w a n sv) (hq : Strs w qa qn qs) :
    Calls Try.prog 14 #[.slice a n cap, .slice qa qn qc] w fun e w' => RetB e (fun r => r = true → sv.length ≤ 1048576 ∧ AllSmall sv ∧ Small qs) ∧ w' = w := by
  have hn := h.lim
  have hqn := hq.lim
  unfold maxLen at hn hqn
  by_cases hbig : 1048576 < n
  · go_enter Try.func14, Try.ntmps14
    go_wp2
    go_ret
    exact ⟨RetB.mk false (by simp), rfl⟩
  go_enter Try.func14, Try.ntmps14
  go_wp2
  go_loop [5, 6] (fun t i => ∃ k : Nat, k ≤ n ∧ i = .int .i64 k ∧ (∃ r : Int, t = .int .i64 r ∧ 0 ≤ r ∧ r ≤ 1048576) ∧ Hid (∀ x ∈ sv.take k, Small x.1)) (fun _ i => n - (intOf i).toNat)
  case atStart => exact ⟨0, Nat.zero_le _, rfl, ⟨_, rfl, by omega, by omega⟩, by simp [Hid]⟩
  case round =>
    obtain ⟨k, hk, rfl, ⟨r, rfl, hr0, hr1⟩, hsm⟩ := hrel
    by_cases hlt : k < n
    · obtain ⟨b, off, ai, m, ci, ss, g, rfl, hcell, hcg, hss, hat, hmem, hb, hg0, hg1⟩ := h.at_ hlt
      have Hat : Hid (sv[k]? = some (ss, g)) := hat
      have hm := hss.lim
      have Hm : Hid (ss.length = m) := hss.len
      unfold maxLen at hm
      clear hat hmem
      by_cases hm1 : 1048576 < m
      · go_wp2
        go_ret
        exact ⟨RetB.mk false (by simp), rfl⟩
      by_cases hm2 : 1048576 < r + (m : Int)
      · go_wp2
        go_ret
        exact ⟨RetB.mk false (by simp), rfl⟩
      go_wp2
      go_loop [5, 7] (fun t i => ∃ j : Nat, j ≤ m ∧ i = .int .i64 j ∧ (∃ r : Int, t = .int .i64 r ∧ 0 ≤ r ∧ r ≤ 1048576) ∧ Hid (∀ s ∈ ss.take j, s.size ≤ 1048576)) (fun _ i => m - (intOf i).toNat)
      case atStart => exact ⟨0, Nat.zero_le _, rfl, ⟨_, rfl, by omega, by omega⟩, by simp [Hid]⟩
      case round =>
        obtain ⟨j, hj, rfl, ⟨r2, rfl, hr20, hr21⟩, hsz⟩ := hrel
        by_cases hlt2 : j < m
        · obtain ⟨b2, off2, s, rfl, hcell2, hat2, hmem2, hb2⟩ := hss.at_ hlt2
          have Hat2 : Hid (ss[j]? = some s) := hat2
          have hls := hss.lims s hmem2
          unfold maxLen at hls
          clear hat2 hmem2
          by_cases hs1 : 1048576 < s.size
          · go_wp2
            go_ret
            exact ⟨RetB.mk false (by simp), rfl⟩
          by_cases hs2 : 1048576 < r2 + (s.size : Int)
          · go_wp2
            go_ret
            exact ⟨RetB.mk false (by simp), rfl⟩
          go_wp2
          go_round
          case rel => exact ⟨j + 1, by omega, by go_num, ⟨_, rfl, by omega, by omega⟩, forall_take_succ Hat2.out hsz.out (by omega)⟩
          case measure => simp [intOf]; omega
        · have Hok : Hid (Small ss) := ⟨by rw [Hm.out]; omega, forall_take_all (by rw [Hm.out]; omega) hsz.out⟩
          go_wp2
          go_round
          case rel => exact ⟨k + 1, by omega, by go_num, ⟨_, rfl, by omega, by omega⟩, forall_take_succ (P := fun (x : List ByteArray × Int) => Small x.1) Hat.out hsm.out Hok.out⟩
          case measure => simp [intOf]; omega
    · have Hall : Hid (∀ x ∈ sv, Small x.1) := forall_take_all (by have := h.len; omega) hsm.out
      clear hsm
      by_cases hq1 : 1048576 < qn
      · go_wp2
        go_ret
        exact ⟨RetB.mk false (by simp), rfl⟩
      by_cases hq2 : 1048576 < r + (qn : Int)
      · go_wp2
        go_ret
        exact ⟨RetB.mk false (by simp), rfl⟩
      go_wp2
      go_loop [5, 8] (fun t i => ∃ j : Nat, j ≤ qn ∧ i = .int .i64 j ∧ (∃ r : Int, t = .int .i64 r ∧ 0 ≤ r ∧ r ≤ 1048576) ∧ Hid (∀ s ∈ qs.take j, s.size ≤ 1048576)) (fun _ i => qn - (intOf i).toNat)
      case atStart => exact ⟨0, Nat.zero_le _, rfl, ⟨_, rfl, by omega, by omega⟩, by simp [Hid]⟩
      case round =>
        obtain ⟨j, hj, rfl, ⟨r2, rfl, hr20, hr21⟩, hsz⟩ := hrel
        by_cases hlt2 : j < qn
        · obtain ⟨b2, off2, s, rfl, hcell2, hat2, hmem2, hb2⟩ := hq.at_ hlt2
          have Hat2 : Hid (qs[j]? = some s) := hat2
          have hls := hq.lims s hmem2
          unfold maxLen at hls
          clear hat2 hmem2
          by_cases hs1 : 1048576 < s.size
          · go_wp2
            go_ret
            exact ⟨RetB.mk false (by simp), rfl⟩
          by_cases hs2 : 1048576 < r2 + (s.size : Int)
          · go_wp2
            go_ret
            exact ⟨RetB.mk false (by simp), rfl⟩
          go_wp2
          go_round
          case rel => exact ⟨j + 1, by omega, by go_num, ⟨_, rfl, by omega, by omega⟩, forall_take_succ Hat2.out hsz.out (by omega)⟩
          case measure => simp [intOf]; omega
        · have Hok : Hid (Small qs) := ⟨by rw [hq.len]; omega, forall_take_all (by rw [hq.len]; omega) hsz.out⟩
          go_wp2
          go_ret
          exact ⟨RetB.mk true (fun _ => ⟨by rw [h.len]; omega, Hall.out, Hok.out⟩), rfl⟩

set_option maxRecDepth 10000 in
set_option maxHeartbeats 1000000 in
theorem zzBytesQueue_any (a : Option Addr) (n cap : Nat) (sv : List (List ByteArray × Int)) (ex : Int) (w : World) (h : Srvs w a n sv) :
    Calls Try.prog 20 #[.slice a n cap, .int .i64 ex] w fun e w' => RetB e (fun r => r = true → sv.length ≤ 1048576 ∧ AllSmall sv) ∧ w' = w := by
  have hn := h.lim
  unfold maxLen at hn
  by_cases hbig : 1048576 < n
  · go_enter Try.func20, Try.ntmps20
    go_wp2
    go_ret
    exact ⟨RetB.mk false (by simp), rfl⟩
  go_enter Try.func20, Try.ntmps20
  go_wp2
  go_loop [5, 6] (fun t i => ∃ k : Nat, k ≤ n ∧ i = .int .i64 k ∧ (∃ r : Int, t = .int .i64 r ∧ 0 ≤ r ∧ r ≤ 1048576) ∧ Hid (∀ x ∈ sv.take k, Small x.1)) (fun _ i => n - (intOf i).toNat)
  case atStart => exact ⟨0, Nat.zero_le _, rfl, ⟨_, rfl, by omega, by omega⟩, by simp [Hid]⟩
  case round =>
    obtain ⟨k, hk, rfl, ⟨r, rfl, hr0, hr1⟩, hsm⟩ := hrel
    by_cases hlt : k < n
    · obtain ⟨b, off, ai, m, ci, ss, g, rfl, hcell, hcg, hss, hat, hmem, hb, hg0, hg1⟩ := h.at_ hlt
      have Hat : Hid (sv[k]? = some (ss, g)) := hat
      have hm := hss.lim
      have Hm : Hid (ss.length = m) := hss.len
      unfold maxLen at hm
      clear hat hmem
      by_cases hm1 : 1048576 < m
      · go_wp2
        go_ret
        exact ⟨RetB.mk false (by simp), rfl⟩
      by_cases hm2 : 1048576 < r + (m : Int)
      · go_wp2
        go_ret
        exact ⟨RetB.mk false (by simp), rfl⟩
      go_wp2
      go_loop [5, 7] (fun t i => ∃ j : Nat, j ≤ m ∧ i = .int .i64 j ∧ (∃ r : Int, t = .int .i64 r ∧ 0 ≤ r ∧ r ≤ 1048576) ∧ Hid (∀ s ∈ ss.take j, s.size ≤ 1048576)) (fun _ i => m - (intOf i).toNat)
      case atStart => exact ⟨0, Nat.zero_le _, rfl, ⟨_, rfl, by omega, by omega⟩, by simp [Hid]⟩
      case round =>
        obtain ⟨j, hj, rfl, ⟨r2, rfl, hr20, hr21⟩, hsz⟩ := hrel
        by_cases hlt2 : j < m
        · obtain ⟨b2, off2, s, rfl, hcell2, hat2, hmem2, hb2⟩ := hss.at_ hlt2
          have Hat2 : Hid (ss[j]? = some s) := hat2
          have hls := hss.lims s hmem2
          unfold maxLen at hls
          clear hat2 hmem2
          by_cases hs1 : 1048576 < s.size
          · go_wp2
            go_ret
            exact ⟨RetB.mk false (by simp), rfl⟩
          by_cases hs2 : 1048576 < r2 + (s.size : Int)
          · go_wp2
            go_ret
            exact ⟨RetB.mk false (by simp), rfl⟩
          go_wp2
          go_round
          case rel => exact ⟨j + 1, by omega, by go_num, ⟨_, rfl, by omega, by omega⟩, forall_take_succ Hat2.out hsz.out (by omega)⟩
          case measure => simp [intOf]; omega
        · have Hok : Hid (Small ss) := ⟨by rw [Hm.out]; omega, forall_take_all (by rw [Hm.out]; omega) hsz.out⟩
          go_wp2
          go_round
          case rel => exact ⟨k + 1, by omega, by go_num, ⟨_, rfl, by omega, by omega⟩, forall_take_succ (P := fun (x : List ByteArray × Int) => Small x.1) Hat.out hsm.out Hok.out⟩
          case measure => simp [intOf]; omega
    · have Hall : Hid (∀ x ∈ sv, Small x.1) := forall_take_all (by have := h.len; omega) hsm.out
      clear hsm
      go_wp2
      go_ret
      exact ⟨RetB.mk true (fun _ => ⟨by rw [h.len]; omega, Hall.out⟩), rfl⟩

set_option maxRecDepth 10000 in
set_option maxHeartbeats 400000 in
theorem zzServersBytes_any (a : Option Addr) (n cap : Nat) (sv : List (List ByteArray × Int)) (w : World) (h : Srvs w a n sv) (hsm : AllSmall sv) :
    Calls Try.prog 15 #[.slice a n cap] w fun e w' => (∃ r : Int, e = .returned (.int .i64 r) ∧ 0 ≤ r ∧ r ≤ 1048577) ∧ w' = w := by
  have Hsm := hid hsm
  have hn := h.lim
  unfold maxLen at hn
  clear hsm
  go_enter Try.func15, Try.ntmps15
  go_wp2
  go_loop [3, 4] (fun t i => ∃ k : Nat, k ≤ n ∧ i = .int .i64 k ∧ ∃ r : Int, t = .int .i64 r ∧ 0 ≤ r ∧ r ≤ 1048576) (fun _ i => n - (intOf i).toNat)
  case atStart => exact ⟨0, Nat.zero_le _, rfl, 24, rfl, by omega, by omega⟩
  case round =>
    obtain ⟨k, hk, rfl, r, rfl, hr0, hr1⟩ := hrel
    by_cases hlt : k < n
    · obtain ⟨b, off, ai, m, ci, ss, g, rfl, hcell, hcg, hss, hat, hmem, hb, hg0, hg1⟩ := h.at_ hlt
      have Hs := hid (Hsm.out _ hmem)
      clear hat hmem
      go_wp2_with (go_at_call 8; refine (told (zzLabelBytes_any ai m ci ss _ hss Hs.out)).mono ?_)
      intro e w3 hp
      obtain ⟨⟨r3, rfl, hr30, hr31⟩, hw⟩ := hp.out
      replace hw := hw.symm
      subst hw
      clear hp
      by_cases hgt : 1048576 < r + (32 + r3)
      · go_wp2
        go_ret
        exact ⟨⟨_, rfl, by omega, by omega⟩, rfl⟩
      · go_wp2
        go_round
        case rel => exact ⟨k + 1, by omega, by go_num, _, rfl, by omega, by omega⟩
        case measure => simp [intOf]; omega
    · go_wp2
      go_ret
      exact ⟨⟨_, rfl, by omega, by omega⟩, rfl⟩
end Go.Proofs.Qxb6003717a
