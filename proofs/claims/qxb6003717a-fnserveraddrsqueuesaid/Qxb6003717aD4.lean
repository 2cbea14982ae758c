import Derived.Test.Qxb6003717aD3
namespace Go.Proofs.Qxb6003717a
open Go.RowKit
attribute [local go_sem ↓] Go.wp_at_zero Go.wp_at_succ

/-- The zero netip.Addr. -/
abbrev az : Value := .agg #[.int .u64 0, .int .u64 0, .pointer none]
theorem eql52 (w : World) : (binOp .eql 52 (.agg #[.int .u64 0, .int .u64 0, .pointer none]) (.agg #[.int .u64 0, .int .u64 0, .pointer none])).run Try.prog w = .ok (.bool true) w := by kernel_rfl

set_option maxRecDepth 100000 in
set_option maxHeartbeats 400000 in
theorem index_zero (ga : Option Addr) (gc : Nat) (w : World) :
    Calls Try.prog 47 #[.slice ga 0 gc, az] w fun e w' => e = .returned (.int .i64 (-1)) ∧ Below w.heap.size w w' := by
  go_enter Try.func47, Try.ntmps47
  go_wp2
  go_loopw [8] (fun i wr => i = .int .i64 0 ∧ Below w.heap.size w wr) (fun _ _ => 0)
  case atStart => exact ⟨rfl, (Below.refl _ _).alloc (Nat.le_refl _) _⟩
  case round =>
    obtain ⟨rfl, hb⟩ := hrel
    go_wp2
    go_ret
    exact ⟨rfl, hb⟩

set_option maxRecDepth 100000 in
set_option maxHeartbeats 400000 in
theorem index_pos (g m gc : Nat) (w : World) (hm : 0 < m) (hz : Zeros w g m) :
    Calls Try.prog 47 #[.slice (some ⟨g, 0, none⟩) m gc, az] w fun e w' => e = .returned (.int .i64 0) ∧ Below w.heap.size w w' := by
  obtain ⟨z1, z2, z3⟩ := hz 0 hm
  simp only [Nat.zero_mul, Nat.zero_add] at z1 z2 z3
  have hgl : g < w.heap.size := World.block_lt_of_cell? _ _ z1
  have hm0 : (0 : Int) < (m : Int) := by omega
  have heq := eql52
  clear hz
  go_enter Try.func47, Try.ntmps47
  go_wp2
  go_loopw [8] (fun i wr => i = .int .i64 0 ∧ wr = w.alloc (.cells #[.int .u64 0, .int .u64 0, .pointer none] 52)) (fun _ _ => 0)
  case atStart => exact ⟨rfl, rfl⟩
  case round =>
    obtain ⟨rfl, rfl⟩ := hrel
    go_wp2
    go_quiet (fail)
    go_wp2
    go_ret
    exact ⟨rfl, below_drewN ((Below.refl _ _).alloc (Nat.le_refl _) _) _⟩

set_option maxRecDepth 100000 in
set_option maxHeartbeats 400000 in
theorem contains_any (ga : Option Addr) (m gc b : Nat) (w : World) (h : GlueAt w ga m gc b) :
    Calls Try.prog 44 #[.slice ga m gc, az] w fun e w' => e = .returned (.bool (decide (0 < m))) ∧ Below w.heap.size w w' := by
  rcases Nat.eq_zero_or_pos m with h0 | h0
  · subst h0
    go_enter Try.func44, Try.ntmps44
    go_wp2_with (go_at_call 47; refine (told (index_zero ga gc _)).mono ?_)
    intro e w1 hp
    obtain ⟨rfl, hb⟩ := hp.out
    have Hb := hid (ext_trans (ext_alloc (Below.refl _ _) _) hb)
    clear hp hb
    go_wp2
    go_ret
    exact ⟨rfl, Hb.out⟩
  · obtain ⟨g, rfl, hg, hz⟩ := h.2 h0
    have Hz : Hid (∀ o, Zeros (w.alloc o) g m) := fun o => hz.below (ext_alloc (Below.refl _ _) o)
    have hd : decide (0 < m) = true := decide_eq_true h0
    rw [hd]
    clear hd hz h
    go_enter Try.func44, Try.ntmps44
    go_wp2_with (go_at_call 47; refine (told (index_pos g m gc _ h0 (Hz.out _))).mono ?_)
    intro e w1 hp
    obtain ⟨rfl, hb⟩ := hp.out
    have Hb := hid (ext_trans (ext_alloc (Below.refl _ _) _) hb)
    clear hp hb
    go_wp2
    go_ret
    exact ⟨rfl, Hb.out⟩
end Go.Proofs.Qxb6003717a
