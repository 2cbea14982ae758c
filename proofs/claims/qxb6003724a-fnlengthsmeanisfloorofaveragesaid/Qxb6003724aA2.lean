import Derived.Test.Qxb6003724aA1
namespace Go.Proofs.Qxb6003724a
open Go.RowKit Ieee

/-- The block of a box that is one point. -/
abbrev pt (x y : Nat) : Array Value := #[.float .f64 x, .float .f64 y, .float .f64 x, .float .f64 y]

set_option maxRecDepth 100000 in
set_option maxHeartbeats 400000 in
theorem reaches_any (ax ay bx by_ r : Nat) (w : World) :
    Calls Try.prog 15 #[.agg (pt ax ay), .agg (pt bx by_), .float .f64 r] w fun e w' => e = .returned (.bool (nearB ax ay bx by_ r)) ∧ Below w.heap.size w w' := by
  obtain ⟨W, hW⟩ : ∃ W, W = (w.alloc (.cells (pt ax ay) 35)).alloc (.cells (pt bx by_) 35) := ⟨_, rfl⟩
  have Hb : Hid (Below w.heap.size w W) := by show Below _ _ _; rw [hW]; exact ((Below.refl _ _).alloc (Nat.le_refl _) _).alloc (by simp) _
  obtain ⟨d1, n1, h1, v1⟩ := arith_V Try.prog .sub (by simp) 22 (show V (some bx) bx from rfl) (show V (some ax) ax from rfl) W 0
  obtain ⟨d2, n2, h2, v2⟩ := arith_V Try.prog .sub (by simp) 22 (show V (some ax) ax from rfl) (show V (some bx) bx from rfl) W n1
  obtain ⟨dx, n3, h3, v3⟩ := max3_V Try.prog #[22, 22, 22] 22 v1 v2 W n2
  obtain ⟨d3, n4, h4, v4⟩ := arith_V Try.prog .sub (by simp) 22 (show V (some by_) by_ from rfl) (show V (some ay) ay from rfl) W n3
  obtain ⟨d4, n5, h5, v5⟩ := arith_V Try.prog .sub (by simp) 22 (show V (some ay) ay from rfl) (show V (some by_) by_ from rfl) W n4
  obtain ⟨dy, n6, h6, v6⟩ := max3_V Try.prog #[22, 22, 22] 22 v4 v5 W n5
  obtain ⟨p, n7, h7, v7⟩ := arith_V Try.prog .mul (by simp) 22 v3 v3 W n6
  obtain ⟨q, n8, h8, v8⟩ := arith_V Try.prog .mul (by simp) 22 v6 v6 W n7
  have e7 : V (sqO bx ax) p := by rw [← sq_mx]; exact sq_V v7
  have e8 : V (sqO by_ ay) q := by rw [← sq_mx]; exact sq_V v8
  obtain ⟨s, n9, h9, v9⟩ := arith_V Try.prog .add (by simp) 22 e7 e8 W n8
  obtain ⟨t, n10, h10, v10⟩ := arith_V Try.prog .mul (by simp) 22 (show V (some r) r from rfl) (show V (some r) r from rfl) W n9
  have hl := leq_V v9 v10
  have h1' : (binOp .sub 22 (.float .f64 bx) (.float .f64 ax)).run Try.prog W = .ok (.float .f64 d1) (W.drewN n1) := h1
  have Hl : Hid ((double.order s t == some .lt || double.order s t == some .eq) = nearB ax ay bx by_ r) := hl
  clear h1 v1 v2 v3 v4 v5 v6 v7 v8 v9 v10 e7 e8 hl
  subst hW
  go_enter Try.func15, Try.ntmps15
  go_wp2
  go_ret
  refine ⟨?_, ?_⟩
  · rw [← Hl.out]
    rfl
  · exact below_drewN Hb.out _
end Go.Proofs.Qxb6003724a
