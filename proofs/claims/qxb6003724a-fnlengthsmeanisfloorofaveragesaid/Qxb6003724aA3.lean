import Derived.Test.Qxb6003724aA2
namespace Go.Proofs.Qxb6003724a
open Go.RowKit Ieee

theorem hid {p : Prop} (h : p) : Hid p := h
/-- A contract whose post the walk's simp leaves as it is. -/
theorem told {P : Program} {f : FuncId} {args : Array Value} {w : World} {Q : Ending → World → Prop} (h : Calls P f args w Q) : Calls P f args w fun e w' => Hid (Q e w') := h

set_option maxRecDepth 100000 in
set_option maxHeartbeats 400000 in
theorem zzNear_any (ax ay bx by_ r : Nat) (w : World) :
    Calls Try.prog 8 #[.float .f64 ax, .float .f64 ay, .float .f64 bx, .float .f64 by_, .float .f64 r] w fun e w' => e = .returned (.bool (nearB ax ay bx by_ r)) ∧ Below w.heap.size w w' := by
  go_enter Try.func8, Try.ntmps8
  go_wp2_with (go_at_call 16; refine (told (near_any ax ay bx by_ r _)).mono ?_)
  intro e w1 hp
  obtain ⟨rfl, n, rfl⟩ := hp.out
  clear hp
  go_wp2
  go_ret
  exact ⟨rfl, below_drewN (Below.refl _ _) _⟩

set_option maxRecDepth 100000 in
set_option maxHeartbeats 400000 in
theorem zzReaches_any (ax ay bx by_ r : Nat) (w : World) :
    Calls Try.prog 7 #[.float .f64 ax, .float .f64 ay, .float .f64 ax, .float .f64 ay, .float .f64 bx, .float .f64 by_, .float .f64 bx, .float .f64 by_, .float .f64 r] w fun e w' => e = .returned (.bool (nearB ax ay bx by_ r)) ∧ Below w.heap.size w w' := by
  go_enter Try.func7, Try.ntmps7
  go_wp2_with (go_at_call 15; refine (told (reaches_any ax ay bx by_ r _)).mono ?_)
  intro e w1 hp
  obtain ⟨rfl, hb⟩ := hp.out
  have Hb := hid hb
  clear hp hb
  go_wp2
  go_ret
  exact ⟨rfl, Hb.out⟩

set_option maxRecDepth 100000 in
set_option maxHeartbeats 400000 in
theorem box_walk (ax ay bx by_ r : Nat) (w : World) :
    Calls Try.prog 4 #[.float .f64 ax, .float .f64 ay, .float .f64 bx, .float .f64 by_, .float .f64 r] w fun e w' => e = .returned (.bool true) ∧ Below w.heap.size w w' := by
  go_enter Try.func4, Try.ntmps4
  go_wp2_with (go_at_call 7; refine (told (zzReaches_any ax ay bx by_ r _)).mono ?_)
  intro e w1 hp
  obtain ⟨rfl, hb⟩ := hp.out
  have Hb := hid hb
  clear hp hb
  go_wp2_with (go_at_call 8; refine (told (zzNear_any ax ay bx by_ r _)).mono ?_)
  intro e w2 hp
  obtain ⟨rfl, hb2⟩ := hp.out
  have Hb2 := hid (Hb.out.trans (hb2.mono Hb.out.size))
  clear hp hb2 Hb
  go_wp2
  go_ret
  exact ⟨by simp, Hb2.out⟩
end Go.Proofs.Qxb6003724a
