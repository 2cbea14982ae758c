import Derived.Test.Qxb6003773aA1
import Derived.ProofKit
import Derived.OpenShut
import Derived.ShutString
import Derived.ChangeOld
namespace Go.Proofs.Qxb6003773a
open Go.RowKit Go.ChangeShapes Go.WideShapes

theorem own : ownKnob Try.prog.godebug = none := by kernel_rfl
theorem laidOut : laidOutB Try.prog = true := by kernel_rfl

section
variable {H : Type} {enc : TypeId × Value → H} {w : World} {base : Nat} {spare : Nat → Bool} {held : Bool}

/-- A slice of bytes that came in. -/
theorem bts_of_trod {fuel : Nat} {v : Value} {x : DataW H × List MemPlace} (h : DataW.trod enc Try.prog w base spare held fuel 22 [v] = some x) :
    ∃ a n c xs, v = .slice a n c ∧ Bts w a n xs := by
  rcases open_ints Try.underlying22 Try.underlying5 (by kernel_rfl) h with ⟨hcs, _⟩ | ⟨x, l, c, zs, hcs, _, hl, hm, hz, _, hcell, hwz⟩
  · simp at hcs
    exact ⟨none, 0, 0, [], hcs, rfl, by simp [maxLen], by simp, .inl rfl⟩
  · simp at hcs
    have hz' : l ≤ zs.length := by rw [hz]; split <;> omega
    refine ⟨some x, l, c, zs.take l, hcs, by rw [List.length_take]; omega, by omega, ?_, ?_⟩
    · intro y hy
      have := hwz y (List.mem_of_mem_take hy)
      simp [Lit.wf] at this
      exact this
    by_cases h0 : l = 0
    · exact .inl h0
    · right
      obtain ⟨b, off, spot⟩ := x
      have hspot : spot = none := by simpa [Addr.add] using World.cell?_spot (hcell 0 (by omega))
      subst hspot
      refine ⟨b, off, rfl, fun i y hy => ?_⟩
      rw [List.getElem?_take] at hy
      split at hy
      · have hi : i < zs.length := (List.getElem?_eq_some_iff.1 hy).1
        have := hcell i hi
        rw [show (⟨b, off, none⟩ : Addr).add i = ⟨b, off + i, none⟩ by unfold Addr.add; split <;> simp_all] at this
        rw [this]
        simp [List.getD_eq_getElem?_getD, hy]
      · cases hy
end
end Go.Proofs.Qxb6003773a
