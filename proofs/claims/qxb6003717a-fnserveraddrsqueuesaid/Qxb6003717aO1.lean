import Derived.Test.Qxb6003717aA6
import Derived.Deep.Strs
import Derived.ProofKit
import Derived.OpenShut
import Derived.ShutString
import Derived.ChangeOld
namespace Go.Proofs.Qxb6003717a
open Go.RowKit Go.Deep Go.ChangeShapes Go.WideShapes

theorem own : ownKnob Try.prog.godebug = none := by kernel_rfl
theorem laidOut : laidOutB Try.prog = true := by kernel_rfl
theorem Try.cells9 : Try.prog.cellsOf 9 = 1 := by kernel_rfl
theorem Try.cells22 : Try.prog.cellsOf 22 = 1 := by kernel_rfl

section
variable {H : Type} {enc : TypeId × Value → H} {w : World} {base : Nat} {spare : Nat → Bool} {held : Bool}

theorem strs_of_trod {fuel : Nat} {v : Value} {x : DataW H × List MemPlace} (h : DataW.trod enc Try.prog w base spare held fuel 22 [v] = some x) :
    ∃ a n c ss, v = .slice a n c ∧ Strs w a n ss := by
  rcases open_strs Try.underlying22 Try.underlying9 Try.cells9 h with ⟨hcs, _⟩ | ⟨a, len, cap, m, Sx, hcs, _, hl, hm, hmm, _, hx⟩
  · simp at hcs
    exact ⟨none, 0, 0, [], hcs, rfl, by simp [maxLen], by simp, .inl rfl⟩
  · simp at hcs
    have hlm : len ≤ m := by rw [hmm]; split <;> omega
    refine ⟨some a, len, cap, (List.range len).map Sx, hcs, by simp, by omega, ?_, ?_⟩
    · intro s hs
      simp at hs
      obtain ⟨i, hi, rfl⟩ := hs
      exact (hx i (by omega)).2
    · by_cases h0 : len = 0
      · exact .inl h0
      · right
        obtain ⟨b, off, spot⟩ := a
        have hspot : spot = none := by simpa [Addr.add] using World.cell?_spot (hx 0 (by omega)).1
        subst hspot
        refine ⟨b, off, rfl, fun i hi => ?_⟩
        rw [← addr_add, (hx i (by omega)).1]
        simp [List.getD_eq_getElem?_getD, hi]

theorem grid_of_trod {fuel : Nat} {v : Value} {x : DataW H × List MemPlace} (h : DataW.trod enc Try.prog w base spare held fuel 65 [v] = some x) :
    ∃ a n c hs, v = .slice a n c ∧ Grid w a n hs := by
  rcases open_slice1 Try.underlying65 Try.cells22 h with ⟨hcs, _⟩ | ⟨a, len, cap, m, n, V, D, Pl, hcs, _, hl, hm, hmm, _, hx⟩
  · simp at hcs
    exact ⟨none, 0, 0, [], hcs, rfl, by simp [maxLen], .inl rfl⟩
  · simp at hcs
    have hlm : len ≤ m := by rw [hmm]; split <;> omega
    obtain ⟨SS, hSS⟩ := choose_lt (α := List ByteArray) (n := m) (p := fun i ss => ∃ ai ci, w.cell? (a.add i) = some (.slice ai ss.length ci) ∧ Strs w ai ss.length ss) (fun i hi => by
      obtain ⟨ai, ni, ci, ss, hv, hst⟩ := strs_of_trod (hx i hi).2
      refine ⟨ss, ai, ci, ?_, ?_⟩
      · rw [(hx i hi).1, hv, hst.len]
      · rw [hst.len]; exact hst)
    refine ⟨some a, len, cap, (List.range len).map SS, hcs, by simp, by omega, ?_⟩
    by_cases h0 : len = 0
    · exact .inl h0
    · right
      obtain ⟨b, off, spot⟩ := a
      have hspot : spot = none := by simpa [Addr.add] using World.cell?_spot (hx 0 (by omega)).1
      subst hspot
      refine ⟨b, off, rfl, fun i hi => ?_⟩
      have := hSS i (by omega)
      rw [addr_add] at this
      simpa [List.getD_eq_getElem?_getD, hi] using this
end
end Go.Proofs.Qxb6003717a
