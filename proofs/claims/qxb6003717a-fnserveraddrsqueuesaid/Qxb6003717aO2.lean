import Derived.Test.Qxb6003717aO1
import Derived.Test.Qxb6003717aD1
import Derived.Deep.SlicePairs
namespace Go.Proofs.Qxb6003717a
open Go.RowKit Go.Deep Go.ChangeShapes Go.WideShapes

theorem Try.cells37 : Try.prog.cellsOf 37 = 2 := by kernel_rfl
theorem Try.cells3 : Try.prog.cellsOf 3 = 1 := by kernel_rfl

section
variable {H : Type} {enc : TypeId × Value → H} {w : World} {base : Nat} {spare : Nat → Bool} {held : Bool}

theorem srvs_of_trod {fuel : Nat} {v : Value} {x : DataW H × List MemPlace} (h : DataW.trod enc Try.prog w base spare held fuel 33 [v] = some x) :
    ∃ a n c sv, v = .slice a n c ∧ Srvs w a n sv := by
  rcases open_slice_pairs Try.underlying33 Try.underlying37 Try.cells37 rfl rfl Try.cells22 Try.cells3 h with ⟨hcs, _⟩ | ⟨a, len, cap, m, n, V0, V1, D0, D1, P0, P1, hcs, _, hl, hm, hmm, _, hx⟩
  · simp at hcs
    exact ⟨none, 0, 0, [], hcs, rfl, by simp [maxLen], by simp, .inl rfl⟩
  · simp at hcs
    have hlm : len ≤ m := by rw [hmm]; split <;> omega
    obtain ⟨SV, hSV⟩ := choose_lt (α := List ByteArray × Int) (n := m) (p := fun i x => ∃ ai ci, w.cell? (a.add (i * 2)) = some (.slice ai x.1.length ci) ∧ w.cell? (a.add (i * 2 + 1)) = some (.int .i64 x.2) ∧ Strs w ai x.1.length x.1 ∧ -9223372036854775808 ≤ x.2 ∧ x.2 ≤ 9223372036854775807) (fun i hi => by
      obtain ⟨h1, h2, h3, h4⟩ := hx i hi
      obtain ⟨ai, ni, ci, ss, hv, hst⟩ := strs_of_trod h3
      obtain ⟨g, hg, _, hwf⟩ := DataW.trod_int Try.underlying3 h4
      simp at hg
      have hb := bounds_i64 hwf
      refine ⟨(ss, g), ai, ci, ?_, ?_, ?_, ?_⟩
      · rw [h1, hv, hst.len]
      · rw [h2, hg]
      · show Strs w ai ss.length ss
        rw [hst.len]; exact hst
      · exact ⟨by simp; omega, by simp; omega⟩)
    refine ⟨some a, len, cap, (List.range len).map SV, hcs, by simp, by omega, ?_, ?_⟩
    · intro x hx'
      simp at hx'
      obtain ⟨i, hi, rfl⟩ := hx'
      obtain ⟨_, _, _, _, _, h5⟩ := hSV i (by omega)
      exact h5
    · by_cases h0 : len = 0
      · exact .inl h0
      · right
        obtain ⟨b, off, spot⟩ := a
        have hspot : spot = none := by simpa [Addr.add] using World.cell?_spot (hx 0 (by omega)).1
        subst hspot
        refine ⟨b, off, rfl, fun i x hi => ?_⟩
        have hil : i < len := by have := (List.getElem?_eq_some_iff.1 hi).1; simpa using this
        obtain ⟨ai, ci, h1, h2, h3, _⟩ := hSV i (by omega)
        rw [addr_add] at h1 h2
        simp [hil] at hi
        subst hi
        exact ⟨ai, ci, h1, by rw [Nat.add_assoc]; exact h2, h3⟩
end
end Go.Proofs.Qxb6003717a
