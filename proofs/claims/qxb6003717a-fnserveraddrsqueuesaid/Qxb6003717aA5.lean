import Derived.Test.Qxb6003717aA4
import Derived.Laws.CopyOwn
import Derived.Deep.OwnRows
namespace Go.Proofs.Qxb6003717a
open Go.RowKit

theorem Try.info9 : (Try.prog.info? 9).map (fun i => (i.zero, i.size, i.bytes)) = some (some (.string ⟨#[]⟩), 1, 16) := by kernel_rfl

theorem addr_add (b off i : Nat) : (⟨b, off, none⟩ : Addr).add i = ⟨b, off + i, none⟩ := by unfold Addr.add; split <;> simp_all

/-- A row of the call's own that holds the strings ss. -/
theorem Strs.of_block {w : World} {g : Nat} {ss : List ByteArray} {t : TypeId} {fr : Nat × Nat} (hg : w.heap[g]? = some (.cells (ss.map Value.string).toArray t fr)) (hl : ss.length ≤ maxLen) (hs : ∀ s ∈ ss, s.size ≤ maxLen) :
    Strs w (some ⟨g, 0, none⟩) ss.length ss := by
  refine ⟨rfl, hl, hs, .inr ⟨g, 0, rfl, fun i hi => ?_⟩⟩
  rw [Nat.zero_add, cell_of_row w g i _ t fr hg]
  simp [List.getElem?_eq_getElem hi]

set_option maxRecDepth 10000 in
set_option maxHeartbeats 400000 in
theorem zzCloneLabels_any (a : Option Addr) (n cap : Nat) (ss : List ByteArray) (w : World) (h : Strs w a n ss) (hsm : n ≤ 1048576) :
    Calls Try.prog 10 #[.slice a n cap] w fun e w' => (∃ a' c', e = .returned (.slice a' n c') ∧ Strs w' a' n ss) ∧ Below w.heap.size w w' := by
  have q22 : ∀ (w : World) (a : Option Addr) (n c n' c' : Nat), (binOp .eql 22 (.slice a n c) (.slice none n' c')).run Try.prog w = .ok (.bool a.isNone) w := fun w a n c n' c' => Lib.run_eql_slice_nil w _ _ a n c n' c' Try.underlying22
  cases a with
  | none =>
    have h0 : n = 0 := by
      rcases h.mem with h | ⟨b, off, h, _⟩
      · exact h
      · cases h
    go_enter Try.func10, Try.ntmps10
    go_wp2
    go_ret
    subst h0
    exact ⟨⟨none, 0, rfl, h⟩, Below.refl _ _⟩
  | some ad =>
    have hmk := run_make_row' (P := Try.prog) 22 9 (.string ⟨#[]⟩) 16 Try.underlying22 Try.info9 rfl .i64 .i64 n (by omega) (by omega)
    have hinf : (Try.prog.info? 9).map (·.size) = some 1 := by kernel_rfl
    have hlen := h.len
    have Hl : Hid (ss.length = n) := hlen
    clear hlen
    go_enter Try.func10, Try.ntmps10
    go_wp2_with (refine wpList_copy_splice rfl (.tmp 9) (.tmp 10) 22 22 rfl 9 Try.underlying22 hinf _ _ _ _ _ _ rfl rfl w.heap.size 0 (madeCells #[.string ⟨#[]⟩] n).toList 9 (heap_alloc_new w _) (ss.map Value.string) ?c1 ?c2 ?c3 ?c4 w.heap.size w ((Below.refl _ _).alloc (Nat.le_refl _) _) (Nat.le_refl _) ?_)
    case c1 => simp [Hl.out]
    case c2 =>
      intro _ j s hj
      rcases h.mem with h0 | ⟨b, off, ha, hc⟩
      · have : ss = [] := List.eq_nil_of_length_eq_zero (by rw [Hl.out]; exact h0)
        rw [this] at hj
        simp at hj
      · cases ha
        have hjl : j < ss.length := (List.getElem?_eq_some_iff.1 hj).1
        have hc1 := hc j (by rw [← Hl.out]; exact hjl)
        rw [addr_add, World.cell?_alloc_lt _ _ _ (World.block_lt_of_cell? _ _ hc1), hc1]
        simp [hj]
    case c3 => simp [Hl.out, size_madeCells]
    case c4 => intro v hv; simp at hv; obtain ⟨s, _, rfl⟩ := hv; rfl
    intro w1 hg1 hb1
    go_wp2
    go_ret
    refine ⟨⟨some ⟨w.heap.size, 0, none⟩, n, rfl, ?_⟩, hb1⟩
    have hsp : splice (madeCells #[Value.string ⟨#[]⟩] n).toList 0 (ss.map Value.string) = ss.map Value.string := by
      simp [splice, Hl.out, size_madeCells]
    have hg2 := hg1.out
    rw [hsp] at hg2
    have := Strs.of_block hg2 (by rw [Hl.out]; exact h.lim) h.lims
    rw [Hl.out] at this
    exact this
end Go.Proofs.Qxb6003717a
