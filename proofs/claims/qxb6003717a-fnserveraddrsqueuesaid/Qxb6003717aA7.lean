import Derived.Test.Qxb6003717aA6
import Derived.Test.Qxb6003717aP3
namespace Go.Proofs.Qxb6003717a
open Go.RowKit

/-- The first n cells of block g hold f 0, f 1, .. and may be written. -/
def Cells (w : World) (g n : Nat) (f : Nat → Value) : Prop := ∀ i, i < n → w.cell? ⟨g, i, none⟩ = some (f i) ∧ w.frozen? ⟨g, i, none⟩ = false

theorem Cells.set {w : World} {g n : Nat} {f : Nat → Value} (h : Cells w g n f) (j : Nat) (v : Value) : Cells (w.setCell ⟨g, j, none⟩ v) g n (fun i => if i = j then v else f i) := by
  intro i hi
  refine ⟨?_, by rw [World.frozen?_setCell]; exact (h i hi).2⟩
  by_cases e : i = j
  · subst e
    simp only [if_true]
    exact World.cell?_setCell_same _ _ _ (h i hi).1
  · rw [World.cell?_setCell_other _ _ _ _ (by intro h; cases h; exact e rfl)]
    show _ = some (if i = j then v else f i)
    rw [if_neg e]
    exact (h i hi).1
theorem Cells.setOther {w : World} {g n : Nat} {f : Nat → Value} (h : Cells w g n f) {a : Addr} (ha : a.block ≠ g) (v : Value) : Cells (w.setCell a v) g n f := by
  intro i hi
  refine ⟨?_, by rw [World.frozen?_setCell]; exact (h i hi).2⟩
  rw [World.cell?_setCell_other _ _ _ _ (by intro e; exact ha (by rw [e]))]
  exact (h i hi).1
theorem Cells.below {w w' : World} {g n B : Nat} {f : Nat → Value} (h : Cells w g n f) (hb : Below B w w') (hg : g < B) : Cells w' g n f := by
  intro i hi
  rw [hb.cell (by exact hg), hb.frozen (by exact hg)]
  exact h i hi
theorem Cells.congr {w : World} {g n : Nat} {f f' : Nat → Value} (h : Cells w g n f) (e : ∀ i, i < n → f i = f' i) : Cells w g n f' := by
  intro i hi
  rw [← e i hi]
  exact h i hi
theorem Cells.lt {w : World} {g n : Nat} {f : Nat → Value} (h : Cells w g n f) (hn : 0 < n) : g < w.heap.size := World.block_lt_of_cell? _ _ (h 0 hn).1
theorem Cells.made (w : World) (z : Value) (n : Nat) (t : TypeId) : Cells (w.alloc (.cells (madeCells #[z] n) t)) w.heap.size n (fun _ => z) := by
  intro i hi
  exact ⟨(World.rowIs_made w z n t).cell hi, (World.rowIs_made w z n t).frozen i⟩

theorem Strs.of_cells {w : World} {g n : Nat} {f : Nat → Value} {ss : List ByteArray} (h : Cells w g n f) (hl : ss.length = n) (hn : n ≤ maxLen) (hs : ∀ s ∈ ss, s.size ≤ maxLen) (e : ∀ i, i < n → f i = .string (ss.getD i ByteArray.empty)) :
    Strs w (some ⟨g, 0, none⟩) n ss :=
  ⟨hl, hn, hs, .inr ⟨g, 0, rfl, fun i hi => by rw [Nat.zero_add, (h i hi).1, e i hi]⟩⟩

/-- []byte(s): a new row with the bytes of s. -/
theorem conv_bytes (w : World) (s : ByteArray) : ∃ c w', (convert 9 71 (.string s)).run Try.prog w = .ok (.slice (some ⟨w.heap.size, 0, none⟩) s.size c) w' ∧
    Cells w' w.heap.size s.size (fun i => .int .u8 ((s.data.toList.getD i 0).toNat : Int)) ∧ Below w.heap.size w w' ∧ w'.heap.size = w.heap.size + 1 := by
  refine ⟨_, _, run_bytes_of_string w 9 71 5 s Try.underlying9 Try.underlying71 Try.underlying5, ?_, ?_, ?_⟩
  · intro i hi
    have hi' : i < s.data.size := hi
    refine ⟨?_, ?_⟩
    · rw [show w.heap.size = w.drew.heap.size from rfl, World.cell?_alloc_mark, bytesRow_at s _ i hi']
      simp only [List.getD_eq_getElem?_getD, Array.getElem?_toList, Array.getElem?_eq_getElem hi']
      rfl
    · rw [show w.heap.size = w.drew.heap.size from rfl, World.frozen?_alloc_mark]
      have : i < (bytesRow s (grownCap w s.size 0 5)).size := by
        simp only [bytesRow, Array.size_append, Array.size_map]
        omega
      simp
      omega
  · exact (Below.refl _ _).drew.alloc (Nat.le_refl _) _
  · simp

/-- string(b), where b's cells are the bytes of t. -/
theorem conv_string {w : World} {g c : Nat} {f : Nat → Value} {t : ByteArray} (h : Cells w g t.size f) (e : ∀ i, i < t.size → f i = .int .u8 ((t.data.toList.getD i 0).toNat : Int)) :
    (convert 71 9 (.slice (some ⟨g, 0, none⟩) t.size c)).run Try.prog w = .ok (.string t) w := by
  have hl : t.data.toList.length = t.size := by simp
  have := run_convert_bytes_back w 71 9 5 ⟨g, 0, none⟩ c t.data.toList Try.underlying71 Try.underlying5 Try.underlying9 (fun j hj => by
    rw [addr_add, Nat.zero_add, (h j (by omega)).1, e j (by omega)]
    simp [List.getD_eq_getElem?_getD, List.getElem?_eq_getElem hj])
  rw [hl] at this
  simpa using this
end Go.Proofs.Qxb6003717a
