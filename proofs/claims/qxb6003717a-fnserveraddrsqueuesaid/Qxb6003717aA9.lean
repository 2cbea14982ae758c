import Derived.Test.Qxb6003717aA8
import Derived.Deep.RegionHeld3
import Derived.Deep.RegionLaw
import Derived.Deep.AppendLies
import Derived.Deep.DrawnRows
namespace Go.Proofs.Qxb6003717a
open Go.RowKit
attribute [local go_sem ↓] Go.wp_at_zero Go.wp_at_succ

theorem Try.info89 : (Try.prog.info? 89).map (fun i => (i.zero, i.size, i.bytes)) = some (some (.agg #[.string ⟨#[]⟩, .int .u64 0, .int .u64 0, .pointer none]), 4, 40) := by kernel_rfl

/-- One hint's cells. -/
def hint1 (s : ByteArray) : List Value := [.string s, .int .u64 0, .int .u64 0, .pointer none]
def hintCells (l : List ByteArray) : List Value := l.flatMap hint1
theorem hintCells_snoc (l : List ByteArray) (s : ByteArray) : hintCells (l ++ [s]) = hintCells l ++ hint1 s := by simp [hintCells]
theorem hintCells_at : ∀ (l : List ByteArray) (k : Nat) (s : ByteArray) (r : Nat), l[k]? = some s → r < 4 → (hintCells l)[k * 4 + r]? = (hint1 s)[r]?
  | [], k, s, r, h, _ => by simp at h
  | t :: l, 0, s, r, h, hr => by
    simp at h
    subst h
    show (hint1 t ++ hintCells l)[0 * 4 + r]? = _
    rw [Nat.zero_mul, Nat.zero_add, List.getElem?_append_left (by simpa [hint1] using hr)]
  | t :: l, k + 1, s, r, h, hr => by
    show (hint1 t ++ hintCells l)[(k + 1) * 4 + r]? = _
    rw [List.getElem?_append_right (by simp [hint1]; omega)]
    have : (k + 1) * 4 + r - (hint1 t).length = k * 4 + r := by simp [hint1]; omega
    rw [this]
    exact hintCells_at l k s r (by simpa using h) hr

/-- The hints of the names l lie at block H. -/
def HintsAt (w : World) (H : Nat) (l : List ByteArray) : Prop :=
  ∃ ao c, w.cell? ⟨H, 1, none⟩ = some (.slice ao l.length c) ∧ ∀ k s, l[k]? = some s → ∃ g, ao = some ⟨g, 0, none⟩ ∧ g < w.heap.size ∧
    w.cell? ⟨g, k * 4, none⟩ = some (.string s) ∧ w.cell? ⟨g, k * 4 + 1, none⟩ = some (.int .u64 0) ∧ w.cell? ⟨g, k * 4 + 1 + 1, none⟩ = some (.int .u64 0) ∧ w.cell? ⟨g, k * 4 + 1 + 1 + 1, none⟩ = some (.pointer none)

theorem HintsAt.below {w w' : World} {H : Nat} {l : List ByteArray} (h : HintsAt w H l) (hb : Below w.heap.size w w') : HintsAt w' H l := by
  obtain ⟨ao, c, h1, h2⟩ := h
  refine ⟨ao, c, by rw [hb.cell (World.block_lt_of_cell? _ _ h1)]; exact h1, fun k s hk => ?_⟩
  obtain ⟨g, e, hg, c1, c2, c3, c4⟩ := h2 k s hk
  refine ⟨g, e, Nat.lt_of_lt_of_le hg hb.size, ?_, ?_, ?_, ?_⟩
  · rw [hb.cell (by exact hg)]; exact c1
  · rw [hb.cell (by exact hg)]; exact c2
  · rw [hb.cell (by exact hg)]; exact c3
  · rw [hb.cell (by exact hg)]; exact c4

theorem HintsAt.of_own {w : World} {H B : Nat} {l : List ByteArray} {ao : Option Addr} {c : Nat} (hc : w.cell? ⟨H, 1, none⟩ = some (.slice ao l.length c)) (ho : w.ownsRow B 89 4 (.slice ao l.length c) l.length (hintCells l)) : HintsAt w H l := by
  refine ⟨ao, c, hc, fun k s hk => ?_⟩
  have hlt : k < l.length := (List.getElem?_eq_some_iff.1 hk).1
  obtain ⟨g, cap, hv, _, hg⟩ := ho.form (by omega)
  cases hv
  have hcs := ho.cells (g := g) rfl
  refine ⟨g, rfl, hg, ?_, ?_, ?_, ?_⟩
  · have := hcs (k * 4 + 0) (.string s) (by rw [hintCells_at l k s 0 hk (by omega)]; rfl)
    rw [addr_add] at this
    simpa using this
  · have := hcs (k * 4 + 1) (.int .u64 0) (by rw [hintCells_at l k s 1 hk (by omega)]; rfl)
    rw [addr_add] at this
    simpa using this
  · have := hcs (k * 4 + 2) (.int .u64 0) (by rw [hintCells_at l k s 2 hk (by omega)]; rfl)
    rw [addr_add] at this
    simpa using this
  · have := hcs (k * 4 + 3) (.pointer none) (by rw [hintCells_at l k s 3 hk (by omega)]; rfl)
    rw [addr_add] at this
    simpa using this

theorem heap_new2 (w : World) (o : Obj) (cs : Array Value) (t : TypeId) : ((w.alloc o).alloc (.cells cs t)).heap[w.heap.size + 1]? = some (.cells cs t (0, 0)) := by
  have := heap_alloc_new (w.alloc o) (.cells cs t)
  simpa using this

/-- What one round of ZZHintsOf leaves. -/
theorem hints_rel {w wr w1 : World} {l : List ByteArray} {k gg cap1 c : Nat} {ao : Option Addr} {s : ByteArray} {o1 o2 : Obj} (Hs : l[k]? = some s)
    (hown1 : w1.ownsRow (w.heap.size + 1) 89 4 (.slice (some ⟨gg, 0, none⟩) (k + 1) cap1) (k + 1) (hintCells (l.take k) ++ hint1 s)) (hgrow : ((wr.alloc o1).alloc o2).drew.grownBy w1 (Value.slice ao k c).ownBlock)
    (hcw1 : w1.cell? ⟨w.heap.size, 1, none⟩ = some (.slice ao k c)) (hfw1 : w1.frozen? ⟨w.heap.size, 1, none⟩ = false)
    (hown : wr.ownsRow (w.heap.size + 1) 89 4 (.slice ao k c) k (hintCells (l.take k))) (hbel : Below w.heap.size w wr) (hlt0 : w.heap.size < wr.heap.size) :
    (∃ ao' c', (w1.setCell ⟨w.heap.size, 1, none⟩ (.slice (some ⟨gg, 0, none⟩) (k + 1) cap1)).cell? ⟨w.heap.size, 1, none⟩ = some (.slice ao' (k + 1) c') ∧
      (w1.setCell ⟨w.heap.size, 1, none⟩ (.slice (some ⟨gg, 0, none⟩) (k + 1) cap1)).ownsRow (w.heap.size + 1) 89 4 (.slice ao' (k + 1) c') (k + 1) (hintCells (l.take (k + 1)))) ∧
    (w1.setCell ⟨w.heap.size, 1, none⟩ (.slice (some ⟨gg, 0, none⟩) (k + 1) cap1)).frozen? ⟨w.heap.size, 1, none⟩ = false ∧
    Below w.heap.size w (w1.setCell ⟨w.heap.size, 1, none⟩ (.slice (some ⟨gg, 0, none⟩) (k + 1) cap1)) ∧
    w.heap.size < (w1.setCell ⟨w.heap.size, 1, none⟩ (.slice (some ⟨gg, 0, none⟩) (k + 1) cap1)).heap.size := by
  have hb1 : Below w.heap.size w w1 := by
    refine (((hbel.alloc (by omega) o1).alloc (by simp; omega) o2).drew).grown hgrow (by simp; omega) ?_
    intro j hj
    have := (hown.lt j hj).1
    omega
  have hsz : w.heap.size < w1.heap.size := World.block_lt_of_cell? _ _ hcw1
  refine ⟨⟨_, _, World.cell?_setCell_same _ _ _ hcw1, ?_⟩, ?_, hb1.setCell (by simp) _, ?_⟩
  · rw [take_succ_of Hs, hintCells_snoc]
    exact ownsRow_setCell_below hown1 (by simp) _
  · rw [World.frozen?_setCell]; exact hfw1
  · simpa [World.setCell] using hsz

set_option maxRecDepth 100000 in
set_option maxHeartbeats 1000000 in
theorem zzHintsOf_any (a : Option Addr) (n cap : Nat) (l : List ByteArray) (w : World) (h : Strs w a n l) (hsm : n ≤ 1048576) :
    Calls Try.prog 30 #[.slice a n cap] w fun e w' => (∃ H, e = .returned (.pointer (some ⟨H, 0, none⟩)) ∧ HintsAt w' H l ∧ H < w'.heap.size) ∧ Below w.heap.size w w' := by
  obtain ⟨i0, hi0, hz0, hz1, hz2⟩ := info_parts Try.info89
  go_enter Try.func30, Try.ntmps30
  go_wp2
  go_loopw [10] (fun i wr => ∃ k : Nat, k ≤ n ∧ i = .int .i64 k ∧ (∃ ao c, wr.cell? ⟨w.heap.size, 1, none⟩ = some (.slice ao k c) ∧ wr.ownsRow (w.heap.size + 1) 89 4 (.slice ao k c) k (hintCells (l.take k))) ∧ wr.frozen? ⟨w.heap.size, 1, none⟩ = false ∧ Below w.heap.size w wr ∧ w.heap.size < wr.heap.size) (fun i _ => n - (intOf i).toNat)
  case atStart => exact ⟨0, Nat.zero_le _, rfl, ⟨none, 0, by simp [go_sem], World.ownsRow_nil _ _ _ _⟩, by simp [go_sem], (Below.refl _ _).alloc (Nat.le_refl _) _, by simp⟩
  case round =>
    obtain ⟨k, hk, rfl, ⟨ao, c, hcH, hown⟩, hfH, hbel, hlt0⟩ := hrel
    by_cases hlt : k < n
    · obtain ⟨b, off, s, rfl, hcell0, hs0, hmem, hb⟩ := h.at_ hlt
      have hcell : wr.cell? ⟨b, off + k, none⟩ = some (.string s) := (hbel.cell (by exact hb)).trans hcell0
      have Hs : Hid (l[k]? = some s) := hs0
      clear hs0 hmem hcell0
      have hne : (Value.slice ao k c).ownBlock ≠ some w.heap.size := by
        intro e
        have := (hown.lt _ e).1
        omega
      have hne' : some w.heap.size ≠ (Value.slice ao k c).ownBlock := Ne.symm hne
      have hne2 : some wr.heap.size ≠ (Value.slice ao k c).ownBlock := by
        intro e
        have := (hown.lt _ e.symm).2
        omega
      have hfa1 : ∀ o, (wr.alloc o).frozen? ⟨w.heap.size, 1, none⟩ = false := fun o => by rw [((Below.refl wr.heap.size wr).alloc (Nat.le_refl _) o).frozen (by exact hlt0)]; exact hfH
      have hfa2 : ∀ o o2, ((wr.alloc o).alloc o2).frozen? ⟨w.heap.size, 1, none⟩ = false := fun o o2 => by rw [(((Below.refl wr.heap.size wr).alloc (Nat.le_refl _) o).alloc (by simp) o2).frozen (by exact hlt0)]; exact hfH
      have hca2 : ∀ o o2, ((wr.alloc o).alloc o2).cell? ⟨w.heap.size, 1, none⟩ = some (.slice ao k c) := fun o o2 => by rw [(((Below.refl wr.heap.size wr).alloc (Nat.le_refl _) o).alloc (by simp) o2).cell (by exact hlt0)]; exact hcH
      go_wp2
      go_region_law
        ((refine step_append_lies _ (by rfl) _ _ _ (by rfl) (w.heap.size + 1) 89 i0 _ 4 40 Try.underlying85 hi0 hz0 hz1 hz2 rfl (by omega) (.slice ao k c) k (hintCells (l.take k)) (by rfl) (((hown.alloc _).alloc _).drew)
            ⟨wr.heap.size + 1, 0, none⟩ 1 1 (hint1 s) (by rfl) (by rfl) (World.news_of_block (cs := #[.string s, .int .u64 0, .int .u64 0, .pointer none]) (t := 89) (fr := (0, 0)) (heap_new2 wr _ _ _)) (by simp [hint1, Value.oneCell'])
            (by omega) (by unfold maxLen; omega) (by omega) (by simp; omega) (wr.heap.size + 2) (by simp) ?_; intro gg cap1 w1 hown1 hgrow hat hlt1; have hcw1 : w1.cell? ⟨w.heap.size, 1, none⟩ = some (.slice ao k c) := (hgrow.cell_far ⟨w.heap.size, 1, none⟩ (by simp; omega) hne').trans (hca2 _ _); have hfw1 : w1.frozen? ⟨w.heap.size, 1, none⟩ = false := (hgrow.frozen_far ⟨w.heap.size, 1, none⟩ (by simp; omega) hne').trans (hfa2 _ _)))
      all_goals
        go_wp2
        go_roundw
        case rel => exact ⟨k + 1, by omega, by go_num, hints_rel Hs.out hown1 hgrow hcw1 hfw1 hown hbel hlt0⟩
        case measure => simp [intOf]; omega
    · have hkl : l.take k = l := List.take_of_length_le (by have := h.len; omega)
      have hkn : k = l.length := by have := h.len; omega
      rw [hkl] at hown
      have Hh : Hid (HintsAt wr w.heap.size l) := HintsAt.of_own (by rw [← hkn]; exact hcH) (by rw [← hkn]; exact hown)
      clear hkl hown hkn
      go_wp2
      go_ret
      exact ⟨⟨_, rfl, Hh.out, hlt0⟩, hbel⟩
end Go.Proofs.Qxb6003717a
