import Derived.Test.Qxb6003724aA3
import Derived.BigRegion
namespace Go.Proofs.Qxb6003724a
open Go.RowKit

/-- The greater of two. -/
def mx (x y : Int) : Int := if y > x then y else x

/-- The three fields of a lengths at block A. -/
def LAt (w : World) (A : Nat) (n s m : Int) : Prop :=
  w.cell? ⟨A, 0, none⟩ = some (.int .i64 n) ∧ w.cell? ⟨A, 1, none⟩ = some (.int .i64 s) ∧ w.cell? ⟨A, 2, none⟩ = some (.int .i64 m) ∧ ∀ j, w.frozen? ⟨A, j, none⟩ = false

/-- The three stores. -/
theorem LAt.set {w : World} {A : Nat} {n s m : Int} (h : LAt w A n s m) (n' s' m' : Int) :
    LAt (((w.setCell ⟨A, 0, none⟩ (.int .i64 n')).setCell ⟨A, 1, none⟩ (.int .i64 s')).setCell ⟨A, 2, none⟩ (.int .i64 m')) A n' s' m' ∧ Below A w (((w.setCell ⟨A, 0, none⟩ (.int .i64 n')).setCell ⟨A, 1, none⟩ (.int .i64 s')).setCell ⟨A, 2, none⟩ (.int .i64 m')) := by
  obtain ⟨h1, h2, h3, h4⟩ := h
  have o1 : ∀ (w : World) (v : Value) (i j : Nat), i ≠ j → (w.setCell ⟨A, i, none⟩ v).cell? ⟨A, j, none⟩ = w.cell? ⟨A, j, none⟩ := fun w v i j hij => World.cell?_setCell_other _ _ _ _ (by intro e; cases e; exact hij rfl)
  refine ⟨⟨?_, ?_, ?_, fun j => ?_⟩, (((Below.refl A w).setCell (Nat.le_refl _) _).setCell (Nat.le_refl _) _).setCell (Nat.le_refl _) _⟩
  · rw [o1 _ _ _ _ (by omega), o1 _ _ _ _ (by omega)]
    exact World.cell?_setCell_same _ _ _ h1
  · rw [o1 _ _ _ _ (by omega)]
    exact World.cell?_setCell_same (w.setCell _ _) _ _ (by rw [o1 _ _ _ _ (by omega)]; exact h2)
  · exact World.cell?_setCell_same ((w.setCell _ _).setCell _ _) _ _ (by rw [o1 _ _ _ _ (by omega), o1 _ _ _ _ (by omega)]; exact h3)
  · rw [World.frozen?_setCell, World.frozen?_setCell, World.frozen?_setCell]; exact h4 j

set_option maxRecDepth 100000 in
set_option maxHeartbeats 400000 in
theorem add_any (A : Nat) (n s m d : Int) (w : World) (h : LAt w A n s m) (hn : 0 ≤ n) (hn1 : n ≤ 1048576) :
    Calls Try.prog 20 #[.pointer (some ⟨A, 0, none⟩), .int .i64 d] w fun e w' => e = .returned (.tuple #[]) ∧ LAt w' A (n + 1) (wrap64 (s + d)) (mx m d) ∧ Below A w w' := by
  have H := hid h
  obtain ⟨h1, h2, h3, h4⟩ := h
  have h3' : w.cell? ⟨A, 1 + 1, none⟩ = some (.int .i64 m) := h3
  by_cases hd : d ≤ m
  · have Hm : Hid (mx m d = m) := by show _ = _; unfold mx; rw [if_neg (by omega)]
    go_enter Try.func20, Try.ntmps20
    go_wp2
    refine bodyPost_end (v := .tuple #[]) (by simp [results, Try.results20, go_sem]) rfl ⟨rfl, ?_⟩
    rw [Hm.out]
    exact H.out.set _ _ _
  · have Hm : Hid (mx m d = d) := by show _ = _; unfold mx; rw [if_pos (by omega)]
    go_enter Try.func20, Try.ntmps20
    go_wp2
    refine bodyPost_end (v := .tuple #[]) (by simp [results, Try.results20, go_sem]) rfl ⟨rfl, ?_⟩
    rw [Hm.out]
    exact H.out.set _ _ _

theorem LAt.new (w : World) (n s m : Int) (t : TypeId) : LAt (w.alloc (.cells #[.int .i64 n, .int .i64 s, .int .i64 m] t)) w.heap.size n s m :=
  ⟨by rw [World.cell?_alloc_new]; rfl, by rw [World.cell?_alloc_new]; rfl, by rw [World.cell?_alloc_new]; rfl, fun j => by simp [go_sem]⟩

set_option maxRecDepth 100000 in
set_option maxHeartbeats 400000 in
theorem zzAdd_any (n s m d : Int) (w : World) (hn : 0 ≤ n) (hn1 : n ≤ 1048576) :
    Calls Try.prog 17 #[.int .i64 n, .int .i64 s, .int .i64 m, .int .i64 d] w fun e w' => e = .returned (.tuple #[.int .i64 (n + 1), .int .i64 (wrap64 (s + d)), .int .i64 (mx m d)]) ∧ Below w.heap.size w w' := by
  go_enter Try.func17, Try.ntmps17
  go_wp2_with (go_at_call 20; refine (told (add_any w.heap.size n s m d _ (LAt.new w n s m 40) hn hn1)).mono ?_)
  intro e w1 hp
  obtain ⟨rfl, ⟨c0, c1, c2, c3⟩, hb⟩ := hp.out
  have Hb := hid (((Below.refl _ w).alloc (Nat.le_refl _) _).trans hb)
  have c2' : w1.cell? ⟨w.heap.size, 1 + 1, none⟩ = some (.int .i64 (mx m d)) := c2
  clear hp hb c3
  go_wp2
  go_quiet (fail)
  go_wp2
  exact bodyPost_ret (v := .tuple #[.int .i64 (n + 1), .int .i64 (wrap64 (s + d)), .int .i64 (mx m d)]) (by simp [results, Try.results17, go_sem]) rfl ⟨rfl, below_drewN Hb.out _⟩

theorem size3 (w : World) (p q r : Addr) (x y z : Value) : (((w.setCell p x).setCell q y).setCell r z).heap.size = w.heap.size := by simp [World.setCell]
theorem LAt.alloc_drewN {w : World} {A : Nat} {n s m : Int} (h : LAt w A n s m) (hA : A < w.heap.size) (o : Obj) (k : Nat) : LAt ((w.alloc o).drewN k) A n s m := by
  have hb : Below w.heap.size w ((w.alloc o).drewN k) := below_drewN ((Below.refl _ _).alloc (Nat.le_refl _) o) k
  exact ⟨(hb.cell (by exact hA)).trans h.1, (hb.cell (by exact hA)).trans h.2.1, (hb.cell (by exact hA)).trans h.2.2.1, fun j => (hb.frozen (by exact hA)).trans (h.2.2.2 j)⟩
theorem bel_alloc {B : Nat} {a w : World} (h : Below B a w) (hB : B ≤ w.heap.size) (o : Obj) (k : Nat) : Below B a ((w.alloc o).drewN k) := below_drewN (h.alloc hB o) k

set_option maxRecDepth 100000 in
set_option maxHeartbeats 400000 in
theorem merge_any (A : Nat) (n s m n2 s2 m2 : Int) (w : World) (h : LAt w A n s m) (hn : 0 ≤ n) (hn1 : n ≤ 1048576) (hm : 0 ≤ n2) (hm1 : n2 ≤ 1048576) (hA : A < w.heap.size) :
    Calls Try.prog 18 #[.pointer (some ⟨A, 0, none⟩), .agg #[.int .i64 n2, .int .i64 s2, .int .i64 m2]] w fun e w' => e = .returned (.tuple #[]) ∧ LAt w' A (n + n2) (wrap64 (s + s2)) (mx m m2) ∧ Below A w w' := by
  have H := hid h
  obtain ⟨h1, h2, h3, h4⟩ := h
  have h3' : w.cell? ⟨A, 1 + 1, none⟩ = some (.int .i64 m) := h3
  by_cases hd : m2 ≤ m
  · have Hm : Hid (mx m m2 = m) := by show _ = _; unfold mx; rw [if_neg (by omega)]
    go_enter Try.func18, Try.ntmps18
    go_wp2
    go_big_region
    go_wp2
    go_big_region
    go_wp2
    go_big_region
    go_wp2
    refine bodyPost_end (v := .tuple #[]) (by simp [results, Try.results18, go_sem]) rfl ⟨rfl, ?_⟩
    rw [Hm.out]
    have h0 := H.out.set (n + n2) (wrap64 (s + s2)) m
    exact ⟨h0.1.alloc_drewN (by rw [size3]; exact hA) _ 3, bel_alloc h0.2 (by rw [size3]; omega) _ 3⟩
  · have Hm : Hid (mx m m2 = m2) := by show _ = _; unfold mx; rw [if_pos (by omega)]
    go_enter Try.func18, Try.ntmps18
    go_wp2
    go_big_region
    go_wp2
    go_big_region
    go_wp2
    go_big_region
    go_wp2
    refine bodyPost_end (v := .tuple #[]) (by simp [results, Try.results18, go_sem]) rfl ⟨rfl, ?_⟩
    rw [Hm.out]
    have h0 := H.out.set (n + n2) (wrap64 (s + s2)) m2
    exact ⟨h0.1.alloc_drewN (by rw [size3]; exact hA) _ 3, bel_alloc h0.2 (by rw [size3]; omega) _ 3⟩

set_option maxRecDepth 100000 in
set_option maxHeartbeats 400000 in
theorem zzMerge_any (n s m n2 s2 m2 : Int) (w : World) (hn : 0 ≤ n) (hn1 : n ≤ 1048576) (hm : 0 ≤ n2) (hm1 : n2 ≤ 1048576) :
    Calls Try.prog 12 #[.int .i64 n, .int .i64 s, .int .i64 m, .int .i64 n2, .int .i64 s2, .int .i64 m2] w fun e w' => e = .returned (.tuple #[.int .i64 (n + n2), .int .i64 (wrap64 (s + s2)), .int .i64 (mx m m2)]) ∧ Below w.heap.size w w' := by
  go_enter Try.func12, Try.ntmps12
  go_wp2_with (go_at_call 18; refine (told (merge_any w.heap.size n s m n2 s2 m2 _ (LAt.new w n s m 40) hn hn1 hm hm1 (by simp))).mono ?_)
  intro e w1 hp
  obtain ⟨rfl, ⟨c0, c1, c2, c3⟩, hb⟩ := hp.out
  have Hb := hid (((Below.refl _ w).alloc (Nat.le_refl _) _).trans hb)
  have c2' : w1.cell? ⟨w.heap.size, 1 + 1, none⟩ = some (.int .i64 (mx m m2)) := c2
  clear hp hb c3
  go_wp2
  go_quiet (fail)
  go_wp2
  exact bodyPost_ret (v := .tuple #[.int .i64 (n + n2), .int .i64 (wrap64 (s + s2)), .int .i64 (mx m m2)]) (by simp [results, Try.results12, go_sem]) rfl ⟨rfl, below_drewN Hb.out _⟩
end Go.Proofs.Qxb6003724a
