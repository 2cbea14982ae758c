import Derived.Test.Qxb6003724aB2
import Derived.Laws.CopyOwn
import Derived.Deep.OwnRows
namespace Go.Proofs.Qxb6003724a
open Go.RowKit

theorem Try.info2 : (Try.prog.info? 2).map (fun i => (i.zero, i.size, i.bytes)) = some (some (.int .i64 0), 1, 8) := by kernel_rfl

/-- A row of n cells at block R, of which the first k hold xs. -/
def RowTo (w : World) (R n : Nat) (xs : List Int) (k : Nat) : Prop :=
  (∀ i, i < n → ∃ v, w.cell? ⟨R, i, none⟩ = some v) ∧ (∀ j, w.frozen? ⟨R, j, none⟩ = false) ∧ ∀ i x, xs[i]? = some x → i < k → w.cell? ⟨R, i, none⟩ = some (.int .i64 x)
theorem RowTo.step {w : World} {R n k : Nat} {xs : List Int} {x : Int} (h : RowTo w R n xs k) (hk : k < n) (hx : xs[k]? = some x) : RowTo (w.setCell ⟨R, k, none⟩ (.int .i64 x)) R n xs (k + 1) := by
  obtain ⟨h1, h2, h3⟩ := h
  have oth : ∀ i, i ≠ k → (w.setCell ⟨R, k, none⟩ (.int .i64 x)).cell? ⟨R, i, none⟩ = w.cell? ⟨R, i, none⟩ := fun i hi => World.cell?_setCell_other _ _ _ _ (by intro e; cases e; exact hi rfl)
  obtain ⟨v, hv⟩ := h1 k hk
  have same := World.cell?_setCell_same w ⟨R, k, none⟩ (.int .i64 x) hv
  refine ⟨fun i hi => ?_, fun j => by rw [World.frozen?_setCell]; exact h2 j, fun i y hy hi => ?_⟩
  · by_cases e : i = k
    · subst e; exact ⟨_, same⟩
    · rw [oth i e]; exact h1 i hi
  · by_cases e : i = k
    · subst e; rw [hx] at hy; cases hy; exact same
    · rw [oth i e]; exact h3 i y hy (by omega)
theorem RowTo.new (w : World) (n : Nat) (xs : List Int) : RowTo (w.alloc (.cells (madeCells #[.int .i64 0] n) 2)) w.heap.size n xs 0 := by
  refine ⟨fun i hi => ?_, fun j => by simp [go_sem], fun i x _ hi => absurd hi (Nat.not_lt_zero _)⟩
  rw [World.cell?_alloc_new]
  exact ⟨_, Array.getElem?_eq_getElem (by rw [size_madeCells]; exact hi)⟩

set_option maxRecDepth 100000 in
set_option maxHeartbeats 400000 in
theorem clone_any (a : Option Addr) (n cap : Nat) (xs : List Int) (w : World) (h : Ints w a n xs) (hsm : n ≤ 1048576) :
    Calls Try.prog 10 #[.slice a n cap] w fun e w' => (∃ a' c', e = .returned (.slice a' n c') ∧ Ints w' a' n xs) ∧ Below w.heap.size w w' := by
  have q26 : ∀ (w : World) (a : Option Addr) (n c n' c' : Nat), (binOp .eql 26 (.slice a n c) (.slice none n' c')).run Try.prog w = .ok (.bool a.isNone) w := fun w a n c n' c' => Lib.run_eql_slice_nil w _ _ a n c n' c' Try.underlying26
  cases a with
  | none =>
    have h0 : n = 0 := by
      rcases h.mem with h | ⟨b, off, h, _⟩
      · exact h
      · cases h
    subst h0
    go_enter Try.func10, Try.ntmps10
    go_wp2
    go_ret
    exact ⟨⟨none, 0, rfl, h⟩, Below.refl _ _⟩
  | some ad =>
    have hmk := run_make_row' (P := Try.prog) 26 2 (.int .i64 0) 8 Try.underlying26 Try.info2 rfl .i64 .i64 n (by omega) (by omega)
    have H := hid h
    clear h
    go_enter Try.func10, Try.ntmps10
    go_wp2
    go_loopw [4] (fun i wr => ∃ k : Nat, k ≤ n ∧ i = .int .i64 k ∧ Hid (RowTo wr w.heap.size n xs k) ∧ Hid (Below w.heap.size w wr)) (fun i _ => n - (intOf i).toNat)
    case atStart => exact ⟨0, Nat.zero_le _, rfl, RowTo.new w n xs, (Below.refl _ _).alloc (Nat.le_refl _) _⟩
    case round =>
      clear hmk q26
      obtain ⟨k, hk, rfl, hrow, hbel⟩ := hrel
      by_cases hlt : k < n
      · obtain ⟨b, off, x, hae, hc, hx, hb⟩ := (H.out.below hbel.out).at_ hlt
        cases hae
        obtain ⟨v, hv⟩ := hrow.out.1 k hlt
        have hf := hrow.out.2.1 k
        have Hs := hid (hrow.out.step hlt hx)
        clear hx
        have hk0 : (0 : Int) ≤ (k : Int) := by omega
        have hk1 : (k : Int) < (n : Int) := by omega
        go_wp2
        go_roundw
        case rel => exact ⟨k + 1, by omega, by go_num, Hs, hbel.out.setCell (by simp) _⟩
        case measure => simp [intOf]; omega
      · have hkn : k = n := by omega
        subst hkn
        go_wp2
        go_ret
        refine ⟨⟨_, _, rfl, H.out.len, H.out.lim, .inr ⟨w.heap.size, 0, rfl, fun i x hx => ?_⟩⟩, hbel.out⟩
        rw [Nat.zero_add]
        exact hrow.out.2.2 i x hx (by have := H.out.len; have := (List.getElem?_eq_some_iff.1 hx).1; omega)
end Go.Proofs.Qxb6003724a
