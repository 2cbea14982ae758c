import Derived.Test.Qxb6003717aC1
import Derived.Deep.LoopGhost
namespace Go.Proofs.Qxb6003717a
open Go.RowKit
attribute [local go_sem ↓] Go.wp_at_zero Go.wp_at_succ

theorem frozen_below {w w' : World} {a : Addr} (h : w.frozen? a = false) (hlt : a.block < w.heap.size) (hb : Below w.heap.size w w') : w'.frozen? a = false := by
  rw [hb.frozen hlt]; exact h

theorem W_empty (l : List ByteArray) (h : l ≠ []) : (mapS lowB (W l)).toList.isEmpty = false := by
  rw [ByteArray.toList_eq]
  cases l with
  | nil => exact absurd rfl h
  | cons s r =>
    show ((wl (s :: r)).toArray.map lowB).toList.isEmpty = false
    rw [Array.toList_map, List.toList_toArray, wl_cons]
    rfl
theorem W_nil : mapS lowB (W []) = ⟨#[]⟩ := by
  simp [W, wl, mapS]

set_option maxRecDepth 100000 in
set_option maxHeartbeats 1000000 in
theorem childOf_any (z : ByteArray) (n : List ByteArray) (hn : okN n = true) (w : World) :
    Calls Try.prog 34 #[nm z, nm (W n)] w fun e w' => e = .returned (nm (W (childL z n n))) ∧ Below w.heap.size w w' := by
  have Hn := hid hn
  clear hn
  go_enter Try.func34, Try.ntmps34
  go_wp2
  go_loopg [5] n.length (fun k p wr => ∃ b L, Hid (k = L.length) ∧ p = .pointer (some ⟨b, 0, none⟩) ∧ wr.cell? ⟨b, 0, none⟩ = some (.string (W L)) ∧ wr.frozen? ⟨b, 0, none⟩ = false ∧ w.heap.size + 3 ≤ b ∧ Hid (okN L = true) ∧ Hid (childL z n L = childL z n n) ∧
    Below (w.heap.size + 3) (((w.alloc (.cells #[.string z] 26)).alloc (.cells #[.string (W n)] 26)).alloc (.cells #[.string ⟨#[]⟩] 26)) wr)
  case atStart => exact ⟨w.heap.size + 3, n, rfl, rfl, by simp [go_sem], by simp [go_sem], Nat.le_refl _, Hn, rfl, (Below.refl _ _).alloc (by simp) _⟩
  case round =>
    obtain ⟨b, L, hk, rfl, hcb, hfb, hble, hokL, hch, hbel⟩ := hrel
    have HB := hid hbel
    have hc0 : wr.cell? ⟨w.heap.size, 0, none⟩ = some (.string z) := by rw [hbel.cell (by simp)]; simp [go_sem]
    have hc1 : wr.cell? ⟨w.heap.size + 1, 0, none⟩ = some (.string (W n)) := by rw [hbel.cell (by simp)]; simp [go_sem]
    have hc2 : wr.cell? ⟨w.heap.size + 2, 0, none⟩ = some (.string ⟨#[]⟩) := by rw [hbel.cell (by simp)]; simp [go_sem]
    have hf2 : wr.frozen? ⟨w.heap.size + 2, 0, none⟩ = false := by rw [hbel.frozen (by simp)]; simp [go_sem]
    have hbsz : b < wr.heap.size := World.block_lt_of_cell? _ _ hcb
    have Hw : Hid (Below w.heap.size w wr) := ((((Below.refl _ _).alloc (Nat.le_refl _) _).alloc (by simp) _).alloc (by simp; omega) _).trans (hbel.mono (by omega))
    have HL : Hid ((W L).size ≤ maxLen) := by have := okN_len hokL.out; show _ ≤ _; rw [W_size]; unfold maxLen; omega
    clear hbel
    go_wp2_with (go_at_call 42; refine (told (key_any _ _ HL.out)).mono ?_)
    intro e w1 hp
    obtain ⟨rfl, hb1⟩ := hp.out
    have hcb1 := cell_below hcb hb1
    have hc01 := cell_below hc0 hb1
    have hc11 := cell_below hc1 hb1
    have hc21 := cell_below hc2 hb1
    have hf21 : w1.frozen? ⟨w.heap.size + 2, 0, none⟩ = false := by rw [hb1.frozen (by show w.heap.size + 2 < _; omega)]; exact hf2
    have hfb1 := frozen_below hfb (by exact hbsz) hb1
    have Hw1 := hid (ext_trans Hw.out hb1)
    have HB1 := hid (HB.out.trans (hb1.mono (by omega)))
    clear hp hb1 hcb hc0 hc1 hc2 hf2 Hw HB hfb hbsz
    cases L with
    | nil =>
      rw [W_nil]
      have Hr : Hid (childL z n n = n) := hch.out.symm
      go_wp2
      refine bodyPost_ret (v := nm (W n)) (by simp [results, Try.results34, go_sem, hc21]) rfl ⟨by rw [Hr.out], ?_⟩
      exact Hw1.out.setCell (by simp; omega) _
    | cons s r =>
      have hne := W_empty (s :: r) (by simp)
      have HRs : Hid ((W r).size ≤ maxLen) := by have := okN_len (okN_cons hokL.out).1; show _ ≤ _; rw [W_size]; unfold maxLen; omega
      have hb1s : b < w1.heap.size := World.block_lt_of_cell? _ _ hcb1
      by_cases hkey : key (W r) = key z
      · have hd : decide (key (W r) = key z) = true := decide_eq_true hkey
        have Hr : Hid (childL z n n = s :: r) := by show _ = _; rw [← hch.out]; unfold childL; rw [if_pos hkey]
        clear hkey
        go_wp2
        go_region_held3 (fun w' => w'.cell? ⟨b, 0, none⟩ = some (.string (W (s :: r))) ∧ w'.cell? ⟨w.heap.size, 0, none⟩ = some (.string z) ∧ Hid (Below w1.heap.size w1 w'))
          (first | exact ⟨hcb1, hc01, hid (Below.refl _ _).drew⟩ | (go_split_ands; exact ⟨cell_below (by assumption) hb2.out, cell_below (by assumption) hb2.out, hid (ext_trans (Hid.out (by assumption)) hb2.out)⟩))
          (first | (go_at_call 43; refine (parent_W s r _ hokL.out).mono ?_; rintro e w' ⟨rfl, hb2'⟩; have hb2 := hid hb2'; clear hb2') | (go_at_call 41; refine (equalFold_any _ _ _ HRs.out).mono ?_; rintro e w3 ⟨rfl, hb2'⟩; have hb2 := hid hb2'; clear hb2'))
        obtain ⟨hcb3, hc03, hb3⟩ : w3.cell? ⟨b, 0, none⟩ = some (.string (W (s :: r))) ∧ w3.cell? ⟨w.heap.size, 0, none⟩ = some (.string z) ∧ Hid (Below w1.heap.size w1 w3) := by assumption
        have hc23 := cell_below hc21 hb3.out
        have hf23 := frozen_below hf21 (World.block_lt_of_cell? _ _ hc21) hb3.out
        have hfb3 := frozen_below hfb1 (by exact hb1s) hb3.out
        have Hw3 := hid (ext_trans Hw1.out hb3.out)
        have HB3 : Hid (Below (w.heap.size + 3) (((w.alloc (.cells #[.string z] 26)).alloc (.cells #[.string (W n)] 26)).alloc (.cells #[.string ⟨#[]⟩] 26)) w3) := HB1.out.trans (hb3.out.mono (by omega))
        have hb3s : b < w3.heap.size := World.block_lt_of_cell? _ _ hcb3
        clear hcb1 hc01 hc11 hc21 hf21 Hw1 HB1 hfb1 hb1s hb3
        go_wp2
        refine bodyPost_ret (v := nm (W (s :: r))) (by simp [results, Try.results34, go_sem, hc23]) rfl ⟨by rw [Hr.out], ?_⟩
        exact Hw3.out.setCell (by simp; omega) _
      · have hd : decide (key (W r) = key z) = false := decide_eq_false hkey
        have Hr : Hid (childL z n r = childL z n n) := by show _ = _; rw [← hch.out]; conv => rhs; unfold childL; rw [if_neg hkey]
        clear hkey
        go_wp2
        go_region_held3 (fun w' => w'.cell? ⟨b, 0, none⟩ = some (.string (W (s :: r))) ∧ w'.cell? ⟨w.heap.size, 0, none⟩ = some (.string z) ∧ Hid (Below w1.heap.size w1 w'))
          (first | exact ⟨hcb1, hc01, hid (Below.refl _ _).drew⟩ | (go_split_ands; exact ⟨cell_below (by assumption) hb2.out, cell_below (by assumption) hb2.out, hid (ext_trans (Hid.out (by assumption)) hb2.out)⟩))
          (first | (go_at_call 43; refine (parent_W s r _ hokL.out).mono ?_; rintro e w' ⟨rfl, hb2'⟩; have hb2 := hid hb2'; clear hb2') | (go_at_call 41; refine (equalFold_any _ _ _ HRs.out).mono ?_; rintro e w3 ⟨rfl, hb2'⟩; have hb2 := hid hb2'; clear hb2'))
        obtain ⟨hcb3, hc03, hb3⟩ : w3.cell? ⟨b, 0, none⟩ = some (.string (W (s :: r))) ∧ w3.cell? ⟨w.heap.size, 0, none⟩ = some (.string z) ∧ Hid (Below w1.heap.size w1 w3) := by assumption
        have hc23 := cell_below hc21 hb3.out
        have hf23 := frozen_below hf21 (World.block_lt_of_cell? _ _ hc21) hb3.out
        have hfb3 := frozen_below hfb1 (by exact hb1s) hb3.out
        have Hw3 := hid (ext_trans Hw1.out hb3.out)
        have HB3 : Hid (Below (w.heap.size + 3) (((w.alloc (.cells #[.string z] 26)).alloc (.cells #[.string (W n)] 26)).alloc (.cells #[.string ⟨#[]⟩] 26)) w3) := HB1.out.trans (hb3.out.mono (by omega))
        have hb3s : b < w3.heap.size := World.block_lt_of_cell? _ _ hcb3
        clear hcb1 hc01 hc11 hc21 hf21 Hw1 HB1 hfb1 hb1s hb3
        go_wp2_with (go_at_call 43; refine (told (parent_W s r _ hokL.out)).mono ?_)
        intro e w4 hp
        obtain ⟨rfl, hb4⟩ := hp.out
        have hcn : w4.cell? ⟨w3.heap.size, 0, none⟩ = some (.string (W (s :: r))) := ext_cell hb4 rfl
        have hfn : w4.frozen? ⟨w3.heap.size, 0, none⟩ = false := by rw [hb4.frozen (by simp)]; simp [go_sem]
        have HB4 : Hid (Below (w.heap.size + 3) (((w.alloc (.cells #[.string z] 26)).alloc (.cells #[.string (W n)] 26)).alloc (.cells #[.string ⟨#[]⟩] 26)) w4) := (HB3.out.alloc (by omega) _).trans (hb4.mono (by simp; omega))
        clear hp hb4 HB3 Hw3
        go_wp2
        go_roundg r.length
        case measure => have := hk.out; simp at this; omega
        case rel => exact ⟨w3.heap.size, r, rfl, rfl, World.cell?_setCell_same _ _ _ hcn, by rw [World.frozen?_setCell]; exact hfn, by omega, (okN_cons hokL.out).1, Hr, HB4.out.setCell (by simp; omega) _⟩
end Go.Proofs.Qxb6003717a
