import Derived.Test.Qxb6003717aA7
namespace Go.Proofs.Qxb6003717a
open Go.RowKit

/-- What the first k turned strings and the zero strings behind them are. -/
def outF (f : UInt8 → UInt8) (ss : List ByteArray) (k : Nat) : Nat → Value := fun i => if i < k then .string (mapS f (ss.getD i ByteArray.empty)) else .string ⟨#[]⟩
theorem outF_zero (f : UInt8 → UInt8) (ss : List ByteArray) (i : Nat) : outF f ss 0 i = .string ⟨#[]⟩ := by simp [outF]
theorem outF_step (f : UInt8 → UInt8) (ss : List ByteArray) (k : Nat) (s : ByteArray) (hs : ss[k]? = some s) (i : Nat) : (if i = k then Value.string (mapS f s) else outF f ss k i) = outF f ss (k + 1) i := by
  unfold outF
  by_cases h : i = k
  · subst h
    rw [if_pos rfl, if_pos (by omega), List.getD_eq_getElem?_getD, hs]
    rfl
  · rw [if_neg h]
    by_cases h2 : i < k
    · rw [if_pos h2, if_pos (by omega)]
    · rw [if_neg h2, if_neg (by omega)]

/-- A row of bytes of which the first j are turned. -/
def byF (f : Int → Int) (s : ByteArray) (j : Nat) : Nat → Value := fun i => if i < j then .int .u8 (f ((s.data.toList.getD i 0).toNat : Int)) else .int .u8 ((s.data.toList.getD i 0).toNat : Int)
theorem byF_zero (f : Int → Int) (s : ByteArray) (i : Nat) : byF f s 0 i = .int .u8 ((s.data.toList.getD i 0).toNat : Int) := by simp [byF]
theorem byF_at (f : Int → Int) (s : ByteArray) (j : Nat) : byF f s j j = .int .u8 ((s.data.toList.getD j 0).toNat : Int) := by simp [byF]
theorem byF_step (f : Int → Int) (s : ByteArray) (j : Nat) (i : Nat) : (if i = j then Value.int .u8 (f ((s.data.toList.getD j 0).toNat : Int)) else byF f s j i) = byF f s (j + 1) i := by
  unfold byF
  by_cases h : i = j
  · subst h
    rw [if_pos rfl, if_pos (by omega)]
  · rw [if_neg h]
    by_cases h2 : i < j
    · rw [if_pos h2, if_pos (by omega)]
    · rw [if_neg h2, if_neg (by omega)]
theorem byF_keep (f : Int → Int) (s : ByteArray) (j : Nat) (hf : f ((s.data.toList.getD j 0).toNat : Int) = ((s.data.toList.getD j 0).toNat : Int)) (i : Nat) : byF f s j i = byF f s (j + 1) i := by
  rw [← byF_step f s j i]
  by_cases h : i = j
  · subst h
    rw [if_pos rfl, hf, byF_at]
  · rw [if_neg h]
theorem byF_done (f : Int → Int) (g : UInt8 → UInt8) (hg : ∀ c : UInt8, ((g c).toNat : Int) = f (c.toNat : Int)) (s : ByteArray) (j i : Nat) (hi : i < s.size) (hj : s.size ≤ j) : byF f s j i = .int .u8 (((mapS g s).data.toList.getD i 0).toNat : Int) := by
  have hi' : i < s.data.size := hi
  unfold byF
  rw [if_pos (by omega)]
  congr 1
  rw [← hg]
  simp only [mapS, Array.toList_map, List.getD_eq_getElem?_getD, List.getElem?_map, Array.getElem?_toList, Array.getElem?_eq_getElem hi', Option.map_some, Option.getD_some]

theorem Strs.of_outF {w : World} {g n : Nat} {f : UInt8 → UInt8} {ss : List ByteArray} {k : Nat} (h : Cells w g n (outF f ss k)) (hl : ss.length = n) (hn : n ≤ maxLen) (hs : ∀ s ∈ ss, s.size ≤ maxLen) (hk : n ≤ k) :
    Strs w (some ⟨g, 0, none⟩) n (ss.map (mapS f)) := by
  refine Strs.of_cells h (by simpa using hl) hn ?_ ?_
  · intro s hs'
    simp at hs'
    obtain ⟨s', h1, rfl⟩ := hs'
    rw [mapS_size]
    exact hs s' h1
  · intro i hi
    have hil : i < ss.length := by omega
    simp [outF, List.getD_eq_getElem?_getD, List.getElem?_eq_getElem hil]
    omega

set_option maxRecDepth 10000 in
set_option maxHeartbeats 1000000 in
theorem zzLowerLabels_any (a : Option Addr) (n cap : Nat) (ss : List ByteArray) (w : World) (h : Strs w a n ss) (hsm : n ≤ 1048576) :
    Calls Try.prog 29 #[.slice a n cap] w fun e w' => (∃ a' c', e = .returned (.slice a' n c') ∧ Strs w' a' n (ss.map (mapS lowB))) ∧ Below w.heap.size w w' := by
  have hmk := run_make_row' (P := Try.prog) 22 9 (.string ⟨#[]⟩) 16 Try.underlying22 Try.info9 rfl .i64 .i64 n (by omega) (by omega)
  go_enter Try.func29, Try.ntmps29
  go_wp2
  go_loopw [4] (fun i wr => ∃ k : Nat, k ≤ n ∧ i = .int .i64 k ∧ Cells wr w.heap.size n (outF lowB ss k) ∧ Below w.heap.size w wr ∧ w.heap.size < wr.heap.size) (fun i _ => n - (intOf i).toNat)
  case atStart => exact ⟨0, Nat.zero_le _, rfl, (Cells.made w _ n 9).congr (fun i _ => (outF_zero _ _ i).symm), (Below.refl _ _).alloc (Nat.le_refl _) _, by simp⟩
  case round =>
    obtain ⟨k, hk, rfl, hcs, hbel, hlt0⟩ := hrel
    clear hmk
    obtain ⟨wo, rfl⟩ : ∃ wo : World, wo = wr := ⟨_, rfl⟩
    by_cases hlt : k < n
    · obtain ⟨b, off, s, rfl, hcell0, hs0, hmem, hb⟩ := h.at_ hlt
      have hcell : wo.cell? ⟨b, off + k, none⟩ = some (.string s) := (hbel.cell (by exact hb)).trans hcell0
      have Hs : Hid (ss[k]? = some s) := hs0
      have hls := h.lims s hmem
      unfold maxLen at hls
      clear hs0 hmem hcell0
      obtain ⟨c, w1, hconv, hby, hb1, hz1⟩ := conv_bytes wo s
      have Hz1 : Hid (w1.heap.size = wo.heap.size + 1) := hz1
      clear hz1
      go_wp2
      go_loopw [6] (fun i wi => ∃ j : Nat, j ≤ s.size ∧ i = .int .i64 j ∧ Cells wi wo.heap.size s.size (byF lowN s j) ∧ Below wo.heap.size wo wi) (fun i _ => s.size - (intOf i).toNat)
      case atStart => exact ⟨0, Nat.zero_le _, rfl, hby.congr (fun i _ => (byF_zero _ _ i).symm), hb1⟩
      case round =>
        obtain ⟨j, hj, rfl, hbc, hbi⟩ := hrel
        clear hconv hby hb1
        by_cases hlt2 : j < s.size
        · have hcj := (hbc j hlt2).1
          obtain ⟨x, hx⟩ : ∃ x : UInt8, s.data.toList.getD j 0 = x := ⟨_, rfl⟩
          rw [byF_at, hx] at hcj
          have Hx : Hid (s.data.toList.getD j 0 = x) := hx
          clear hx
          have hfj := (hbc j hlt2).2
          go_wp2_with (go_at_call 33; refine (zzLower_u8 _ _).mono ?_; rintro e w' ⟨rfl, rfl⟩)
          go_roundw
          case rel => exact ⟨j + 1, by omega, by go_num, (hbc.set j _).congr (fun i _ => by have := byF_step lowN s j i; rw [Hx.out] at this; exact this), hbi.setCell (by simp) _⟩
          case measure => simp [intOf]; omega
        · have hcv := conv_string (c := c) (t := mapS lowB s) (by rw [mapS_size]; exact hbc) (fun i hi => byF_done lowN lowB lowB_toNat s j i (by rw [mapS_size] at hi; exact hi) (by omega))
          rw [mapS_size] at hcv
          have hco := (hcs.below hbi hlt0)
          have hck := (hco k hlt).1
          have hfk := (hco k hlt).2
          go_wp2
          go_roundw
          case rel => exact ⟨k + 1, by omega, by go_num, (hco.set k _).congr (fun i _ => outF_step lowB ss k s Hs.out i), (hbel.trans (hbi.mono (by omega))).setCell (by simp) _, by have := hbi.size; simp [World.setCell]; omega⟩
          case measure => simp [intOf]; omega
    · go_wp2
      go_ret
      exact ⟨⟨_, _, rfl, Strs.of_outF hcs h.len h.lim h.lims (by omega)⟩, hbel⟩
set_option maxRecDepth 10000 in
set_option maxHeartbeats 1000000 in
theorem zzUpperLabels_any (a : Option Addr) (n cap : Nat) (ss : List ByteArray) (w : World) (h : Strs w a n ss) (hsm : n ≤ 1048576) :
    Calls Try.prog 28 #[.slice a n cap] w fun e w' => (∃ a' c', e = .returned (.slice a' n c') ∧ Strs w' a' n (ss.map (mapS upB))) ∧ Below w.heap.size w w' := by
  have hmk := run_make_row' (P := Try.prog) 22 9 (.string ⟨#[]⟩) 16 Try.underlying22 Try.info9 rfl .i64 .i64 n (by omega) (by omega)
  go_enter Try.func28, Try.ntmps28
  go_wp2
  go_loopw [4] (fun i wr => ∃ k : Nat, k ≤ n ∧ i = .int .i64 k ∧ Cells wr w.heap.size n (outF upB ss k) ∧ Below w.heap.size w wr ∧ w.heap.size < wr.heap.size) (fun i _ => n - (intOf i).toNat)
  case atStart => exact ⟨0, Nat.zero_le _, rfl, (Cells.made w _ n 9).congr (fun i _ => (outF_zero _ _ i).symm), (Below.refl _ _).alloc (Nat.le_refl _) _, by simp⟩
  case round =>
    obtain ⟨k, hk, rfl, hcs, hbel, hlt0⟩ := hrel
    clear hmk
    obtain ⟨wo, rfl⟩ : ∃ wo : World, wo = wr := ⟨_, rfl⟩
    by_cases hlt : k < n
    · obtain ⟨b, off, s, rfl, hcell0, hs0, hmem, hb⟩ := h.at_ hlt
      have hcell : wo.cell? ⟨b, off + k, none⟩ = some (.string s) := (hbel.cell (by exact hb)).trans hcell0
      have Hs : Hid (ss[k]? = some s) := hs0
      have hls := h.lims s hmem
      unfold maxLen at hls
      clear hs0 hmem hcell0
      obtain ⟨c, w1, hconv, hby, hb1, hz1⟩ := conv_bytes wo s
      have Hz1 : Hid (w1.heap.size = wo.heap.size + 1) := hz1
      clear hz1
      go_wp2
      go_loopw [6] (fun i wi => ∃ j : Nat, j ≤ s.size ∧ i = .int .i64 j ∧ Cells wi wo.heap.size s.size (byF upN s j) ∧ Below wo.heap.size wo wi) (fun i _ => s.size - (intOf i).toNat)
      case atStart => exact ⟨0, Nat.zero_le _, rfl, hby.congr (fun i _ => (byF_zero _ _ i).symm), hb1⟩
      case round =>
        obtain ⟨j, hj, rfl, hbc, hbi⟩ := hrel
        clear hconv hby hb1
        by_cases hlt2 : j < s.size
        · have hcj := (hbc j hlt2).1
          obtain ⟨x, hx⟩ : ∃ x : UInt8, s.data.toList.getD j 0 = x := ⟨_, rfl⟩
          rw [byF_at, hx] at hcj
          have Hx : Hid (s.data.toList.getD j 0 = x) := hx
          clear hx
          have hfj := (hbc j hlt2).2
          have bx := x.toNat_lt
          by_cases c1 : (97 : Int) ≤ (x.toNat : Int)
          · by_cases c2 : (x.toNat : Int) ≤ 122
            · have HU : Hid (upN (x.toNat : Int) = (x.toNat : Int) - 32) := by show _ = _; simp [upN, c1, c2]
              go_wp2
              go_roundw
              case rel => exact ⟨j + 1, by omega, by go_num, (hbc.set j _).congr (fun i _ => by have := byF_step upN s j i; rw [Hx.out, HU.out] at this; exact this), hbi.setCell (by simp) _⟩
              case measure => simp [intOf]; omega
            · have HU : Hid (upN (x.toNat : Int) = (x.toNat : Int)) := by show _ = _; simp [upN, c2]
              go_wp2
              go_roundw
              case rel => exact ⟨j + 1, by omega, by go_num, hbc.congr (fun i _ => byF_keep upN s j (by rw [Hx.out, HU.out]) i), hbi⟩
              case measure => simp [intOf]; omega
          · have HU : Hid (upN (x.toNat : Int) = (x.toNat : Int)) := by show _ = _; simp [upN, c1]
            go_wp2
            go_roundw
            case rel => exact ⟨j + 1, by omega, by go_num, hbc.congr (fun i _ => byF_keep upN s j (by rw [Hx.out, HU.out]) i), hbi⟩
            case measure => simp [intOf]; omega
        · have hcv := conv_string (c := c) (t := mapS upB s) (by rw [mapS_size]; exact hbc) (fun i hi => byF_done upN upB upB_toNat s j i (by rw [mapS_size] at hi; exact hi) (by omega))
          rw [mapS_size] at hcv
          have hco := (hcs.below hbi hlt0)
          have hck := (hco k hlt).1
          have hfk := (hco k hlt).2
          go_wp2
          go_roundw
          case rel => exact ⟨k + 1, by omega, by go_num, (hco.set k _).congr (fun i _ => outF_step upB ss k s Hs.out i), (hbel.trans (hbi.mono (by omega))).setCell (by simp) _, by have := hbi.size; simp [World.setCell]; omega⟩
          case measure => simp [intOf]; omega
    · go_wp2
      go_ret
      exact ⟨⟨_, _, rfl, Strs.of_outF hcs h.len h.lim h.lims (by omega)⟩, hbel⟩
end Go.Proofs.Qxb6003717a
