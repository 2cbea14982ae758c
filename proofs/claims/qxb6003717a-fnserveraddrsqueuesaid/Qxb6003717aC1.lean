import Derived.Test.Qxb6003717aB2
import Derived.Test.Qxb6003717aP5
import Derived.RegionTactic
namespace Go.Proofs.Qxb6003717a
open Go.RowKit

set_option maxRecDepth 100000 in
set_option maxHeartbeats 1000000 in
theorem lowerName_any (s : ByteArray) (w : World) (hs : s.size ≤ maxLen) :
    Calls Try.prog 46 #[nm s] w fun e w' => e = .returned (nm (mapS lowB s)) ∧ Below w.heap.size w w' := by
  unfold maxLen at hs
  obtain ⟨c, w1, hconv, hby, hb1, hz1⟩ := conv_bytes ((w.alloc (.cells #[.string s] 26)).alloc (.cells #[.string ⟨#[]⟩] 26)) s
  have e2 : ((w.alloc (.cells #[.string s] 26)).alloc (.cells #[.string ⟨#[]⟩] 26)).heap.size = w.heap.size + 2 := by simp
  rw [e2] at hconv hby hb1 hz1
  have Hz1 := hid hz1
  have Hb1 := hid hb1
  have Hby := hid hby
  clear e2 hz1 hb1 hby
  go_enter Try.func46, Try.ntmps46
  go_wp2
  go_loopw [10] (fun i wi => ∃ j : Nat, j ≤ s.size ∧ i = .int .i64 j ∧ Cells wi (w.heap.size + 2) s.size (byF lowN s j) ∧ Below (w.heap.size + 2) ((w.alloc (.cells #[.string s] 26)).alloc (.cells #[.string ⟨#[]⟩] 26)) wi) (fun i _ => s.size - (intOf i).toNat)
  case atStart => exact ⟨0, Nat.zero_le _, rfl, Hby.out.congr (fun i _ => (byF_zero _ _ i).symm), Hb1.out⟩
  case round =>
    obtain ⟨j, hj, rfl, hbc, hbi⟩ := hrel
    clear hconv
    by_cases hlt2 : j < s.size
    · have hcj := (hbc j hlt2).1
      obtain ⟨x, hx⟩ : ∃ x : UInt8, s.data.toList.getD j 0 = x := ⟨_, rfl⟩
      rw [byF_at, hx] at hcj
      have Hx := hid hx
      clear hx
      have hfj := (hbc j hlt2).2
      go_wp2_with (go_at_call 45; refine (lower_u8 _ _).mono ?_; rintro e w' ⟨rfl, rfl⟩)
      go_roundw
      case rel => exact ⟨j + 1, by omega, by go_num, (hbc.set j _).congr (fun i _ => by have := byF_step lowN s j i; rw [Hx.out] at this; exact this), hbi.setCell (by simp) _⟩
      case measure => simp [intOf]; omega
    · have hcv := conv_string (c := c) (t := mapS lowB s) (by rw [mapS_size]; exact hbc) (fun i hi => byF_done lowN lowB lowB_toNat s j i (by rw [mapS_size] at hi; exact hi) (by omega))
      rw [mapS_size] at hcv
      have hcr : wr.cell? ⟨w.heap.size + 1, 0, none⟩ = some (.string ⟨#[]⟩) := by rw [hbi.cell (by simp)]; simp [go_sem]
      have hfr : wr.frozen? ⟨w.heap.size + 1, 0, none⟩ = false := by rw [hbi.frozen (by simp)]; simp [go_sem]
      have hfin : Hid (Below w.heap.size w wr) := (((Below.refl _ _).alloc (Nat.le_refl _) _).alloc (by simp) _).trans (hbi.mono (by omega))
      go_wp2
      refine bodyPost_ret (v := nm (mapS lowB s)) (by simp [results, Try.results46, go_sem, hcr]) rfl ⟨rfl, ?_⟩
      exact hfin.out.setCell (by simp) _

theorem field26 (s : ByteArray) (w : World) : (Instr.field 26 (.agg #[.string s]) 0).run Try.prog w = .ok (.string s) w := by kernel_rfl

set_option maxRecDepth 100000 in
set_option maxHeartbeats 1000000 in
theorem key_any (s : ByteArray) (w : World) (hs : s.size ≤ maxLen) :
    Calls Try.prog 42 #[nm s] w fun e w' => e = .returned (.string (mapS lowB s)) ∧ Below w.heap.size w w' := by
  have hfld := field26
  go_enter Try.func42, Try.ntmps42
  go_wp2_with (go_at_call 46; refine (told (lowerName_any s _ hs)).mono ?_)
  intro e w1 hp
  obtain ⟨rfl, hb1⟩ := hp.out
  have Hb := hid (ext_trans (ext_alloc (Below.refl w.heap.size w) _) hb1)
  clear hp hb1
  go_wp2
  go_ret
  exact ⟨rfl, Hb.out⟩

set_option maxRecDepth 100000 in
set_option maxHeartbeats 1000000 in
theorem parent_nil (w : World) :
    Calls Try.prog 43 #[nm ⟨#[]⟩] w fun e w' => e = .returned (nm ⟨#[]⟩) ∧ Below w.heap.size w w' := by
  go_enter Try.func43, Try.ntmps43
  go_wp2
  exact bodyPost_ret (v := nm ⟨#[]⟩) (by simp [results, Try.results43, go_sem]) rfl ⟨rfl, ((Below.refl _ _).alloc (Nat.le_refl _) _).alloc (by simp) _⟩

set_option maxRecDepth 100000 in
set_option maxHeartbeats 1000000 in
theorem parent_cons (x : ByteArray) (n : Nat) (w : World) (h0 : 0 < x.size) (hn : (x[0]'h0).toNat = n) (hle : 1 + n ≤ x.size) (hmx : x.size ≤ maxLen) :
    Calls Try.prog 43 #[nm x] w fun e w' => e = .returned (nm (x.extract (1 + n) x.size)) ∧ Below w.heap.size w w' := by
  unfold maxLen at hmx
  have hne : x.toList.isEmpty = false := by
    cases h : x.toList with
    | nil =>
      rw [ByteArray.toList_eq] at h
      have h3 : x.data.toList.length = 0 := by rw [h]; rfl
      have h4 : x.data.toList.length = x.size := Array.length_toList
      omega
    | cons a b => rfl
  go_enter Try.func43, Try.ntmps43
  go_wp2
  go_region
  go_wp2
  exact bodyPost_ret (v := nm (x.extract (1 + n) x.size)) (by simp [results, Try.results43, go_sem]) rfl ⟨rfl, (((Below.refl _ _).alloc (Nat.le_refl _) _).alloc (by simp) _).drew⟩

theorem W_zero (s : ByteArray) (r : List ByteArray) (h : s.size ≤ 63) (h0 : 0 < (W (s :: r)).size) : ((W (s :: r))[0]'h0).toNat = s.size := by
  show (((wl (s :: r)).toArray)[0]).toNat = s.size
  have e : wl (s :: r) = UInt8.ofNat s.size :: (s.data.toList ++ wl r) := by rw [wl_cons]; rfl
  simp only [e, List.getElem_toArray, List.getElem_cons_zero]
  simp
  omega

theorem W_tail (s : ByteArray) (r : List ByteArray) : (W (s :: r)).extract (1 + s.size) (W (s :: r)).size = W r := by
  apply ByteArray.ext
  rw [ByteArray.data_extract]
  apply Array.ext'
  have hl : (lab s).length = 1 + s.size := lab_length s
  rw [Array.toList_extract, W_data, W_data, W_size, wl_cons, List.length_append, hl]
  simp [List.extract_eq_take_drop, ← hl]

set_option maxRecDepth 100000 in
theorem parent_W (s : ByteArray) (r : List ByteArray) (w : World) (h : okN (s :: r) = true) :
    Calls Try.prog 43 #[nm (W (s :: r))] w fun e w' => e = .returned (nm (W r)) ∧ Below w.heap.size w w' := by
  have hs := (okN_cons h).2
  have hl := okN_len h
  have h0 : 0 < (W (s :: r)).size := by rw [W_size, wl_cons, List.length_append, lab_length]; omega
  have h1 : 1 + s.size ≤ (W (s :: r)).size := by rw [W_size, wl_cons, List.length_append, lab_length]; omega
  have := parent_cons (W (s :: r)) s.size w h0 (W_zero s r hs.2 h0) h1 (by rw [W_size]; unfold maxLen; omega)
  rw [W_tail] at this
  exact this
end Go.Proofs.Qxb6003717a
