import Derived.Test.Qxb6003717aA9
namespace Go.Proofs.Qxb6003717a
open Go.RowKit

theorem Try.info52 : (Try.prog.info? 52).map (fun i => (i.zero, i.size, i.bytes)) = some (some (.agg #[.int .u64 0, .int .u64 0, .pointer none]), 3, 24) := by kernel_rfl

/-- How many of these names have the key of q. -/
def cnt (q : ByteArray) (l : List ByteArray) : Nat := l.countP fun s => decide (key s = key q)
theorem cnt_le (q : ByteArray) (l : List ByteArray) : cnt q l ≤ l.length := List.countP_le_length
theorem cnt_next {q : ByteArray} {l : List ByteArray} {k : Nat} {s : ByteArray} (h : l[k]? = some s) : cnt q (l.take (k + 1)) = cnt q (l.take k) + if key s = key q then 1 else 0 := by
  rw [take_succ_of h]
  simp [cnt, List.countP_append, List.countP_cons]

theorem ownsRow_below {w w' : World} {base : Nat} {e : TypeId} {size : Nat} {v : Value} {n : Nat} {xs : List Value} (h : w.ownsRow base e size v n xs) (hb : Below w.heap.size w w') : w'.ownsRow base e size v n xs :=
  h.kept (row := none) ⟨hb.os, hb.tape, hb.output, hb.size, fun k hk _ => hb.block k hk⟩ (by cases hv : v.ownBlock <;> simp)

theorem hid {p : Prop} (h : p) : Hid p := h

/-- v is a slice of m elements (of type e, size cells each) of the call's own. -/
def Own (w : World) (B : Nat) (e : TypeId) (size : Nat) (v : Value) (m : Nat) : Prop := ∃ xs, w.ownsRow B e size v m xs

set_option maxRecDepth 100000 in
set_option maxHeartbeats 1000000 in
theorem addrs_any (H : Nat) (l : List ByteArray) (q : ByteArray) (w : World) (h : HintsAt w H l) (hsm : l.length ≤ 1048576) (hls : ∀ s ∈ l, s.size ≤ maxLen) :
    Calls Try.prog 31 #[.pointer (some ⟨H, 0, none⟩), nm q] w fun e w' => (∃ a' c', e = .returned (.slice a' (cnt q l) c')) ∧ Below w.heap.size w w' := by
  obtain ⟨i0, hi0, hz0, hz1, hz2⟩ := info_parts Try.info52
  obtain ⟨ao, c, hcH, hat⟩ := h
  have hHlt : H < w.heap.size := World.block_lt_of_cell? _ _ hcH
  go_enter Try.func31, Try.ntmps31
  go_wp2
  go_loopw [5, 13] (fun v i wr => ∃ k : Nat, k ≤ l.length ∧ i = .int .i64 k ∧ (∃ a1 c1 m, v = .slice a1 m c1 ∧ Hid (m = cnt q (l.take k)) ∧ Own wr (w.heap.size + 1) 52 3 v m) ∧ wr.cell? ⟨w.heap.size, 0, none⟩ = some (.string q) ∧ Below w.heap.size w wr) (fun _ i _ => l.length - (intOf i).toNat)
  case atStart => exact ⟨0, Nat.zero_le _, rfl, ⟨none, 0, 0, rfl, by simp [Hid, cnt], [], World.ownsRow_nil _ _ _ _⟩, by simp [go_sem], (Below.refl _ _).alloc (Nat.le_refl _) _⟩
  case round =>
    obtain ⟨k, hk, rfl, ⟨a1, c1, m, rfl, hm, xs, hown⟩, hcq, hbel⟩ := hrel
    have hml : m ≤ l.length := by have := cnt_le q (l.take k); have := List.length_take_le k l; have := hm.out; omega
    by_cases hlt : k < l.length
    · obtain ⟨s, hs⟩ : ∃ s, l[k]? = some s := ⟨_, List.getElem?_eq_getElem hlt⟩
      obtain ⟨g, rfl, hg, k1, k2, k3, k4⟩ := hat k s hs
      have hmx : s.size ≤ maxLen := hls s (List.mem_of_getElem? hs)
      have hk1 : wr.cell? ⟨g, k * 4, none⟩ = some (.string s) := (hbel.cell (by exact hg)).trans k1
      have hk2 : wr.cell? ⟨g, k * 4 + 1, none⟩ = some (.int .u64 0) := (hbel.cell (by exact hg)).trans k2
      have hk3 : wr.cell? ⟨g, k * 4 + 1 + 1, none⟩ = some (.int .u64 0) := (hbel.cell (by exact hg)).trans k3
      have hk4 : wr.cell? ⟨g, k * 4 + 1 + 1 + 1, none⟩ = some (.pointer none) := (hbel.cell (by exact hg)).trans k4
      have Hs : Hid (l[k]? = some s) := hs
      clear hs k1 k2 k3 k4
      have hlt0 : w.heap.size < wr.heap.size := World.block_lt_of_cell? _ _ hcq
      obtain ⟨W1, hW1⟩ : ∃ W1, W1 = wr.alloc (.cells #[.string s, .int .u64 0, .int .u64 0, .pointer none] 89) := ⟨_, rfl⟩
      have HW : Hid (W1 = wr.alloc (.cells #[.string s, .int .u64 0, .int .u64 0, .pointer none] 89)) := hW1
      have c1' : ∀ j, W1.cell? ⟨wr.heap.size, j, none⟩ = (#[.string s, .int .u64 0, .int .u64 0, .pointer none] : Array Value)[j]? := fun j => by rw [hW1]; exact World.cell?_alloc_new _ _ _ _
      have hz : W1.heap.size = wr.heap.size + 1 := by rw [hW1]; simp
      have hbW : Below wr.heap.size wr W1 := by rw [hW1]; exact (Below.refl _ _).alloc (Nat.le_refl _) _
      have facts : ∀ w1, Below W1.heap.size W1 w1 → w1.cell? ⟨wr.heap.size, 1, none⟩ = some (.int .u64 0) ∧ w1.cell? ⟨wr.heap.size, 1 + 1, none⟩ = some (.int .u64 0) ∧ w1.cell? ⟨wr.heap.size, 1 + 1 + 1, none⟩ = some (.pointer none) ∧ Own w1 (w.heap.size + 1) 52 3 (.slice a1 m c1) m ∧ w1.cell? ⟨w.heap.size, 0, none⟩ = some (.string q) ∧ Below w.heap.size w w1 ∧ wr.heap.size < w1.heap.size := by
        intro w1 hb
        refine ⟨?_, ?_, ?_, ⟨xs, ownsRow_below (ownsRow_below hown hbW) hb⟩, ?_, (hbel.trans (hbW.mono (by omega))).trans (hb.mono (by omega)), by have := hb.size; omega⟩
        · rw [hb.cell (by show wr.heap.size < _; omega), c1']; rfl
        · rw [hb.cell (by show wr.heap.size < _; omega), c1']; rfl
        · rw [hb.cell (by show wr.heap.size < _; omega), c1']; rfl
        · rw [hb.cell (by show w.heap.size < _; omega), hbW.cell (by exact hlt0)]; exact hcq
      subst hW1
      have Hf := hid facts
      clear facts c1' hz hbW HW
      by_cases hkey : key s = key q
      · have hd : decide (key s = key q) = true := decide_eq_true hkey
        have Hc : Hid (cnt q (l.take (k + 1)) = m + 1) := by show _ = _; rw [cnt_next Hs.out, if_pos hkey, ← hm.out]
        clear hkey
        go_wp2_with (go_at_call 41; refine (equalFold_any s q _ hmx).mono ?_)
        rintro e w1 ⟨rfl, hb1⟩
        obtain ⟨f1, f2, f3, ⟨xs1, f4⟩, f5, f6, f7⟩ := Hf.out w1 hb1
        clear hb1
        have f8 : (w1.alloc (.cells #[.int .u64 0, .int .u64 0, .pointer none] 52)).ownsRow (w.heap.size + 1) 52 3 (.slice a1 m c1) m xs1 := f4.alloc _
        go_wp2_with (at_builtin; refine wpList_append_lies _ rfl (.tmp 21) (.tmp 24) 41 rfl (w.heap.size + 1) 52 i0 _ 3 24 Try.underlying41 hi0 hz0 hz1 hz2 rfl (by decide) (.slice a1 m c1) m xs1 rfl f8 ⟨w1.heap.size, 0, none⟩ 1 1 [.int .u64 0, .int .u64 0, .pointer none] rfl rfl (World.news_of_block (cs := #[.int .u64 0, .int .u64 0, .pointer none]) (t := 52) (fr := (0, 0)) (heap_alloc_new w1 _)) (by simp [Value.oneCell']) (by decide) (by unfold maxLen; omega) (by omega) (by simp; omega) (w1.heap.size + 1) (by simp) ?_)
        intro gg cap1 w2 hown2 hgrow hat2 hlt2
        have r1 : w2.cell? ⟨w.heap.size, 0, none⟩ = some (.string q) := by
          rw [hgrow.cell_far ⟨w.heap.size, 0, none⟩ (by simp; omega) (by intro e; have := (f4.lt _ e.symm).1; simp at this; omega), ((Below.refl w1.heap.size w1).alloc (Nat.le_refl _) _).cell (by show w.heap.size < _; omega)]
          exact f5
        have r2 : Below w.heap.size w w2 := (f6.alloc (by omega) _).grown hgrow (by simp; omega) (fun j hj => by have := (f4.lt j hj).1; omega)
        clear f1 f2 f3 f4 f5 f6 f7 f8 hgrow hat2 hlt2 Hf hown
        go_wp2
        go_roundw
        case rel => exact ⟨k + 1, by omega, by go_num, ⟨_, _, _, rfl, Hc.out.symm, _, hown2⟩, r1, r2⟩
        case measure => simp [intOf]; omega
      · have hd : decide (key s = key q) = false := decide_eq_false hkey
        have Hc : Hid (cnt q (l.take (k + 1)) = m) := by show _ = _; rw [cnt_next Hs.out, if_neg hkey, ← hm.out]; rfl
        clear hkey
        go_wp2_with (go_at_call 41; refine (equalFold_any s q _ hmx).mono ?_)
        rintro e w1 ⟨rfl, hb1⟩
        obtain ⟨f1, f2, f3, ⟨xs1, f4⟩, f5, f6, f7⟩ := Hf.out w1 hb1
        clear hb1
        go_wp2
        go_roundw
        case rel => exact ⟨k + 1, by omega, by go_num, ⟨_, _, _, rfl, Hc.out.symm, _, f4⟩, f5, f6⟩
        case measure => simp [intOf]; omega
    · have Hc : Hid (m = cnt q l) := by show _ = _; rw [hm.out, List.take_of_length_le (by omega)]
      go_wp2
      go_ret
      exact ⟨⟨a1, c1, by rw [← Hc.out]; rfl⟩, hbel⟩
end Go.Proofs.Qxb6003717a
