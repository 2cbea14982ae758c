import Derived.Test.Qxb6003717aA3
import Derived.Test.Qxb6003717aP2
import Derived.Lib.BufSteps
namespace Go.Proofs.Qxb6003717a
open Go.RowKit

theorem Try.info5 : (Try.prog.info? 5).map (fun i => (i.zero, i.size, i.bytes)) = some (some (.int .u8 0), 1, 1) := by kernel_rfl

def bcells (l : List UInt8) : List Value := l.map fun b => Value.int .u8 b.toNat

theorem bcells_lab (l : List UInt8) (s : ByteArray) (h : s.size ≤ 63) : bcells l ++ [Value.int .u8 (s.size : Int)] ++ Lib.strCells s = bcells (l ++ lab s) := by
  have e : (UInt8.ofNat s.size).toNat = s.size := by simp; omega
  simp [bcells, lab, Lib.strCells, e]

/-- string(v), where v's cells are the bytes l. -/
theorem conv_back {B : Nat} {v : Value} {l : List UInt8} {W0 w : World} (h : Lib.OwnBuf B 5 v l.length (bcells l) W0 w) :
    (convert 71 9 v).run Try.prog w = .ok (.string ⟨l.toArray⟩) w := by
  have hd := h
  rcases hd.1.2 with ⟨rfl, h0⟩ | ⟨g, c, cur, fz, rfl, _⟩
  · have : l = [] := List.eq_nil_of_length_eq_zero h0
    subst this
    rw [run_convert_bytes_nil w 71 5 Try.underlying71 Try.underlying5 0 0 9 Try.underlying9]
    rfl
  · refine run_convert_bytes_back w 71 9 5 ⟨g, 0, none⟩ c l Try.underlying71 Try.underlying5 Try.underlying9 fun j hj => ?_
    exact hd.1.cells (g := g) rfl j _ (by simp [bcells, List.getElem?_eq_getElem hj])

theorem ownBuf_form {B : Nat} {e : TypeId} {v : Value} {n : Nat} {xs : List Value} {W0 w : World} (h : Lib.OwnBuf B e v n xs W0 w) : ∃ ao c, v = .slice ao n c := by
  rcases h.1.2 with ⟨rfl, h0⟩ | ⟨g, c, cur, fz, rfl, _⟩
  · subst h0; exact ⟨_, _, rfl⟩
  · exact ⟨_, _, rfl⟩

set_option maxRecDepth 10000 in
set_option maxHeartbeats 400000 in
theorem zzMkName_any (a : Option Addr) (n cap : Nat) (ss : List ByteArray) (w : World) (h : Strs w a n ss) :
    Calls Try.prog 9 #[.slice a n cap] w fun e w' => e = .returned (.tuple #[nm (mkW ss), .bool (okN ss)]) ∧ Below w.heap.size w w' := by
  have hn := h.lim
  unfold maxLen at hn
  obtain ⟨i0, hi, hz0, hz1, hz2⟩ := info_parts Try.info5
  go_enter Try.func9, Try.ntmps9
  go_wp2
  go_loopw [4, 5] (fun v i wr => ∃ k : Nat, k ≤ n ∧ i = .int .i64 k ∧ Hid (okN (ss.take k) = true) ∧ ∃ ao c m, v = .slice ao m c ∧ Hid (m = (wl (ss.take k)).length) ∧ Lib.OwnBuf (w.heap.size + 1) 5 v m (bcells (wl (ss.take k))) (w.alloc (.cells #[.string ⟨#[]⟩] 26)) wr) (fun _ i _ => n - (intOf i).toNat)
  case atStart => exact ⟨0, Nat.zero_le _, rfl, okN_nil, _, _, _, rfl, rfl, ⟨World.ownsRowF_nil _ _ _ _, Below.refl _ _, by simp⟩⟩
  case round =>
    obtain ⟨k, hk, rfl, hok, ao, c, m, rfl, hm, hbuf⟩ := hrel
    have HB : Hid (Below (w.heap.size + 1) (w.alloc (.cells #[.string ⟨#[]⟩] 26)) wr) := hbuf.2.1
    have hcr : wr.cell? ⟨w.heap.size, 0, none⟩ = some (.string ⟨#[]⟩) := by rw [HB.out.cell (by simp)]; simp [go_sem]
    have hfr : wr.frozen? ⟨w.heap.size, 0, none⟩ = false := by rw [HB.out.frozen (by simp)]; simp [go_sem]
    have hbw : Hid (Below w.heap.size w wr) := ((Below.refl _ _).alloc (Nat.le_refl _) _).trans (HB.out.mono (by omega))
    have hwl : m ≤ 254 := by rw [hm.out]; exact okN_len hok.out
    by_cases hlt : k < n
    · obtain ⟨b, off, s, rfl, hcell0, hs0, hmem, hb⟩ := h.at_ hlt
      have hs : Hid (ss[k]? = some s) := hs0
      have hcell : wr.cell? ⟨b, off + k, none⟩ = some (.string s) := by rw [hbw.out.cell hb]; exact hcell0
      have hls0 := h.lims s hmem
      unfold maxLen at hls0
      have hls : (s.size : Int) ≤ 9223372036854775807 := by omega
      clear hls0
      clear hs0 hmem hcell0
      rcases Nat.eq_zero_or_pos s.size with h0 | h0
      · have hbad : Hid (okN ss = false) := okN_bad hs.out (.inl h0)
        go_wp2
        refine bodyPost_ret (v := .tuple #[nm ⟨#[]⟩, .bool false]) (by simp [results, Try.results9, go_sem, hcr]) rfl ⟨?_, ?_⟩
        · rw [mkW_bad hbad.out, hbad.out]
        · exact hbw.out.setCell (by simp) _
      · have hb0 : ((s.size : Int) == 0) = false := by rw [beq_eq_false_iff_ne]; omega
        by_cases h63 : 63 < s.size
        · have hbad : Hid (okN ss = false) := okN_bad hs.out (.inr (.inl h63))
          go_wp2
          refine bodyPost_ret (v := .tuple #[nm ⟨#[]⟩, .bool false]) (by simp [results, Try.results9, go_sem, hcr]) rfl ⟨?_, ?_⟩
          · rw [mkW_bad hbad.out, hbad.out]
          · exact hbw.out.setCell (by simp) _
        · by_cases h255 : 255 < m + 1 + s.size + 1
          · have hbad : Hid (okN ss = false) := okN_bad hs.out (.inr (.inr (by rw [← hm.out]; exact h255)))
            go_wp2
            refine bodyPost_ret (v := .tuple #[nm ⟨#[]⟩, .bool false]) (by simp [results, Try.results9, go_sem, hcr]) rfl ⟨?_, ?_⟩
            · rw [mkW_bad hbad.out, hbad.out]
            · exact hbw.out.setCell (by simp) _
          · go_wp2_with (at_builtin; refine Lib.wpList_append_byte rfl (.tmp 35) (.tmp 39) 71 rfl (w.heap.size + 1) 5 i0 Try.underlying71 hi hz0 hz1 hz2 _ _ _ rfl _ wr _ hbuf rfl (by omega) ?_)
            intro v1 w1 hbuf1
            clear hbuf hcr hfr hcell HB hbw
            go_wp2_with (at_builtin; refine Lib.wpList_append_text rfl (.tmp 41) (.tmp 42) 71 9 rfl (w.heap.size + 1) 5 i0 Try.underlying71 Try.underlying9 hi hz0 hz1 hz2 _ _ _ rfl _ hbuf1 s rfl (by omega) ?_)
            intro v2 w2 hbuf2
            clear hbuf1
            go_wp2
            obtain ⟨ao2, c2, rfl⟩ := ownBuf_form hbuf2
            go_roundw
            case rel =>
              refine ⟨k + 1, by omega, by go_num, okN_next hs.out hok.out h0 (by omega) (by rw [← hm.out]; omega), _, _, _, rfl, ?_, ?_⟩
              · show m + 1 + s.size = _
                rw [wl_next hs.out, List.length_append, lab_length, ← hm.out]; omega
              · rw [wl_next hs.out, ← bcells_lab _ s (by omega)]; simpa using hbuf2
            case measure => simp [intOf]; omega
    · have hkn : ss.take k = ss := List.take_of_length_le (by have := h.len; omega)
      rw [hkn] at hok hm hbuf
      rw [hm.out] at hbuf
      have hconv := conv_back hbuf
      have hmk : Hid (mkW ss = ⟨(wl ss).toArray⟩) := mkW_ok hok.out
      have hmo : Hid (okN ss = true) := hok
      rw [← hm.out] at hconv
      clear hkn hbuf hok
      have hlt0 : w.heap.size < wr.heap.size := by have := HB.out.size; simp at this; omega
      go_wp2_with (go_at_call 32; refine (zzName_any _ _).mono ?_; rintro e w' ⟨rfl, hb1⟩; have hcr1 : w'.cell? ⟨w.heap.size, 0, none⟩ = some (.string ⟨#[]⟩) := (hb1.cell hlt0).trans hcr; have hfr1 : w'.frozen? ⟨w.heap.size, 0, none⟩ = false := (hb1.frozen hlt0).trans hfr)
      refine bodyPost_ret (v := .tuple #[nm ⟨(wl ss).toArray⟩, .bool true]) (by simp [results, Try.results9, go_sem, hcr1]) rfl ⟨?_, ?_⟩
      · rw [hmk.out, hmo.out]
      · exact (hbw.out.trans (hb1.mono (by omega))).setCell (by simp) _
end Go.Proofs.Qxb6003717a
