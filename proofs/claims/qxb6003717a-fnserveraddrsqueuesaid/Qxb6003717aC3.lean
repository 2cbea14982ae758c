import Derived.Test.Qxb6003717aC2
namespace Go.Proofs.Qxb6003717a
open Go.RowKit

set_option maxRecDepth 100000 in
set_option maxHeartbeats 1000000 in
theorem zzChildOf_any (z : ByteArray) (n : List ByteArray) (hn : okN n = true) (w : World) :
    Calls Try.prog 13 #[nm z, nm (W n)] w fun e w' => e = .returned (nm (W (childL z n n))) ∧ Below w.heap.size w w' := by
  have Hn := hid hn
  clear hn
  go_enter Try.func13, Try.ntmps13
  go_wp2_with (go_at_call 34; refine (told (childOf_any z n Hn.out _)).mono ?_)
  intro e w1 hp
  obtain ⟨rfl, hb1⟩ := hp.out
  have hc : w1.cell? ⟨w.heap.size + 2, 0, none⟩ = some (.string ⟨#[]⟩) := by rw [hb1.cell (by simp)]; simp [go_sem]
  have hf : w1.frozen? ⟨w.heap.size + 2, 0, none⟩ = false := by rw [hb1.frozen (by simp)]; simp [go_sem]
  have Hb : Hid (Below w.heap.size w w1) := (((ext_alloc (ext_alloc (ext_alloc (Below.refl _ _) _) _) _))).trans (hb1.mono (by simp; omega))
  clear hp hb1
  go_wp2
  refine bodyPost_ret (v := nm (W (childL z n n))) (by simp [results, Try.results13, go_sem, hc]) rfl ⟨rfl, ?_⟩
  exact Hb.out.setCell (by simp; omega) _

set_option maxRecDepth 10000 in
set_option maxHeartbeats 400000 in
theorem zzCloneLabels_cap (a : Option Addr) (n cap : Nat) (ss : List ByteArray) (w : World) (h : Strs w a n ss) (hsm : n ≤ 1048576) :
    Calls Try.prog 10 #[.slice a n cap] w fun e w' => (∃ a' c', e = .returned (.slice a' n c') ∧ n ≤ c' ∧ Strs w' a' n ss) ∧ Below w.heap.size w w' := by
  have q22 : ∀ (w : World) (a : Option Addr) (n c n' c' : Nat), (binOp .eql 22 (.slice a n c) (.slice none n' c')).run Try.prog w = .ok (.bool a.isNone) w := fun w a n c n' c' => Lib.run_eql_slice_nil w _ _ a n c n' c' Try.underlying22
  cases a with
  | none =>
    have h0 : n = 0 := by
      rcases h.mem with h | ⟨b, off, h, _⟩
      · exact h
      · cases h
    go_enter Try.func10, Try.ntmps10
    go_wp2
    go_ret
    subst h0
    exact ⟨⟨none, 0, rfl, Nat.le_refl _, h⟩, Below.refl _ _⟩
  | some ad =>
    have hmk := run_make_row' (P := Try.prog) 22 9 (.string ⟨#[]⟩) 16 Try.underlying22 Try.info9 rfl .i64 .i64 n (by omega) (by omega)
    have hinf : (Try.prog.info? 9).map (·.size) = some 1 := by kernel_rfl
    have hlen := h.len
    have Hl : Hid (ss.length = n) := hlen
    clear hlen
    go_enter Try.func10, Try.ntmps10
    go_wp2_with (refine wpList_copy_splice rfl (.tmp 9) (.tmp 10) 22 22 rfl 9 Try.underlying22 hinf _ _ _ _ _ _ rfl rfl w.heap.size 0 (madeCells #[.string ⟨#[]⟩] n).toList 9 (heap_alloc_new w _) (ss.map Value.string) ?c1 ?c2 ?c3 ?c4 w.heap.size w ((Below.refl _ _).alloc (Nat.le_refl _) _) (Nat.le_refl _) ?_)
    case c1 => simp [Hl.out]
    case c2 =>
      intro _ j s hj
      rcases h.mem with h0 | ⟨b, off, ha, hc⟩
      · have : ss = [] := List.eq_nil_of_length_eq_zero (by rw [Hl.out]; exact h0)
        rw [this] at hj
        simp at hj
      · cases ha
        have hjl : j < ss.length := (List.getElem?_eq_some_iff.1 hj).1
        have hc1 := hc j (by rw [← Hl.out]; exact hjl)
        rw [addr_add, World.cell?_alloc_lt _ _ _ (World.block_lt_of_cell? _ _ hc1), hc1]
        simp [hj]
    case c3 => simp [Hl.out, size_madeCells]
    case c4 => intro v hv; simp at hv; obtain ⟨s, _, rfl⟩ := hv; rfl
    intro w1 hg1 hb1
    go_wp2
    go_ret
    refine ⟨⟨some ⟨w.heap.size, 0, none⟩, n, rfl, Nat.le_refl _, ?_⟩, hb1⟩
    have hsp : splice (madeCells #[Value.string ⟨#[]⟩] n).toList 0 (ss.map Value.string) = ss.map Value.string := by
      simp [splice, Hl.out, size_madeCells]
    have hg2 := hg1.out
    rw [hsp] at hg2
    have := Strs.of_block hg2 (by rw [Hl.out]; exact h.lim) h.lims
    rw [Hl.out] at this
    exact this

set_option maxRecDepth 10000 in
set_option maxHeartbeats 1000000 in
theorem zzBytesChild_any (za : Option Addr) (zn zc : Nat) (zs : List ByteArray) (qa : Option Addr) (qn qc : Nat) (qs : List ByteArray) (w : World) (hz : Strs w za zn zs) (hq : Strs w qa qn qs) :
    Calls Try.prog 7 #[.slice za zn zc, .slice qa qn qc] w fun e w' => RetB e (fun r => r = true → Small zs ∧ Small qs) ∧ w' = w := by
  have hzn := hz.lim
  have hqn := hq.lim
  unfold maxLen at hzn hqn
  by_cases hbig : 1048576 < zn
  · go_enter Try.func7, Try.ntmps7
    go_wp2
    go_ret
    exact ⟨RetB.mk false (by simp), rfl⟩
  go_enter Try.func7, Try.ntmps7
  go_wp2
  go_loop [5, 6] (fun t i => ∃ j : Nat, j ≤ zn ∧ i = .int .i64 j ∧ (∃ r : Int, t = .int .i64 r ∧ 0 ≤ r ∧ r ≤ 1048576) ∧ Hid (∀ s ∈ zs.take j, s.size ≤ 1048576)) (fun _ i => zn - (intOf i).toNat)
  case atStart => exact ⟨0, Nat.zero_le _, rfl, ⟨_, rfl, by omega, by omega⟩, by simp [Hid]⟩
  case round =>
    obtain ⟨j1, hj1, rfl, ⟨r1, rfl, hr10, hr11⟩, hsz1⟩ := hrel
    by_cases hlt1 : j1 < zn
    · obtain ⟨b2, off2, s, rfl, hcell2, hat2, hmem2, hb2⟩ := hz.at_ hlt1
      have Hat2 : Hid (zs[j1]? = some s) := hat2
      have hls := hz.lims s hmem2
      unfold maxLen at hls
      clear hat2 hmem2
      by_cases hs1 : 1048576 < s.size
      · go_wp2
        go_ret
        exact ⟨RetB.mk false (by simp), rfl⟩
      by_cases hs2 : 1048576 < r1 + (s.size : Int)
      · go_wp2
        go_ret
        exact ⟨RetB.mk false (by simp), rfl⟩
      go_wp2
      go_round
      case rel => exact ⟨j1 + 1, by omega, by go_num, ⟨_, rfl, by omega, by omega⟩, forall_take_succ Hat2.out hsz1.out (by omega)⟩
      case measure => simp [intOf]; omega
    · have Hok1 : Hid (Small zs) := ⟨by rw [hz.len]; omega, forall_take_all (by rw [hz.len]; omega) hsz1.out⟩
      by_cases hq1 : 1048576 < qn
      · go_wp2
        go_ret
        exact ⟨RetB.mk false (by simp), rfl⟩
      by_cases hq2 : 1048576 < r1 + (qn : Int)
      · go_wp2
        go_ret
        exact ⟨RetB.mk false (by simp), rfl⟩
      go_wp2
      go_loop [5, 7] (fun t i => ∃ j : Nat, j ≤ qn ∧ i = .int .i64 j ∧ (∃ r : Int, t = .int .i64 r ∧ 0 ≤ r ∧ r ≤ 1048576) ∧ Hid (∀ s ∈ qs.take j, s.size ≤ 1048576)) (fun _ i => qn - (intOf i).toNat)
      case atStart => exact ⟨0, Nat.zero_le _, rfl, ⟨_, rfl, by omega, by omega⟩, by simp [Hid]⟩
      case round =>
        obtain ⟨j2, hj2, rfl, ⟨r2, rfl, hr20, hr21⟩, hsz2⟩ := hrel
        by_cases hlt2 : j2 < qn
        · obtain ⟨b2, off2, s, rfl, hcell2, hat2, hmem2, hb2⟩ := hq.at_ hlt2
          have Hat2 : Hid (qs[j2]? = some s) := hat2
          have hls := hq.lims s hmem2
          unfold maxLen at hls
          clear hat2 hmem2
          by_cases hs1 : 1048576 < s.size
          · go_wp2
            go_ret
            exact ⟨RetB.mk false (by simp), rfl⟩
          by_cases hs2 : 1048576 < r2 + (s.size : Int)
          · go_wp2
            go_ret
            exact ⟨RetB.mk false (by simp), rfl⟩
          go_wp2
          go_round
          case rel => exact ⟨j2 + 1, by omega, by go_num, ⟨_, rfl, by omega, by omega⟩, forall_take_succ Hat2.out hsz2.out (by omega)⟩
          case measure => simp [intOf]; omega
        · have Hok2 : Hid (Small qs) := ⟨by rw [hq.len]; omega, forall_take_all (by rw [hq.len]; omega) hsz2.out⟩
          go_wp2
          go_ret
          exact ⟨RetB.mk true (fun _ => ⟨Hok1.out, Hok2.out⟩), rfl⟩
end Go.Proofs.Qxb6003717a
