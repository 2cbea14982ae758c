import Derived.Test.Qxb6003717aC3
import Derived.Test.Qxb6003717aP6
namespace Go.Proofs.Qxb6003717a
open Go.RowKit

/-- A tail of a slice of strings. -/
theorem Strs.tail {w : World} {b off n : Nat} {ss : List ByteArray} (h : Strs w (some ⟨b, off, none⟩) n ss) (k : Nat) (hk : k < n) : Strs w (some ⟨b, off + k, none⟩) (n - k) (ss.drop k) := by
  refine ⟨by rw [List.length_drop, h.len], by have := h.lim; omega, fun s hs => h.lims s (List.mem_of_mem_drop hs), ?_⟩
  rcases h.mem with h0 | ⟨b', off', ha, hc⟩
  · omega
  · cases ha
    refine .inr ⟨b, off + k, rfl, fun i hi => ?_⟩
    have := hc (k + i) (by omega)
    rw [← Nat.add_assoc] at this
    rw [this]
    simp [List.getD_eq_getElem?_getD]

/-- What the last parts of FnChildOfSpec lean on. -/
structure Cst (w wc : World) (za : Option Addr) (zn : Nat) (zs : List ByteArray) (qa : Option Addr) (qn : Nat) (qs : List ByteArray) (bz bn : Nat) : Prop where
  zl : Strs wc za zn zs
  ql : Strs wc qa qn qs
  zc : wc.cell? ⟨bz, 0, none⟩ = some (.string (W zs))
  nc : wc.cell? ⟨bn, 0, none⟩ = some (.string (W qs))
  ext : Below w.heap.size w wc
theorem Cst.below {w wc wd : World} {za : Option Addr} {zn : Nat} {zs : List ByteArray} {qa : Option Addr} {qn : Nat} {qs : List ByteArray} {bz bn : Nat} (h : Cst w wc za zn zs qa qn qs bz bn) (hb : Below wc.heap.size wc wd) : Cst w wd za zn zs qa qn qs bz bn :=
  ⟨h.zl.below hb, h.ql.below hb, cell_below h.zc hb, cell_below h.nc hb, ext_trans h.ext hb⟩

theorem upto_lt {z n : List ByteArray} {i : Nat} (h : upto z n i = true) : z.length < n.length := by
  unfold upto at h
  rw [decide_eq_true_eq] at h
  exact h.1

set_option maxRecDepth 100000 in
set_option maxHeartbeats 2000000 in
theorem child_walk (za : Option Addr) (zn zc : Nat) (zs : List ByteArray) (qa : Option Addr) (qn qc : Nat) (qs : List ByteArray) (w : World) (hz : Strs w za zn zs) (hq : Strs w qa qn qs) :
    Calls Try.prog 3 #[.slice za zn zc, .slice qa qn qc] w fun e w' => e = .returned (.bool true) ∧ Below w.heap.size w w' := by
  have hzn := hz.lim
  have hqn := hq.lim
  unfold maxLen at hzn hqn
  go_enter Try.func3, Try.ntmps3
  go_wp2_with (go_at_call 7; refine (told (zzBytesChild_any za zn zc zs qa qn qc qs _ hz hq)).mono ?_)
  intro e w' hp
  obtain ⟨⟨r, rfl, hr⟩, hw⟩ := hp.out
  replace hw := hw.symm
  subst hw
  clear hp
  cases r with
  | false =>
    clear hr
    go_wp2
    go_ret
    exact ⟨rfl, Below.refl _ _⟩
  | true =>
  obtain ⟨hzs, hqs⟩ := hr rfl
  have Hzs := hid hzs
  have Hqs := hid hqs
  clear hzs hqs hr
  by_cases hb1 : 65536 < zn
  · go_wp2
    go_ret
    exact ⟨rfl, Below.refl _ _⟩
  by_cases hb2 : 65536 < qn
  · go_wp2
    go_ret
    exact ⟨rfl, Below.refl _ _⟩
  go_wp2_with (go_at_call 8; refine (told (zzLabelBytes_any za zn zc zs _ hz Hzs.out)).mono ?_)
  intro e w' hp
  obtain ⟨⟨r1, rfl, hr10, hr11⟩, hw⟩ := hp.out
  replace hw := hw.symm
  subst hw
  clear hp
  go_wp2_with (go_at_call 8; refine (told (zzLabelBytes_any qa qn qc qs _ hq Hqs.out)).mono ?_)
  intro e w' hp
  obtain ⟨⟨r2, rfl, hr20, hr21⟩, hw⟩ := hp.out
  replace hw := hw.symm
  subst hw
  clear hp
  by_cases hgt : 1048576 < r1 + r2
  · go_wp2
    go_ret
    exact ⟨rfl, Below.refl _ _⟩
  go_wp2_with (go_at_call 9; refine (told (zzMkName_any za zn zc zs _ hz)).mono ?_)
  intro e w1 hp
  obtain ⟨rfl, hb1'⟩ := hp.out
  have Hb1 := hid hb1'
  clear hp hb1' hr10 hr11 hr20 hr21 hgt
  cases hokz : okN zs with
  | false =>
    go_wp2
    go_ret
    exact ⟨rfl, ext_alloc Hb1.out _⟩
  | true =>
  have Hokz := hid hokz
  have Hq1 : Hid (∀ o, Strs (w1.alloc o) qa qn qs) := fun o => hq.below (ext_alloc Hb1.out o)
  clear hokz
  go_wp2_with (go_at_call 9; refine (told (zzMkName_any qa qn qc qs _ (Hq1.out _))).mono ?_)
  intro e w2 hp
  obtain ⟨rfl, hb2'⟩ := hp.out
  have Hb2 := hid (ext_trans (ext_alloc Hb1.out _) hb2')
  clear hp hb2' Hb1 Hq1
  cases hokq : okN qs with
  | false =>
    go_wp2
    go_ret
    exact ⟨rfl, ext_alloc Hb2.out _⟩
  | true =>
  have Hokq := hid hokq
  have Hz2 : Hid (∀ o, Strs (w2.alloc o) za zn zs) := fun o => hz.below (ext_alloc Hb2.out o)
  clear hokq
  go_wp2_with (go_at_call 10; refine (told (zzCloneLabels_cap za zn zc zs _ (Hz2.out _) (by omega))).mono ?_)
  intro e w3 hp
  obtain ⟨⟨za3, zc3, rfl, hzc3, hz3⟩, hb3⟩ := hp.out
  have Hb3 := hid (ext_trans (ext_alloc Hb2.out _) hb3)
  have Hq3 := hid (hq.below Hb3.out)
  clear hp hb3 Hb2 Hz2
  go_wp2_with (go_at_call 10; refine (told (zzCloneLabels_cap qa qn qc qs _ Hq3.out (by omega))).mono ?_)
  intro e w4 hp
  obtain ⟨⟨qa4, qc4, rfl, hqc4, hq4⟩, hb4⟩ := hp.out
  have Hb4 := hid (ext_trans Hb3.out hb4)
  have Hz4 := hid (hz3.below hb4)
  clear hp hb4 Hb3 Hq3 hz3
  go_wp2_with (go_at_call 9; refine (told (zzMkName_any za3 zn zc3 zs _ Hz4.out)).mono ?_)
  intro e w5 hp
  obtain ⟨rfl, hb5⟩ := hp.out
  have Hb5 := hid (ext_trans Hb4.out hb5)
  have Hz5 := hid (Hz4.out.below hb5)
  have Hq5 : Hid (∀ o, Strs (w5.alloc o) qa4 qn qs) := fun o => hq4.below (ext_alloc hb5 o)
  rw [mkW_eq_W Hokz.out, Hokz.out]
  clear hp hb5 Hb4 Hz4 hq4
  go_wp2_with (go_at_call 9; refine (told (zzMkName_any qa4 qn qc4 qs _ (Hq5.out _))).mono ?_)
  intro e w6 hp
  obtain ⟨rfl, hb6⟩ := hp.out
  rw [mkW_eq_W Hokq.out, Hokq.out]
  have hdd : Hid (decide (zn < qn) = upto zs qs 0) := by show _ = _; rw [upto_zero, Hz5.out.len, hq.len]
  have Hst : Hid (∀ o, o[0]? = some (.string (W qs)) → Cst w (w6.alloc (.cells o 26)) za3 zn zs qa4 qn qs w5.heap.size w6.heap.size) := by
    intro o ho
    have hb7 : Below w6.heap.size w6 (w6.alloc (.cells o 26)) := ext_alloc (Below.refl _ _) _
    exact ⟨(Hz5.out.below (ext_trans (ext_alloc (Below.refl _ _) _) hb6)).below hb7, ((Hq5.out _).below hb6).below hb7, cell_below (ext_cell hb6 rfl) hb7, by rw [World.cell?_alloc_new]; exact ho, ext_trans (ext_trans (ext_alloc Hb5.out _) hb6) hb7⟩
  clear hp hb6 Hb5 Hz5 Hq5
  go_wp2
  go_loopw [15, 16] (fun u i wr => ∃ j : Nat, j ≤ zn ∧ i = .int .i64 j ∧ (∃ ub, u = .bool ub ∧ Hid (ub = upto zs qs j)) ∧ Cst w wr za3 zn zs qa4 qn qs w5.heap.size w6.heap.size) (fun _ i _ => zn - (intOf i).toNat)
  case atStart => exact ⟨0, Nat.zero_le _, rfl, ⟨_, rfl, hdd⟩, Hst.out _ rfl⟩
  case round =>
    obtain ⟨j, hj, rfl, ⟨ub, rfl, hub⟩, hst⟩ := hrel
    have Hst1 := hid hst
    clear Hst
    cases ub with
    | true =>
      have hlt : zn < qn := by have := upto_lt hub.out.symm; rwa [hz.len, hq.len] at this
      by_cases hjz : j < zn
      · obtain ⟨b1, o1, s, rfl, hc1, hs1, _, hl1⟩ := hst.zl.at_ hjz
        obtain ⟨k, hk⟩ : ∃ k, k = qn - zn + j := ⟨_, rfl⟩
        obtain ⟨b2, o2, t, rfl, hc2, ht1, _, hl2⟩ := hst.ql.at_ (show k < qn by omega)
        have ek : (qn : Int) - (zn : Int) + (j : Int) = (k : Int) := by omega
        have hk0 : (0 : Int) ≤ (k : Int) := by omega
        have hk1 : (k : Int) < (qn : Int) := by omega
        have hj0 : (0 : Int) ≤ (j : Int) := by omega
        have hj1 : (j : Int) < (zn : Int) := by omega
        have hup : Hid (decide (key s = key t) = upto zs qs (j + 1)) := (upto_step hs1 (by rw [hz.len, hq.len, ← hk]; exact ht1) hub.out.symm).symm
        have HS : Hid (s.size ≤ maxLen) := hst.zl.lims s (List.mem_of_getElem? hs1)
        clear hk hs1 ht1 hst
        by_cases hkey : key s = key t
        · have hd : decide (key s = key t) = true := decide_eq_true hkey
          have hup' : Hid (true = upto zs qs (j + 1)) := by rw [← hd]; exact hup
          clear hkey hup
          go_wp2
          go_quiet ((go_at_call 11; exact Calls.quiet_of (zzFoldEq_any _ _ _ HS.out)))
          go_wp2
          go_roundw
          case rel => exact ⟨j + 1, by omega, by go_num, ⟨_, rfl, hup'⟩, Hst1.out.below (below_drewN (Below.refl _ _) _)⟩
          case measure => simp [intOf]; omega
        · have hd : decide (key s = key t) = false := decide_eq_false hkey
          have hup' : Hid (false = upto zs qs (j + 1)) := by rw [← hd]; exact hup
          clear hkey hup
          go_wp2
          go_quiet ((go_at_call 11; exact Calls.quiet_of (zzFoldEq_any _ _ _ HS.out)))
          go_wp2
          go_roundw
          case rel => exact ⟨j + 1, by omega, by go_num, ⟨_, rfl, hup'⟩, Hst1.out.below (below_drewN (Below.refl _ _) _)⟩
          case measure => simp [intOf]; omega
      · have Hun : Hid (underB zs qs = true) := by show _ = _; rw [← upto_all zs qs j (by rw [hz.len]; omega) (by rw [hz.len, hq.len]; exact hlt)]; exact hub.out.symm
        have hzc := hst.zc
        have hnc := hst.nc
        obtain ⟨k, hk⟩ : ∃ k, k = qn - zn - 1 := ⟨_, rfl⟩
        obtain ⟨b2, o2, t, rfl, _, _, _, hl2⟩ := hst.ql.at_ (show k < qn by omega)
        have ek : (qn : Int) - (zn : Int) - 1 = (k : Int) := by omega
        have hk0 : (0 : Int) ≤ (k : Int) := by omega
        have hk1 : (k : Int) ≤ (qn : Int) := by omega
        have hk2 : (qn : Int) ≤ (qc4 : Int) := by omega
        have hkc : ¬ qc4 = k := by omega
        have Hkq : Hid (k < qn) := by show _ < _; omega
        have Hwl : Hid (qs.drop k = wantL zs qs) := by show _ = _; rw [wantL_true Hun.out, hz.len, hq.len, hk]
        clear hst hk
        go_wp2_with (go_at_call 12; refine (told (zzWire_any _ _)).mono ?_)
        intro e w7 hp
        obtain ⟨rfl, hb7⟩ := hp.out
        have Hst7 := hid (Hst1.out.below hb7)
        clear hp hb7 Hst1 hzc hnc
        have Hst8 : Hid (Strs w7 (some ⟨b2, o2 + k, none⟩) (qn - k) (wantL zs qs)) := by rw [← Hwl.out]; exact Hst7.out.ql.tail k Hkq.out
        have HX1 : Hid (childL (W zs) qs qs = wantL zs qs) := childL_want zs qs Hokz.out Hokq.out
        have HX2 : Hid (childL (W zs) (wantL zs qs) (wantL zs qs) = wantL zs qs) := childL_again zs qs Hokz.out Hokq.out
        have HX3 : Hid (okN (wantL zs qs) = true) := okN_wantL Hokq.out
        go_wp2_with (go_at_call 9; refine (told (zzMkName_any _ (qn - k) (qc4 - k) (wantL zs qs) _ Hst8.out)).mono ?_)
        intro e w8 hp
        obtain ⟨rfl, hb8⟩ := hp.out
        rw [mkW_eq_W HX3.out, HX3.out]
        have Hst8' := hid (Hst7.out.below hb8)
        clear hp hb8 Hst7 Hst8
        go_wp2_with (go_at_call 12; refine (told (zzWire_any _ _)).mono ?_)
        intro e w9 hp
        obtain ⟨rfl, hb9⟩ := hp.out
        have Hst9 := hid (Hst8'.out.below (ext_trans (ext_alloc (Below.refl _ _) _) hb9))
        clear hp hb9 Hst8'
        have hzc9 := Hst9.out.zc
        have hnc9 := Hst9.out.nc
        go_wp2_with (go_at_call 13; refine (told (zzChildOf_any (W zs) qs Hokq.out _)).mono ?_)
        intro e w10 hp
        obtain ⟨he, hb10⟩ := hp.out
        rw [HX1.out] at he
        subst he
        have Hst10 := hid (Hst9.out.below hb10)
        have Hz10 : Hid (∀ o, (w10.alloc o).cell? ⟨w5.heap.size, 0, none⟩ = some (.string (W zs))) := fun o => cell_below Hst10.out.zc (ext_alloc (Below.refl _ _) o)
        clear hp hb10 hzc9 hnc9 Hst9 HX1
        go_wp2_with (go_at_call 12; refine (told (zzWire_any _ _)).mono ?_)
        intro e w11 hp
        obtain ⟨rfl, hb11⟩ := hp.out
        have hzc11 := cell_below (Hz10.out _) hb11
        have hg11 := ext_cell hb11 rfl
        have Hst11 := hid (Hst10.out.below (ext_trans (ext_alloc (Below.refl _ _) _) hb11))
        clear hp hb11 Hst10 Hz10
        go_wp2_with (go_at_call 13; refine (told (zzChildOf_any (W zs) _ HX3.out _)).mono ?_)
        intro e w12 hp
        obtain ⟨he, hb12⟩ := hp.out
        rw [HX2.out] at he
        subst he
        have Hst12 := hid (Hst11.out.below hb12)
        clear hp hb12 hzc11 hg11 Hst11 HX2
        go_wp2_with (go_at_call 12; refine (told (zzWire_any _ _)).mono ?_)
        intro e w13 hp
        obtain ⟨rfl, hb13⟩ := hp.out
        have Hst13 := hid (Hst12.out.below (ext_trans (ext_alloc (Below.refl _ _) _) hb13))
        clear hp hb13 Hst12
        go_wp2
        go_ret
        exact ⟨rfl, Hst13.out.ext⟩
    | false =>
      have Hun : Hid (underB zs qs = false) := upto_false hub.out.symm
      have HX1 : Hid (childL (W zs) qs qs = qs) := by show _ = _; rw [childL_want zs qs Hokz.out Hokq.out, wantL_false Hun.out]
      have HX2 : Hid (childL (W zs) qs qs = qs) := HX1
      have HX3 : Hid (okN qs = true) := Hokq
      have hzc := hst.zc
      have hnc := hst.nc
      clear hst
      go_wp2_with (go_at_call 12; refine (told (zzWire_any _ _)).mono ?_)
      intro e w7 hp
      obtain ⟨rfl, hb7⟩ := hp.out
      have Hst7 := hid (Hst1.out.below hb7)
      clear hp hb7 Hst1 hzc hnc
      have hzc9 := Hst7.out.zc
      have hnc9 := Hst7.out.nc
      go_wp2_with (go_at_call 13; refine (told (zzChildOf_any (W zs) qs Hokq.out _)).mono ?_)
      intro e w10 hp
      obtain ⟨he, hb10⟩ := hp.out
      rw [HX1.out] at he
      subst he
      have Hst10 := hid (Hst7.out.below hb10)
      have Hz10 : Hid (∀ o, (w10.alloc o).cell? ⟨w5.heap.size, 0, none⟩ = some (.string (W zs))) := fun o => cell_below Hst10.out.zc (ext_alloc (Below.refl _ _) o)
      clear hp hb10 hzc9 hnc9 Hst7 HX1
      go_wp2_with (go_at_call 12; refine (told (zzWire_any _ _)).mono ?_)
      intro e w11 hp
      obtain ⟨rfl, hb11⟩ := hp.out
      have hzc11 := cell_below (Hz10.out _) hb11
      have hg11 := ext_cell hb11 rfl
      have Hst11 := hid (Hst10.out.below (ext_trans (ext_alloc (Below.refl _ _) _) hb11))
      clear hp hb11 Hst10 Hz10
      go_wp2_with (go_at_call 13; refine (told (zzChildOf_any (W zs) _ HX3.out _)).mono ?_)
      intro e w12 hp
      obtain ⟨he, hb12⟩ := hp.out
      rw [HX2.out] at he
      subst he
      have Hst12 := hid (Hst11.out.below hb12)
      clear hp hb12 hzc11 hg11 Hst11 HX2
      go_wp2_with (go_at_call 12; refine (told (zzWire_any _ _)).mono ?_)
      intro e w13 hp
      obtain ⟨rfl, hb13⟩ := hp.out
      have Hst13 := hid (Hst12.out.below (ext_trans (ext_alloc (Below.refl _ _) _) hb13))
      clear hp hb13 Hst12
      go_wp2
      go_ret
      exact ⟨rfl, Hst13.out.ext⟩
end Go.Proofs.Qxb6003717a
