import Derived.Test.Qxb6003717aP8
namespace Go.Proofs.Qxb6003717a
open Go.RowKit

set_option maxRecDepth 100000 in
set_option maxHeartbeats 4000000 in
theorem queue_walk (a : Option Addr) (n cap : Nat) (sv : List (List ByteArray × Int)) (ex : Int) (w : World) (h : Srvs w a n sv) (_hx : (Lit.int .i64 ex).wf = true) :
    Calls Try.prog 5 #[.slice a n cap, .int .i64 ex] w fun e w' => e = .returned (.bool true) ∧ Below w.heap.size w w' := by
  have hn := h.lim
  clear _hx
  unfold maxLen at hn
  go_enter Try.func5, Try.ntmps5
  go_wp2_with (go_at_call 20; refine (told (zzBytesQueue_any a n cap sv ex _ h)).mono ?_)
  intro e w' hp
  obtain ⟨⟨r, rfl, hr⟩, hw⟩ := hp.out
  replace hw := hw.symm
  subst hw
  clear hp
  cases r with
  | false =>
    clear hr
    go_wp2
    go_ret
    exact ⟨rfl, Below.refl _ _⟩
  | true =>
  obtain ⟨hn1, hal⟩ := hr rfl
  have Hal := hid hal
  clear hn1 hal hr
  by_cases hb1 : 1024 < n
  · go_wp2
    go_ret
    exact ⟨rfl, Below.refl _ _⟩
  by_cases hb2 : ex < 0
  · go_wp2
    go_ret
    exact ⟨rfl, Below.refl _ _⟩
  by_cases hb3 : 16 < ex
  · go_wp2
    go_ret
    exact ⟨rfl, Below.refl _ _⟩
  obtain ⟨f, rfl⟩ : ∃ f : Nat, ex = f := ⟨ex.toNat, by omega⟩
  have hf : f ≤ 16 := by omega
  clear hb2
  go_wp2_with (go_at_call 15; refine (told (zzServersBytes_any a n cap sv _ h Hal.out)).mono ?_)
  intro e w' hp
  obtain ⟨⟨r1, rfl, hr10, hr11⟩, hw⟩ := hp.out
  replace hw := hw.symm
  subst hw
  clear hp
  by_cases hgt : 1048576 < r1
  · go_wp2
    go_ret
    exact ⟨rfl, Below.refl _ _⟩
  go_wp2
  go_loopw [5, 6, 7] (fun t u i wr => ∃ k T U : Nat, k ≤ n ∧ i = .int .i64 k ∧ t = .int .i64 T ∧ u = .int .i64 U ∧ T ≤ 256 * k ∧ U ≤ k ∧ Hid (T = (knownOf ((nsOf sv).take k)).length ∧ U = (unresOf ((nsOf sv).take k)).length) ∧ Hid (∀ x ∈ sv.take k, 0 ≤ x.2 ∧ x.2 ≤ 256) ∧ Below w.heap.size w wr) (fun _ _ i _ => n - (intOf i).toNat)
  case atStart => exact ⟨0, 0, 0, Nat.zero_le _, rfl, rfl, rfl, by omega, by omega, ⟨rfl, rfl⟩, by simp [Hid], Below.refl _ _⟩
  case round =>
    obtain ⟨k, T, U, hk, rfl, rfl, rfl, hT, hU, hTU, hgl, hbel⟩ := hrel
    have Hbel := hid hbel
    clear hr10 hr11 hgt
    by_cases hlt : k < n
    · obtain ⟨b, off, ai, m, ci, ss, g, rfl, hc1, hc2, hst, hat, hmem, hb, hg0, hg1⟩ := (h.below hbel).at_ hlt
      have Hat := hid hat
      clear hat hmem hbel
      by_cases hgn : g < 0
      · go_wp2
        go_ret
        exact ⟨rfl, Hbel.out⟩
      by_cases hgp : 256 < g
      · go_wp2
        go_ret
        exact ⟨rfl, Hbel.out⟩
      obtain ⟨gn, rfl⟩ : ∃ gn : Nat, g = gn := ⟨g.toNat, by omega⟩
      have hc2' : Hid (wr.cell? ⟨b, off + k * 2 + 1, none⟩ = some (.int .i64 gn)) := hc2
      have Hgl : Hid (∀ x ∈ sv.take (k + 1), 0 ≤ x.2 ∧ x.2 ≤ 256) := forall_take_succ (P := fun (x : List ByteArray × Int) => 0 ≤ x.2 ∧ x.2 ≤ 256) Hat.out hgl.out ⟨by simp, by simp; omega⟩
      have Hk1 : Hid (T + gn = (knownOf ((nsOf sv).take (k + 1))).length) := by show _ = _; rw [known_take (nsOf_at Hat.out), hTU.out.1]
      have Hk2 : Hid (U + (if gn = 0 then 1 else 0) = (unresOf ((nsOf sv).take (k + 1))).length) := by show _ = _; rw [unres_take (nsOf_at Hat.out), hTU.out.2]
      have hk0 : (0 : Int) ≤ (k : Int) := by omega
      have hk1 : (k : Int) < (n : Int) := by omega
      clear hTU hgl
      go_wp2_with (go_at_call 9; refine (told (zzMkName_any ai m ci ss _ hst)).mono ?_)
      intro e w3 hp
      obtain ⟨rfl, hb3'⟩ := hp.out
      have hd2 : ∀ o, (w3.alloc o).cell? ⟨b, off + k * 2 + 1, none⟩ = some (.int .i64 gn) := fun o => cell_below hc2'.out (ext_alloc hb3' o)
      have Hb3 := hid (ext_trans Hbel.out hb3')
      clear hp hb3' hst hc1 hc2 hc2'
      cases hokb : okN ss with
      | false =>
        go_wp2
        go_ret
        exact ⟨rfl, ext_alloc Hb3.out _⟩
      | true =>
        clear hokb
        by_cases hz : gn = 0
        · subst hz
          have Hk3 : Hid (U + 1 = (unresOf ((nsOf sv).take (k + 1))).length) := Hk2.out
          clear Hk2
          go_wp2
          go_roundw
          case rel => exact ⟨k + 1, T + 0, U + 1, by omega, by go_num, by go_num, by go_num, by omega, by omega, ⟨Hk1.out, Hk3.out⟩, Hgl, ext_alloc Hb3.out _⟩
          case measure => simp [intOf]; omega
        · have Hk3 : Hid (U = (unresOf ((nsOf sv).take (k + 1))).length) := by have := Hk2.out; rw [if_neg hz] at this; exact this
          have hzb : ((gn : Int) == 0) = false := by simpa using hz
          clear Hk2
          go_wp2
          go_roundw
          case rel => exact ⟨k + 1, T + gn, U, by omega, by go_num, by go_num, rfl, by omega, by omega, ⟨Hk1.out, Hk3.out⟩, Hgl, ext_alloc Hb3.out _⟩
          case measure => simp [intOf]; omega
    · have Hgl : Hid (GlueOk sv) := forall_take_all (by rw [h.len]; omega) hgl.out
      have hkn : k = n := by omega
      subst hkn
      have hTU' : Hid (T = (knownOf (nsOf sv)).length ∧ U = (unresOf (nsOf sv)).length) := by
        have := hTU.out
        rw [List.take_of_length_le (by simp [nsOf, h.len])] at this
        exact this
      have hs1 := h.below hbel
      clear hgl hbel hTU
      by_cases htb : 4096 < T
      · go_wp2
        go_ret
        exact ⟨rfl, Hbel.out⟩
      go_wp2_with (go_at_call 16; refine (told (zzCloneServers_any a k cap sv _ hs1 (by omega) Hal.out)).mono ?_)
      intro e w2 hp
      obtain ⟨⟨a2, c2, rfl, hs2⟩, hb2'⟩ := hp.out
      have Hb2 := hid (ext_trans Hbel.out hb2')
      have Hs2 := hid hs2
      clear hp hb2' hs2 hs1 Hbel
      go_wp2_with (go_at_call 17; refine (told (zzNameservers_any a2 k c2 sv _ Hs2.out (by omega) Hgl.out)).mono ?_)
      intro e w3 hp
      obtain ⟨⟨na, rfl, hns, hna, hnB⟩, hb3'⟩ := hp.out
      have Hns := hid hns
      have Hb3 := hid (ext_trans Hb2.out hb3')
      have Hs3 := hid (Hs2.out.below hb3')
      clear hp hns hna hnB hb3' Hb2 Hs2
      go_wp2_with (go_at_call 21; refine (told (zzServerAddrsOf_any na k k (nsOf sv) _ Hns.out (by omega) (by have := hTU'.out.1; omega))).mono ?_)
      intro e w4 hp
      obtain ⟨⟨A, rfl, hA, hq4⟩, hb4⟩ := hp.out
      have Hq4 := hid hq4
      have HA := hid hA
      have Hb4 := hid hb4
      clear hp hq4 hb4 hA
      obtain ⟨UL, hUL⟩ : ∃ UL, UL = unresOf (nsOf sv) := ⟨_, rfl⟩
      obtain ⟨K0, hK0⟩ : ∃ K0, K0 = knownOf (nsOf sv) := ⟨_, rfl⟩
      have hKU : Hid (K0.length = T ∧ UL.length = U) := by have := hTU'.out; rw [← hUL, ← hK0] at this; exact ⟨this.1.symm, this.2.symm⟩
      have Hq5 : Hid (QAt w4 A K0 UL) := by show QAt _ _ _ _; rw [hUL, hK0]; exact Hq4.out
      have HUL := hid hUL
      have HK0 := hid hK0
      have hKb : K0.length ≤ 4096 := by have := hKU.out.1; omega
      have hUb : UL.length ≤ 1024 := by have := hKU.out.2; omega
      have eT : (T : Int) = (K0.length : Int) := by rw [hKU.out.1]
      have eU : (U : Int) = (UL.length : Int) := by rw [hKU.out.2]
      have Hnl : Hid ((nsOf sv).length = k) := by show _ = _; simpa [nsOf] using h.len
      clear hTU' Hq4 hUL hK0 hKU
      go_wp2_with (go_at_call 22; refine (told (zzLeft_any A K0 UL _ Hq5.out (by omega) (by omega))).mono ?_)
      intro e w5 hp
      obtain ⟨rfl, q, rfl⟩ := hp.out
      clear hp eT eU hT hU htb
      go_wp2
      obtain ⟨wo, hwo⟩ : ∃ wo : World, wo = wr := ⟨_, rfl⟩
      go_loopw [12, 13] (fun t i wx => ∃ (k2 : Nat) (KL : List ByteArray), k2 ≤ k ∧ i = .int .i64 k2 ∧ t = .int .i64 ((KL.length : Int) + (UL.length : Int)) ∧ KL.length ≤ 4096 ∧ Hid (KL = knownOf ((nsOf sv).drop k2)) ∧ Hid (QAt wx A KL UL) ∧ Hid (Below w3.heap.size w3 wx)) (fun _ i _ => k - (intOf i).toNat)
      case atStart => exact ⟨0, K0, Nat.zero_le _, rfl, rfl, hKb, by rw [List.drop_zero]; exact HK0, Hq5.out.below (below_drewN (Below.refl _ _) q), below_drewN Hb4.out q⟩
      case round =>
        obtain ⟨k2, KL, hk2, rfl, rfl, hKL, hKe, hqk, hbk⟩ := hrel
        by_cases hlt2 : k2 < k
        · obtain ⟨b, off, ai, m, ci, ss, g, hae, hc1, hc2, hst, hat, hmem, hb, hg0, hg1⟩ := Hs3.out.at_ hlt2
          subst hae
          obtain ⟨bn, s, gn, ga, gc, hna, hat2, hn0, hn1, _, hbn⟩ := Hns.out.at_ hlt2
          subst hna
          have hgg := Hgl.out _ hmem
          obtain ⟨gn', rfl⟩ : ∃ gn' : Nat, g = gn' := ⟨g.toNat, by have := hgg.1; simp at this; omega⟩
          have hee := nsOf_at hat
          rw [hat2] at hee
          cases hee
          have hgn : gn ≤ 256 := by have := hgg.2; simp at this; omega
          generalize mkW ss = s at *
          have Hc2 := hid hc2
          have hc0 : wr.cell? ⟨bn, k2 * 2, none⟩ = some (.string s) := (hbk.out.cell (by exact hbn)).trans hn0
          have Hkd : Hid (KL = List.replicate (gn - 0) s ++ knownOf ((nsOf sv).drop (k2 + 1))) := by show _ = _; rw [hKe.out, known_drop hat2]; rfl
          have hk20 : (0 : Int) ≤ (k2 : Int) := by omega
          have hk21 : (k2 : Int) < (k : Int) := by omega
          clear hc1 hst hat hmem hat2 hn0 hn1 hgg hc2 hg0 hg1 hKe
          go_wp2_with (go_at_call 12; refine (told (zzWire_any _ _)).mono ?_)
          intro e w6 hp
          obtain ⟨rfl, hb6⟩ := hp.out
          have Hq6 := hid (hqk.out.below hb6)
          have Hb6 := hid (ext_trans hbk.out hb6)
          clear hp hb6 hc0 hqk hbk
          go_wp2
          obtain ⟨wp, hwp⟩ : ∃ wp : World, wp = wr := ⟨_, rfl⟩
          go_loopw [12, 15] (fun t i wx => ∃ (j : Nat) (KL : List ByteArray), j ≤ gn ∧ i = .int .i64 j ∧ t = .int .i64 ((KL.length : Int) + (UL.length : Int)) ∧ KL.length ≤ 4096 ∧ Hid (KL = List.replicate (gn - j) s ++ knownOf ((nsOf sv).drop (k2 + 1))) ∧ Hid (QAt wx A KL UL) ∧ Hid (Below w3.heap.size w3 wx)) (fun _ i _ => gn - (intOf i).toNat)
          case atStart => exact ⟨0, KL, Nat.zero_le _, rfl, rfl, hKL, Hkd, Hq6, Hb6⟩
          case round =>
            obtain ⟨j, KM, hj, rfl, rfl, hKM, hMe, hqm, hbm⟩ := hrel
            have hcg : wr.cell? ⟨b, off + k2 * 2 + 1, none⟩ = some (.int .i64 gn) := (hbm.out.cell (by exact hb)).trans Hc2.out
            by_cases hltj : j < gn
            · have he := hMe.out
              rw [pop_rep s gn j hltj] at he
              obtain ⟨KN, hKN⟩ : ∃ KN, KN = List.replicate (gn - (j + 1)) s ++ knownOf ((nsOf sv).drop (k2 + 1)) := ⟨_, rfl⟩
              rw [← hKN] at he
              subst he
              have HKN := hid hKN
              have hKNl : KN.length ≤ 4095 := by simp at hKM; omega
              clear hKN hMe hKM
              have hle : (((s :: KN).length : Nat) : Int) = (KN.length : Int) + 1 := by simp
              rw [hle]
              go_wp2_with (go_at_call 23; refine (told (zzNext_cons A s KN UL _ hqm.out (by omega))).mono ?_)
              intro e w7 hp
              obtain ⟨rfl, hq7, hb7⟩ := hp.out
              have Hq7 : Hid (∀ o, QAt (w7.alloc o) A KN UL) := fun o => hq7.below (ext_alloc (Below.refl _ _) o)
              have Hb7 : Hid (∀ o, Below w3.heap.size w3 (w7.alloc o)) := fun o => ext_alloc (hbm.out.trans (hb7.mono HA.out)) o
              clear hp hq7 hb7 hqm hbm
              go_wp2_with (go_at_call 12; refine (told (zzWire_any _ _)).mono ?_)
              intro e w8 hp
              obtain ⟨rfl, hb8⟩ := hp.out
              have Hq8 := hid ((Hq7.out _).below hb8)
              have Hb8 := hid (ext_trans (Hb7.out _) hb8)
              clear hp hb8 Hq7 Hb7
              go_wp2_with (go_at_call 22; refine (told (zzLeft_any A KN UL _ Hq8.out (by omega) (by omega))).mono ?_)
              intro e w9 hp
              obtain ⟨rfl, q9, rfl⟩ := hp.out
              clear hp
              have hsub : (KN.length : Int) + 1 + (UL.length : Int) - 1 = (KN.length : Int) + (UL.length : Int) := by omega
              go_wp2
              go_roundw
              case rel => exact ⟨j + 1, KN, by omega, by go_num, by go_num, by omega, HKN, Hq8.out.below (below_drewN (Below.refl _ _) q9), below_drewN Hb8.out q9⟩
              case measure => simp [intOf]; omega
            · have hjn : j = gn := by omega
              subst hjn
              have Hke : Hid (KM = knownOf ((nsOf sv).drop (k2 + 1))) := by show _ = _; rw [hMe.out, Nat.sub_self]; rfl
              clear hMe
              go_wp2
              go_roundw
              case rel => exact ⟨k2 + 1, KM, by omega, by go_num, rfl, hKM, Hke, hqm, hbm⟩
              case measure => simp [intOf]; omega
        · have hke : KL = [] := by rw [hKe.out]; exact known_end (by have := Hnl.out; omega)
          subst hke
          clear hKe hKL Hb4 Hq5
          go_wp2_with (go_at_call 23; refine (told (zzNext_nil A UL _ hqk.out)).mono ?_)
          intro e w6 hp
          obtain ⟨rfl, hb6⟩ := hp.out
          have Hq6 : Hid (∀ o, QAt (w6.alloc o) A [] UL) := fun o => hqk.out.below (ext_alloc hb6 o)
          have Hb6 : Hid (∀ o, Below w3.heap.size w3 (w6.alloc o)) := fun o => ext_alloc (ext_trans hbk.out hb6) o
          clear hp hb6 hqk hbk
          go_wp2_with (go_at_call 22; refine (told (zzLeft_any A [] UL _ (Hq6.out _) (by simp) (by omega))).mono ?_)
          intro e w7 hp
          obtain ⟨rfl, q7, rfl⟩ := hp.out
          clear hp
          have hl0 : (([] : List ByteArray).length : Int) = 0 := rfl
          go_wp2
          obtain ⟨wq, hwq⟩ : ∃ wq : World, wq = wr := ⟨_, rfl⟩
          go_loopw [12, 20] (fun t i wx => ∃ (k3 : Nat) (VL : List ByteArray), k3 ≤ k ∧ i = .int .i64 k3 ∧ t = .int .i64 (VL.length : Int) ∧ VL.length ≤ 1024 ∧ Hid (VL = unresOf ((nsOf sv).drop k3)) ∧ Hid (QAt wx A [] VL) ∧ Hid (Below w3.heap.size w3 wx)) (fun _ i _ => k - (intOf i).toNat)
          case atStart => exact ⟨0, UL, Nat.zero_le _, rfl, by simp, hUb, by rw [List.drop_zero]; exact HUL, (Hq6.out _).below (below_drewN (Below.refl _ _) q7), below_drewN (Hb6.out _) q7⟩
          case round =>
            obtain ⟨k3, VL, hk3, rfl, rfl, hVL, hVe, hqv, hbv⟩ := hrel
            clear Hq6 Hb6 hwq hwo hKb hUb HK0 HUL
            by_cases hlt3 : k3 < k
            · obtain ⟨b, off, ai, m, ci, ss, g, hae, hc1, hc2, hst, hat, hmem, hb, hg0, hg1⟩ := Hs3.out.at_ hlt3
              subst hae
              obtain ⟨bn, s, gn, ga, gc, hna, hat2, hn0, hn1, _, hbn⟩ := Hns.out.at_ hlt3
              subst hna
              have hgg := Hgl.out _ hmem
              obtain ⟨gn', rfl⟩ : ∃ gn' : Nat, g = gn' := ⟨g.toNat, by have := hgg.1; simp at this; omega⟩
              have hee := nsOf_at hat
              rw [hat2] at hee
              cases hee
              have hgn : gn ≤ 256 := by have := hgg.2; simp at this; omega
              generalize mkW ss = s at *
              have hcg : wr.cell? ⟨b, off + k3 * 2 + 1, none⟩ = some (.int .i64 gn) := (hbv.out.cell (by exact hb)).trans hc2
              have hc0 : wr.cell? ⟨bn, k3 * 2, none⟩ = some (.string s) := (hbv.out.cell (by exact hbn)).trans hn0
              have Hud : Hid (VL = (if gn = 0 then [s] else []) ++ unresOf ((nsOf sv).drop (k3 + 1))) := by show _ = _; rw [hVe.out, unres_drop hat2]
              have hk30 : (0 : Int) ≤ (k3 : Int) := by omega
              have hk31 : (k3 : Int) < (k : Int) := by omega
              clear hc1 hst hat hmem hat2 hn0 hn1 hgg hc2 hg0 hg1 hVe
              by_cases hz : gn = 0
              · subst hz
                have he := Hud.out
                rw [if_pos rfl] at he
                obtain ⟨VN, hVN⟩ : ∃ VN, VN = unresOf ((nsOf sv).drop (k3 + 1)) := ⟨_, rfl⟩
                rw [← hVN] at he
                have he' : VL = s :: VN := he
                subst he'
                have HVN := hid hVN
                have hVNl : VN.length ≤ 1023 := by simp at hVL; omega
                clear hVN Hud he hVL
                have hle : (((s :: VN).length : Nat) : Int) = (VN.length : Int) + 1 := by simp
                rw [hle]
                go_wp2_with (go_at_call 12; refine (told (zzWire_any _ _)).mono ?_)
                intro e w8 hp
                obtain ⟨rfl, hb8⟩ := hp.out
                have Hq8 := hid (hqv.out.below hb8)
                have Hb8 := hid (ext_trans hbv.out hb8)
                clear hp hb8 hc0 hcg hqv hbv
                go_wp2_with (go_at_call 24; refine (told (zzUnres_cons A s [] VN _ Hq8.out (by omega))).mono ?_)
                intro e w9 hp
                obtain ⟨rfl, hq9, hb9⟩ := hp.out
                have Hq9 : Hid (∀ o, QAt (w9.alloc o) A [] VN) := fun o => hq9.below (ext_alloc (Below.refl _ _) o)
                have Hb9 : Hid (∀ o, Below w3.heap.size w3 (w9.alloc o)) := fun o => ext_alloc (Hb8.out.trans (hb9.mono HA.out)) o
                clear hp hq9 hb9 Hq8 Hb8
                go_wp2_with (go_at_call 12; refine (told (zzWire_any _ _)).mono ?_)
                intro e w10 hp
                obtain ⟨rfl, hb10⟩ := hp.out
                have hc10 : w10.cell? ⟨w9.heap.size, 0, none⟩ = some (.string s) := ext_cell hb10 rfl
                have Hq10 := hid ((Hq9.out _).below hb10)
                have Hb10 := hid (ext_trans (Hb9.out _) hb10)
                clear hp hb10 Hq9 Hb9
                go_wp2_with (go_at_call 22; refine (told (zzLeft_any A [] VN _ Hq10.out (by simp) (by omega))).mono ?_)
                intro e w11 hp
                obtain ⟨rfl, q11, rfl⟩ := hp.out
                clear hp
                have hsub : (VN.length : Int) + 1 - 1 = (VN.length : Int) := by omega
                go_wp2
                have Hfa : Hid (∀ w2, Below (w10.drewN q11).drew.heap.size (w10.drewN q11).drew w2 → QAt w2 A [] VN ∧ w2.cell? ⟨w9.heap.size, 0, none⟩ = some (.string s) ∧ Below w3.heap.size w3 w2) := by
                  intro w2 hb2
                  have hbx : Below w10.heap.size w10 w2 := ext_trans (below_drewN (Below.refl _ _) q11).drew hb2
                  exact ⟨Hq10.out.below hbx, cell_below hc10 hbx, ext_trans Hb10.out hbx⟩
                have Hga : Hid (∀ g : Nat, (w10.drewN q11).drew.heap.size ≤ g → g ≠ A) := by
                  intro g hg
                  have := Hq10.out.lt
                  have hg' : w10.heap.size ≤ g := hg
                  omega
                have hfm : f ≤ 1048576 := by omega
                go_region_with ((first | (go_at_call 26; refine (told (zzZeroAddrs_typed f hfm _)).mono ?_; intro e w12 hp; obtain ⟨⟨g, rfl, hg, hz⟩, hb12⟩ := hp.out; obtain ⟨hq12, hc12, hb12'⟩ := Hfa.out w12 hb12; have hgA := Hga.out g hg; have Hz := hid hz; have Hq12 := hid hq12; have Hb12 := hid hb12'; clear hp hz hq12 hb12 hb12' hg) | (go_at_call 25; refine (told (zzResolved_any A s g f [] VN _ Hq12.out Hz.out hgA (by simp; omega))).mono ?_; intro e w13 hp; obtain ⟨rfl, hq13, hb13⟩ := hp.out; have Hq13 : Hid (QAt w13 A (List.replicate f s) VN) := hq13; have Hb13 := hid (Hb12.out.trans (hb13.mono HA.out)); clear hp hq13 hb13 Hq12 Hb12 Hz hc12)))
                all_goals
                  clear hc10 Hq10 Hb10 Hfa Hga hsub hgA
                  have hrl : (((List.replicate f s).length : Nat) : Int) + (VN.length : Int) = (VN.length : Int) + (f : Int) := by rw [List.length_replicate, Int.add_comm]
                  have hrm : (List.replicate f s).length ≤ 16 := by rw [List.length_replicate]; exact hf
                  go_wp2_with (go_at_call 22; refine (told (zzLeft_any A (List.replicate f s) VN _ Hq13.out (by omega) (by omega))).mono ?_)
                  intro e w14 hp
                  obtain ⟨rfl, q14, rfl⟩ := hp.out
                  rw [hrl]
                  clear hp hrl
                  go_wp2
                  obtain ⟨wt, hwt⟩ : ∃ wt : World, wt = wr := ⟨_, rfl⟩
                  go_loopw [12, 24] (fun t i wx => ∃ (j : Nat) (KL : List ByteArray), j ≤ f ∧ i = .int .i64 j ∧ t = .int .i64 ((KL.length : Int) + (VN.length : Int)) ∧ KL.length ≤ 16 ∧ Hid (KL = List.replicate (f - j) s ++ []) ∧ Hid (QAt wx A KL VN) ∧ Hid (Below w3.heap.size w3 wx)) (fun _ i _ => f - (intOf i).toNat)
                  case atStart => exact ⟨0, List.replicate f s, Nat.zero_le _, rfl, by rw [List.length_replicate, Int.add_comm], hrm, by simp [Hid], Hq13.out.below (below_drewN (Below.refl _ _) q14), below_drewN Hb13.out q14⟩
                  case round =>
                    obtain ⟨j, KM, hj, rfl, rfl, hKM, hMe, hqm, hbm⟩ := hrel
                    clear Hq13 Hb13 hwt hrm
                    by_cases hltj : j < f
                    · have he := hMe.out
                      rw [pop_rep s f j hltj] at he
                      obtain ⟨KN, hKN⟩ : ∃ KN : List ByteArray, KN = List.replicate (f - (j + 1)) s ++ [] := ⟨_, rfl⟩
                      rw [← hKN] at he
                      subst he
                      have HKN := hid hKN
                      have hKNl : KN.length ≤ 15 := by simp at hKM; omega
                      clear hKN hMe hKM
                      have hle2 : (((s :: KN).length : Nat) : Int) = (KN.length : Int) + 1 := by simp
                      rw [hle2]
                      go_wp2_with (go_at_call 23; refine (told (zzNext_cons A s KN VN _ hqm.out (by omega))).mono ?_)
                      intro e w15 hp
                      obtain ⟨rfl, hq7, hb7⟩ := hp.out
                      have Hq7 : Hid (∀ o, QAt (w15.alloc o) A KN VN) := fun o => hq7.below (ext_alloc (Below.refl _ _) o)
                      have Hb7 : Hid (∀ o, Below w3.heap.size w3 (w15.alloc o)) := fun o => ext_alloc (hbm.out.trans (hb7.mono HA.out)) o
                      clear hp hq7 hb7 hqm hbm
                      go_wp2_with (go_at_call 12; refine (told (zzWire_any _ _)).mono ?_)
                      intro e w16 hp
                      obtain ⟨rfl, hb8⟩ := hp.out
                      have Hq8 := hid ((Hq7.out _).below hb8)
                      have Hb8 := hid (ext_trans (Hb7.out _) hb8)
                      clear hp hb8 Hq7 Hb7
                      go_wp2_with (go_at_call 22; refine (told (zzLeft_any A KN VN _ Hq8.out (by omega) (by omega))).mono ?_)
                      intro e w17 hp
                      obtain ⟨rfl, q9, rfl⟩ := hp.out
                      clear hp
                      have hsub : (KN.length : Int) + 1 + (VN.length : Int) - 1 = (KN.length : Int) + (VN.length : Int) := by omega
                      go_wp2
                      go_roundw
                      case rel => exact ⟨j + 1, KN, by omega, by go_num, by go_num, by omega, HKN, Hq8.out.below (below_drewN (Below.refl _ _) q9), below_drewN Hb8.out q9⟩
                      case measure => simp [intOf]; omega
                    · have hjn : j = f := by omega
                      subst hjn
                      have hke : KM = [] := by rw [hMe.out, Nat.sub_self]; rfl
                      subst hke
                      clear hMe hKM
                      go_wp2_with (go_at_call 23; refine (told (zzNext_nil A VN _ hqm.out)).mono ?_)
                      intro e w15 hp
                      obtain ⟨rfl, hb7⟩ := hp.out
                      have Hq7 : Hid (∀ o, QAt (w15.alloc o) A [] VN) := fun o => hqm.out.below (ext_alloc hb7 o)
                      have Hb7 : Hid (∀ o, Below w3.heap.size w3 (w15.alloc o)) := fun o => ext_alloc (ext_trans hbm.out hb7) o
                      clear hp hb7 hqm hbm
                      go_wp2
                      go_roundw
                      case rel => exact ⟨k3 + 1, VN, by omega, by go_num, by first | rfl | simp, by omega, HVN, Hq7.out _, Hb7.out _⟩
                      case measure => simp [intOf]; omega
              · have Hvn : Hid (VL = unresOf ((nsOf sv).drop (k3 + 1))) := by have := Hud.out; rw [if_neg hz] at this; exact this
                have hzb : ((gn : Int) == 0) = false := by simpa using hz
                clear Hud
                go_wp2
                go_roundw
                case rel => exact ⟨k3 + 1, VL, by omega, by go_num, rfl, hVL, Hvn, hqv, hbv⟩
                case measure => simp [intOf]; omega
            · have hve : VL = [] := by rw [hVe.out]; exact unres_end (by have := Hnl.out; omega)
              subst hve
              clear hVe hVL
              go_wp2_with (go_at_call 24; refine (told (zzUnres_nil A [] _ hqv.out)).mono ?_)
              intro e w8 hp
              obtain ⟨rfl, hb8⟩ := hp.out
              have Hq8 : Hid (∀ o, QAt (w8.alloc o) A [] []) := fun o => hqv.out.below (ext_alloc hb8 o)
              have Hb8 : Hid (∀ o, Below w3.heap.size w3 (w8.alloc o)) := fun o => ext_alloc (ext_trans hbv.out hb8) o
              clear hp hb8 hqv hbv
              go_wp2_with (go_at_call 22; refine (told (zzLeft_any A [] [] _ (Hq8.out _) (by simp) (by simp))).mono ?_)
              intro e w9 hp
              obtain ⟨rfl, q9, rfl⟩ := hp.out
              clear hp
              go_wp2
              go_ret
              exact ⟨rfl, ext_trans Hb3.out (below_drewN (Hb8.out _) q9)⟩
end Go.Proofs.Qxb6003717a
