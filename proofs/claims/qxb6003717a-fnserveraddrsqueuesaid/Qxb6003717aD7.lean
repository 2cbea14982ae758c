import Derived.Test.Qxb6003717aD6
namespace Go.Proofs.Qxb6003717a
open Go.RowKit

/-- Where the law's own loop has found the first server of s's name among the first k (-1: none). -/
def AtSpec (s : ByteArray) (ns : List (ByteArray × Nat)) (k : Nat) (at_ : Int) : Prop :=
  (at_ = -1 ∧ NoKey s ns k) ∨ ∃ j : Nat, at_ = j ∧ j < k ∧ NoKey s ns j ∧ ∃ x, ns[j]? = some x ∧ key x.1 = key s

theorem expects_neg {s : ByteArray} {sv : List (List ByteArray × Int)} {k : Nat} (h : NoKey s (nsOf sv) k) (hk : sv.length ≤ k) :
    Expects sv (wsv s (nsOf sv)) (-1) ∧ (wsv s (nsOf sv)).length = sv.length + 1 ∧ (wsv s (nsOf sv))[sv.length]? = some (s, 1) := by
  have hl : (nsOf sv).length = sv.length := by simp [nsOf]
  rw [wsv_none h (by rw [hl]; exact hk)]
  refine ⟨?_, by simp [hl], by rw [List.getElem?_append_right (by omega)]; simp [hl]⟩
  intro i ss g hi
  have hil : i < sv.length := (List.getElem?_eq_some_iff.1 hi).1
  rw [List.getElem?_append_left (by omega)]
  have : ¬ ((i : Int) = -1 ∧ g = 0) := by omega
  rw [if_neg this]
  simp [nsOf, List.getElem?_map, hi]
theorem expects_pos {s : ByteArray} {sv : List (List ByteArray × Int)} (hg : GlueOk sv) {j : Nat} {x : ByteArray × Nat} (h : NoKey s (nsOf sv) j) (hx : (nsOf sv)[j]? = some x) (hk : key x.1 = key s) :
    Expects sv (wsv s (nsOf sv)) j ∧ (wsv s (nsOf sv)).length = sv.length := by
  rw [wsv_found h hx hk]
  refine ⟨?_, by simp [nsOf]⟩
  intro i ss g hi
  have hil : i < sv.length := (List.getElem?_eq_some_iff.1 hi).1
  have hge : 0 ≤ g ∧ g ≤ 256 := hg _ (List.mem_of_getElem? hi)
  have hni : (nsOf sv)[i]? = some (mkW ss, g.toNat) := by simp [nsOf, List.getElem?_map, hi]
  rw [List.getElem?_set]
  by_cases e : j = i
  · subst e
    rw [hx] at hni
    cases hni
    rw [if_pos rfl, if_pos (by simpa [nsOf] using hil)]
    congr 2
    show max g.toNat 1 = _
    split <;> omega
  · rw [if_neg e, hni, if_neg (by omega)]

theorem nsOf_size (sv : List (List ByteArray × Int)) : ∀ x ∈ nsOf sv, x.1.size ≤ 254 := by
  intro x hx
  simp [nsOf] at hx
  obtain ⟨ss, g, _, rfl⟩ := hx
  exact mkW_size_le ss

/-- What ZZWithServer leaves, under a name that the walk's simp does not open. -/
def WsPost (B : Nat) (s : ByteArray) (ns : List (ByteArray × Nat)) (w : World) (e : Ending) (w' : World) : Prop :=
  (∃ a' n' c', e = .returned (.slice a' n' c') ∧ NSs w' a' n' (wsv s ns) ∧ (a' = none → n' = 0) ∧ (∀ x, a' = some x → x.spot = none ∧ B ≤ x.block)) ∧ Below B w w'
theorem zzWithServer_post (a : Option Addr) (n c : Nat) (ns : List (ByteArray × Nat)) (s : ByteArray) (w : World) (h : NSs w a n ns) (hn : n ≤ 1048576) (hsz : ∀ x ∈ ns, x.1.size ≤ maxLen) (hcap : c = n ∨ ∃ x ∈ ns, key x.1 = key s) (hna : a = none → n = 0)
    (B : Nat) (hB : B ≤ w.heap.size) (hBa : ∀ x, a = some x → x.spot = none ∧ B ≤ x.block) :
    Calls Try.prog 18 #[.slice a n c, sz s] w fun e w' => WsPost B s ns w e w' := zzWithServer_any a n c ns s w h hn hsz hcap hna B hB hBa

set_option maxRecDepth 100000 in
set_option maxHeartbeats 2000000 in
theorem with_walk (a : Option Addr) (n cap : Nat) (sv : List (List ByteArray × Int)) (qa : Option Addr) (qn qc : Nat) (qs : List ByteArray) (w : World) (h : Srvs w a n sv) (hq : Strs w qa qn qs) :
    Calls Try.prog 4 #[.slice a n cap, .slice qa qn qc] w fun e w' => e = .returned (.bool true) ∧ Below w.heap.size w w' := by
  have hn := h.lim
  have hqn := hq.lim
  unfold maxLen at hn hqn
  go_enter Try.func4, Try.ntmps4
  go_wp2_with (go_at_call 14; refine (told (zzBytesWith_any a n cap sv qa qn qc qs _ h hq)).mono ?_)
  intro e w' hp
  obtain ⟨⟨r, rfl, hr⟩, hw⟩ := hp.out
  replace hw := hw.symm
  subst hw
  clear hp
  cases r with
  | false =>
    clear hr
    go_wp2
    go_ret
    exact ⟨rfl, Below.refl _ _⟩
  | true =>
  obtain ⟨hn1, hal, hqs⟩ := hr rfl
  have Hal := hid hal
  have Hqs := hid hqs
  clear hn1 hal hqs hr
  by_cases hb1 : 1024 < n
  · go_wp2
    go_ret
    exact ⟨rfl, Below.refl _ _⟩
  by_cases hb2 : 65536 < qn
  · go_wp2
    go_ret
    exact ⟨rfl, Below.refl _ _⟩
  go_wp2_with (go_at_call 15; refine (told (zzServersBytes_any a n cap sv _ h Hal.out)).mono ?_)
  intro e w' hp
  obtain ⟨⟨r1, rfl, hr10, hr11⟩, hw⟩ := hp.out
  replace hw := hw.symm
  subst hw
  clear hp
  go_wp2_with (go_at_call 8; refine (told (zzLabelBytes_any qa qn qc qs _ hq Hqs.out)).mono ?_)
  intro e w' hp
  obtain ⟨⟨r2, rfl, hr20, hr21⟩, hw⟩ := hp.out
  replace hw := hw.symm
  subst hw
  clear hp
  by_cases hgt : 1048576 < r1 + r2
  · go_wp2
    go_ret
    exact ⟨rfl, Below.refl _ _⟩
  go_wp2
  go_loopw [5] (fun i wr => ∃ k : Nat, k ≤ n ∧ i = .int .i64 k ∧ Hid (∀ x ∈ sv.take k, 0 ≤ x.2 ∧ x.2 ≤ 256) ∧ Below w.heap.size w wr) (fun i _ => n - (intOf i).toNat)
  case atStart => exact ⟨0, Nat.zero_le _, rfl, by simp [Hid], Below.refl _ _⟩
  case round =>
    obtain ⟨k, hk, rfl, hgl, hbel⟩ := hrel
    have Hbel := hid hbel
    clear hr10 hr11 hr20 hr21 hgt
    by_cases hlt : k < n
    · obtain ⟨b, off, ai, m, ci, ss, g, rfl, hc1, hc2, hst, hat, hmem, hb, hg0, hg1⟩ := (h.below hbel).at_ hlt
      have Hat := hid hat
      clear hat hmem hbel
      by_cases hgn : g < 0
      · go_wp2
        go_ret
        exact ⟨rfl, Hbel.out⟩
      by_cases hgp : 256 < g
      · go_wp2
        go_ret
        exact ⟨rfl, Hbel.out⟩
      go_wp2_with (go_at_call 9; refine (told (zzMkName_any ai m ci ss _ hst)).mono ?_)
      intro e w3 hp
      obtain ⟨rfl, hb3⟩ := hp.out
      have Hb3 := hid (ext_trans Hbel.out hb3)
      clear hp hb3
      cases hokb : okN ss with
      | false =>
        go_wp2
        go_ret
        exact ⟨rfl, ext_alloc Hb3.out _⟩
      | true =>
        clear hokb
        go_wp2
        go_roundw
        case rel => exact ⟨k + 1, by omega, by go_num, forall_take_succ (P := fun (x : List ByteArray × Int) => 0 ≤ x.2 ∧ x.2 ≤ 256) Hat.out hgl.out ⟨by simp; omega, by simp; omega⟩, ext_alloc Hb3.out _⟩
        case measure => simp [intOf]; omega
    · have Hgl : Hid (GlueOk sv) := forall_take_all (by rw [h.len]; omega) hgl.out
      have hq1 := hq.below hbel
      clear hgl hbel
      go_wp2_with (go_at_call 9; refine (told (zzMkName_any qa qn qc qs _ hq1)).mono ?_)
      intro e w1 hp
      obtain ⟨rfl, hb1'⟩ := hp.out
      have Hb1 := hid (ext_trans Hbel.out hb1')
      clear hp hb1' hq1 Hbel
      cases hokb : okN qs with
      | false =>
        go_wp2
        go_ret
        exact ⟨rfl, ext_alloc Hb1.out _⟩
      | true =>
        clear hokb
        have Hs1 : Hid (∀ o, Srvs (w1.alloc o) a n sv) := fun o => h.below (ext_alloc Hb1.out o)
        go_wp2_with (go_at_call 16; refine (told (zzCloneServers_any a n cap sv _ (Hs1.out _) (by omega) Hal.out)).mono ?_)
        intro e w2 hp
        obtain ⟨⟨a2, c2, rfl, hs2⟩, hb2'⟩ := hp.out
        have Hb2 := hid (ext_trans (ext_alloc Hb1.out _) hb2')
        have hq2 := hq.below Hb2.out
        have Hs2 := hid hs2
        clear hp hb2' hs2 Hs1 Hb1
        go_wp2_with (go_at_call 10; refine (told (zzCloneLabels_any qa qn qc qs _ hq2 (by omega))).mono ?_)
        intro e w3 hp
        obtain ⟨⟨qa3, qc3, rfl, hq3⟩, hb3⟩ := hp.out
        have Hb3 := hid (ext_trans Hb2.out hb3)
        have Hs3 := hid (Hs2.out.below hb3)
        clear hp hb3 Hb2 Hs2 hq2
        go_wp2_with (go_at_call 9; refine (told (zzMkName_any qa3 qn qc3 qs _ hq3)).mono ?_)
        intro e w4 hp
        obtain ⟨rfl, hb4⟩ := hp.out
        have Hb4 := hid (ext_trans Hb3.out hb4)
        have Hs4 := hid (Hs3.out.below hb4)
        clear hp hb4 Hb3 Hs3 hq3
        go_wp2_with (go_at_call 12; refine (told (zzWire_any _ _)).mono ?_)
        intro e w5 hp
        obtain ⟨rfl, hb5⟩ := hp.out
        have hsc5 := ext_cell hb5 rfl
        have Hb5 := hid (ext_trans (ext_alloc Hb4.out _) hb5)
        have Hs5 := hid ((Hs4.out.below (ext_alloc (Below.refl _ _) _)).below hb5)
        clear hp hb5 Hb4 Hs4
        go_wp2_with (go_at_call 17; refine (told (zzNameservers_any a2 n c2 sv _ Hs5.out (by omega) Hgl.out)).mono ?_)
        intro e w6 hp
        obtain ⟨⟨na, rfl, hns, hna, hnB⟩, hb6⟩ := hp.out
        have Hns := hid hns
        have Hna := hid hna
        have HnB := hid hnB
        have Hb6 := hid hb6
        have hsc6 := cell_below hsc5 hb6
        clear hp hns hna hnB hb6
        obtain ⟨sw, hsw⟩ : ∃ sw, sw = mkW qs := ⟨_, rfl⟩
        rw [← hsw] at hsc5 hsc6
        rw [← hsw]
        have Hsw : Hid (sw.size ≤ 254) := by show _ ≤ _; rw [hsw]; exact mkW_size_le qs
        clear hsw
        have Hss := hid (nsOf_size sv)
        have Hnl : Hid ((nsOf sv).length = n) := by show _ = _; simpa [nsOf] using h.len
        go_wp2
        go_loopw [14, 15] (fun t i wr => ∃ k : Nat, k ≤ n ∧ i = .int .i64 k ∧ (∃ at_ : Int, t = .int .i64 at_ ∧ -1 ≤ at_ ∧ at_ ≤ 1024 ∧ Hid (AtSpec sw (nsOf sv) k at_)) ∧ NSs wr na n (nsOf sv) ∧ Below w5.heap.size w5 wr) (fun _ i _ => n - (intOf i).toNat)
        case atStart => exact ⟨0, Nat.zero_le _, rfl, ⟨-1, rfl, by omega, by omega, .inl ⟨rfl, noKey_zero _ _⟩⟩, Hns.out, Hb6.out⟩
        case round =>
          obtain ⟨k2, hk2, rfl, ⟨at_, rfl, ha0, ha1, hat⟩, hns, hbel⟩ := hrel
          have Hns2 := hid hns
          have Hbel := hid hbel
          clear Hns Hb6 hsc6
          by_cases hgo : k2 < n ∧ at_ < 0
          · obtain ⟨hlt2, han⟩ := hgo
            have hkl : k2 < (nsOf sv).length := by rw [Hnl.out]; exact hlt2
            obtain ⟨⟨t, m⟩, hx⟩ : ∃ x, (nsOf sv)[k2]? = some x := ⟨_, List.getElem?_eq_getElem hkl⟩
            obtain ⟨b, gm, rfl, hbl, hc1, ga, gc, hc2, hgm⟩ := hns.at0 hx
            have HT : Hid (t.size ≤ maxLen) := by have := Hss.out _ (List.mem_of_getElem? hx); simp only at this; show _ ≤ _; unfold maxLen; omega
            have hnk : Hid (NoKey sw (nsOf sv) k2) := by
              rcases hat.out with ⟨_, hh⟩ | ⟨j, hj, _⟩
              · exact hh
              · omega
            have hae : at_ = -1 := by omega
            subst hae
            have Hx := hid hx
            have hk0 : (0 : Int) ≤ (k2 : Int) := by omega
            have hk1 : (k2 : Int) < (n : Int) := by omega
            clear hx hns hbel hat hkl hc2 hgm
            by_cases hkey : key t = key sw
            · have hd : decide (key t = key sw) = true := decide_eq_true hkey
              have Hat : Hid (AtSpec sw (nsOf sv) (k2 + 1) k2) := .inr ⟨k2, rfl, by omega, hnk.out, _, Hx.out, hkey⟩
              clear hkey
              go_wp2_with (go_at_call 12; refine (told (zzWire_any _ _)).mono ?_)
              intro e w7 hp
              obtain ⟨rfl, hb7⟩ := hp.out
              have Hb7 := hid hb7
              clear hp hb7
              go_wp2_with (go_at_call 11; refine (told (zzFoldEq_any t sw _ HT.out)).mono ?_)
              intro e w8 hp
              obtain ⟨rfl, q, rfl⟩ := hp.out
              have Hb8 := hid (below_drewN Hb7.out q)
              clear hp Hb7
              go_wp2
              go_roundw
              case rel => exact ⟨k2 + 1, by omega, by go_num, ⟨_, rfl, by omega, by omega, Hat⟩, Hns2.out.below Hb8.out, ext_trans Hbel.out Hb8.out⟩
              case measure => simp [intOf]; omega
            · have hd : decide (key t = key sw) = false := decide_eq_false hkey
              have Hat : Hid (AtSpec sw (nsOf sv) (k2 + 1) (-1)) := .inl ⟨rfl, noKey_succ hnk.out Hx.out hkey⟩
              clear hkey
              go_wp2_with (go_at_call 12; refine (told (zzWire_any _ _)).mono ?_)
              intro e w7 hp
              obtain ⟨rfl, hb7⟩ := hp.out
              have Hb7 := hid hb7
              clear hp hb7
              go_wp2_with (go_at_call 11; refine (told (zzFoldEq_any t sw _ HT.out)).mono ?_)
              intro e w8 hp
              obtain ⟨rfl, q, rfl⟩ := hp.out
              have Hb8 := hid (below_drewN Hb7.out q)
              clear hp Hb7
              go_wp2
              go_roundw
              case rel => exact ⟨k2 + 1, by omega, by go_num, ⟨_, rfl, by omega, by omega, Hat⟩, Hns2.out.below Hb8.out, ext_trans Hbel.out Hb8.out⟩
              case measure => simp [intOf]; omega
          · have hsc := cell_below hsc5 hbel
            have HszM : Hid (∀ x ∈ nsOf sv, x.1.size ≤ maxLen) := fun x hx => by have := Hss.out x hx; unfold maxLen; omega
            have HszW : Hid (∀ x ∈ wsv sw (nsOf sv), x.1.size ≤ maxLen) := wsv_names (P := fun s => s.size ≤ maxLen) sw (by have := Hsw.out; unfold maxLen; omega) _ HszM.out
            rcases hat.out with ⟨rfl, hnk⟩ | ⟨j, rfl, hjk, hnk, x, hx, hkx⟩
            · have hlt2 : ¬ k2 < n := by omega
              have hex := expects_neg hnk (by rw [h.len]; omega)
              have HE := hid hex.1
              have HE2 : Hid ((wsv sw (nsOf sv)).length = n + 1) := by show _ = _; rw [hex.2.1, h.len]
              have HE3 : Hid ((wsv sw (nsOf sv))[n]? = some (sw, 1)) := by show _ = _; rw [← h.len]; exact hex.2.2
              clear hgo hat hnk hex hns hbel
              go_wp2_with (go_at_call 18; refine ((zzWithServer_post na n n (nsOf sv) sw _ Hns2.out (by omega) HszM.out (.inl rfl) Hna.out w5.heap.size Hbel.out.size HnB.out)).mono ?_)
              intro e w7 hp
              obtain ⟨⟨a7, n7, c7, rfl, hns7, hna7, hB7⟩, hb7⟩ := hp
              have Hns7 := hid hns7
              have Hna7 := hid hna7
              have HB7 := hid hB7
              have Hbel7 := hid (Hbel.out.trans hb7)
              have Hs7 := hid (Hs5.out.below Hbel7.out)
              have Hn7 : Hid ((wsv sw (nsOf sv)).length = n7) := hns7.len
              clear hns7 hna7 hB7 hb7 hsc Hbel Hns2
              go_wp2_with (go_at_call 19; refine (told (asModel_neg a2 n c2 sv a7 n7 c7 (wsv sw (nsOf sv)) sw (-1) _ Hs7.out Hns7.out Hgl.out HE.out (by omega) rfl (by rw [← Hn7.out, HE2.out]) HE3.out)).mono ?_)
              intro e w8 hp
              obtain ⟨rfl, hb8⟩ := hp.out
              have Hbel8 := hid (ext_trans Hbel7.out hb8)
              have Hns8 := hid (Hns7.out.below hb8)
              have hsc8 := cell_below hsc5 Hbel8.out
              clear hp hb8 Hbel7 Hns7 Hs7
              go_wp2_with (go_at_call 18; refine ((zzWithServer_post a7 n7 c7 (wsv sw (nsOf sv)) sw _ Hns8.out (by have := Hn7.out; have := wsv_length sw (nsOf sv); have := Hnl.out; omega) HszW.out (.inr (wsv_has sw (nsOf sv))) Hna7.out w5.heap.size Hbel8.out.size HB7.out)).mono ?_)
              intro e w9 hp
              obtain ⟨⟨a9, n9, c9, rfl, hns9, hna9, hB9⟩, hb9⟩ := hp
              rw [wsv_again] at hns9
              have Hns9 := hid hns9
              have Hbel9 := hid (Hbel8.out.trans hb9)
              have Hs9 := hid (Hs5.out.below Hbel9.out)
              have Hn9 : Hid ((wsv sw (nsOf sv)).length = n9) := hns9.len
              clear hns9 hna9 hB9 hb9 hsc8 Hbel8 Hns8 Hna7 HB7
              go_wp2_with (go_at_call 19; refine (told (asModel_neg a2 n c2 sv a9 n9 c9 (wsv sw (nsOf sv)) sw (-1) _ Hs9.out Hns9.out Hgl.out HE.out (by omega) rfl (by rw [← Hn9.out, HE2.out]) HE3.out)).mono ?_)
              intro e w10 hp
              obtain ⟨rfl, hb10⟩ := hp.out
              have Hfin := hid (ext_trans Hb5.out (ext_trans Hbel9.out hb10))
              clear hp hb10 Hbel9 Hns9 Hs9
              go_wp2
              go_ret
              exact ⟨rfl, Hfin.out⟩
            · have hex := expects_pos Hgl.out hnk hx hkx
              have HE := hid hex.1
              have HE2 : Hid ((wsv sw (nsOf sv)).length = n) := by show _ = _; rw [hex.2, h.len]
              have hj0 : ¬ (j : Int) < 0 := by omega
              clear hgo hat hnk hx hkx hex hns hbel
              by_cases hlt2 : k2 < n
              · go_wp2_with (go_at_call 18; refine ((zzWithServer_post na n n (nsOf sv) sw _ Hns2.out (by omega) HszM.out (.inl rfl) Hna.out w5.heap.size Hbel.out.size HnB.out)).mono ?_)
                intro e w7 hp
                obtain ⟨⟨a7, n7, c7, rfl, hns7, hna7, hB7⟩, hb7⟩ := hp
                have Hns7 := hid hns7
                have Hna7 := hid hna7
                have HB7 := hid hB7
                have Hbel7 := hid (Hbel.out.trans hb7)
                have Hs7 := hid (Hs5.out.below Hbel7.out)
                have Hn7 : Hid ((wsv sw (nsOf sv)).length = n7) := hns7.len
                clear hns7 hna7 hB7 hb7 hsc Hbel Hns2
                go_wp2_with (go_at_call 19; refine (told (asModel_pos a2 n c2 sv a7 n7 c7 (wsv sw (nsOf sv)) sw j _ Hs7.out Hns7.out Hgl.out HE.out (by omega) (by omega) (by omega) (by rw [← Hn7.out, HE2.out]))).mono ?_)
                intro e w8 hp
                obtain ⟨rfl, hb8⟩ := hp.out
                have Hbel8 := hid (ext_trans Hbel7.out hb8)
                have Hns8 := hid (Hns7.out.below hb8)
                have hsc8 := cell_below hsc5 Hbel8.out
                clear hp hb8 Hbel7 Hns7 Hs7
                go_wp2_with (go_at_call 18; refine ((zzWithServer_post a7 n7 c7 (wsv sw (nsOf sv)) sw _ Hns8.out (by have := Hn7.out; have := wsv_length sw (nsOf sv); have := Hnl.out; omega) HszW.out (.inr (wsv_has sw (nsOf sv))) Hna7.out w5.heap.size Hbel8.out.size HB7.out)).mono ?_)
                intro e w9 hp
                obtain ⟨⟨a9, n9, c9, rfl, hns9, hna9, hB9⟩, hb9⟩ := hp
                rw [wsv_again] at hns9
                have Hns9 := hid hns9
                have Hbel9 := hid (Hbel8.out.trans hb9)
                have Hs9 := hid (Hs5.out.below Hbel9.out)
                have Hn9 : Hid ((wsv sw (nsOf sv)).length = n9) := hns9.len
                clear hns9 hna9 hB9 hb9 hsc8 Hbel8 Hns8 Hna7 HB7
                go_wp2_with (go_at_call 19; refine (told (asModel_pos a2 n c2 sv a9 n9 c9 (wsv sw (nsOf sv)) sw j _ Hs9.out Hns9.out Hgl.out HE.out (by omega) (by omega) (by omega) (by rw [← Hn9.out, HE2.out]))).mono ?_)
                intro e w10 hp
                obtain ⟨rfl, hb10⟩ := hp.out
                have Hfin := hid (ext_trans Hb5.out (ext_trans Hbel9.out hb10))
                clear hp hb10 Hbel9 Hns9 Hs9
                go_wp2
                go_ret
                exact ⟨rfl, Hfin.out⟩
              · go_wp2_with (go_at_call 18; refine ((zzWithServer_post na n n (nsOf sv) sw _ Hns2.out (by omega) HszM.out (.inl rfl) Hna.out w5.heap.size Hbel.out.size HnB.out)).mono ?_)
                intro e w7 hp
                obtain ⟨⟨a7, n7, c7, rfl, hns7, hna7, hB7⟩, hb7⟩ := hp
                have Hns7 := hid hns7
                have Hna7 := hid hna7
                have HB7 := hid hB7
                have Hbel7 := hid (Hbel.out.trans hb7)
                have Hs7 := hid (Hs5.out.below Hbel7.out)
                have Hn7 : Hid ((wsv sw (nsOf sv)).length = n7) := hns7.len
                clear hns7 hna7 hB7 hb7 hsc Hbel Hns2
                go_wp2_with (go_at_call 19; refine (told (asModel_pos a2 n c2 sv a7 n7 c7 (wsv sw (nsOf sv)) sw j _ Hs7.out Hns7.out Hgl.out HE.out (by omega) (by omega) (by omega) (by rw [← Hn7.out, HE2.out]))).mono ?_)
                intro e w8 hp
                obtain ⟨rfl, hb8⟩ := hp.out
                have Hbel8 := hid (ext_trans Hbel7.out hb8)
                have Hns8 := hid (Hns7.out.below hb8)
                have hsc8 := cell_below hsc5 Hbel8.out
                clear hp hb8 Hbel7 Hns7 Hs7
                go_wp2_with (go_at_call 18; refine ((zzWithServer_post a7 n7 c7 (wsv sw (nsOf sv)) sw _ Hns8.out (by have := Hn7.out; have := wsv_length sw (nsOf sv); have := Hnl.out; omega) HszW.out (.inr (wsv_has sw (nsOf sv))) Hna7.out w5.heap.size Hbel8.out.size HB7.out)).mono ?_)
                intro e w9 hp
                obtain ⟨⟨a9, n9, c9, rfl, hns9, hna9, hB9⟩, hb9⟩ := hp
                rw [wsv_again] at hns9
                have Hns9 := hid hns9
                have Hbel9 := hid (Hbel8.out.trans hb9)
                have Hs9 := hid (Hs5.out.below Hbel9.out)
                have Hn9 : Hid ((wsv sw (nsOf sv)).length = n9) := hns9.len
                clear hns9 hna9 hB9 hb9 hsc8 Hbel8 Hns8 Hna7 HB7
                go_wp2_with (go_at_call 19; refine (told (asModel_pos a2 n c2 sv a9 n9 c9 (wsv sw (nsOf sv)) sw j _ Hs9.out Hns9.out Hgl.out HE.out (by omega) (by omega) (by omega) (by rw [← Hn9.out, HE2.out]))).mono ?_)
                intro e w10 hp
                obtain ⟨rfl, hb10⟩ := hp.out
                have Hfin := hid (ext_trans Hb5.out (ext_trans Hbel9.out hb10))
                clear hp hb10 Hbel9 Hns9 Hs9
                go_wp2
                go_ret
                exact ⟨rfl, Hfin.out⟩
end Go.Proofs.Qxb6003717a
