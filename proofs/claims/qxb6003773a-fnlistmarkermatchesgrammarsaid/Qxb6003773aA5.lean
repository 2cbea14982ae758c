import Derived.Test.Qxb6003773aA4
namespace Go.Proofs.Qxb6003773a
open Go.RowKit

/-- A marker of j digits and one sign more. -/
def mkO (xs : List Int) (j : Nat) (d : Int) (intr : Bool) : Bool := (dot d && (xs.take j).all dig) && tl xs (j + 1) intr (sayOne (xs.take j))

theorem take_all {xs : List Int} {i : Nat} {x : Int} (h : xs[i]? = some x) (p : Int → Bool) : (xs.take (i + 1)).all p = ((xs.take i).all p && p x) := by
  rw [List.take_add_one, h]; simp

set_option maxRecDepth 100000 in
set_option maxHeartbeats 2000000 in
theorem marker_ord (b off n : Nat) (xs : List Int) (intr : Bool) (j : Nat) (d : Int) (w : World) (h : Bts w (some ⟨b, off, none⟩) n xs) (hn : n ≤ 1048576) (hj : 0 < j) (hj9 : j ≤ 9) (hjn : j < n) (hd : xs[j]? = some d) :
    Calls Try.prog 6 #[.slice (some ⟨b, off, none⟩) n n, .int .i64 ((j : Int) + 1), .bool intr] w fun e w' => e = .returned (.bool (mkO xs j d intr)) ∧ w' = w := by
  have hlen := h.len
  have H := hid h
  obtain ⟨b', off', y, hae, hcd, hy, hd0, hd1⟩ := h.at_ hjn
  cases hae
  rw [hd] at hy
  cases hy
  have hn0 : (0 : Int) < (n : Int) := by omega
  have hjI : (j : Int) < (n : Int) := by omega
  have hjI0 : (0 : Int) ≤ (j : Int) := by omega
  have hj1 : ((j : Int) + 1 == 1) = false := by simp; omega
  have hsub : (j : Int) + 1 - 1 = (j : Int) := by omega
  have htk := hid (h.take j (by omega))
  clear h
  by_cases hb : d = 46 ∨ d = 41
  · have Hmk0 : Hid (mkO xs j d intr = ((xs.take j).all dig && tl xs (j + 1) intr (sayOne (xs.take j)))) := by
      show _ = _
      unfold mkO dot
      rcases hb with rfl | rfl <;> rfl
    have hbb : (d == 46) = true ∨ ((d == 46) = false ∧ (d == 41) = true) := by
      rcases hb with rfl | rfl
      · exact .inl rfl
      · exact .inr ⟨rfl, rfl⟩
    clear hb hd
    rcases hbb with b1 | ⟨b1, b2⟩
    all_goals
      go_enter Try.func6, Try.ntmps6
      go_wp2
      go_loopw [8, 10] (fun o i wr => ∃ i2 : Nat, i2 ≤ j ∧ i = .int .i64 i2 ∧ o = .bool ((xs.take i2).all dig) ∧ wr = w) (fun _ i _ => j - (intOf i).toNat)
      case atStart => exact ⟨0, Nat.zero_le _, rfl, rfl, rfl⟩
      case round =>
        obtain ⟨i2, hi2, rfl, rfl, rfl⟩ := hrel
        by_cases hlt2 : i2 < j
        · obtain ⟨b', off', x, hae, hc, hx, hx0, hx1⟩ := H.out.at_ (show i2 < n by omega)
          cases hae
          have hi20 : (0 : Int) ≤ (i2 : Int) := by omega
          have hi21 : (i2 : Int) < (n : Int) := by omega
          have hi22 : (i2 : Int) < (j : Int) := by omega
          have Hta := hid (take_all hx dig)
          clear hx
          by_cases hlo : x < 48
          · have Hf : Hid ((xs.take (i2 + 1)).all dig = false) := by show _ = _; rw [Hta.out]; unfold dig; rw [decide_eq_false (by omega)]; simp
            clear Hta
            go_wp2
            go_roundw
            case rel => exact ⟨i2 + 1, by omega, by go_num, by rw [Hf.out], by first | rfl | trivial⟩
            case measure => simp [intOf]; omega
          by_cases hhi : 57 < x
          · have Hf : Hid ((xs.take (i2 + 1)).all dig = false) := by show _ = _; rw [Hta.out]; unfold dig; rw [decide_eq_false (show ¬ x ≤ 57 by omega)]; simp
            clear Hta
            go_wp2
            go_roundw
            case rel => exact ⟨i2 + 1, by omega, by go_num, by rw [Hf.out], by first | rfl | trivial⟩
            case measure => simp [intOf]; omega
          · have Hf : Hid ((xs.take (i2 + 1)).all dig = (xs.take i2).all dig) := by show _ = _; rw [Hta.out]; unfold dig; rw [decide_eq_true (show 48 ≤ x by omega), decide_eq_true (show x ≤ 57 by omega)]; simp
            clear Hta
            go_wp2
            go_roundw
            case rel => exact ⟨i2 + 1, by omega, by go_num, by rw [Hf.out], by first | rfl | trivial⟩
            case measure => simp [intOf]; omega
        · have hij : i2 = j := by omega
          subst hij
          cases hord : (xs.take i2).all dig with
          | false =>
            have Hr : Hid (mkO xs i2 d intr = false) := by show _ = _; rw [Hmk0.out, hord]; rfl
            clear Hmk0
            go_wp2
            go_ret
            exact ⟨by rw [Hr.out]; rfl, rfl⟩
          | true =>
            have Hmk1 : Hid (mkO xs i2 d intr = tl xs (i2 + 1) intr (sayOne (xs.take i2))) := by show _ = _; rw [Hmk0.out, hord]; rfl
            clear Hmk0
            go_wp2_with (go_at_call 8; refine (told (sayOne_any _ i2 _ (xs.take i2) _ htk.out (by omega))).mono ?_)
            intro e w1 hp
            obtain ⟨rfl, rfl⟩ := hp.out
            clear hp
            cases hone : sayOne (xs.take i2) with
            | true =>
              have Hmk : Hid (mkO xs i2 d intr = tl xs (i2 + 1) intr true) := by show _ = _; rw [Hmk1.out, hone]
              clear Hmk1
              by_cases hkn : i2 + 1 = n
              · subst hkn
                have Hr : Hid (mkO xs i2 d intr = !intr) := by show _ = _; rw [Hmk.out, tl_end (by rw [hlen]; exact Nat.le_refl _)]
                clear Hmk
                cases intr with
                | false =>
                  go_wp2
                  go_ret
                  exact ⟨by rw [Hr.out]; rfl, rfl⟩
                | true =>
                  go_wp2_with (go_at_call 10; refine (told (allBlank_any _ _ _ [] _ (Bts.nil _) (by omega))).mono ?_)
                  intro e w1 hp
                  obtain ⟨rfl, rfl⟩ := hp.out
                  clear hp
                  go_wp2
                  go_ret
                  exact ⟨by rw [Hr.out]; rfl, rfl⟩
              · have hlt : i2 + 1 < n := by omega
                obtain ⟨b', off', x, hae, hc, hx, hx0, hx1⟩ := H.out.at_ hlt
                cases hae
                have hkI : ((i2 : Int) + 1 : Int) < (n : Int) := by omega
                have Hdrop := hid (H.out.drop (i2 + 1))
                cases hbl : blank x with
                | false =>
                  have Hr : Hid (mkO xs i2 d intr = false) := by show _ = _; rw [Hmk.out, tl_not hx hbl]
                  clear Hmk hx
                  go_wp2_with (go_at_call 9; refine (told (zzBlank_any x _)).mono ?_)
                  intro e w1 hp
                  obtain ⟨rfl, rfl⟩ := hp.out
                  clear hp
                  go_wp2
                  go_ret
                  exact ⟨by rw [Hr.out]; rfl, rfl⟩
                | true =>
                  have Hr : Hid (mkO xs i2 d intr = (!intr || (true && !((xs.drop (i2 + 1)).all blank)))) := by show _ = _; rw [Hmk.out, tl_blank hx hbl]
                  clear Hmk hx
                  go_wp2_with (go_at_call 9; refine (told (zzBlank_any x _)).mono ?_)
                  intro e w1 hp
                  obtain ⟨rfl, rfl⟩ := hp.out
                  clear hp
                  cases intr with
                  | false =>
                    go_wp2
                    go_ret
                    exact ⟨by rw [Hr.out]; rfl, rfl⟩
                  | true =>
                    go_wp2_with (go_at_call 10; refine (told (allBlank_any _ _ _ (xs.drop (i2 + 1)) _ Hdrop.out (by omega))).mono ?_)
                    intro e w1 hp
                    obtain ⟨rfl, rfl⟩ := hp.out
                    clear hp
                    cases hall : (xs.drop (i2 + 1)).all blank with
                    | false =>
                      rw [hall] at Hr
                      go_wp2
                      go_ret
                      exact ⟨by rw [Hr.out]; rfl, rfl⟩
                    | true =>
                      rw [hall] at Hr
                      go_wp2
                      go_ret
                      exact ⟨by rw [Hr.out]; rfl, rfl⟩
            | false =>
              have Hmk : Hid (mkO xs i2 d intr = tl xs (i2 + 1) intr false) := by show _ = _; rw [Hmk1.out, hone]
              clear Hmk1
              by_cases hkn : i2 + 1 = n
              · subst hkn
                have Hr : Hid (mkO xs i2 d intr = !intr) := by show _ = _; rw [Hmk.out, tl_end (by rw [hlen]; exact Nat.le_refl _)]
                clear Hmk
                cases intr with
                | false =>
                  go_wp2
                  go_ret
                  exact ⟨by rw [Hr.out]; rfl, rfl⟩
                | true =>
                  go_wp2
                  go_ret
                  exact ⟨by rw [Hr.out]; rfl, rfl⟩
              · have hlt : i2 + 1 < n := by omega
                obtain ⟨b', off', x, hae, hc, hx, hx0, hx1⟩ := H.out.at_ hlt
                cases hae
                have hkI : ((i2 : Int) + 1 : Int) < (n : Int) := by omega
                have Hdrop := hid (H.out.drop (i2 + 1))
                cases hbl : blank x with
                | false =>
                  have Hr : Hid (mkO xs i2 d intr = false) := by show _ = _; rw [Hmk.out, tl_not hx hbl]
                  clear Hmk hx
                  go_wp2_with (go_at_call 9; refine (told (zzBlank_any x _)).mono ?_)
                  intro e w1 hp
                  obtain ⟨rfl, rfl⟩ := hp.out
                  clear hp
                  go_wp2
                  go_ret
                  exact ⟨by rw [Hr.out]; rfl, rfl⟩
                | true =>
                  have Hr : Hid (mkO xs i2 d intr = (!intr || (false && !((xs.drop (i2 + 1)).all blank)))) := by show _ = _; rw [Hmk.out, tl_blank hx hbl]
                  clear Hmk hx
                  go_wp2_with (go_at_call 9; refine (told (zzBlank_any x _)).mono ?_)
                  intro e w1 hp
                  obtain ⟨rfl, rfl⟩ := hp.out
                  clear hp
                  cases intr with
                  | false =>
                    go_wp2
                    go_ret
                    exact ⟨by rw [Hr.out]; rfl, rfl⟩
                  | true =>
                    go_wp2
                    go_ret
                    exact ⟨by rw [Hr.out]; rfl, rfl⟩
  · have Hmk : Hid (mkO xs j d intr = false) := by
      show _ = _
      unfold mkO dot
      simp [show d ≠ 46 from fun h => hb (.inl h), show d ≠ 41 from fun h => hb (.inr h)]
    have b1 : (d == 46) = false := by simp; exact fun h => hb (.inl h)
    have b2 : (d == 41) = false := by simp; exact fun h => hb (.inr h)
    go_enter Try.func6, Try.ntmps6
    go_wp2
    go_ret
    exact ⟨by rw [Hmk.out]; rfl, rfl⟩
end Go.Proofs.Qxb6003773a
