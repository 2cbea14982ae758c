import Derived.Test.Qxb6003773aA5
namespace Go.Proofs.Qxb6003773a
open Go.RowKit

/-- The number that digits spell. -/
def val (xs : List Int) : Int := xs.foldl (fun s x => 10 * s + (x - 48)) 0
/-- The run of digits ends at j. -/
def StopAt (xs : List Int) (j : Nat) : Prop := j = xs.length ∨ j = 9 ∨ ∃ x, xs[j]? = some x ∧ dig x = false

/-- What listMarker answers. -/
def LM (xs : List Int) (intr : Bool) (r : Nat) : Prop :=
  (∃ x0, xs[0]? = some x0 ∧ bul x0 = true ∧ r = (if tl xs 1 intr true = true then 1 else 0)) ∨
  (∃ x0, xs[0]? = some x0 ∧ bul x0 = false ∧ ∃ j, j ≤ 9 ∧ (xs.take j).all dig = true ∧ StopAt xs j ∧
    (((j = 0 ∨ j = xs.length ∨ ∃ d, xs[j]? = some d ∧ dot d = false) ∧ r = 0) ∨
     (0 < j ∧ ∃ d, xs[j]? = some d ∧ dot d = true ∧ r = (if tl xs (j + 1) intr (decide (val (xs.take j) = 1)) = true then j + 1 else 0))))

theorem val_snoc {xs : List Int} {j : Nat} {x : Int} (h : xs[j]? = some x) : val (xs.take (j + 1)) = 10 * val (xs.take j) + (x - 48) := by
  rw [List.take_add_one, h]; simp [val]
theorem pow_small {s : Int} {j : Nat} (hj : j < 9) (h : s < 10 ^ j) : s ≤ 99999999 := by
  have : (10 : Nat) ^ j ≤ 10 ^ 8 := Nat.pow_le_pow_right (by omega) (by omega)
  have h2 : ((10 : Int) ^ j) = ((10 ^ j : Nat) : Int) := by simp
  rw [h2] at h
  have h3 : (10 : Nat) ^ 8 = 100000000 := by decide
  omega

set_option maxRecDepth 100000 in
set_option maxHeartbeats 4000000 in
theorem listMarker_any (b off n : Nat) (xs : List Int) (intr : Bool) (w : World) (h : Bts w (some ⟨b, off, none⟩) n xs) (hn : n ≤ 1048576) (h0 : 0 < n) :
    Calls Try.prog 11 #[.slice (some ⟨b, off, none⟩) n n, .bool intr] w fun e w' => (∃ r : Nat, e = .returned (.int .i64 r) ∧ LM xs intr r) ∧ w' = w := by
  have hlen := h.len
  have H := hid h
  obtain ⟨b', off', x0, hae, hc0, hx, hx0, hx1⟩ := h.at_ h0
  cases hae
  rw [Nat.add_zero] at hc0
  have Hx0 := hid hx
  have hn0 : (0 : Int) < (n : Int) := by omega
  clear h hx
  by_cases hb : x0 = 45 ∨ x0 = 43 ∨ x0 = 42
  · have Hbul : Hid (bul x0 = true) := by
      show _ = _
      unfold bul
      rcases hb with rfl | rfl | rfl <;> rfl
    have hbb : (x0 == 45) = true ∨ ((x0 == 45) = false ∧ (x0 == 43) = true) ∨ ((x0 == 45) = false ∧ (x0 == 43) = false ∧ (x0 == 42) = true) := by
      rcases hb with rfl | rfl | rfl
      · exact .inl rfl
      · exact .inr (.inl ⟨rfl, rfl⟩)
      · exact .inr (.inr ⟨rfl, rfl, rfl⟩)
    clear hb
    have HLM : Hid (LM xs intr (if tl xs 1 intr true = true then 1 else 0)) := .inl ⟨x0, Hx0.out, Hbul.out, rfl⟩
    rcases hbb with b1 | ⟨b1, b2⟩ | ⟨b1, b2, b3⟩
    all_goals
      go_enter Try.func11, Try.ntmps11
      by_cases hkn : 1 = n
      · subst hkn
        cases intr with
        | false =>
          have Hr : Hid (tl xs (1) false true = true) := tl_end (by rw [hlen]; exact Nat.le_refl _) _ _
          go_wp2
          go_ret
          exact ⟨⟨1, rfl, by have hq := HLM.out; rw [Hr.out] at hq; exact hq⟩, rfl⟩
        | true =>
          have Hr : Hid (tl xs (1) true true = false) := tl_end (by rw [hlen]; exact Nat.le_refl _) _ _
          go_wp2_with (go_at_call 14; refine (told (blankLine_any _ _ _ [] _ (Bts.nil _) (by omega))).mono ?_)
          intro e w1 hp
          obtain ⟨rfl, rfl⟩ := hp.out
          clear hp
          go_wp2
          go_ret
          exact ⟨⟨0, rfl, by have hq := HLM.out; rw [Hr.out] at hq; exact hq⟩, rfl⟩
      · have hltk : 1 < n := by omega
        obtain ⟨b', off', z, hae, hcz, hz, hz0, hz1⟩ := H.out.at_ hltk
        cases hae
        have hkI : (1 : Int) < (n : Int) := by omega
        have Hdrop := hid (H.out.drop (1))
        cases hbl : blank z with
        | false =>
          have Hr : Hid (tl xs (1) intr true = false) := tl_not hz hbl _ _
          clear hz
          go_wp2_with (go_at_call 13; refine (told (isBlank_any z _)).mono ?_)
          intro e w1 hp
          obtain ⟨rfl, rfl⟩ := hp.out
          clear hp
          go_wp2
          go_ret
          exact ⟨⟨0, rfl, by have hq := HLM.out; rw [Hr.out] at hq; exact hq⟩, rfl⟩
        | true =>
          have Hr0 : Hid (tl xs (1) intr true = (!intr || (true && !((xs.drop (1)).all blank)))) := tl_blank hz hbl _ _
          clear hz
          go_wp2_with (go_at_call 13; refine (told (isBlank_any z _)).mono ?_)
          intro e w1 hp
          obtain ⟨rfl, rfl⟩ := hp.out
          clear hp
          cases intr with
          | false =>
            have Hr : Hid (tl xs (1) false true = true) := Hr0.out
            go_wp2
            go_ret
            exact ⟨⟨1, rfl, by have hq := HLM.out; rw [Hr.out] at hq; exact hq⟩, rfl⟩
          | true =>
            go_wp2_with (go_at_call 14; refine (told (blankLine_any _ _ _ (xs.drop (1)) _ Hdrop.out (by omega))).mono ?_)
            intro e w1 hp
            obtain ⟨rfl, rfl⟩ := hp.out
            clear hp
            cases hall : (xs.drop (1)).all blank with
            | false =>
              have Hr : Hid (tl xs (1) true true = true) := by show _ = _; rw [Hr0.out, hall]; rfl
              go_wp2
              go_ret
              exact ⟨⟨1, rfl, by have hq := HLM.out; rw [Hr.out] at hq; exact hq⟩, rfl⟩
            | true =>
              have Hr : Hid (tl xs (1) true true = false) := by show _ = _; rw [Hr0.out, hall]; rfl
              go_wp2
              go_ret
              exact ⟨⟨0, rfl, by have hq := HLM.out; rw [Hr.out] at hq; exact hq⟩, rfl⟩
  · have b1 : (x0 == 45) = false := by simp; exact fun h => hb (.inl h)
    have b2 : (x0 == 43) = false := by simp; exact fun h => hb (.inr (.inl h))
    have b3 : (x0 == 42) = false := by simp; exact fun h => hb (.inr (.inr h))
    have Hnb : Hid (bul x0 = false) := by show _ = _; unfold bul; rw [b1, b2, b3]; rfl
    clear hb
    go_enter Try.func11, Try.ntmps11
    go_wp2
    go_loopw [5, 6] (fun t u wr => ∃ (j : Nat) (s : Int), j ≤ 9 ∧ j ≤ n ∧ t = .int .i64 j ∧ u = .int .i64 s ∧ Hid (0 ≤ s ∧ s < 10 ^ j ∧ s = val (xs.take j) ∧ (xs.take j).all dig = true) ∧ wr = w) (fun t _ _ => n - (intOf t).toNat)
    case atStart => exact ⟨0, 0, by omega, by omega, rfl, rfl, ⟨by omega, by simp, rfl, rfl⟩, rfl⟩
    case round =>
      obtain ⟨j, s, hj9, hjn, rfl, rfl, Hs, rfl⟩ := hrel
      by_cases hlt : j < n
      · obtain ⟨b', off', x, hae, hc, hx, hxx0, hxx1⟩ := H.out.at_ hlt
        cases hae
        have Hx := hid hx
        clear hx
        have hji0 : (0 : Int) ≤ (j : Int) := by omega
        have hji1 : (j : Int) < (n : Int) := by omega
        by_cases hj9' : j < 9
        · have hs0 := Hs.out.1
          have hs8 := pow_small hj9' Hs.out.2.1
          cases hdg : dig x with
          | true =>
            have hd1 : 48 ≤ x ∧ x ≤ 57 := by unfold dig at hdg; simpa using hdg
            obtain ⟨hd1, hd2⟩ := hd1
            have Hs2 : Hid (0 ≤ 10 * s + (x - 48) ∧ 10 * s + (x - 48) < 10 ^ (j + 1) ∧ 10 * s + (x - 48) = val (xs.take (j + 1)) ∧ (xs.take (j + 1)).all dig = true) := by
              obtain ⟨q1, q2, q3, q4⟩ := Hs.out
              refine ⟨by omega, ?_, ?_, ?_⟩
              · have : (10 : Int) ^ (j + 1) = 10 * 10 ^ j := by rw [Int.pow_succ, Int.mul_comm]
                rw [this]; omega
              · rw [val_snoc Hx.out, ← q3]
              · rw [take_all Hx.out, q4, hdg]; rfl
            clear Hs
            go_wp2_with (go_at_call 12; refine (told (isDigit_any x _)).mono ?_)
            intro e w1 hp
            obtain ⟨rfl, rfl⟩ := hp.out
            clear hp
            go_wp2
            go_roundw
            case rel => exact ⟨j + 1, 10 * s + (x - 48), by omega, by omega, by go_num, by go_num, Hs2, by first | rfl | trivial⟩
            case measure => simp [intOf]; omega
          | false =>
            have HP : Hid (StopAt xs j) := .inr (.inr ⟨x, Hx.out, hdg⟩)
            go_wp2_with (go_at_call 12; refine (told (isDigit_any x _)).mono ?_)
            intro e w1 hp
            obtain ⟨rfl, rfl⟩ := hp.out
            clear hp
            by_cases hj0 : j = 0
            · subst hj0
              have HLM0 : Hid (LM xs intr 0) := .inr ⟨x0, Hx0.out, Hnb.out, 0, by omega, by rfl, HP.out, .inl ⟨.inl rfl, rfl⟩⟩
              go_wp2
              go_ret
              exact ⟨⟨0, rfl, HLM0.out⟩, rfl⟩
            have hj0b : ((j : Int) == 0) = false := by simp; omega
            have hjnb : ((j : Int) == (n : Int)) = false := by simp; omega
            by_cases hdt : x = 46 ∨ x = 41
            · have Hdot : Hid (dot x = true) := by show _ = _; unfold dot; rcases hdt with rfl | rfl <;> rfl
              have hdd : (x != 46) = false ∨ ((x != 46) = true ∧ (x != 41) = false) := by
                rcases hdt with rfl | rfl
                · exact .inl rfl
                · exact .inr ⟨rfl, rfl⟩
              clear hdt
              by_cases hs1 : s = 1
              · have HLM : Hid (LM xs intr (if tl xs (j + 1) intr true = true then j + 1 else 0)) := .inr ⟨x0, Hx0.out, Hnb.out, j, by omega, Hs.out.2.2.2, HP.out, .inr ⟨by omega, x, Hx.out, Hdot.out, by rw [← Hs.out.2.2.1, decide_eq_true hs1]⟩⟩
                have hs1b : (s != 1) = false := by simpa using hs1
                rcases hdd with d1 | ⟨d1, d2⟩
                all_goals
                  by_cases hkn : j + 1 = n
                  · subst hkn
                    cases intr with
                    | false =>
                      have Hr : Hid (tl xs (j + 1) false true = true) := tl_end (by rw [hlen]; exact Nat.le_refl _) _ _
                      go_wp2
                      go_ret
                      exact ⟨⟨j + 1, rfl, by have hq := HLM.out; rw [Hr.out] at hq; exact hq⟩, rfl⟩
                    | true =>
                      have Hr : Hid (tl xs (j + 1) true true = false) := tl_end (by rw [hlen]; exact Nat.le_refl _) _ _
                      go_wp2_with (go_at_call 14; refine (told (blankLine_any _ _ _ [] _ (Bts.nil _) (by omega))).mono ?_)
                      intro e w1 hp
                      obtain ⟨rfl, rfl⟩ := hp.out
                      clear hp
                      go_wp2
                      go_ret
                      exact ⟨⟨0, rfl, by have hq := HLM.out; rw [Hr.out] at hq; exact hq⟩, rfl⟩
                  · have hltk : j + 1 < n := by omega
                    obtain ⟨b', off', z, hae, hcz, hz, hz0, hz1⟩ := H.out.at_ hltk
                    cases hae
                    have hkI : ((j : Int) + 1 : Int) < (n : Int) := by omega
                    have Hdrop := hid (H.out.drop (j + 1))
                    cases hbl : blank z with
                    | false =>
                      have Hr : Hid (tl xs (j + 1) intr true = false) := tl_not hz hbl _ _
                      clear hz
                      go_wp2_with (go_at_call 13; refine (told (isBlank_any z _)).mono ?_)
                      intro e w1 hp
                      obtain ⟨rfl, rfl⟩ := hp.out
                      clear hp
                      go_wp2
                      go_ret
                      exact ⟨⟨0, rfl, by have hq := HLM.out; rw [Hr.out] at hq; exact hq⟩, rfl⟩
                    | true =>
                      have Hr0 : Hid (tl xs (j + 1) intr true = (!intr || (true && !((xs.drop (j + 1)).all blank)))) := tl_blank hz hbl _ _
                      clear hz
                      go_wp2_with (go_at_call 13; refine (told (isBlank_any z _)).mono ?_)
                      intro e w1 hp
                      obtain ⟨rfl, rfl⟩ := hp.out
                      clear hp
                      cases intr with
                      | false =>
                        have Hr : Hid (tl xs (j + 1) false true = true) := Hr0.out
                        go_wp2
                        go_ret
                        exact ⟨⟨j + 1, rfl, by have hq := HLM.out; rw [Hr.out] at hq; exact hq⟩, rfl⟩
                      | true =>
                        go_wp2_with (go_at_call 14; refine (told (blankLine_any _ _ _ (xs.drop (j + 1)) _ Hdrop.out (by omega))).mono ?_)
                        intro e w1 hp
                        obtain ⟨rfl, rfl⟩ := hp.out
                        clear hp
                        cases hall : (xs.drop (j + 1)).all blank with
                        | false =>
                          have Hr : Hid (tl xs (j + 1) true true = true) := by show _ = _; rw [Hr0.out, hall]; rfl
                          go_wp2
                          go_ret
                          exact ⟨⟨j + 1, rfl, by have hq := HLM.out; rw [Hr.out] at hq; exact hq⟩, rfl⟩
                        | true =>
                          have Hr : Hid (tl xs (j + 1) true true = false) := by show _ = _; rw [Hr0.out, hall]; rfl
                          go_wp2
                          go_ret
                          exact ⟨⟨0, rfl, by have hq := HLM.out; rw [Hr.out] at hq; exact hq⟩, rfl⟩
              · have HLM : Hid (LM xs intr (if tl xs (j + 1) intr false = true then j + 1 else 0)) := .inr ⟨x0, Hx0.out, Hnb.out, j, by omega, Hs.out.2.2.2, HP.out, .inr ⟨by omega, x, Hx.out, Hdot.out, by rw [← Hs.out.2.2.1, decide_eq_false hs1]⟩⟩
                have hs1b : (s != 1) = true := by simpa using hs1
                rcases hdd with d1 | ⟨d1, d2⟩
                all_goals
                  by_cases hkn : j + 1 = n
                  · subst hkn
                    cases intr with
                    | false =>
                      have Hr : Hid (tl xs (j + 1) false false = true) := tl_end (by rw [hlen]; exact Nat.le_refl _) _ _
                      go_wp2
                      go_ret
                      exact ⟨⟨j + 1, rfl, by have hq := HLM.out; rw [Hr.out] at hq; exact hq⟩, rfl⟩
                    | true =>
                      have Hr : Hid (tl xs (j + 1) true false = false) := tl_end (by rw [hlen]; exact Nat.le_refl _) _ _
                      go_wp2
                      go_ret
                      exact ⟨⟨0, rfl, by have hq := HLM.out; rw [Hr.out] at hq; exact hq⟩, rfl⟩
                  · have hltk : j + 1 < n := by omega
                    obtain ⟨b', off', z, hae, hcz, hz, hz0, hz1⟩ := H.out.at_ hltk
                    cases hae
                    have hkI : ((j : Int) + 1 : Int) < (n : Int) := by omega
                    have Hdrop := hid (H.out.drop (j + 1))
                    cases hbl : blank z with
                    | false =>
                      have Hr : Hid (tl xs (j + 1) intr false = false) := tl_not hz hbl _ _
                      clear hz
                      go_wp2_with (go_at_call 13; refine (told (isBlank_any z _)).mono ?_)
                      intro e w1 hp
                      obtain ⟨rfl, rfl⟩ := hp.out
                      clear hp
                      go_wp2
                      go_ret
                      exact ⟨⟨0, rfl, by have hq := HLM.out; rw [Hr.out] at hq; exact hq⟩, rfl⟩
                    | true =>
                      have Hr0 : Hid (tl xs (j + 1) intr false = (!intr || (false && !((xs.drop (j + 1)).all blank)))) := tl_blank hz hbl _ _
                      clear hz
                      go_wp2_with (go_at_call 13; refine (told (isBlank_any z _)).mono ?_)
                      intro e w1 hp
                      obtain ⟨rfl, rfl⟩ := hp.out
                      clear hp
                      cases intr with
                      | false =>
                        have Hr : Hid (tl xs (j + 1) false false = true) := Hr0.out
                        go_wp2
                        go_ret
                        exact ⟨⟨j + 1, rfl, by have hq := HLM.out; rw [Hr.out] at hq; exact hq⟩, rfl⟩
                      | true =>
                        have Hr : Hid (tl xs (j + 1) true false = false) := Hr0.out
                        go_wp2
                        go_ret
                        exact ⟨⟨0, rfl, by have hq := HLM.out; rw [Hr.out] at hq; exact hq⟩, rfl⟩
            · have Hdot : Hid (dot x = false) := by show _ = _; unfold dot; simp [show x ≠ 46 from fun h => hdt (.inl h), show x ≠ 41 from fun h => hdt (.inr h)]
              have d1 : (x != 46) = true := by simp; exact fun h => hdt (.inl h)
              have d2 : (x != 41) = true := by simp; exact fun h => hdt (.inr h)
              have HLM0 : Hid (LM xs intr 0) := .inr ⟨x0, Hx0.out, Hnb.out, j, by omega, Hs.out.2.2.2, HP.out, .inl ⟨.inr (.inr ⟨x, Hx.out, Hdot.out⟩), rfl⟩⟩
              go_wp2
              go_ret
              exact ⟨⟨0, rfl, HLM0.out⟩, rfl⟩
        · have hj9e : j = 9 := by omega
          have HP : Hid (StopAt xs j) := .inr (.inl hj9e)
          have hs0 := Hs.out.1
          have hj9b : ¬ ((j : Int) < 9) := by omega
          clear hj9e
          have hj0 : ¬ j = 0 := by omega
          have hj0b : ((j : Int) == 0) = false := by simp; omega
          have hjnb : ((j : Int) == (n : Int)) = false := by simp; omega
          by_cases hdt : x = 46 ∨ x = 41
          · have Hdot : Hid (dot x = true) := by show _ = _; unfold dot; rcases hdt with rfl | rfl <;> rfl
            have hdd : (x != 46) = false ∨ ((x != 46) = true ∧ (x != 41) = false) := by
              rcases hdt with rfl | rfl
              · exact .inl rfl
              · exact .inr ⟨rfl, rfl⟩
            clear hdt
            by_cases hs1 : s = 1
            · have HLM : Hid (LM xs intr (if tl xs (j + 1) intr true = true then j + 1 else 0)) := .inr ⟨x0, Hx0.out, Hnb.out, j, by omega, Hs.out.2.2.2, HP.out, .inr ⟨by omega, x, Hx.out, Hdot.out, by rw [← Hs.out.2.2.1, decide_eq_true hs1]⟩⟩
              have hs1b : (s != 1) = false := by simpa using hs1
              rcases hdd with d1 | ⟨d1, d2⟩
              all_goals
                by_cases hkn : j + 1 = n
                · subst hkn
                  cases intr with
                  | false =>
                    have Hr : Hid (tl xs (j + 1) false true = true) := tl_end (by rw [hlen]; exact Nat.le_refl _) _ _
                    go_wp2
                    go_ret
                    exact ⟨⟨j + 1, rfl, by have hq := HLM.out; rw [Hr.out] at hq; exact hq⟩, rfl⟩
                  | true =>
                    have Hr : Hid (tl xs (j + 1) true true = false) := tl_end (by rw [hlen]; exact Nat.le_refl _) _ _
                    go_wp2_with (go_at_call 14; refine (told (blankLine_any _ _ _ [] _ (Bts.nil _) (by omega))).mono ?_)
                    intro e w1 hp
                    obtain ⟨rfl, rfl⟩ := hp.out
                    clear hp
                    go_wp2
                    go_ret
                    exact ⟨⟨0, rfl, by have hq := HLM.out; rw [Hr.out] at hq; exact hq⟩, rfl⟩
                · have hltk : j + 1 < n := by omega
                  obtain ⟨b', off', z, hae, hcz, hz, hz0, hz1⟩ := H.out.at_ hltk
                  cases hae
                  have hkI : ((j : Int) + 1 : Int) < (n : Int) := by omega
                  have Hdrop := hid (H.out.drop (j + 1))
                  cases hbl : blank z with
                  | false =>
                    have Hr : Hid (tl xs (j + 1) intr true = false) := tl_not hz hbl _ _
                    clear hz
                    go_wp2_with (go_at_call 13; refine (told (isBlank_any z _)).mono ?_)
                    intro e w1 hp
                    obtain ⟨rfl, rfl⟩ := hp.out
                    clear hp
                    go_wp2
                    go_ret
                    exact ⟨⟨0, rfl, by have hq := HLM.out; rw [Hr.out] at hq; exact hq⟩, rfl⟩
                  | true =>
                    have Hr0 : Hid (tl xs (j + 1) intr true = (!intr || (true && !((xs.drop (j + 1)).all blank)))) := tl_blank hz hbl _ _
                    clear hz
                    go_wp2_with (go_at_call 13; refine (told (isBlank_any z _)).mono ?_)
                    intro e w1 hp
                    obtain ⟨rfl, rfl⟩ := hp.out
                    clear hp
                    cases intr with
                    | false =>
                      have Hr : Hid (tl xs (j + 1) false true = true) := Hr0.out
                      go_wp2
                      go_ret
                      exact ⟨⟨j + 1, rfl, by have hq := HLM.out; rw [Hr.out] at hq; exact hq⟩, rfl⟩
                    | true =>
                      go_wp2_with (go_at_call 14; refine (told (blankLine_any _ _ _ (xs.drop (j + 1)) _ Hdrop.out (by omega))).mono ?_)
                      intro e w1 hp
                      obtain ⟨rfl, rfl⟩ := hp.out
                      clear hp
                      cases hall : (xs.drop (j + 1)).all blank with
                      | false =>
                        have Hr : Hid (tl xs (j + 1) true true = true) := by show _ = _; rw [Hr0.out, hall]; rfl
                        go_wp2
                        go_ret
                        exact ⟨⟨j + 1, rfl, by have hq := HLM.out; rw [Hr.out] at hq; exact hq⟩, rfl⟩
                      | true =>
                        have Hr : Hid (tl xs (j + 1) true true = false) := by show _ = _; rw [Hr0.out, hall]; rfl
                        go_wp2
                        go_ret
                        exact ⟨⟨0, rfl, by have hq := HLM.out; rw [Hr.out] at hq; exact hq⟩, rfl⟩
            · have HLM : Hid (LM xs intr (if tl xs (j + 1) intr false = true then j + 1 else 0)) := .inr ⟨x0, Hx0.out, Hnb.out, j, by omega, Hs.out.2.2.2, HP.out, .inr ⟨by omega, x, Hx.out, Hdot.out, by rw [← Hs.out.2.2.1, decide_eq_false hs1]⟩⟩
              have hs1b : (s != 1) = true := by simpa using hs1
              rcases hdd with d1 | ⟨d1, d2⟩
              all_goals
                by_cases hkn : j + 1 = n
                · subst hkn
                  cases intr with
                  | false =>
                    have Hr : Hid (tl xs (j + 1) false false = true) := tl_end (by rw [hlen]; exact Nat.le_refl _) _ _
                    go_wp2
                    go_ret
                    exact ⟨⟨j + 1, rfl, by have hq := HLM.out; rw [Hr.out] at hq; exact hq⟩, rfl⟩
                  | true =>
                    have Hr : Hid (tl xs (j + 1) true false = false) := tl_end (by rw [hlen]; exact Nat.le_refl _) _ _
                    go_wp2
                    go_ret
                    exact ⟨⟨0, rfl, by have hq := HLM.out; rw [Hr.out] at hq; exact hq⟩, rfl⟩
                · have hltk : j + 1 < n := by omega
                  obtain ⟨b', off', z, hae, hcz, hz, hz0, hz1⟩ := H.out.at_ hltk
                  cases hae
                  have hkI : ((j : Int) + 1 : Int) < (n : Int) := by omega
                  have Hdrop := hid (H.out.drop (j + 1))
                  cases hbl : blank z with
                  | false =>
                    have Hr : Hid (tl xs (j + 1) intr false = false) := tl_not hz hbl _ _
                    clear hz
                    go_wp2_with (go_at_call 13; refine (told (isBlank_any z _)).mono ?_)
                    intro e w1 hp
                    obtain ⟨rfl, rfl⟩ := hp.out
                    clear hp
                    go_wp2
                    go_ret
                    exact ⟨⟨0, rfl, by have hq := HLM.out; rw [Hr.out] at hq; exact hq⟩, rfl⟩
                  | true =>
                    have Hr0 : Hid (tl xs (j + 1) intr false = (!intr || (false && !((xs.drop (j + 1)).all blank)))) := tl_blank hz hbl _ _
                    clear hz
                    go_wp2_with (go_at_call 13; refine (told (isBlank_any z _)).mono ?_)
                    intro e w1 hp
                    obtain ⟨rfl, rfl⟩ := hp.out
                    clear hp
                    cases intr with
                    | false =>
                      have Hr : Hid (tl xs (j + 1) false false = true) := Hr0.out
                      go_wp2
                      go_ret
                      exact ⟨⟨j + 1, rfl, by have hq := HLM.out; rw [Hr.out] at hq; exact hq⟩, rfl⟩
                    | true =>
                      have Hr : Hid (tl xs (j + 1) true false = false) := Hr0.out
                      go_wp2
                      go_ret
                      exact ⟨⟨0, rfl, by have hq := HLM.out; rw [Hr.out] at hq; exact hq⟩, rfl⟩
          · have Hdot : Hid (dot x = false) := by show _ = _; unfold dot; simp [show x ≠ 46 from fun h => hdt (.inl h), show x ≠ 41 from fun h => hdt (.inr h)]
            have d1 : (x != 46) = true := by simp; exact fun h => hdt (.inl h)
            have d2 : (x != 41) = true := by simp; exact fun h => hdt (.inr h)
            have HLM0 : Hid (LM xs intr 0) := .inr ⟨x0, Hx0.out, Hnb.out, j, by omega, Hs.out.2.2.2, HP.out, .inl ⟨.inr (.inr ⟨x, Hx.out, Hdot.out⟩), rfl⟩⟩
            go_wp2
            go_ret
            exact ⟨⟨0, rfl, HLM0.out⟩, rfl⟩
      · have hjn' : j = n := by omega
        subst hjn'
        have HLM0 : Hid (LM xs intr 0) := .inr ⟨x0, Hx0.out, Hnb.out, j, by omega, Hs.out.2.2.2, .inl hlen.symm, .inl ⟨.inr (.inl hlen.symm), rfl⟩⟩
        have hj0b : ((j : Int) == 0) = false := by simp; omega
        go_wp2
        go_ret
        exact ⟨⟨0, rfl, HLM0.out⟩, rfl⟩

set_option maxRecDepth 100000 in
set_option maxHeartbeats 400000 in
theorem zzListMarker_any (b off n : Nat) (xs : List Int) (intr : Bool) (w : World) (h : Bts w (some ⟨b, off, none⟩) n xs) (hn : n ≤ 1048576) (h0 : 0 < n) :
    Calls Try.prog 7 #[.slice (some ⟨b, off, none⟩) n n, .bool intr] w fun e w' => (∃ r : Nat, e = .returned (.int .i64 r) ∧ LM xs intr r) ∧ w' = w := by
  have H := hid h
  clear h
  go_enter Try.func7, Try.ntmps7
  go_wp2_with (go_at_call 11; refine (told (listMarker_any b off n xs intr _ H.out hn h0)).mono ?_)
  intro e w1 hp
  obtain ⟨⟨r, rfl, hr⟩, rfl⟩ := hp.out
  have Hr := hid hr
  clear hp hr
  go_wp2
  go_ret
  exact ⟨⟨r, rfl, Hr.out⟩, rfl⟩
end Go.Proofs.Qxb6003773a
