import Derived.Test.Qxb6003773aA3
namespace Go.Proofs.Qxb6003773a
open Go.RowKit

def bul (x : Int) : Bool := x == 45 || x == 43 || x == 42
def dot (x : Int) : Bool := x == 46 || x == 41
/-- A marker of length 1: a bullet. -/
def mk1 (xs : List Int) (x : Int) (intr : Bool) : Bool := bul x && tl xs 1 intr true

set_option maxRecDepth 100000 in
set_option maxHeartbeats 1000000 in
theorem marker_one (b off n : Nat) (xs : List Int) (intr : Bool) (x0 : Int) (w : World) (h : Bts w (some ⟨b, off, none⟩) n xs) (hn : n ≤ 1048576) (h0 : 0 < n) (hx : xs[0]? = some x0) :
    Calls Try.prog 6 #[.slice (some ⟨b, off, none⟩) n n, .int .i64 1, .bool intr] w fun e w' => e = .returned (.bool (mk1 xs x0 intr)) ∧ w' = w := by
  have hlen := h.len
  have H := hid h
  obtain ⟨b', off', y, hae, hc0, hy, hx0, hx1⟩ := h.at_ h0
  cases hae
  rw [hx] at hy
  cases hy
  rw [Nat.add_zero] at hc0
  have hn0 : (0 : Int) < (n : Int) := by omega
  clear h hx
  by_cases hb : x0 = 45 ∨ x0 = 43 ∨ x0 = 42
  · have Hmk : Hid (mk1 xs x0 intr = tl xs 1 intr true) := by
      show _ = _
      unfold mk1 bul
      rcases hb with rfl | rfl | rfl <;> rfl
    have hbb : (x0 == 45) = true ∨ ((x0 == 45) = false ∧ (x0 == 43) = true) ∨ ((x0 == 45) = false ∧ (x0 == 43) = false ∧ (x0 == 42) = true) := by
      rcases hb with rfl | rfl | rfl
      · exact .inl rfl
      · exact .inr (.inl ⟨rfl, rfl⟩)
      · exact .inr (.inr ⟨rfl, rfl, rfl⟩)
    clear hb
    rcases hbb with b1 | ⟨b1, b2⟩ | ⟨b1, b2, b3⟩
    all_goals
      go_enter Try.func6, Try.ntmps6
      by_cases hkn : 1 = n
      · subst hkn
        have Hr : Hid (mk1 xs x0 intr = !intr) := by show _ = _; rw [Hmk.out, tl_end (by rw [hlen]; exact Nat.le_refl _)]
        clear Hmk
        cases intr with
        | false =>
          go_wp2
          go_ret
          exact ⟨by rw [Hr.out]; rfl, rfl⟩
        | true =>
          go_wp2_with (go_at_call 10; refine (told (allBlank_any _ _ _ [] _ (Bts.nil _) (by omega))).mono ?_)
          intro e w1 hp
          obtain ⟨rfl, rfl⟩ := hp.out
          clear hp
          go_wp2
          go_ret
          exact ⟨by rw [Hr.out]; rfl, rfl⟩
      · have hlt : 1 < n := by omega
        obtain ⟨b', off', x, hae, hc, hx, hx0, hx1⟩ := H.out.at_ hlt
        cases hae
        have hkI : (1 : Int) < (n : Int) := by omega
        have Hdrop := hid (H.out.drop (1))
        cases hbl : blank x with
        | false =>
          have Hr : Hid (mk1 xs x0 intr = false) := by show _ = _; rw [Hmk.out, tl_not hx hbl]
          clear Hmk hx
          go_wp2_with (go_at_call 9; refine (told (zzBlank_any x _)).mono ?_)
          intro e w1 hp
          obtain ⟨rfl, rfl⟩ := hp.out
          clear hp
          go_wp2
          go_ret
          exact ⟨by rw [Hr.out]; rfl, rfl⟩
        | true =>
          have Hr : Hid (mk1 xs x0 intr = (!intr || (true && !((xs.drop (1)).all blank)))) := by show _ = _; rw [Hmk.out, tl_blank hx hbl]
          clear Hmk hx
          go_wp2_with (go_at_call 9; refine (told (zzBlank_any x _)).mono ?_)
          intro e w1 hp
          obtain ⟨rfl, rfl⟩ := hp.out
          clear hp
          cases intr with
          | false =>
            go_wp2
            go_ret
            exact ⟨by rw [Hr.out]; rfl, rfl⟩
          | true =>
            go_wp2_with (go_at_call 10; refine (told (allBlank_any _ _ _ (xs.drop (1)) _ Hdrop.out (by omega))).mono ?_)
            intro e w1 hp
            obtain ⟨rfl, rfl⟩ := hp.out
            clear hp
            cases hall : (xs.drop (1)).all blank with
            | false =>
              rw [hall] at Hr
              go_wp2
              go_ret
              exact ⟨by rw [Hr.out]; rfl, rfl⟩
            | true =>
              rw [hall] at Hr
              go_wp2
              go_ret
              exact ⟨by rw [Hr.out]; rfl, rfl⟩
  · have Hmk : Hid (mk1 xs x0 intr = false) := by
      show _ = _
      unfold mk1 bul
      simp [show x0 ≠ 45 from fun h => hb (.inl h), show x0 ≠ 43 from fun h => hb (.inr (.inl h)), show x0 ≠ 42 from fun h => hb (.inr (.inr h))]
    have b1 : (x0 == 45) = false := by simp; exact fun h => hb (.inl h)
    have b2 : (x0 == 43) = false := by simp; exact fun h => hb (.inr (.inl h))
    have b3 : (x0 == 42) = false := by simp; exact fun h => hb (.inr (.inr h))
    go_enter Try.func6, Try.ntmps6
    go_wp2
    go_ret
    exact ⟨by rw [Hmk.out]; rfl, rfl⟩
end Go.Proofs.Qxb6003773a
