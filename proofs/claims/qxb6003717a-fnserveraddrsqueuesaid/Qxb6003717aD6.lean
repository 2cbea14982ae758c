import Derived.Test.Qxb6003717aD5
namespace Go.Proofs.Qxb6003717a
open Go.RowKit
attribute [local go_sem ↓] Go.wp_at_zero Go.wp_at_succ

set_option maxRecDepth 100000 in
set_option maxHeartbeats 1000000 in
theorem zzWithServer_any (a : Option Addr) (n c : Nat) (ns : List (ByteArray × Nat)) (s : ByteArray) (w : World) (h : NSs w a n ns) (hn : n ≤ 1048576) (hsz : ∀ x ∈ ns, x.1.size ≤ maxLen) (hcap : c = n ∨ ∃ x ∈ ns, key x.1 = key s) (hna : a = none → n = 0)
    (B : Nat) (hB : B ≤ w.heap.size) (hBa : ∀ x, a = some x → x.spot = none ∧ B ≤ x.block) :
    Calls Try.prog 18 #[.slice a n c, sz s] w fun e w' => (∃ a' n' c', e = .returned (.slice a' n' c') ∧ NSs w' a' n' (wsv s ns) ∧ (a' = none → n' = 0) ∧ (∀ x, a' = some x → x.spot = none ∧ B ≤ x.block)) ∧ Below B w w' := by
  have H : Hid (∀ o, Calls Try.prog 35 #[.slice a n c, sz s] (w.alloc o) fun e w' => (∃ a' n' c', e = .returned (.slice a' n' c') ∧ NSs w' a' n' (wsv s ns) ∧ (a' = none → n' = 0) ∧ (∀ x, a' = some x → x.spot = none ∧ B ≤ x.block)) ∧ Below B (w.alloc o) w') :=
    fun o => withServer_any a n c ns s (w.alloc o) (h.below (ext_alloc (Below.refl _ _) o)) hn hsz hcap hna B (by simp; omega) hBa
  clear h hsz hcap hna hBa
  go_enter Try.func18, Try.ntmps18
  go_wp2_with (go_at_call 35; refine (told (H.out _)).mono ?_)
  intro e w1 hp
  obtain ⟨⟨a', n', c', rfl, r1, r2, r3⟩, hb⟩ := hp.out
  have R1 := hid r1
  have R2 := hid r2
  have R3 := hid r3
  have Hb := hid (((Below.refl B w).alloc hB _).trans hb)
  clear hp r1 r2 r3 hb H
  go_wp2
  go_ret
  exact ⟨⟨_, _, _, rfl, R1.out, R2.out, R3.out⟩, Hb.out⟩

theorem NSs.at0 {w : World} {a : Option Addr} {n : Nat} {ns : List (ByteArray × Nat)} (h : NSs w a n ns) {k : Nat} {s : ByteArray} {m0 : Nat} (hx : ns[k]? = some (s, m0)) :
    ∃ b m, a = some ⟨b, 0, none⟩ ∧ b < w.heap.size ∧ w.cell? ⟨b, k * 2, none⟩ = some (.string s) ∧ ∃ ga gc, w.cell? ⟨b, k * 2 + 1, none⟩ = some (.slice ga m gc) ∧ m = m0 := by
  have hk : k < n := by have := (List.getElem?_eq_some_iff.1 hx).1; rw [h.len] at this; exact this
  rcases h.mem with h0 | ⟨b, ha, hr, _⟩
  · omega
  · obtain ⟨h1, ga, gc, h2, _⟩ := hr k _ hx hk
    exact ⟨b, m0, ha, World.block_lt_of_cell? _ _ h1, h1, ga, gc, h2, rfl⟩

/-- What zzWithServerAsModel asks of each of the first servers. -/
def Expects (sv : List (List ByteArray × Int)) (gs : List (ByteArray × Nat)) (at_ : Int) : Prop := ∀ (i : Nat) (ss : List ByteArray) (g : Int), sv[i]? = some (ss, g) → gs[i]? = some (mkW ss, if (i : Int) = at_ ∧ g = 0 then 1 else g.toNat)

set_option maxRecDepth 100000 in
set_option maxHeartbeats 2000000 in
theorem asModel_neg (a : Option Addr) (n c : Nat) (sv : List (List ByteArray × Int)) (ga : Option Addr) (gN gC : Nat) (gs : List (ByteArray × Nat)) (sw : ByteArray) (at_ : Int) (w : World) (h : Srvs w a n sv) (hg : NSs w ga gN gs) (hgl : GlueOk sv) (hE : Expects sv gs at_)
    (hn : n ≤ 1048576) (hat : at_ = -1) (hgN : gN = n + 1) (hlast : gs[n]? = some (sw, 1)) :
    Calls Try.prog 19 #[.slice ga gN gC, .slice a n c, .string sw, .int .i64 at_] w fun e w' => e = .returned (.bool true) ∧ Below w.heap.size w w' := by
  have Hgl := hid hgl
  have HE := hid hE
  obtain ⟨b0, m0, hae, hbl0, f1, ga0, gc0, f2, hm0⟩ := hg.at0 hlast
  subst hm0
  have hn0 : (0 : Int) ≤ (n : Int) := by omega
  have hn1 : (n : Int) < (gN : Int) := by omega
  have hgN' : (gN : Int) = (n : Int) + 1 := by omega
  have hgNN : n + 1 ≤ gN := by omega
  clear hgl hE hlast hgN
  obtain rfl : ga = some ⟨b0, 0, none⟩ := hae
  subst hat
  go_enter Try.func19, Try.ntmps19
  go_wp2_with (go_at_call 12; refine (told (zzWire_any _ _)).mono ?_)
  intro e w0 hp
  obtain ⟨rfl, hb0⟩ := hp.out
  have f3 := cell_below f2 hb0
  have Hb0 := hid hb0
  clear hp hb0 f1 f2
  go_wp2
  clear hgN'
  go_loopw [10] (fun i wr => ∃ k : Nat, k ≤ n ∧ i = .int .i64 k ∧ Below w.heap.size w wr) (fun i _ => n - (intOf i).toNat)
  case atStart => exact ⟨0, Nat.zero_le _, rfl, Hb0.out⟩
  case round =>
    obtain ⟨k, hk, rfl, hbel⟩ := hrel
    have Hbel := hid hbel
    by_cases hlt : k < n
    · obtain ⟨b2, o2_, ai, m, ci, ss, g, rfl, hc1, hc2, hst, hat2, hmem, hb2, hg0, hg1⟩ := (h.below hbel).at_ hlt
      have hge := HE.out k ss g hat2
      obtain ⟨b, gm, hae2, hbl, hn1, ga1, gc1, hn2, hgm⟩ := (hg.below hbel).at0 hge
      cases hae2
      have hgg := Hgl.out _ hmem
      obtain ⟨gn, rfl⟩ : ∃ gn : Nat, g = gn := ⟨g.toNat, by have := hgg.1; simp at this; omega⟩
      have hk0 : (0 : Int) ≤ (k : Int) := by omega
      have hk1 : (k : Int) < (n : Int) := by omega
      have hk2 : (k : Int) < (gN : Int) := by omega
      clear hat2 hmem hge hbel hgg
      go_wp2_with (go_at_call 9; refine (told (zzMkName_any ai m ci ss _ hst)).mono ?_)
      intro e w1 hp
      obtain ⟨rfl, hb1⟩ := hp.out
      have d1 := cell_below hn1 hb1
      have d2 := cell_below hn2 hb1
      have d3 := cell_below hc2 hb1
      have hbl1 : b0 < w1.heap.size := World.block_lt_of_cell? _ _ d1
      have hb21 : b2 < w1.heap.size := World.block_lt_of_cell? _ _ d3
      have Hb1 := hid (ext_trans Hbel.out hb1)
      have t1 : ∀ o1 o2 o3, (((w1.alloc o1).alloc o2).alloc o3).cell? ⟨_, k * 2, none⟩ = some (.string (mkW ss)) := fun o1 o2 o3 => cell_below d1 (ext_alloc (ext_alloc (ext_alloc (Below.refl _ _) o1) o2) o3)
      have t2 : ∀ o1 o2 o3, (((w1.alloc o1).alloc o2).alloc o3).cell? ⟨_, k * 2 + 1, none⟩ = _ := fun o1 o2 o3 => cell_below d2 (ext_alloc (ext_alloc (ext_alloc (Below.refl _ _) o1) o2) o3)
      have t3 : ∀ o1 o2 o3, (((w1.alloc o1).alloc o2).alloc o3).cell? ⟨_, o2_ + k * 2 + 1, none⟩ = _ := fun o1 o2 o3 => cell_below d3 (ext_alloc (ext_alloc (ext_alloc (Below.refl _ _) o1) o2) o3)
      clear hp hb1 hn1 hn2 hc1 hc2 hst Hbel
      have hia : ¬ (k : Int) = (-1 : Int) := by omega
      have hia' : ((k : Int) == (-1 : Int)) = false := by rw [beq_eq_false_iff_ne]; exact hia
      have hgm1 : gm = gn := by rw [hgm]; simp [hia]
      subst hgm1
      clear hgm hia
      go_wp2
      go_region_held3 (fun w' => w'.cell? ⟨b0, k * 2, none⟩ = some (.string (mkW ss)) ∧ w'.cell? ⟨w1.heap.size, 0, none⟩ = some (.string (mkW ss))) (go_keep) ((go_at_call 12; refine (zzWire_exact _ _).mono ?_; rintro e w' ⟨rfl, rfl⟩))
      go_wp2
      go_roundw
      case rel => exact ⟨k + 1, by omega, by go_num, ext_trans Hb1.out (by repeat (first | exact Below.refl _ _ | apply Below.drew | apply below_drewN | apply ext_alloc))⟩
      case measure => simp [intOf]; omega
    · go_wp2
      go_ret
      exact ⟨rfl, Hbel.out⟩

set_option maxRecDepth 100000 in
set_option maxHeartbeats 2000000 in
theorem asModel_pos (a : Option Addr) (n c : Nat) (sv : List (List ByteArray × Int)) (ga : Option Addr) (gN gC : Nat) (gs : List (ByteArray × Nat)) (sw : ByteArray) (at_ : Int) (w : World) (h : Srvs w a n sv) (hg : NSs w ga gN gs) (hgl : GlueOk sv) (hE : Expects sv gs at_)
    (hn : n ≤ 1048576) (hat : 0 ≤ at_) (hat1 : at_ ≤ 1048576) (hgN : gN = n) :
    Calls Try.prog 19 #[.slice ga gN gC, .slice a n c, .string sw, .int .i64 at_] w fun e w' => e = .returned (.bool true) ∧ Below w.heap.size w w' := by
  have Hgl := hid hgl
  have HE := hid hE
  subst hgN
  have hgNN : gN ≤ gN := Nat.le_refl _
  clear hgl hE
  go_enter Try.func19, Try.ntmps19
  go_wp2
  go_loopw [10] (fun i wr => ∃ k : Nat, k ≤ gN ∧ i = .int .i64 k ∧ Below w.heap.size w wr) (fun i _ => gN - (intOf i).toNat)
  case atStart => exact ⟨0, Nat.zero_le _, rfl, Below.refl _ _⟩
  case round =>
    obtain ⟨k, hk, rfl, hbel⟩ := hrel
    have Hbel := hid hbel
    by_cases hlt : k < gN
    · obtain ⟨b2, o2_, ai, m, ci, ss, g, rfl, hc1, hc2, hst, hat2, hmem, hb2, hg0, hg1⟩ := (h.below hbel).at_ hlt
      have hge := HE.out k ss g hat2
      obtain ⟨b, gm, hae2, hbl, hn1, ga1, gc1, hn2, hgm⟩ := (hg.below hbel).at0 hge
      cases hae2
      have hgg := Hgl.out _ hmem
      obtain ⟨gn, rfl⟩ : ∃ gn : Nat, g = gn := ⟨g.toNat, by have := hgg.1; simp at this; omega⟩
      have hk0 : (0 : Int) ≤ (k : Int) := by omega
      have hk1 : (k : Int) < (gN : Int) := by omega
      have hk2 : (k : Int) < (gN : Int) := by omega
      clear hat2 hmem hge hbel hgg
      go_wp2_with (go_at_call 9; refine (told (zzMkName_any ai m ci ss _ hst)).mono ?_)
      intro e w1 hp
      obtain ⟨rfl, hb1⟩ := hp.out
      have d1 := cell_below hn1 hb1
      have d2 := cell_below hn2 hb1
      have d3 := cell_below hc2 hb1
      have hbl1 : b < w1.heap.size := World.block_lt_of_cell? _ _ d1
      have hb21 : b2 < w1.heap.size := World.block_lt_of_cell? _ _ d3
      have Hb1 := hid (ext_trans Hbel.out hb1)
      have t1 : ∀ o1 o2 o3, (((w1.alloc o1).alloc o2).alloc o3).cell? ⟨_, k * 2, none⟩ = some (.string (mkW ss)) := fun o1 o2 o3 => cell_below d1 (ext_alloc (ext_alloc (ext_alloc (Below.refl _ _) o1) o2) o3)
      have t2 : ∀ o1 o2 o3, (((w1.alloc o1).alloc o2).alloc o3).cell? ⟨_, k * 2 + 1, none⟩ = _ := fun o1 o2 o3 => cell_below d2 (ext_alloc (ext_alloc (ext_alloc (Below.refl _ _) o1) o2) o3)
      have t3 : ∀ o1 o2 o3, (((w1.alloc o1).alloc o2).alloc o3).cell? ⟨_, o2_ + k * 2 + 1, none⟩ = _ := fun o1 o2 o3 => cell_below d3 (ext_alloc (ext_alloc (ext_alloc (Below.refl _ _) o1) o2) o3)
      clear hp hb1 hn1 hn2 hc1 hc2 hst Hbel
      by_cases hia : (k : Int) = at_
      · have hia' : ((k : Int) == at_) = true := by simpa using hia
        by_cases hz : gn = 0
        · subst hz
          have hgm1 : gm = 1 := by rw [hgm]; simp [hia]
          subst hgm1
          clear hgm hia
          go_wp2
          go_region_held3 (fun w' => w'.cell? ⟨b, k * 2, none⟩ = some (.string (mkW ss)) ∧ w'.cell? ⟨w1.heap.size, 0, none⟩ = some (.string (mkW ss))) (go_keep) ((go_at_call 12; refine (zzWire_exact _ _).mono ?_; rintro e w' ⟨rfl, rfl⟩))
          go_wp2
          go_roundw
          case rel => exact ⟨k + 1, by omega, by go_num, ext_trans Hb1.out (by repeat (first | exact Below.refl _ _ | apply Below.drew | apply below_drewN | apply ext_alloc))⟩
          case measure => simp [intOf]; omega
        · have hgm1 : gm = gn := by rw [hgm]; simp [hz]
          subst hgm1
          have hz' : ((gm : Int) == 0) = false := by rw [beq_eq_false_iff_ne]; omega
          clear hgm hia hz
          go_wp2
          go_region_held3 (fun w' => w'.cell? ⟨b, k * 2, none⟩ = some (.string (mkW ss)) ∧ w'.cell? ⟨w1.heap.size, 0, none⟩ = some (.string (mkW ss))) (go_keep) ((go_at_call 12; refine (zzWire_exact _ _).mono ?_; rintro e w' ⟨rfl, rfl⟩))
          go_wp2
          go_roundw
          case rel => exact ⟨k + 1, by omega, by go_num, ext_trans Hb1.out (by repeat (first | exact Below.refl _ _ | apply Below.drew | apply below_drewN | apply ext_alloc))⟩
          case measure => simp [intOf]; omega
      · have hia' : ((k : Int) == at_) = false := by rw [beq_eq_false_iff_ne]; exact hia
        have hgm1 : gm = gn := by rw [hgm]; simp [hia]
        subst hgm1
        clear hgm hia
        go_wp2
        go_region_held3 (fun w' => w'.cell? ⟨b, k * 2, none⟩ = some (.string (mkW ss)) ∧ w'.cell? ⟨w1.heap.size, 0, none⟩ = some (.string (mkW ss))) (go_keep) ((go_at_call 12; refine (zzWire_exact _ _).mono ?_; rintro e w' ⟨rfl, rfl⟩))
        go_wp2
        go_roundw
        case rel => exact ⟨k + 1, by omega, by go_num, ext_trans Hb1.out (by repeat (first | exact Below.refl _ _ | apply Below.drew | apply below_drewN | apply ext_alloc))⟩
        case measure => simp [intOf]; omega
    · go_wp2
      go_ret
      exact ⟨rfl, Hbel.out⟩
end Go.Proofs.Qxb6003717a
