import Derived.Test.Qxb6003717aD1
import Derived.Deep.RegionWith
namespace Go.Proofs.Qxb6003717a
open Go.RowKit
attribute [local go_sem ↓] Go.wp_at_zero Go.wp_at_succ

/-- n slots of two cells each lie in block g and may be written. -/
def Slots (w : World) (g n : Nat) : Prop := ∀ i, i < n → (∃ v, w.cell? ⟨g, i * 2, none⟩ = some v) ∧ (∃ v, w.cell? ⟨g, i * 2 + 1, none⟩ = some v) ∧ w.frozen? ⟨g, i * 2, none⟩ = false ∧ w.frozen? ⟨g, i * 2 + 1, none⟩ = false

theorem cell_set_some {w : World} {a b : Addr} {v : Value} (h : ∃ u, w.cell? b = some u) : ∃ u, (w.setCell a v).cell? b = some u := by
  obtain ⟨u, hu⟩ := h
  exact cell?_setCell_some hu
theorem Slots.set {w : World} {g n : Nat} (h : Slots w g n) (a : Addr) (v : Value) : Slots (w.setCell a v) g n := by
  intro i hi
  obtain ⟨h1, h2, h3, h4⟩ := h i hi
  exact ⟨cell_set_some h1, cell_set_some h2, by rw [World.frozen?_setCell]; exact h3, by rw [World.frozen?_setCell]; exact h4⟩
theorem Slots.below {w w' : World} {g n B : Nat} (h : Slots w g n) (hb : Below B w w') (hg : g < B) : Slots w' g n := by
  intro i hi
  rw [hb.cell (by exact hg), hb.cell (by exact hg), hb.frozen (by exact hg), hb.frozen (by exact hg)]
  exact h i hi
theorem Slots.made (w : World) (z : Array Value) (n : Nat) (t : TypeId) : Slots (w.alloc (.cells (madeCells z (n * 2)) t)) w.heap.size n := by
  have hs : (madeCells z (n * 2)).size = n * 2 := size_madeCells z (n * 2)
  intro i hi
  refine ⟨⟨(madeCells z (n * 2))[i * 2]'(by omega), ?_⟩, ⟨(madeCells z (n * 2))[i * 2 + 1]'(by omega), ?_⟩, ?_, ?_⟩
  · rw [World.cell?_alloc_new, Array.getElem?_eq_getElem]
  · rw [World.cell?_alloc_new, Array.getElem?_eq_getElem]
  · rw [World.frozen?_alloc_new]
  · rw [World.frozen?_alloc_new]

/-- Behind the two stores into slot k of block g. -/
theorem set2_same {w : World} {g n k : Nat} (h : Slots w g n) (hk : k < n) (v1 v2 : Value) :
    ((w.setCell ⟨g, k * 2, none⟩ v1).setCell ⟨g, k * 2 + 1, none⟩ v2).cell? ⟨g, k * 2, none⟩ = some v1 ∧ ((w.setCell ⟨g, k * 2, none⟩ v1).setCell ⟨g, k * 2 + 1, none⟩ v2).cell? ⟨g, k * 2 + 1, none⟩ = some v2 := by
  obtain ⟨⟨u1, h1⟩, h2, _⟩ := h k hk
  obtain ⟨u2, h2'⟩ := cell_set_some (a := ⟨g, k * 2, none⟩) (v := v1) h2
  refine ⟨?_, World.cell?_setCell_same _ _ _ h2'⟩
  rw [World.cell?_setCell_other _ _ _ _ (by intro e; simp at e)]
  exact World.cell?_setCell_same _ _ _ h1
theorem set2_other {w : World} {g k : Nat} {a : Addr} (h : a.block ≠ g ∨ (a.off ≠ k * 2 ∧ a.off ≠ k * 2 + 1)) (v1 v2 : Value) :
    ((w.setCell ⟨g, k * 2, none⟩ v1).setCell ⟨g, k * 2 + 1, none⟩ v2).cell? a = w.cell? a := by
  rw [World.cell?_setCell_other _ _ _ _ (by intro e; subst e; simp at h), World.cell?_setCell_other _ _ _ _ (by intro e; subst e; simp at h)]

theorem Strs.set_far {w : World} {a : Option Addr} {n : Nat} {ss : List ByteArray} (h : Strs w a n ss) {g : Nat} (hg : ∀ b off, a = some ⟨b, off, none⟩ → 0 < n → b ≠ g) (p : Addr) (hp : p.block = g) (v : Value) : Strs (w.setCell p v) a n ss := by
  refine ⟨h.len, h.lim, h.lims, ?_⟩
  rcases h.mem with h0 | ⟨b, off, ha, hc⟩
  · exact .inl h0
  · refine .inr ⟨b, off, ha, fun i hi => ?_⟩
    rw [World.cell?_setCell_other _ _ _ _ (by intro e; have := hg b off ha (by omega); rw [e] at hp; exact this hp)]
    exact hc i hi

/-- The first k servers of sv lie in block g; their labels lie elsewhere, from block B on. -/
def PSrv (w : World) (g B : Nat) (sv : List (List ByteArray × Int)) (k : Nat) : Prop :=
  ∀ i x, sv[i]? = some x → i < k → ∃ ai ci, w.cell? ⟨g, i * 2, none⟩ = some (.slice ai x.1.length ci) ∧ w.cell? ⟨g, i * 2 + 1, none⟩ = some (.int .i64 x.2) ∧ Strs w ai x.1.length x.1 ∧ (∀ b off, ai = some ⟨b, off, none⟩ → 0 < x.1.length → B ≤ b)

theorem PSrv.below {w w' : World} {g B : Nat} {sv : List (List ByteArray × Int)} {k : Nat} (h : PSrv w g B sv k) (hb : Below w.heap.size w w') : PSrv w' g B sv k := by
  intro i x hx hi
  obtain ⟨ai, ci, h1, h2, h3, h4⟩ := h i x hx hi
  exact ⟨ai, ci, cell_below h1 hb, cell_below h2 hb, h3.below hb, h4⟩

theorem PSrv.step {w : World} {g n B : Nat} {sv : List (List ByteArray × Int)} {k : Nat} {ss : List ByteArray} {gl : Int} {ai : Option Addr} {m ci : Nat} (h : PSrv w g B sv k) (hsl : Slots w g n) (hk : k < n) (hx : sv[k]? = some (ss, gl)) (hs : Strs w ai m ss)
    (hfar : ∀ b off, ai = some ⟨b, off, none⟩ → 0 < m → B ≤ b) (hgB : g < B) :
    PSrv ((w.setCell ⟨g, k * 2, none⟩ (.slice ai m ci)).setCell ⟨g, k * 2 + 1, none⟩ (.int .i64 gl)) g B sv (k + 1) := by
  intro i x hxi hi
  have hm : m = ss.length := hs.len.symm
  by_cases e : i = k
  · subst e
    rw [hx] at hxi
    cases hxi
    have h2 := set2_same hsl hk (.slice ai m ci) (.int .i64 gl)
    refine ⟨ai, ci, by rw [h2.1, hm], h2.2, ?_, by rw [← hm]; exact hfar⟩
    rw [← hm]
    exact (hs.set_far (g := g) (fun b off ha h0 => by have := hfar b off ha h0; omega) _ rfl _).set_far (g := g) (fun b off ha h0 => by have := hfar b off ha h0; omega) _ rfl _
  · obtain ⟨a2, c2, h1, h2, h3, h4⟩ := h i x hxi (by omega)
    refine ⟨a2, c2, ?_, ?_, ?_, h4⟩
    · rw [set2_other (by simp; omega)]; exact h1
    · rw [set2_other (by simp; omega)]; exact h2
    · exact (h3.set_far (g := g) (fun b off ha h0 => by have := h4 b off ha h0; omega) _ rfl _).set_far (g := g) (fun b off ha h0 => by have := h4 b off ha h0; omega) _ rfl _

theorem Srvs.of_PSrv {w : World} {g B n : Nat} {sv : List (List ByteArray × Int)} {k : Nat} (h : PSrv w g B sv k) (hl : sv.length = n) (hn : n ≤ maxLen) (hnum : ∀ x ∈ sv, -9223372036854775808 ≤ x.2 ∧ x.2 ≤ 9223372036854775807) (hk : n ≤ k) : Srvs w (some ⟨g, 0, none⟩) n sv := by
  refine ⟨hl, hn, hnum, .inr ⟨g, 0, rfl, fun i x hx => ?_⟩⟩
  have : i < sv.length := (List.getElem?_eq_some_iff.1 hx).1
  obtain ⟨ai, ci, h1, h2, h3, _⟩ := h i x hx (by omega)
  exact ⟨ai, ci, by simpa using h1, by simpa using h2, h3⟩

theorem Try.info37 : (Try.prog.info? 37).map (fun i => (i.zero, i.size, i.bytes)) = some (some (.agg #[.slice none 0 0, .int .i64 0]), 2, 32) := by kernel_rfl
theorem make33 (n : Nat) (hn : n ≤ 1048576) (w : World) : (Instr.makeSlice 33 (.int .i64 (n : Int)) (.int .i64 (n : Int))).run Try.prog w = .ok (.slice (some ⟨w.heap.size, 0, none⟩) n n) (w.alloc (.cells (madeCells #[.slice none 0 0, .int .i64 0] (n * 2)) 37)) := by
  obtain ⟨i0, hi, hz0, hz1, hz2⟩ := info_parts Try.info37
  have := run_make (P := Try.prog) w 33 37 i0 _ Try.underlying33 hi hz0 .i64 .i64 n n (by omega) (Int.le_refl _) (by rw [hz2]; omega) (by omega)
  rw [hz1] at this
  simp only [Int.toNat_natCast] at this
  exact this

set_option maxRecDepth 10000 in
set_option maxHeartbeats 400000 in
theorem zzCloneLabels_new (a : Option Addr) (n cap : Nat) (ss : List ByteArray) (w : World) (h : Strs w a n ss) (hsm : n ≤ 1048576) :
    Calls Try.prog 10 #[.slice a n cap] w fun e w' => (∃ a' c', e = .returned (.slice a' n c') ∧ n ≤ c' ∧ Strs w' a' n ss ∧ (∀ b off, a' = some ⟨b, off, none⟩ → 0 < n → w.heap.size ≤ b)) ∧ Below w.heap.size w w' := by
  have q22 : ∀ (w : World) (a : Option Addr) (n c n' c' : Nat), (binOp .eql 22 (.slice a n c) (.slice none n' c')).run Try.prog w = .ok (.bool a.isNone) w := fun w a n c n' c' => Lib.run_eql_slice_nil w _ _ a n c n' c' Try.underlying22
  cases a with
  | none =>
    have h0 : n = 0 := by
      rcases h.mem with h | ⟨b, off, h, _⟩
      · exact h
      · cases h
    go_enter Try.func10, Try.ntmps10
    go_wp2
    go_ret
    subst h0
    exact ⟨⟨none, 0, rfl, Nat.le_refl _, h, fun _ _ h _ => by cases h⟩, Below.refl _ _⟩
  | some ad =>
    have hmk := run_make_row' (P := Try.prog) 22 9 (.string ⟨#[]⟩) 16 Try.underlying22 Try.info9 rfl .i64 .i64 n (by omega) (by omega)
    have hinf : (Try.prog.info? 9).map (·.size) = some 1 := by kernel_rfl
    have hlen := h.len
    have Hl : Hid (ss.length = n) := hlen
    clear hlen
    go_enter Try.func10, Try.ntmps10
    go_wp2_with (refine wpList_copy_splice rfl (.tmp 9) (.tmp 10) 22 22 rfl 9 Try.underlying22 hinf _ _ _ _ _ _ rfl rfl w.heap.size 0 (madeCells #[.string ⟨#[]⟩] n).toList 9 (heap_alloc_new w _) (ss.map Value.string) ?c1 ?c2 ?c3 ?c4 w.heap.size w ((Below.refl _ _).alloc (Nat.le_refl _) _) (Nat.le_refl _) ?_)
    case c1 => simp [Hl.out]
    case c2 =>
      intro _ j s hj
      rcases h.mem with h0 | ⟨b, off, ha, hc⟩
      · have : ss = [] := List.eq_nil_of_length_eq_zero (by rw [Hl.out]; exact h0)
        rw [this] at hj
        simp at hj
      · cases ha
        have hjl : j < ss.length := (List.getElem?_eq_some_iff.1 hj).1
        have hc1 := hc j (by rw [← Hl.out]; exact hjl)
        rw [addr_add, World.cell?_alloc_lt _ _ _ (World.block_lt_of_cell? _ _ hc1), hc1]
        simp [hj]
    case c3 => simp [Hl.out, size_madeCells]
    case c4 => intro v hv; simp at hv; obtain ⟨s, _, rfl⟩ := hv; rfl
    intro w1 hg1 hb1
    go_wp2
    go_ret
    refine ⟨⟨some ⟨w.heap.size, 0, none⟩, n, rfl, Nat.le_refl _, ?_, fun _ _ h _ => by cases h; exact Nat.le_refl _⟩, hb1⟩
    have hsp : splice (madeCells #[Value.string ⟨#[]⟩] n).toList 0 (ss.map Value.string) = ss.map Value.string := by
      simp [splice, Hl.out, size_madeCells]
    have hg2 := hg1.out
    rw [hsp] at hg2
    have := Strs.of_block hg2 (by rw [Hl.out]; exact h.lim) h.lims
    rw [Hl.out] at this
    exact this

set_option maxRecDepth 100000 in
set_option maxHeartbeats 1000000 in
theorem zzCloneServers_any (a : Option Addr) (n cap : Nat) (sv : List (List ByteArray × Int)) (w : World) (h : Srvs w a n sv) (hsm : n ≤ 1048576) (hal : AllSmall sv) :
    Calls Try.prog 16 #[.slice a n cap] w fun e w' => (∃ a' c', e = .returned (.slice a' n c') ∧ Srvs w' a' n sv) ∧ Below w.heap.size w w' := by
  have q33 : ∀ (w : World) (a : Option Addr) (n c n' c' : Nat), (binOp .eql 33 (.slice a n c) (.slice none n' c')).run Try.prog w = .ok (.bool a.isNone) w := fun w a n c n' c' => Lib.run_eql_slice_nil w _ _ a n c n' c' Try.underlying33
  have Hal := hid hal
  clear hal
  cases a with
  | none =>
    have h0 : n = 0 := by
      rcases h.mem with h | ⟨b, off, h, _⟩
      · exact h
      · cases h
    subst h0
    go_enter Try.func16, Try.ntmps16
    go_wp2
    go_ret
    exact ⟨⟨none, 0, rfl, h⟩, Below.refl _ _⟩
  | some ad =>
    have hmk := make33 n hsm
    go_enter Try.func16, Try.ntmps16
    go_wp2
    go_loopw [4] (fun i wr => ∃ k : Nat, k ≤ n ∧ i = .int .i64 k ∧ Slots wr w.heap.size n ∧ PSrv wr w.heap.size (w.heap.size + 1) sv k ∧ Below w.heap.size w wr ∧ w.heap.size < wr.heap.size) (fun i _ => n - (intOf i).toNat)
    case atStart => exact ⟨0, Nat.zero_le _, rfl, Slots.made w _ n 37, fun i x _ hi => absurd hi (Nat.not_lt_zero _), (Below.refl _ _).alloc (Nat.le_refl _) _, by simp⟩
    case round =>
      obtain ⟨k, hk, rfl, hsl, hps, hbel, hlt0⟩ := hrel
      clear hmk q33
      by_cases hlt : k < n
      · obtain ⟨b, off, ai, m, ci, ss, g, hae, hc1, hc2, hst, hat, hmem, hb, hg0, hg1⟩ := h.at_ hlt
        cases hae
        have hd1 : wr.cell? ⟨b, off + k * 2, none⟩ = some (.slice ai m ci) := (hbel.cell (by exact hb)).trans hc1
        have hd2 : wr.cell? ⟨b, off + k * 2 + 1, none⟩ = some (.int .i64 g) := (hbel.cell (by exact hb)).trans hc2
        have hst' : Strs wr.drew ai m ss := hst.below hbel.drew
        have Hm : Hid (m ≤ 1048576) := by have h1 : ss.length ≤ 1048576 := (Hal.out _ hmem).1; have := hst.len; show _ ≤ _; omega
        have Hat := hid hat
        have hk0 : (0 : Int) ≤ (k : Int) := by omega
        have hk1 : (k : Int) < (n : Int) := by omega
        obtain ⟨⟨u1, e1⟩, ⟨u2, e2⟩, e3, e4⟩ := hsl k hlt
        have Hsl := hid hsl
        have Hps := hid hps
        have Hbel := hid hbel
        clear hc1 hc2 hst hat hmem hsl hps hbel
        go_wp2
        go_region_with ((go_at_call 10; refine (told (zzCloneLabels_new ai m ci ss _ hst' Hm.out)).mono ?_; intro e w1 hp; obtain ⟨⟨a1, c1, rfl, _, hs1, hf1⟩, hb1⟩ := hp.out; have hd3 := cell_below (w := wr.drew) hd2 hb1; have e5 := cell_below (w := wr.drew) e1 hb1; have e6 := cell_below (w := wr.drew) e2 hb1; have e7 := frozen_below (w := wr.drew) e3 hlt0 hb1; have e8 := frozen_below (w := wr.drew) e4 hlt0 hb1; have Hs1 := hid hs1; have Hf1 := hid hf1; have Hb1 := hid hb1; clear hp hs1 hf1 hb1))
        all_goals
          go_wp2
          go_roundw
          case rel =>
            have hb1 : Below wr.heap.size wr w1 := (Below.refl _ _).drew.trans Hb1.out
            have hsl1 := Hsl.out.below hb1 hlt0
            have hsz := hb1.size
            exact ⟨k + 1, by omega, by go_num, (hsl1.set _ _).set _ _, (Hps.out.below hb1).step hsl1 hlt Hat.out Hs1.out (fun b off ha h0 => by have := Hf1.out b off ha h0; simp at this; omega) (by omega), (((Hbel.out.trans (hb1.mono (by omega))).setCell (by simp) _).setCell (by simp) _), by rw [size_setCell, size_setCell]; omega⟩
          case measure => simp [intOf]; omega
      · have Hr := hid (Srvs.of_PSrv hps h.len h.lim h.nums (by omega))
        clear hps hsl
        go_wp2
        go_ret
        exact ⟨⟨_, _, rfl, Hr.out⟩, hbel⟩
end Go.Proofs.Qxb6003717a
