import Derived.Test.Qxb6003717aD2
namespace Go.Proofs.Qxb6003717a
open Go.RowKit
attribute [local go_sem ↓] Go.wp_at_zero Go.wp_at_succ

/-- m zero addresses lie in block g. -/
def Zeros (w : World) (g m : Nat) : Prop := ∀ j, j < m → w.cell? ⟨g, j * 3, none⟩ = some (.int .u64 0) ∧ w.cell? ⟨g, j * 3 + 1, none⟩ = some (.int .u64 0) ∧ w.cell? ⟨g, j * 3 + 1 + 1, none⟩ = some (.pointer none)
theorem Zeros.below {w w' : World} {g m : Nat} (h : Zeros w g m) (hb : Below w.heap.size w w') : Zeros w' g m := fun j hj => ⟨cell_below (h j hj).1 hb, cell_below (h j hj).2.1 hb, cell_below (h j hj).2.2 hb⟩
theorem Zeros.set_far {w : World} {g m : Nat} (h : Zeros w g m) (p : Addr) (hp : p.block ≠ g) (v : Value) : Zeros (w.setCell p v) g m := by
  have far : ∀ o, (w.setCell p v).cell? ⟨g, o, none⟩ = w.cell? ⟨g, o, none⟩ := fun o => World.cell?_setCell_other _ _ _ _ (by intro e; rw [e] at hp; exact hp rfl)
  intro j hj
  rw [far, far, far]
  exact h j hj

/-- The glue slice of a server whose row is block b. -/
def GlueAt (w : World) (ga : Option Addr) (m gc b : Nat) : Prop := (m = 0 → gc = 0 ∧ ∀ x, ga = some x → x.spot = none) ∧ (0 < m → ∃ g, ga = some ⟨g, 0, none⟩ ∧ g ≠ b ∧ Zeros w g m)
theorem GlueAt.below {w w' : World} {ga : Option Addr} {m gc b : Nat} (h : GlueAt w ga m gc b) (hb : Below w.heap.size w w') : GlueAt w' ga m gc b :=
  ⟨h.1, fun h0 => by obtain ⟨g, e, hg, hz⟩ := h.2 h0; exact ⟨g, e, hg, hz.below hb⟩⟩
theorem GlueAt.set_far {w : World} {ga : Option Addr} {m gc b : Nat} (h : GlueAt w ga m gc b) (p : Addr) (hp : p.block = b) (v : Value) : GlueAt (w.setCell p v) ga m gc b :=
  ⟨h.1, fun h0 => by obtain ⟨g, e, hg, hz⟩ := h.2 h0; exact ⟨g, e, hg, hz.set_far p (by rw [hp]; exact Ne.symm hg) v⟩⟩

/-- The first k nameservers of ns lie in block b. -/
def NSr (w : World) (b : Nat) (ns : List (ByteArray × Nat)) (k : Nat) : Prop :=
  ∀ i x, ns[i]? = some x → i < k → w.cell? ⟨b, i * 2, none⟩ = some (.string x.1) ∧ ∃ ga gc, w.cell? ⟨b, i * 2 + 1, none⟩ = some (.slice ga x.2 gc) ∧ GlueAt w ga x.2 gc b
theorem NSr.below {w w' : World} {b : Nat} {ns : List (ByteArray × Nat)} {k : Nat} (h : NSr w b ns k) (hb : Below w.heap.size w w') : NSr w' b ns k := by
  intro i x hx hi
  obtain ⟨h1, ga, gc, h2, h3⟩ := h i x hx hi
  exact ⟨cell_below h1 hb, ga, gc, cell_below h2 hb, h3.below hb⟩
theorem NSr.step {w : World} {b n k : Nat} {ns : List (ByteArray × Nat)} {s : ByteArray} {m gc : Nat} {ga : Option Addr} (h : NSr w b ns k) (hsl : Slots w b n) (hk : k < n) (hx : ns[k]? = some (s, m)) (hg : GlueAt w ga m gc b) :
    NSr ((w.setCell ⟨b, k * 2, none⟩ (.string s)).setCell ⟨b, k * 2 + 1, none⟩ (.slice ga m gc)) b ns (k + 1) := by
  intro i x hxi hi
  by_cases e : i = k
  · subst e
    rw [hx] at hxi
    cases hxi
    have h2 := set2_same hsl hk (.string s) (.slice ga m gc)
    exact ⟨h2.1, ga, gc, h2.2, (hg.set_far _ rfl _).set_far _ rfl _⟩
  · obtain ⟨h1, g2, c2, h2, h3⟩ := h i x hxi (by omega)
    refine ⟨?_, g2, c2, ?_, (h3.set_far _ rfl _).set_far _ rfl _⟩
    · rw [set2_other (by simp; omega)]; exact h1
    · rw [set2_other (by simp; omega)]; exact h2

/-- A slice of n nameservers ns lies in memory at a. -/
structure NSs (w : World) (a : Option Addr) (n : Nat) (ns : List (ByteArray × Nat)) : Prop where
  len : ns.length = n
  mem : n = 0 ∨ ∃ b, a = some ⟨b, 0, none⟩ ∧ NSr w b ns n ∧ Slots w b n
theorem NSs.below {w w' : World} {a : Option Addr} {n : Nat} {ns : List (ByteArray × Nat)} (h : NSs w a n ns) (hb : Below w.heap.size w w') : NSs w' a n ns := by
  refine ⟨h.len, ?_⟩
  rcases h.mem with h0 | ⟨b, ha, h1, h2⟩
  · exact .inl h0
  · by_cases h0 : n = 0
    · exact .inl h0
    · obtain ⟨v, hv⟩ := (h2 0 (by omega)).1
      exact .inr ⟨b, ha, h1.below hb, h2.below hb (World.block_lt_of_cell? _ _ hv)⟩

theorem make41 (k : Nat) (hk : k ≤ 1048576) (w : World) : (Instr.makeSlice 41 (.int .i64 (k : Int)) (.int .i64 (k : Int))).run Try.prog w = .ok (.slice (some ⟨w.heap.size, 0, none⟩) k k) (w.alloc (.cells (madeCells #[.int .u64 0, .int .u64 0, .pointer none] (k * 3)) 52)) := by
  obtain ⟨i0, hi, hz0, hz1, hz2⟩ := info_parts Try.info52
  have := run_make (P := Try.prog) w 41 52 i0 _ Try.underlying41 hi hz0 .i64 .i64 k k (by omega) (Int.le_refl _) (by rw [hz2]; omega) (by omega)
  rw [hz1] at this
  simp only [Int.toNat_natCast] at this
  exact this
theorem Zeros.made (w : World) (k : Nat) : Zeros (w.alloc (.cells (madeCells #[.int .u64 0, .int .u64 0, .pointer none] (k * 3)) 52)) w.heap.size k := by
  intro j hj
  rw [World.cell?_alloc_new, World.cell?_alloc_new, World.cell?_alloc_new]
  refine ⟨?_, ?_, ?_⟩
  · simp [madeCells, show j * 3 < k * 3 by omega]
  · simp [madeCells, show j * 3 + 1 < k * 3 by omega]
  · simp [madeCells, show j * 3 + 1 + 1 < k * 3 by omega, show (j * 3 + 1 + 1) % 3 = 2 by omega]

set_option maxRecDepth 100000 in
set_option maxHeartbeats 400000 in
theorem zzZeroAddrs_any (k : Nat) (hk : k ≤ 1048576) (w : World) :
    Calls Try.prog 26 #[.int .i64 (k : Int)] w fun e w' => (∃ g, e = .returned (.slice (some ⟨g, 0, none⟩) k k) ∧ w.heap.size ≤ g ∧ Zeros w' g k) ∧ Below w.heap.size w w' := by
  have hmk := make41 k hk
  go_enter Try.func26, Try.ntmps26
  go_wp2
  go_ret
  exact ⟨⟨_, rfl, Nat.le_refl _, Zeros.made w k⟩, (Below.refl _ _).alloc (Nat.le_refl _) _⟩

theorem Try.info43 : (Try.prog.info? 43).map (fun i => (i.zero, i.size, i.bytes)) = some (some (.agg #[.string ⟨#[]⟩, .slice none 0 0]), 2, 40) := by kernel_rfl
theorem make39 (n : Nat) (hn : n ≤ 1048576) (w : World) : (Instr.makeSlice 39 (.int .i64 (n : Int)) (.int .i64 (n : Int))).run Try.prog w = .ok (.slice (some ⟨w.heap.size, 0, none⟩) n n) (w.alloc (.cells (madeCells #[.string ⟨#[]⟩, .slice none 0 0] (n * 2)) 43)) := by
  obtain ⟨i0, hi, hz0, hz1, hz2⟩ := info_parts Try.info43
  have := run_make (P := Try.prog) w 39 43 i0 _ Try.underlying39 hi hz0 .i64 .i64 n n (by omega) (Int.le_refl _) (by rw [hz2]; omega) (by omega)
  rw [hz1] at this
  simp only [Int.toNat_natCast] at this
  exact this

/-- The nameservers that zzNameservers makes of servers. -/
def nsOf (sv : List (List ByteArray × Int)) : List (ByteArray × Nat) := sv.map fun x => (mkW x.1, x.2.toNat)
def GlueOk (sv : List (List ByteArray × Int)) : Prop := ∀ x ∈ sv, 0 ≤ x.2 ∧ x.2 ≤ 256

set_option maxRecDepth 100000 in
set_option maxHeartbeats 1000000 in
theorem zzNameservers_any (a : Option Addr) (n cap : Nat) (sv : List (List ByteArray × Int)) (w : World) (h : Srvs w a n sv) (hsm : n ≤ 1048576) (hgl : GlueOk sv) :
    Calls Try.prog 17 #[.slice a n cap] w fun e w' => (∃ a', e = .returned (.slice a' n n) ∧ NSs w' a' n (nsOf sv) ∧ (a' = none → n = 0) ∧ (∀ x, a' = some x → x.spot = none ∧ w.heap.size ≤ x.block)) ∧ Below w.heap.size w w' := by
  have q33 : ∀ (w : World) (a : Option Addr) (n c n' c' : Nat), (binOp .eql 33 (.slice a n c) (.slice none n' c')).run Try.prog w = .ok (.bool a.isNone) w := fun w a n c n' c' => Lib.run_eql_slice_nil w _ _ a n c n' c' Try.underlying33
  have Hgl := hid hgl
  clear hgl
  cases a with
  | none =>
    have h0 : n = 0 := by
      rcases h.mem with h | ⟨b, off, h, _⟩
      · exact h
      · cases h
    subst h0
    go_enter Try.func17, Try.ntmps17
    go_wp2
    go_ret
    exact ⟨⟨none, rfl, ⟨by simpa [nsOf] using h.len, .inl rfl⟩, by simp, by simp⟩, Below.refl _ _⟩
  | some ad =>
    have hmk := make39 n hsm
    go_enter Try.func17, Try.ntmps17
    go_wp2
    go_loopw [4] (fun i wr => ∃ k : Nat, k ≤ n ∧ i = .int .i64 k ∧ Slots wr w.heap.size n ∧ NSr wr w.heap.size (nsOf sv) k ∧ Below w.heap.size w wr ∧ w.heap.size < wr.heap.size) (fun i _ => n - (intOf i).toNat)
    case atStart => exact ⟨0, Nat.zero_le _, rfl, Slots.made w _ n 43, fun i x _ hi => absurd hi (Nat.not_lt_zero _), (Below.refl _ _).alloc (Nat.le_refl _) _, by simp⟩
    case round =>
      obtain ⟨k, hk, rfl, hsl, hps, hbel, hlt0⟩ := hrel
      clear hmk q33
      by_cases hlt : k < n
      · obtain ⟨b, off, ai, m, ci, ss, g, hae, hc1, hc2, hst, hat, hmem, hb, hg0, hg1⟩ := h.at_ hlt
        cases hae
        have hgg := Hgl.out _ hmem
        obtain ⟨gn, rfl⟩ : ∃ gn : Nat, g = gn := ⟨g.toNat, by have := hgg.1; simp at this; omega⟩
        have hgn : gn ≤ 256 := by have := hgg.2; simp at this; omega
        have hd1 : wr.cell? ⟨b, off + k * 2, none⟩ = some (.slice ai m ci) := (hbel.cell (by exact hb)).trans hc1
        have hd2 : wr.cell? ⟨b, off + k * 2 + 1, none⟩ = some (.int .i64 gn) := (hbel.cell (by exact hb)).trans hc2
        have hst' : Strs wr ai m ss := hst.below hbel
        have Hat : Hid ((nsOf sv)[k]? = some (mkW ss, gn)) := by show _ = _; unfold nsOf; rw [List.getElem?_map, hat]; rfl
        have hk0 : (0 : Int) ≤ (k : Int) := by omega
        have hk1 : (k : Int) < (n : Int) := by omega
        have Hsl := hid hsl
        have Hps := hid hps
        have Hbel := hid hbel
        clear hc1 hc2 hst hat hmem hsl hps hbel hgg hg0 hg1
        go_wp2_with (go_at_call 9; refine (told (zzMkName_any ai m ci ss _ hst')).mono ?_)
        intro e w1 hp
        obtain ⟨rfl, hb1⟩ := hp.out
        have hd3 : ∀ o, (w1.alloc o).cell? ⟨b, off + k * 2 + 1, none⟩ = some (.int .i64 gn) := fun o => cell_below hd2 (ext_alloc hb1 o)
        have Hb1 := hid hb1
        have hlt1 : w.heap.size < w1.heap.size := by have := hb1.size; omega
        have hbw : b < w1.heap.size := by omega
        clear hp hb1 hd1 hd2 hst'
        go_wp2
        have Hfa : Hid (∀ w2, Below (w1.alloc (.cells #[.string (mkW ss)] 26)).drew.heap.size (w1.alloc (.cells #[.string (mkW ss)] 26)).drew w2 → Slots w2 w.heap.size n ∧ w2.cell? ⟨w1.heap.size, 0, none⟩ = some (.string (mkW ss)) ∧ w2.cell? ⟨b, off + k * 2 + 1, none⟩ = some (.int .i64 gn) ∧ Below w1.heap.size w1 w2) := by
          intro w2 hb2
          have hbx : Below w1.heap.size w1 w2 := ext_trans (ext_alloc (Below.refl _ _) _).drew hb2
          exact ⟨Hsl.out.below (ext_trans Hb1.out hbx) hlt0, cell_below (w := (w1.alloc (.cells #[.string (mkW ss)] 26)).drew) (World.cell?_alloc_new w1 #[.string (mkW ss)] 26 0) hb2, cell_below (w := (w1.alloc (.cells #[.string (mkW ss)] 26)).drew) (hd3 _) hb2, hbx⟩
        have hgm : gn ≤ 1048576 := by omega
        go_region_with ((go_at_call 26; refine (told (zzZeroAddrs_any gn hgm _)).mono ?_; intro e w2 hp; obtain ⟨⟨g2, rfl, hg2, hz2⟩, hb2⟩ := hp.out; obtain ⟨hs2, e5, e6, hb3⟩ := Hfa.out w2 hb2; obtain ⟨⟨u1, e1⟩, ⟨u2, e2⟩, e3, e4⟩ := hs2 k hlt; have Hs2 := hid hs2; have Hz2 := hid hz2; have Hg2 := hid hg2; have Hb3 := hid hb3; clear hp hz2 hg2 hb2 hb3 hs2))
        all_goals
          go_wp2
          go_roundw
          case rel =>
            have hb1 : Below wr.heap.size wr w2 := ext_trans Hb1.out Hb3.out
            have hsz := hb1.size
            have hgl2 : GlueAt w2 (some ⟨g2, 0, none⟩) gn gn w.heap.size := ⟨fun h0 => ⟨h0, fun x hx => by cases hx; rfl⟩, fun _ => ⟨g2, rfl, by have := Hg2.out; simp at this; omega, Hz2.out⟩⟩
            exact ⟨k + 1, by omega, by go_num, (Hs2.out.set _ _).set _ _, (Hps.out.below hb1).step Hs2.out hlt Hat.out hgl2, (((Hbel.out.trans (hb1.mono (by omega))).setCell (by simp) _).setCell (by simp) _), by rw [size_setCell, size_setCell]; omega⟩
          case measure => simp [intOf]; omega
      · have hkn : k = n := by omega
        subst hkn
        have Hr : Hid (NSs wr (some ⟨w.heap.size, 0, none⟩) k (nsOf sv)) := ⟨by simpa [nsOf] using h.len, .inr ⟨_, rfl, hps, hsl⟩⟩
        clear hps hsl
        go_wp2
        go_ret
        exact ⟨⟨_, rfl, Hr.out, by simp, by simp⟩, hbel⟩
end Go.Proofs.Qxb6003717a
