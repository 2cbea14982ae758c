import Derived.Test.Qxb6003717aD4
import Derived.Test.Qxb6003717aP7
import Derived.ArgAppend
namespace Go.Proofs.Qxb6003717a
open Go.RowKit

/-- A resolve.Server with the zero address, as a value. -/
abbrev sz (s : ByteArray) : Value := .agg #[.string s, .int .u64 0, .int .u64 0, .pointer none]

/-- All cells of a row, as they stand. -/
def olds (w : World) (b N : Nat) : List Value := (List.range N).map fun j => (w.cell? ⟨b, j, none⟩).getD undef
theorem olds_length (w : World) (b N : Nat) : (olds w b N).length = N := by simp [olds]
theorem olds_at {w : World} {b N j : Nat} {u : Value} (hj : j < N) (h : w.cell? ⟨b, j, none⟩ = some u) : (olds w b N)[j]? = some u := by
  simp [olds, hj, h]
theorem slots_some {w : World} {b n : Nat} (h : Slots w b n) {j : Nat} (hj : j < n * 2) : ∃ u, w.cell? ⟨b, j, none⟩ = some u := by
  have h2 := h (j / 2) (by omega)
  rcases Nat.mod_two_eq_zero_or_one j with e | e
  · rw [show j = j / 2 * 2 by omega]; exact h2.1
  · rw [show j = j / 2 * 2 + 1 by omega]; exact h2.2.1
theorem olds_cell {w : World} {b n j : Nat} {u : Value} (h : Slots w b n) (hu : (olds w b (n * 2))[j]? = some u) : w.cell? ⟨b, j, none⟩ = some u := by
  have hj : j < n * 2 := by have := (List.getElem?_eq_some_iff.1 hu).1; rwa [olds_length] at this
  obtain ⟨u', hu'⟩ := slots_some h hj
  rw [olds_at hj hu'] at hu
  rw [hu', hu]

theorem own_cell {w : World} {B e size n : Nat} {xs : List Value} {g c : Nat} (h : w.ownsRow B e size (.slice (some ⟨g, 0, none⟩) n c) n xs) {j : Nat} {u : Value} (hu : xs[j]? = some u) : w.cell? ⟨g, j, none⟩ = some u := by
  have := h.cells (g := g) rfl j u hu
  rwa [addr_add, Nat.zero_add] at this
theorem own_frozen {w : World} {B e size n : Nat} {xs : List Value} {g c : Nat} (h : w.ownsRow B e size (.slice (some ⟨g, 0, none⟩) n c) n xs) (j : Nat) : w.frozen? ⟨g, j, none⟩ = false := by
  rcases h.2 with ⟨h1, _⟩ | ⟨g', cap, cur, hv, _, hg, _⟩
  · cases h1
  · cases hv
    unfold World.frozen?
    rw [hg]
    simp

/-- One glue address stored into the k-th server. -/
theorem NSr.setGlue {w : World} {b n k gc : Nat} {ns : List (ByteArray × Nat)} {t : ByteArray} {m : Nat} {ga : Option Addr} (h : NSr w b ns n) (hsl : Slots w b n) (hk : k < n) (hx : ns[k]? = some (t, m)) (hg : GlueAt w ga 1 gc b) :
    NSr (w.setCell ⟨b, k * 2 + 1, none⟩ (.slice ga 1 gc)) b (ns.set k (t, 1)) n := by
  intro i x hxi hi
  by_cases e : i = k
  · subst e
    have hl : i < ns.length := (List.getElem?_eq_some_iff.1 hx).1
    rw [List.getElem?_set, if_pos rfl, if_pos hl] at hxi
    cases hxi
    obtain ⟨h1, _⟩ := h i _ hx hi
    obtain ⟨u, hu⟩ := (hsl i hk).2.1
    refine ⟨?_, ga, gc, World.cell?_setCell_same _ _ _ hu, hg.set_far _ rfl _⟩
    rw [World.cell?_setCell_other _ _ _ _ (by intro e; simp at e)]
    exact h1
  · rw [List.getElem?_set, if_neg (Ne.symm e)] at hxi
    obtain ⟨h1, g2, c2, h2, h3⟩ := h i x hxi hi
    refine ⟨?_, g2, c2, ?_, h3.set_far _ rfl _⟩
    · rw [World.cell?_setCell_other _ _ _ _ (by intro e2; simp at e2 <;> omega)]; exact h1
    · rw [World.cell?_setCell_other _ _ _ _ (by intro e2; simp at e2 <;> omega)]; exact h2

/-- One server appended: the row lies in a new block. -/
theorem NSs.appended {w w1 : World} {a : Option Addr} {n : Nat} {ns : List (ByteArray × Nat)} {s : ByteArray} {v : Value} {bs : Nat} {ol : List Value} (h : NSs w a n ns) (hol : ∀ b, a = some ⟨b, 0, none⟩ → ol = olds w b (n * 2)) (hl : ol.length = n * 2)
    (hown : w1.ownsRow w.heap.size 43 2 v (n + 1) (ol ++ [.string s, .slice (some ⟨bs, 0, none⟩) 1 1])) (hb : Below w.heap.size w w1) (hz : Zeros w1 bs 1) (hbs : bs < w.heap.size) :
    ∃ g c, v = .slice (some ⟨g, 0, none⟩) (n + 1) c ∧ w.heap.size ≤ g ∧ NSs w1 (some ⟨g, 0, none⟩) (n + 1) (ns ++ [(s, 1)]) := by
  obtain ⟨g, c, hv, hg, _⟩ := hown.form (by omega)
  subst hv
  refine ⟨g, c, rfl, hg, by simp [h.len], .inr ⟨g, rfl, ?_, ?_⟩⟩
  · intro i x hx hi
    by_cases e : i = n
    · subst e
      rw [List.getElem?_append_right (by rw [h.len]; exact Nat.le_refl _), h.len] at hx
      simp at hx
      subst hx
      refine ⟨own_cell hown (by rw [List.getElem?_append_right (by omega), hl]; simp), some ⟨bs, 0, none⟩, 1, own_cell hown (by rw [List.getElem?_append_right (by omega), hl]; simp), ?_⟩
      exact ⟨fun h0 => absurd h0 (by simp), fun _ => ⟨bs, rfl, by omega, hz⟩⟩
    · rw [List.getElem?_append_left (by rw [h.len]; omega)] at hx
      rcases h.mem with h0 | ⟨b, ha, hr, hsl⟩
      · omega
      · obtain ⟨h1, ga, gc, h2, h3⟩ := hr i x hx (by omega)
        rw [hol b ha] at hown hl
        refine ⟨own_cell hown ?_, ga, gc, own_cell hown ?_, ?_⟩
        · rw [List.getElem?_append_left (by omega)]
          exact olds_at (by omega) h1
        · rw [List.getElem?_append_left (by omega)]
          exact olds_at (by omega) h2
        · refine ⟨h3.1, fun h0 => ?_⟩
          obtain ⟨gg, e1, e2, e3⟩ := h3.2 h0
          exact ⟨gg, e1, by have := World.block_lt_of_cell? _ _ (e3 0 h0).1; simp at this; omega, e3.below hb⟩
  · intro i hi
    have some_at : ∀ j, j < (n + 1) * 2 → ∃ u, w1.cell? ⟨g, j, none⟩ = some u := by
      intro j hj
      have hjl : j < (ol ++ [Value.string s, .slice (some ⟨bs, 0, none⟩) 1 1]).length := by rw [List.length_append, hl]; simp; omega
      exact ⟨_, own_cell hown (List.getElem?_eq_getElem hjl)⟩
    exact ⟨some_at _ (by omega), some_at _ (by omega), own_frozen hown _, own_frozen hown _⟩

set_option maxRecDepth 100000 in
set_option maxHeartbeats 1000000 in
theorem withServer_any (a : Option Addr) (n c : Nat) (ns : List (ByteArray × Nat)) (s : ByteArray) (w : World) (h : NSs w a n ns) (hn : n ≤ 1048576) (hsz : ∀ x ∈ ns, x.1.size ≤ maxLen) (hcap : c = n ∨ ∃ x ∈ ns, key x.1 = key s) (hna : a = none → n = 0)
    (B : Nat) (hB : B ≤ w.heap.size) (hBa : ∀ x, a = some x → x.spot = none ∧ B ≤ x.block) :
    Calls Try.prog 35 #[.slice a n c, sz s] w fun e w' => (∃ a' n' c', e = .returned (.slice a' n' c') ∧ NSs w' a' n' (wsv s ns) ∧ (a' = none → n' = 0) ∧ (∀ x, a' = some x → x.spot = none ∧ B ≤ x.block)) ∧ Below B w w' := by
  obtain ⟨i0, hi0, hz0, hz1, hz2⟩ := info_parts Try.info52
  obtain ⟨j0, hj0, hy0, hy1, hy2⟩ := info_parts Try.info43
  have Hsz := hid hsz
  have Hcap := hid hcap
  have Hna := hid hna
  have HBa := hid hBa
  clear hsz hcap hna hBa
  go_enter Try.func35, Try.ntmps35
  go_wp2
  go_loopw [9] (fun i wr => ∃ k : Nat, k ≤ n ∧ i = .int .i64 k ∧ Hid (NoKey s ns k) ∧ Below (w.heap.size + 1) (w.alloc (.cells #[.string s, .int .u64 0, .int .u64 0, .pointer none] 54)) wr) (fun i _ => n - (intOf i).toNat)
  case atStart => exact ⟨0, Nat.zero_le _, rfl, noKey_zero s ns, Below.refl _ _⟩
  case round =>
    obtain ⟨k, hk, rfl, hnk, hbx⟩ := hrel
    have hx0 : wr.cell? ⟨w.heap.size, 0, none⟩ = some (.string s) := by rw [hbx.cell (by simp)]; simp [go_sem]
    have hx1 : wr.cell? ⟨w.heap.size, 1, none⟩ = some (.int .u64 0) := by rw [hbx.cell (by simp)]; simp [go_sem]
    have hx2 : wr.cell? ⟨w.heap.size, 1 + 1, none⟩ = some (.int .u64 0) := by rw [hbx.cell (by simp)]; simp [go_sem]
    have hx3 : wr.cell? ⟨w.heap.size, 1 + 1 + 1, none⟩ = some (.pointer none) := by rw [hbx.cell (by simp)]; simp [go_sem]
    have hbw : Below w.heap.size w wr := (ext_alloc (Below.refl _ _) _).trans (hbx.mono (by omega))
    have hlt0 : w.heap.size < wr.heap.size := World.block_lt_of_cell? _ _ hx0
    have Hbx := hid hbx
    have Hbw := hid hbw
    have hns := h.below hbw
    have Hns := hid hns
    clear hbx hbw
    by_cases hlt : k < n
    · rcases hns.mem with h0 | ⟨b, rfl, hr, hsl⟩
      · omega
      have hkl : k < ns.length := by rw [h.len]; exact hlt
      obtain ⟨⟨t, m⟩, hx⟩ : ∃ x, ns[k]? = some x := ⟨_, List.getElem?_eq_getElem hkl⟩
      obtain ⟨hc1, ga, gc, hc2, hgl⟩ := hr k _ hx hlt
      simp only at hc1 hc2 hgl
      have HT : Hid (t.size ≤ maxLen) := Hsz.out _ (List.mem_of_getElem? hx)
      have Hx := hid hx
      have Hgl := hid hgl
      have Hr := hid hr
      have Hsl := hid hsl
      have hbl : b < wr.heap.size := World.block_lt_of_cell? _ _ hc1
      clear hns hx hgl hr hsl
      go_wp2_with (go_at_call 41; refine (told (equalFold_any t s _ HT.out)).mono ?_)
      intro e w1 hp
      obtain ⟨rfl, hb1⟩ := hp.out
      have Hb1 : Hid (Below wr.heap.size wr w1) := ext_trans (ext_alloc (Below.refl _ _) _) hb1
      have y1 : w1.cell? ⟨wr.heap.size, 1, none⟩ = some (.slice ga m gc) := by rw [hb1.cell (by simp), World.cell?_alloc_new]; rfl
      have x1 := cell_below hx1 Hb1.out
      have x2 := cell_below hx2 Hb1.out
      have x3 := cell_below hx3 Hb1.out
      have hgl1 := Hgl.out.below Hb1.out
      have Hg0 := hid hgl1.1
      have hw1 : wr.heap.size < w1.heap.size := World.block_lt_of_cell? _ _ y1
      clear hp hb1 hx0 hx1 hx2 hx3 hc1 hc2 Hgl
      by_cases hkey : key t = key s
      · have hd : decide (key t = key s) = true := decide_eq_true hkey
        have Hf : Hid (wsv s ns = ns.set k (t, max m 1)) := wsv_found hnk.out Hx.out hkey
        clear hkey
        go_wp2_with (go_at_call 44; refine (told (contains_any ga m gc b _ hgl1)).mono ?_)
        intro e w2 hp
        obtain ⟨rfl, hb2⟩ := hp.out
        have y2 := cell_below y1 hb2
        have x4 := cell_below x1 hb2
        have x5 := cell_below x2 hb2
        have x6 := cell_below x3 hb2
        have hw2 : wr.heap.size < w2.heap.size := World.block_lt_of_cell? _ _ y2
        have Hb2 := hid (ext_trans Hb1.out hb2)
        clear hp hb2 y1 x1 x2 x3 Hb1 hw1 hgl1
        rcases Nat.eq_zero_or_pos m with h0 | h0
        · subst h0
          obtain ⟨rfl, hspot⟩ := Hg0.out rfl
          have Hsl2 := hid (Hsl.out.below Hb2.out hbl)
          have Hns2 := hid (Hr.out.below Hb2.out)
          have Hbw2 := hid (Hbw.out.trans (Hb2.out.mono (by omega)))
          go_wp2_with (at_builtin; refine wpList_append_grows _ rfl (.tmp 28) (.tmp 31) 41 rfl 52 i0 _ 3 24 Try.underlying41 hi0 hz0 hz1 hz2 rfl (by decide) ga 0 0 [] rfl (fun _ => ⟨rfl, rfl⟩) rfl (fun _ _ j u hu => by simp at hu) ⟨w2.heap.size, 0, none⟩ 1 1 [.int .u64 0, .int .u64 0, .pointer none] rfl rfl (World.news_of_block (cs := #[.int .u64 0, .int .u64 0, .pointer none]) (t := 52) (fr := (0, 0)) (heap_alloc_new w2 _)) (by simp [Value.oneCell']) (by omega) (by unfold maxLen; omega) (by omega) ?_)
          intro v' w3 hown hgrow
          obtain ⟨g, cp, rfl, hgg, hgl3⟩ := hown.form (by omega)
          have hb3 : Below w2.heap.size w2 w3 := ext_trans (ext_alloc (Below.refl _ _) _) ⟨hgrow.os, hgrow.tape, hgrow.output, hgrow.size, fun k hk => hgrow.block k hk (by simp)⟩
          have hbl2 : b < w2.heap.size := by have := Hb2.out.size; omega
          have Hsl3 := hid (Hsl2.out.below hb3 hbl2)
          obtain ⟨_, ⟨u2, e2⟩, _, e4⟩ := Hsl3.out k hlt
          have Hz3 : Hid (Zeros w3 g 1) := by
            intro j hj
            obtain rfl : j = 0 := by omega
            exact ⟨own_cell hown rfl, own_cell hown rfl, own_cell hown rfl⟩
          have Hgl3 : Hid (GlueAt w3 (some ⟨g, 0, none⟩) 1 cp b) := ⟨fun h0 => absurd h0 (by decide), fun _ => ⟨g, rfl, by omega, Hz3.out⟩⟩
          have Hns3 := hid (Hns2.out.below hb3)
          have Hbw3 := hid (Hbw2.out.trans (hb3.mono (by omega)))
          have He : Hid (wsv s ns = ns.set k (t, 1)) := Hf
          clear hown hgrow hb3 Hsl2 Hns2 Hbw2 y2 x4 x5 x6
          go_wp2
          go_ret
          refine ⟨⟨_, _, _, rfl, ?_, by simp, HBa.out⟩, (Hbw3.out.mono hB).setCell (by exact (HBa.out _ rfl).2) _⟩
          rw [He.out]
          exact ⟨by rw [List.length_set]; exact h.len, .inr ⟨b, rfl, Hns3.out.setGlue Hsl3.out hlt Hx.out Hgl3.out, Hsl3.out.set _ _⟩⟩
        · have hd2 : decide (0 < m) = true := decide_eq_true h0
          have He : Hid (wsv s ns = ns) := by show _ = _; rw [Hf.out]; exact set_same Hx.out h0
          have Hfin : Hid (NSs w2 (some ⟨b, 0, none⟩) n (wsv s ns)) := by rw [He.out]; exact Hns.out.below Hb2.out
          go_wp2
          go_ret
          exact ⟨⟨_, _, _, rfl, Hfin.out, by simp, HBa.out⟩, (Hbw.out.trans (Hb2.out.mono (by omega))).mono hB⟩
      · have hd : decide (key t = key s) = false := decide_eq_false hkey
        have Hn2 : Hid (NoKey s ns (k + 1)) := noKey_succ hnk.out Hx.out hkey
        clear hkey
        go_wp2
        go_roundw
        case rel => exact ⟨k + 1, by omega, by go_num, Hn2, Hbx.out.trans (Hb1.out.mono (by omega))⟩
        case measure => simp [intOf]; omega
    · have hkn : k = n := by omega
      subst hkn
      have He : Hid (wsv s ns = ns ++ [(s, 1)]) := wsv_none hnk.out (by rw [h.len]; exact Nat.le_refl _)
      have hck : c = k := by
        rcases Hcap.out with hc | ⟨x, hx, hxk⟩
        · exact hc
        · exact absurd hxk (hnk.out x (by rw [List.take_of_length_le (by rw [h.len]; exact Nat.le_refl _)]; exact hx))
      have Hfa : Hid (∀ o, ∃ ol, (∀ b, a = some ⟨b, 0, none⟩ → ol = olds ((wr.alloc (.cells #[.int .u64 0, .int .u64 0, .pointer none] 52)).alloc o) b (k * 2)) ∧ ol.length = k * 2 ∧ (∀ b, a = some b → ∀ j u, ol[j]? = some u → ((wr.alloc (.cells #[.int .u64 0, .int .u64 0, .pointer none] 52)).alloc o).cell? (b.add j) = some u)) := by
        intro o
        have hns2 := hns.below (ext_alloc (ext_alloc (Below.refl _ _) (.cells #[.int .u64 0, .int .u64 0, .pointer none] 52)) o)
        rcases hns2.mem with h0 | ⟨b, rfl, _, hsl⟩
        · subst h0
          exact ⟨[], fun b _ => by simp [olds], rfl, fun b _ j u hu => by simp at hu⟩
        · refine ⟨olds _ b (k * 2), fun b' hb' => by cases hb'; rfl, olds_length _ _ _, fun b' hb' j u hu => ?_⟩
          cases hb'
          rw [addr_add, Nat.zero_add]
          exact olds_cell hsl hu
      obtain ⟨ol, hol, holl, holc⟩ := Hfa.out (.cells #[.string s, .slice (some ⟨wr.heap.size, 0, none⟩) 1 1] 43)
      have Hol := hid hol
      have Holl := hid holl
      have Holc := hid holc
      have hkk : c < k + 1 := by omega
      clear hol holl holc Hfa hns hck
      go_wp2_with (at_builtin; refine wpList_append_grows _ rfl (.tmp 37) (.tmp 44) 39 rfl 43 j0 _ 2 40 Try.underlying39 hj0 hy0 hy1 hy2 rfl (by decide) a k c ol rfl ?qn Holl.out Holc.out ⟨wr.heap.size + 1, 0, none⟩ 1 1 [.string s, .slice (some ⟨wr.heap.size, 0, none⟩) 1 1] rfl rfl (World.news_of_block (cs := #[.string s, .slice (some ⟨wr.heap.size, 0, none⟩) 1 1]) (t := 43) (fr := (0, 0)) (heap_new2 wr _ _ _)) (by simp [Value.oneCell']) hkk (by unfold maxLen; omega) (by omega) ?_)
      case qn => intro ha; have := Hna.out ha; omega
      intro v' w3 hown hgrow
      obtain ⟨WA, hWA⟩ : ∃ WA, WA = (wr.alloc (.cells #[.int .u64 0, .int .u64 0, .pointer none] 52)).alloc (.cells #[.string s, .slice (some ⟨wr.heap.size, 0, none⟩) 1 1] 43) := ⟨_, rfl⟩
      rw [← hWA] at hgrow Hol
      have hWs : WA.heap.size = wr.heap.size + 1 + 1 := by rw [hWA]; simp
      have hb3 : Below WA.heap.size WA w3 := ⟨hgrow.os, hgrow.tape, hgrow.output, hgrow.size, fun k hk => hgrow.block k hk (by simp)⟩
      have hbA : Below wr.heap.size wr WA := by rw [hWA]; exact ext_alloc (ext_alloc (Below.refl _ _) _) _
      have hzA : Zeros WA wr.heap.size 1 := by
        intro j hj
        obtain rfl : j = 0 := by omega
        have e : ∀ o, WA.cell? ⟨wr.heap.size, o, none⟩ = (#[.int .u64 0, .int .u64 0, .pointer none] : Array Value)[o]? := fun o => by
          rw [hWA, World.cell?_alloc_lt _ _ _ (by simp), World.cell?_alloc_new]
        exact ⟨e _, e _, e _⟩
      rw [← hWs] at hown
      obtain ⟨g, cp, rfl, hg, hfin⟩ := NSs.appended (Hns.out.below hbA) Hol.out Holl.out hown hb3 (hzA.below hb3) (by omega)
      have Hfin := hid hfin
      have Hb := hid (Hbw.out.trans ((hbA.trans (hb3.mono (by omega))).mono (by omega)))
      have hgB : B ≤ g := by omega
      clear hown hgrow hb3 hbA hzA hWA hfin Hol Holl Holc hWs
      go_wp2
      go_ret
      refine ⟨⟨_, _, _, rfl, by rw [He.out]; exact Hfin.out, by simp, ?_⟩, Hb.out.mono hB⟩
      intro x hx
      cases hx
      exact ⟨rfl, hgB⟩
end Go.Proofs.Qxb6003717a
