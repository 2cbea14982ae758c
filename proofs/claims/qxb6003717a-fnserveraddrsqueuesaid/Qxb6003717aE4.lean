import Derived.Test.Qxb6003717aE3
namespace Go.Proofs.Qxb6003717a
open Go.RowKit
attribute [local go_sem ↓] Go.wp_at_zero Go.wp_at_succ

/-- Of the blocks of w only A and those of type e may have turned. -/
def OnlyT (A : Nat) (e : TypeId) (w w' : World) : Prop := Below A w w' ∧ ∀ k, k < w.heap.size → k ≠ A → (∀ c, w.heap[k]? ≠ some (.cells c e (0, 0))) → w'.heap[k]? = w.heap[k]?

theorem grown_only {A B : Nat} {e : TypeId} {size : Nat} {n : Nat} {xs : List Value} {v : Value} {wr wm w1 : World} (hA : A < wr.heap.size) (hAB : A < B) (h : OffRow wr B e size v n xs) (hm : Below wr.heap.size wr wm) (hg : wm.grownBy w1 (offOwn v)) (j : Nat) (u : Value) : OnlyT A e wr (w1.setCell ⟨A, j, none⟩ u) ∧ A < w1.heap.size ∧ w1.heap[A]? = wr.heap[A]? := by
  have hsz : wr.heap.size ≤ w1.heap.size := Nat.le_trans hm.size hg.size
  have hA1 : A < w1.heap.size := by omega
  have hblk : ∀ k, k < wr.heap.size → some k ≠ offOwn v → w1.heap[k]? = wr.heap[k]? := by
    intro k hk hne
    rw [hg.block k (by have := hm.size; omega) hne, hm.block k hk]
  refine ⟨⟨⟨hg.os.trans hm.os, hg.tape.trans hm.tape, hg.output.trans hm.output, by rw [size_setCell]; omega, fun k hk => ?_⟩, fun k hk hne hty => ?_⟩, hA1, hblk A hA (fun he => by have := (h.own_type he.symm).1; omega)⟩
  · rw [Below.heap_setCell _ _ _ _ (by simp; omega)]
    exact hblk k (by omega) (fun he => by have := (h.own_type he.symm).1; omega)
  · rw [Below.heap_setCell _ _ _ _ (by simpa using hne)]
    refine hblk k hk (fun he => ?_)
    obtain ⟨_, _, cur, hc⟩ := h.own_type he.symm
    exact hty cur hc

/-- One known address put on. -/
theorem QAt.push {w wm w1 : World} {A : Nat} {kl ul : List ByteArray} {ka : Option Addr} {kc : Nat} {s : ByteArray} {ao : Option Addr} {cap : Nat} (h : QAt w A kl ul) (hc : w.cell? ⟨A, 0, none⟩ = some (.slice ka kl.length kc))
    (hr : OffRow w (A + 1) 54 4 (.slice ka kl.length kc) kl.length (hintCells kl)) (hr1 : OffRow w1 (A + 1) 54 4 (.slice ao (kl.length + 1) cap) (kl.length + 1) (hintCells kl ++ hint1 s)) (hm : Below w.heap.size w wm) (hg : wm.grownBy w1 (offOwn (.slice ka kl.length kc))) :
    QAt (w1.setCell ⟨A, 0, none⟩ (.slice ao (kl.length + 1) cap)) A (kl ++ [s]) ul ∧ OnlyT A 54 w (w1.setCell ⟨A, 0, none⟩ (.slice ao (kl.length + 1) cap)) := by
  have hlt := h.lt
  obtain ⟨ho, hlt1, hAb⟩ := grown_only hlt (Nat.lt_succ_self A) hr hm hg 0 (.slice ao (kl.length + 1) cap)
  refine ⟨?_, ho⟩
  obtain ⟨ka', kc', ua, uc, h1, h2, h3, h4, h5, h6⟩ := h
  have c1 : w1.cell? ⟨A, 0, none⟩ = some (.slice ka kl.length kc) := by rw [World.cell?_of_block hAb]; exact hc
  have c2 : w1.cell? ⟨A, 1, none⟩ = some (.slice ua ul.length uc) := by rw [World.cell?_of_block hAb]; exact h2
  have f1 : w1.frozen? ⟨A, 0, none⟩ = false := by rw [World.frozen?_of_block hAb]; exact h3
  have f2 : w1.frozen? ⟨A, 1, none⟩ = false := by rw [World.frozen?_of_block hAb]; exact h4
  have hl : (kl ++ [s]).length = kl.length + 1 := by simp
  have r2 : OffRow w1 (A + 1) 26 1 (.slice ua ul.length uc) ul.length (ul.map Value.string) := by
    refine h6.kept fun k hk => ?_
    obtain ⟨hB, hlk, cur, hgk⟩ := h6.own_type hk
    have := ho.2 k hlk (by omega) (fun c e => by rw [hgk] at e; cases e)
    rw [Below.heap_setCell _ _ _ _ (by simp; omega)] at this
    exact this
  have := QAt.setK (kl := kl ++ [s]) (ka := ao) (kc := cap) (ul := ul) c1 c2 f1 f2 (by rw [hl, hintCells_snoc]; exact hr1) r2
  rw [hl] at this
  exact this

/-- One unresolved name put on. -/
theorem QAt.pushU {w wm w1 : World} {A : Nat} {kl ul : List ByteArray} {ua : Option Addr} {uc : Nat} {s : ByteArray} {ao : Option Addr} {cap : Nat} (h : QAt w A kl ul) (hc : w.cell? ⟨A, 1, none⟩ = some (.slice ua ul.length uc))
    (hr : OffRow w (A + 1) 26 1 (.slice ua ul.length uc) ul.length (ul.map Value.string)) (hr1 : OffRow w1 (A + 1) 26 1 (.slice ao (ul.length + 1) cap) (ul.length + 1) (ul.map Value.string ++ [.string s])) (hm : Below w.heap.size w wm) (hg : wm.grownBy w1 (offOwn (.slice ua ul.length uc))) :
    QAt (w1.setCell ⟨A, 1, none⟩ (.slice ao (ul.length + 1) cap)) A kl (ul ++ [s]) ∧ OnlyT A 26 w (w1.setCell ⟨A, 1, none⟩ (.slice ao (ul.length + 1) cap)) := by
  have hlt := h.lt
  obtain ⟨ho, hlt1, hAb⟩ := grown_only hlt (Nat.lt_succ_self A) hr hm hg 1 (.slice ao (ul.length + 1) cap)
  refine ⟨?_, ho⟩
  obtain ⟨ka, kc, ua', uc', h1, h2, h3, h4, h5, h6⟩ := h
  have c1 : w1.cell? ⟨A, 0, none⟩ = some (.slice ka kl.length kc) := by rw [World.cell?_of_block hAb]; exact h1
  have c2 : w1.cell? ⟨A, 1, none⟩ = some (.slice ua ul.length uc) := by rw [World.cell?_of_block hAb]; exact hc
  have f1 : w1.frozen? ⟨A, 0, none⟩ = false := by rw [World.frozen?_of_block hAb]; exact h3
  have f2 : w1.frozen? ⟨A, 1, none⟩ = false := by rw [World.frozen?_of_block hAb]; exact h4
  have hl : (ul ++ [s]).length = ul.length + 1 := by simp
  have r2 : OffRow w1 (A + 1) 54 4 (.slice ka kl.length kc) kl.length (hintCells kl) := by
    refine h5.kept fun k hk => ?_
    obtain ⟨hB, hlk, cur, hgk⟩ := h5.own_type hk
    have := ho.2 k hlk (by omega) (fun c e => by rw [hgk] at e; cases e)
    rw [Below.heap_setCell _ _ _ _ (by simp; omega)] at this
    exact this
  have := QAt.setU (ul := ul ++ [s]) (ua := ao) (uc := cap) (kl := kl) c1 c2 f1 f2 r2 (by rw [hl, List.map_append]; exact hr1)
  rw [hl] at this
  exact this

/-- m zero addresses lie in block g, which is a row of addresses. -/
def ZerosT (w : World) (g m : Nat) : Prop := Zeros w g m ∧ ∃ c, w.heap[g]? = some (.cells c 52 (0, 0))

set_option maxRecDepth 100000 in
set_option maxHeartbeats 400000 in
theorem zzZeroAddrs_typed (k : Nat) (hk : k ≤ 1048576) (w : World) :
    Calls Try.prog 26 #[.int .i64 (k : Int)] w fun e w' => (∃ g, e = .returned (.slice (some ⟨g, 0, none⟩) k k) ∧ w.heap.size ≤ g ∧ ZerosT w' g k) ∧ Below w.heap.size w w' := by
  have hmk := make41 k hk
  go_enter Try.func26, Try.ntmps26
  go_wp2
  go_ret
  exact ⟨⟨_, rfl, Nat.le_refl _, Zeros.made w k, _, heap_alloc_new _ _⟩, (Below.refl _ _).alloc (Nat.le_refl _) _⟩

set_option maxRecDepth 100000 in
set_option maxHeartbeats 1000000 in
theorem resolved_any (A : Nat) (s : ByteArray) (g f : Nat) (kl ul : List ByteArray) (w : World) (h : QAt w A kl ul) (hz : ZerosT w g f) (hgA : g ≠ A) (hk : kl.length + f ≤ 1048576) :
    Calls Try.prog 40 #[.pointer (some ⟨A, 0, none⟩), nm s, .slice (some ⟨g, 0, none⟩) f f] w fun e w' => e = .returned (.tuple #[]) ∧ QAt w' A (kl ++ List.replicate f s) ul ∧ Below A w w' := by
  obtain ⟨i0, hi0, hz0, hz1, hz2⟩ := info_parts Try.info54
  have hlt := h.lt
  have H := hid h
  have Hz := hid hz
  have hgl : g < w.heap.size := by obtain ⟨c, hc⟩ := hz.2; exact (Array.getElem?_eq_some_iff.1 hc).1
  clear h hz
  go_enter Try.func40, Try.ntmps40
  go_wp2
  go_loopw [10] (fun i wr => ∃ k : Nat, k ≤ f ∧ i = .int .i64 k ∧ Hid (QAt wr A (kl ++ List.replicate k s) ul) ∧ Hid (Below A w wr) ∧ Hid (wr.heap[w.heap.size]? = some (.cells #[.string s] 26 (0, 0))) ∧ Hid (wr.heap[g]? = w.heap[g]?)) (fun i _ => f - (intOf i).toNat)
  case atStart =>
    have hb : Below w.heap.size w (w.alloc (.cells #[.string s] 26)) := ext_alloc (Below.refl _ _) _
    exact ⟨0, Nat.zero_le _, rfl, by rw [List.replicate_zero, List.append_nil]; exact H.out.below hb, hb.mono (Nat.le_of_lt hlt), heap_alloc_new _ _, hb.block g hgl⟩
  case round =>
    obtain ⟨k, hkf, rfl, hq, hbel, hbox, hgk⟩ := hrel
    by_cases hltk : k < f
    · have hlr : (kl ++ List.replicate k s).length + 1 ≤ 1048576 := by simp; omega
      have Hk1 : Hid (kl ++ List.replicate (k + 1) s = (kl ++ List.replicate k s) ++ [s]) := by show _ = _; rw [List.replicate_succ', List.append_assoc]
      generalize kl ++ List.replicate k s = L at hq hlr Hk1
      have hltr := hq.out.lt
      obtain ⟨ka, kc, ua, uc, h1, h2, h3, h4, h5, h6⟩ := hq.out
      have hzk := Hz.out.1 k hltk
      have c0 : wr.cell? ⟨g, k * 3, none⟩ = some (.int .u64 0) := by rw [World.cell?_of_block hgk.out]; exact hzk.1
      have c1 : wr.cell? ⟨g, k * 3 + 1, none⟩ = some (.int .u64 0) := by rw [World.cell?_of_block hgk.out]; exact hzk.2.1
      have c2 : wr.cell? ⟨g, k * 3 + 1 + 1, none⟩ = some (.pointer none) := by rw [World.cell?_of_block hgk.out]; exact hzk.2.2
      have cb : wr.cell? ⟨w.heap.size, 0, none⟩ = some (.string s) := by rw [cell_of_row wr w.heap.size 0 _ _ _ hbox.out]; rfl
      have hbx : w.heap.size < wr.heap.size := (Array.getElem?_eq_some_iff.1 hbox.out).1
      have hfa2 : ∀ o o2, ((wr.alloc o).alloc o2).frozen? ⟨A, 0, none⟩ = false := fun o o2 => by rw [(((Below.refl wr.heap.size wr).alloc (Nat.le_refl _) o).alloc (by simp) o2).frozen (by exact hltr)]; exact h3
      have hca2 : ∀ o o2, ((wr.alloc o).alloc o2).cell? ⟨A, 0, none⟩ = some (.slice ka L.length kc) := fun o o2 => by rw [(((Below.refl wr.heap.size wr).alloc (Nat.le_refl _) o).alloc (by simp) o2).cell (by exact hltr)]; exact h1
      have H5 := hid h5
      have H1 := hid h1
      have hne' : some A ≠ offOwn (.slice ka L.length kc) := fun he => by have := (h5.own_type he.symm).1; omega
      have hk0 : (0 : Int) ≤ (k : Int) := by omega
      have hk1 : (k : Int) < (f : Int) := by omega
      clear h2 h4 h6 h5 hzk
      go_wp2
      go_region_law
        ((refine step_append_off (by rfl) _ _ _ (by rfl) 54 i0 _ 4 40 Try.underlying94 hi0 hz0 hz1 hz2 rfl (by omega) (A + 1) (.slice ka L.length kc) L.length (hintCells L) (by rfl) ((H5.out.below (ext_alloc (ext_alloc (Below.refl _ _) _) _).drew))
            ⟨wr.heap.size + 1, 0, none⟩ 1 (hint1 s) (by rfl) (by rfl) (World.news_of_block (cs := #[.string s, .int .u64 0, .int .u64 0, .pointer none]) (t := 54) (fr := (0, 0)) (heap_new2 wr _ _ _)) (by simp [hint1, Value.oneCell'])
            hlr (by omega) (by simp; omega) ?_; intro ao1 cap1 w1 hown1 hgrow; have hcw1 : w1.cell? ⟨A, 0, none⟩ = some (.slice ka L.length kc) := (hgrow.cell_far ⟨A, 0, none⟩ (by simp; omega) hne').trans (hca2 _ _); have hfw1 : w1.frozen? ⟨A, 0, none⟩ = false := (hgrow.frozen_far ⟨A, 0, none⟩ (by simp; omega) hne').trans (hfa2 _ _)))
      all_goals
        go_wp2
        go_roundw
        case rel =>
          obtain ⟨hq1, ho1⟩ := QAt.push hq.out H1.out H5.out hown1 (ext_alloc (ext_alloc (Below.refl _ _) _) _).drew hgrow
          refine ⟨k + 1, by omega, by go_num, ?_, hbel.out.trans ho1.1, ?_, ?_⟩
          · rw [Hk1.out]; exact hq1
          · exact (ho1.2 _ hbx (by omega) (fun c e => by rw [hbox.out] at e; cases e)).trans hbox.out
          · obtain ⟨c, hc⟩ := Hz.out.2
            refine (ho1.2 g (by omega) hgA (fun c' e => ?_)).trans hgk.out
            rw [hgk.out, hc] at e
            cases e
        case measure => simp [intOf]; omega
    · have hkn : k = f := by omega
      subst hkn
      go_wp2
      exact bodyPost_end (v := .tuple #[]) (by simp [results, Try.results40, go_sem]) rfl ⟨rfl, hq.out, hbel.out⟩

set_option maxRecDepth 100000 in
set_option maxHeartbeats 1000000 in
theorem zzResolved_any (A : Nat) (s : ByteArray) (g f : Nat) (kl ul : List ByteArray) (w : World) (h : QAt w A kl ul) (hz : ZerosT w g f) (hgA : g ≠ A) (hk : kl.length + f ≤ 1048576) :
    Calls Try.prog 25 #[.pointer (some ⟨A, 0, none⟩), nm s, .slice (some ⟨g, 0, none⟩) f f] w fun e w' => e = .returned (.tuple #[]) ∧ QAt w' A (kl ++ List.replicate f s) ul ∧ Below A w w' := by
  have hlt := h.lt
  have H : Hid (∀ o, QAt (w.alloc o) A kl ul) := fun o => h.below (ext_alloc (Below.refl _ _) o)
  have Hz : Hid (∀ o, ZerosT (w.alloc o) g f) := fun o => ⟨hz.1.below (ext_alloc (Below.refl _ _) o), by
    obtain ⟨c, hc⟩ := hz.2
    exact ⟨c, by rw [Below.heap_alloc _ _ _ ((Array.getElem?_eq_some_iff.1 hc).1)]; exact hc⟩⟩
  clear h hz
  go_enter Try.func25, Try.ntmps25
  go_wp2_with (go_at_call 40; refine (told (resolved_any A s g f kl ul _ (H.out _) (Hz.out _) hgA hk)).mono ?_)
  intro e w1 hp
  obtain ⟨rfl, hq, hb1⟩ := hp.out
  have Hq := hid hq
  have Hb := hid (((Below.refl A w).alloc (Nat.le_of_lt hlt) _).trans hb1)
  clear hp hb1 H hq Hz
  go_wp2
  exact bodyPost_end (v := .tuple #[]) (by simp [results, Try.results25, go_sem]) rfl ⟨rfl, Hq.out, Hb.out⟩
end Go.Proofs.Qxb6003717a
