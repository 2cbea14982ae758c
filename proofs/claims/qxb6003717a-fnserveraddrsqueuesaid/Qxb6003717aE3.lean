import Derived.Test.Qxb6003717aE2
namespace Go.Proofs.Qxb6003717a
open Go.RowKit
attribute [local go_sem ↓] Go.wp_at_zero Go.wp_at_succ

set_option maxRecDepth 100000 in
set_option maxHeartbeats 400000 in
theorem unres_nil (A : Nat) (kl : List ByteArray) (w : World) (h : QAt w A kl []) :
    Calls Try.prog 39 #[.pointer (some ⟨A, 0, none⟩)] w fun e w' => e = .returned (.tuple #[.agg #[.string ⟨#[]⟩], .bool false]) ∧ Below w.heap.size w w' := by
  have hlt := h.lt
  obtain ⟨ka, kc, ua, uc, h1, h2, h3, h4, h5, h6⟩ := h
  clear h5 h6
  simp only [List.length_nil] at h2
  go_enter Try.func39, Try.ntmps39
  go_wp2
  exact bodyPost_ret (v := .tuple #[.agg #[.string ⟨#[]⟩], .bool false]) (by simp [results, Try.results39, go_sem]) rfl ⟨rfl, (Below.refl _ _).alloc (Nat.le_refl _) _⟩

set_option maxRecDepth 100000 in
set_option maxHeartbeats 1000000 in
theorem unres_cons (A N : Nat) (s : ByteArray) (kl ul : List ByteArray) (w : World) (h : QIn w A N kl (s :: ul)) (hk : ul.length ≤ 1048576) :
    Calls Try.prog 39 #[.pointer (some ⟨A, 0, none⟩)] w fun e w' => e = .returned (.tuple #[.agg #[.string s], .bool true]) ∧ QIn w' A N kl ul ∧ Only A w w' := by
  obtain ⟨w0, hN, h, hb0⟩ := h
  have hlt := h.lt
  have hNw : N ≤ w.heap.size := by have := hb0.size; omega
  rw [hN] at hlt
  obtain ⟨ka, kc, ua, uc, h1, h2, h3, h4, h5, h6⟩ := h
  obtain ⟨g, off, cap, hv, hnc, hcm, hgB, hgl, hcells⟩ := h6.at_ (by simp)
  cases hv
  rw [hN] at hgl
  have hltw : A < w.heap.size := by omega
  have hglw : g < w.heap.size := by omega
  have tr : ∀ b j v, b < N → w0.cell? ⟨b, j, none⟩ = some v → w.cell? ⟨b, j, none⟩ = some v := fun b j v hb hc => by rw [hb0.cell hb]; exact hc
  have k0 := tr _ _ _ hgl (hcells 0 (.string s) rfl)
  simp only [Nat.add_zero] at k0
  simp only [List.length_cons] at h2 hnc
  unfold maxLen at hcm
  have H1 := hid h1
  have H2 := hid h2
  have H3 := hid h3
  have H4 := hid h4
  have H5 := hid h5
  have H6 := hid h6
  have Hb0 := hid hb0
  have c0 := tr _ _ _ hlt h2
  have f0 : w.frozen? ⟨A, 1, none⟩ = false := by rw [hb0.frozen hlt]; exact h4
  clear h1 h2 h3 h4 h5 h6 hcells tr hb0
  have hk1 : (1 : Int) ≤ (ul.length : Int) + 1 := by omega
  have hk2 : (ul.length : Int) + 1 ≤ (uc : Int) := by omega
  have fin : Hid (∀ off', (off' = off + 1 ∨ (uc = 1 ∧ off' = off)) → ∀ o, QIn ((w.setCell ⟨A, 1, none⟩ (.slice (some ⟨g, off', none⟩) ul.length (uc - 1))).alloc o).drew A N kl ul ∧ Only A w ((w.setCell ⟨A, 1, none⟩ (.slice (some ⟨g, off', none⟩) ul.length (uc - 1))).alloc o).drew) := by
    intro off' ho o
    have ht := H6.out.tail (by simp) off' ho
    simp only [List.length_cons, Nat.add_sub_cancel] at ht
    have hdr : ((s :: ul).map Value.string).drop 1 = ul.map Value.string := rfl
    rw [hdr] at ht
    refine ⟨⟨w0.setCell ⟨A, 1, none⟩ (.slice (some ⟨g, off', none⟩) ul.length (uc - 1)), by rw [size_setCell]; exact hN, QAt.setU H1.out H2.out H3.out H4.out H5.out ht, ?_⟩, only_set w A 1 _ o hltw⟩
    exact ((below_both Hb0.out _ _).alloc (by rw [size_setCell]; exact hNw) o).drew
  by_cases hkc : uc = 1
  · subst hkc
    have hl0 : ul.length = 0 := by omega
    have Fin := hid (fin.out off (.inr ⟨rfl, rfl⟩))
    clear fin H5 H6 H1 H2 H3 H4 Hb0
    go_enter Try.func39, Try.ntmps39
    go_wp2
    go_big_region
    go_wp2
    refine bodyPost_ret (v := .tuple #[.agg #[.string s], .bool true]) (by simp [results, Try.results39, go_sem]) rfl ⟨rfl, ?_⟩
    have hfin := Fin.out (.cells #[.string s] 26)
    simp only [hl0, Nat.sub_self] at hfin
    exact hfin
  · have Fin := hid (fin.out (off + 1) (.inl rfl))
    clear fin H5 H6 H1 H2 H3 H4 Hb0
    go_enter Try.func39, Try.ntmps39
    go_wp2
    go_big_region
    go_wp2
    refine bodyPost_ret (v := .tuple #[.agg #[.string s], .bool true]) (by simp [results, Try.results39, go_sem]) rfl ⟨rfl, ?_⟩
    exact Fin.out _

set_option maxRecDepth 100000 in
set_option maxHeartbeats 400000 in
theorem zzUnres_nil (A : Nat) (kl : List ByteArray) (w : World) (h : QAt w A kl []) :
    Calls Try.prog 24 #[.pointer (some ⟨A, 0, none⟩)] w fun e w' => e = .returned (.tuple #[.agg #[.string ⟨#[]⟩], .bool false]) ∧ Below w.heap.size w w' := by
  have H : Hid (∀ o, QAt (w.alloc o) A kl []) := fun o => h.below (ext_alloc (Below.refl _ _) o)
  clear h
  go_enter Try.func24, Try.ntmps24
  go_wp2_with (go_at_call 39; refine (told (unres_nil A kl _ (H.out _))).mono ?_)
  intro e w1 hp
  obtain ⟨rfl, hb1⟩ := hp.out
  have e0 : w1.cell? ⟨w.heap.size, 0, none⟩ = some (.string ⟨#[]⟩) := by rw [hb1.cell (by simp), World.cell?_alloc_new]; rfl
  have f : ∀ j, w1.frozen? ⟨w.heap.size, j, none⟩ = false := fun j => by rw [hb1.frozen (by simp)]; simp [go_sem]
  have Hb := hid (ext_trans (ext_alloc (Below.refl _ _) _) hb1)
  clear hp hb1 H
  go_wp2
  refine bodyPost_ret (v := .tuple #[.agg #[.string ⟨#[]⟩], .bool false]) (by simp [results, Try.results24, go_sem, e0]) rfl ⟨rfl, ?_⟩
  exact Hb.out.setCell (by simp) _

set_option maxRecDepth 100000 in
set_option maxHeartbeats 400000 in
theorem zzUnres_cons (A : Nat) (s : ByteArray) (kl ul : List ByteArray) (w : World) (h : QAt w A kl (s :: ul)) (hk : ul.length ≤ 1048576) :
    Calls Try.prog 24 #[.pointer (some ⟨A, 0, none⟩)] w fun e w' => e = .returned (.tuple #[.agg #[.string s], .bool true]) ∧ QAt w' A kl ul ∧ Below A w w' := by
  have H : Hid (∀ o, QIn (w.alloc o) A w.heap.size kl (s :: ul)) := fun o => h.in_.below (ext_alloc (Below.refl _ _) o)
  have hlt := h.lt
  clear h
  go_enter Try.func24, Try.ntmps24
  go_wp2_with (go_at_call 39; refine (told (unres_cons A w.heap.size s kl ul _ (H.out _) hk)).mono ?_)
  intro e w1 hp
  obtain ⟨rfl, hq, hb1, hb2⟩ := hp.out
  have hbR := hb2 w.heap.size (by simp) (by omega)
  have e0 : w1.cell? ⟨w.heap.size, 0, none⟩ = some (.string ⟨#[]⟩) := by rw [World.cell?_of_block hbR, World.cell?_alloc_new]; rfl
  have f : ∀ j, w1.frozen? ⟨w.heap.size, j, none⟩ = false := fun j => by rw [World.frozen?_of_block hbR]; simp [go_sem]
  have Hq := hid hq
  have Hb := hid (((Below.refl A w).alloc (Nat.le_of_lt hlt) _).trans hb1)
  clear hp hb1 hb2 H hq hbR
  go_wp2
  refine bodyPost_ret (v := .tuple #[.agg #[.string s], .bool true]) (by simp [results, Try.results24, go_sem, e0]) rfl ⟨rfl, (Hq.out.below ?_).out, Hb.out.setCell (by simp; omega) _⟩
  exact (Below.refl _ _).setCell (by simp) _
end Go.Proofs.Qxb6003717a
