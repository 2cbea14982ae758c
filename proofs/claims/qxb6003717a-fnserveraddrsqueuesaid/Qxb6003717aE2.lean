import Derived.Test.Qxb6003717aE1
namespace Go.Proofs.Qxb6003717a
open Go.RowKit
attribute [local go_sem ↓] Go.wp_at_zero Go.wp_at_succ

theorem Try.info54 : (Try.prog.info? 54).map (fun i => (i.zero, i.size, i.bytes)) = some (some (.agg #[.string ⟨#[]⟩, .int .u64 0, .int .u64 0, .pointer none]), 4, 40) := by kernel_rfl

/-- The queue at block A: the names of the known addresses, and the names not yet resolved. -/
def QAt (w : World) (A : Nat) (kl ul : List ByteArray) : Prop :=
  ∃ ka kc ua uc, w.cell? ⟨A, 0, none⟩ = some (.slice ka kl.length kc) ∧ w.cell? ⟨A, 1, none⟩ = some (.slice ua ul.length uc) ∧ w.frozen? ⟨A, 0, none⟩ = false ∧ w.frozen? ⟨A, 1, none⟩ = false ∧
    OffRow w (A + 1) 54 4 (.slice ka kl.length kc) kl.length (hintCells kl) ∧ OffRow w (A + 1) 26 1 (.slice ua ul.length uc) ul.length (ul.map Value.string)

theorem QAt.lt {w : World} {A : Nat} {kl ul : List ByteArray} (h : QAt w A kl ul) : A < w.heap.size := by
  obtain ⟨ka, kc, ua, uc, h1, _⟩ := h
  exact World.block_lt_of_cell? _ _ h1
theorem QAt.below {w w' : World} {A : Nat} {kl ul : List ByteArray} (h : QAt w A kl ul) (hb : Below w.heap.size w w') : QAt w' A kl ul := by
  have hlt := h.lt
  obtain ⟨ka, kc, ua, uc, h1, h2, h3, h4, h5, h6⟩ := h
  exact ⟨ka, kc, ua, uc, cell_below h1 hb, cell_below h2 hb, frozen_below h3 hlt hb, frozen_below h4 hlt hb, h5.below hb, h6.below hb⟩

theorem OffRow.set_low {w : World} {B : Nat} {e : TypeId} {size : Nat} {v : Value} {n : Nat} {xs : List Value} (h : OffRow w B e size v n xs) (p : Addr) (hp : p.block < B) (u : Value) : OffRow (w.setCell p u) B e size v n xs :=
  h.kept fun k hk => Below.heap_setCell w p u k (by have := (h.own_type hk).1; omega)

/-- The first field stored. -/
theorem QAt.setK {w : World} {A : Nat} {kl ul : List ByteArray} {ka ua : Option Addr} {kc uc : Nat} {v0 : Value} (h1 : w.cell? ⟨A, 0, none⟩ = some v0) (h2 : w.cell? ⟨A, 1, none⟩ = some (.slice ua ul.length uc)) (h3 : w.frozen? ⟨A, 0, none⟩ = false) (h4 : w.frozen? ⟨A, 1, none⟩ = false)
    (h5 : OffRow w (A + 1) 54 4 (.slice ka kl.length kc) kl.length (hintCells kl)) (h6 : OffRow w (A + 1) 26 1 (.slice ua ul.length uc) ul.length (ul.map Value.string)) : QAt (w.setCell ⟨A, 0, none⟩ (.slice ka kl.length kc)) A kl ul :=
  ⟨ka, kc, ua, uc, World.cell?_setCell_same _ _ _ h1, by rw [World.cell?_setCell_other _ _ _ _ (by intro e; simp at e)]; exact h2, by rw [World.frozen?_setCell]; exact h3, by rw [World.frozen?_setCell]; exact h4, h5.set_low _ (Nat.lt_succ_self A) _, h6.set_low _ (Nat.lt_succ_self A) _⟩
/-- The second field stored. -/
theorem QAt.setU {w : World} {A : Nat} {kl ul : List ByteArray} {ka ua : Option Addr} {kc uc : Nat} {v0 : Value} (h1 : w.cell? ⟨A, 0, none⟩ = some (.slice ka kl.length kc)) (h2 : w.cell? ⟨A, 1, none⟩ = some v0) (h3 : w.frozen? ⟨A, 0, none⟩ = false) (h4 : w.frozen? ⟨A, 1, none⟩ = false)
    (h5 : OffRow w (A + 1) 54 4 (.slice ka kl.length kc) kl.length (hintCells kl)) (h6 : OffRow w (A + 1) 26 1 (.slice ua ul.length uc) ul.length (ul.map Value.string)) : QAt (w.setCell ⟨A, 1, none⟩ (.slice ua ul.length uc)) A kl ul :=
  ⟨ka, kc, ua, uc, by rw [World.cell?_setCell_other _ _ _ _ (by intro e; simp at e)]; exact h1, World.cell?_setCell_same _ _ _ h2, by rw [World.frozen?_setCell]; exact h3, by rw [World.frozen?_setCell]; exact h4, h5.set_low _ (Nat.lt_succ_self A) _, h6.set_low _ (Nat.lt_succ_self A) _⟩

set_option maxRecDepth 100000 in
set_option maxHeartbeats 400000 in
theorem left_any (A : Nat) (kl ul : List ByteArray) (w : World) (h : QAt w A kl ul) (hk : kl.length ≤ 1048576) (hu : ul.length ≤ 1048576) :
    Calls Try.prog 37 #[.pointer (some ⟨A, 0, none⟩)] w fun e w' => e = .returned (.int .i64 ((kl.length : Int) + (ul.length : Int))) ∧ ∃ n, w' = w.drewN n := by
  obtain ⟨ka, kc, ua, uc, h1, h2, h3, h4, h5, h6⟩ := h
  clear h5 h6
  go_enter Try.func37, Try.ntmps37
  go_wp2
  go_quiet (fail)
  go_wp2
  go_ret
  exact ⟨rfl, _, rfl⟩

set_option maxRecDepth 100000 in
set_option maxHeartbeats 400000 in
theorem zzLeft_any (A : Nat) (kl ul : List ByteArray) (w : World) (h : QAt w A kl ul) (hk : kl.length ≤ 1048576) (hu : ul.length ≤ 1048576) :
    Calls Try.prog 22 #[.pointer (some ⟨A, 0, none⟩)] w fun e w' => e = .returned (.int .i64 ((kl.length : Int) + (ul.length : Int))) ∧ ∃ n, w' = w.drewN n := by
  have H := hid h
  clear h
  go_enter Try.func22, Try.ntmps22
  go_wp2_with (go_at_call 37; refine (told (left_any A kl ul _ H.out hk hu)).mono ?_)
  intro e w1 hp
  obtain ⟨rfl, q, rfl⟩ := hp.out
  clear hp
  go_wp2
  go_ret
  exact ⟨rfl, _, rfl⟩

set_option maxRecDepth 100000 in
set_option maxHeartbeats 400000 in
theorem next_nil (A : Nat) (ul : List ByteArray) (w : World) (h : QAt w A [] ul) :
    Calls Try.prog 38 #[.pointer (some ⟨A, 0, none⟩)] w fun e w' => e = .returned (.tuple #[sz ⟨#[]⟩, .bool false]) ∧ Below w.heap.size w w' := by
  have hlt := h.lt
  obtain ⟨ka, kc, ua, uc, h1, h2, h3, h4, h5, h6⟩ := h
  clear h5 h6
  simp only [List.length_nil] at h1
  go_enter Try.func38, Try.ntmps38
  go_wp2
  exact bodyPost_ret (v := .tuple #[sz ⟨#[]⟩, .bool false]) (by simp [results, Try.results38, go_sem]) rfl ⟨rfl, (Below.refl _ _).alloc (Nat.le_refl _) _⟩

/-- The same store on both sides. -/
theorem below_both {B : Nat} {w0 w : World} (h : Below B w0 w) (p : Addr) (u : Value) : Below B (w0.setCell p u) (w.setCell p u) :=
  ⟨h.os, h.tape, h.output, by rw [size_setCell, size_setCell]; exact h.size, fun k hk => by simp only [World.setCell, Array.getElem?_modify, h.block k hk]⟩

/-- The queue at block A, she and her rows within the first N blocks. -/
def QIn (w : World) (A N : Nat) (kl ul : List ByteArray) : Prop := ∃ w0 : World, w0.heap.size = N ∧ QAt w0 A kl ul ∧ Below N w0 w
theorem QAt.in_ {w : World} {A : Nat} {kl ul : List ByteArray} (h : QAt w A kl ul) : QIn w A w.heap.size kl ul := ⟨w, rfl, h, Below.refl _ _⟩
theorem QIn.out {w : World} {A N : Nat} {kl ul : List ByteArray} (h : QIn w A N kl ul) : QAt w A kl ul := by
  obtain ⟨w0, rfl, h1, h2⟩ := h
  exact h1.below h2
theorem QIn.below {w w' : World} {A N : Nat} {kl ul : List ByteArray} (h : QIn w A N kl ul) (hb : Below N w w') : QIn w' A N kl ul := by
  obtain ⟨w0, h0, h1, h2⟩ := h
  exact ⟨w0, h0, h1, h2.trans hb⟩

/-- Of the blocks of w only A may have turned. -/
def Only (A : Nat) (w w' : World) : Prop := Below A w w' ∧ ∀ k, k < w.heap.size → k ≠ A → w'.heap[k]? = w.heap[k]?
theorem only_set (w : World) (A j : Nat) (v : Value) (o : Obj) (hA : A < w.heap.size) : Only A w ((w.setCell ⟨A, j, none⟩ v).alloc o).drew :=
  ⟨(((Below.refl A w).setCell (Nat.le_refl _) _).alloc (by rw [size_setCell]; omega) o).drew, fun k hk hne => by
    show (((w.setCell ⟨A, j, none⟩ v).alloc o).heap)[k]? = _
    rw [Below.heap_alloc _ _ _ (by rw [size_setCell]; exact hk), Below.heap_setCell _ _ _ _ hne]⟩

set_option maxRecDepth 100000 in
set_option maxHeartbeats 1000000 in
theorem next_cons (A N : Nat) (s : ByteArray) (kl ul : List ByteArray) (w : World) (h : QIn w A N (s :: kl) ul) (hk : kl.length ≤ 1048576) :
    Calls Try.prog 38 #[.pointer (some ⟨A, 0, none⟩)] w fun e w' => e = .returned (.tuple #[sz s, .bool true]) ∧ QIn w' A N kl ul ∧ Only A w w' := by
  obtain ⟨w0, hN, h, hb0⟩ := h
  have hlt := h.lt
  have hNw : N ≤ w.heap.size := by have := hb0.size; omega
  rw [hN] at hlt
  obtain ⟨ka, kc, ua, uc, h1, h2, h3, h4, h5, h6⟩ := h
  obtain ⟨g, off, cap, hv, hnc, hcm, hgB, hgl, hcells⟩ := h5.at_ (by simp)
  cases hv
  rw [hN] at hgl
  have hltw : A < w.heap.size := by omega
  have hglw : g < w.heap.size := by omega
  have tr : ∀ b j v, b < N → w0.cell? ⟨b, j, none⟩ = some v → w.cell? ⟨b, j, none⟩ = some v := fun b j v hb hc => by rw [hb0.cell hb]; exact hc
  have k0 := tr _ _ _ hgl (hcells 0 (.string s) rfl)
  have k1 := tr _ _ _ hgl (hcells 1 (.int .u64 0) rfl)
  have k2 := tr _ _ _ hgl (hcells 2 (.int .u64 0) rfl)
  have k3 := tr _ _ _ hgl (hcells 3 (.pointer none) rfl)
  simp only [Nat.add_zero] at k0
  have k2' : w.cell? ⟨g, off + 1 + 1, none⟩ = some (.int .u64 0) := k2
  have k3' : w.cell? ⟨g, off + 1 + 1 + 1, none⟩ = some (.pointer none) := k3
  simp only [List.length_cons] at h1 hnc
  unfold maxLen at hcm
  have H1 := hid h1
  have H2 := hid h2
  have H3 := hid h3
  have H4 := hid h4
  have H5 := hid h5
  have H6 := hid h6
  have Hb0 := hid hb0
  have c0 := tr _ _ _ hlt h1
  have f0 : w.frozen? ⟨A, 0, none⟩ = false := by rw [hb0.frozen hlt]; exact h3
  clear h1 h2 h3 h4 h5 h6 hcells k2 k3 tr hb0
  have hk1 : (1 : Int) ≤ (kl.length : Int) + 1 := by omega
  have hk2 : (kl.length : Int) + 1 ≤ (kc : Int) := by omega
  have fin : Hid (∀ off', (off' = off + 4 ∨ (kc = 1 ∧ off' = off)) → ∀ o, QIn ((w.setCell ⟨A, 0, none⟩ (.slice (some ⟨g, off', none⟩) kl.length (kc - 1))).alloc o).drew A N kl ul ∧ Only A w ((w.setCell ⟨A, 0, none⟩ (.slice (some ⟨g, off', none⟩) kl.length (kc - 1))).alloc o).drew) := by
    intro off' ho o
    have ht := H5.out.tail (by simp) off' ho
    simp only [List.length_cons, Nat.add_sub_cancel] at ht
    have hdr : (hintCells (s :: kl)).drop 4 = hintCells kl := rfl
    rw [hdr] at ht
    refine ⟨⟨w0.setCell ⟨A, 0, none⟩ (.slice (some ⟨g, off', none⟩) kl.length (kc - 1)), by rw [size_setCell]; exact hN, QAt.setK H1.out H2.out H3.out H4.out ht H6.out, ?_⟩, only_set w A 0 _ o hltw⟩
    exact ((below_both Hb0.out _ _).alloc (by rw [size_setCell]; exact hNw) o).drew
  by_cases hkc : kc = 1
  · subst hkc
    have hl0 : kl.length = 0 := by omega
    have Fin := hid (fin.out off (.inr ⟨rfl, rfl⟩))
    clear fin H5 H6 H1 H2 H3 H4 Hb0
    go_enter Try.func38, Try.ntmps38
    go_wp2
    go_big_region
    go_wp2
    refine bodyPost_ret (v := .tuple #[sz s, .bool true]) (by simp [results, Try.results38, go_sem]) rfl ⟨rfl, ?_⟩
    have hfin := Fin.out (.cells #[.string s, .int .u64 0, .int .u64 0, .pointer none] 54)
    simp only [hl0, Nat.sub_self] at hfin
    exact hfin
  · have Fin := hid (fin.out (off + 4) (.inl rfl))
    clear fin H5 H6 H1 H2 H3 H4 Hb0
    go_enter Try.func38, Try.ntmps38
    go_wp2
    go_big_region
    go_wp2
    refine bodyPost_ret (v := .tuple #[sz s, .bool true]) (by simp [results, Try.results38, go_sem]) rfl ⟨rfl, ?_⟩
    exact Fin.out _

set_option maxRecDepth 100000 in
set_option maxHeartbeats 400000 in
theorem zzNext_nil (A : Nat) (ul : List ByteArray) (w : World) (h : QAt w A [] ul) :
    Calls Try.prog 23 #[.pointer (some ⟨A, 0, none⟩)] w fun e w' => e = .returned (.tuple #[sz ⟨#[]⟩, .bool false]) ∧ Below w.heap.size w w' := by
  have H : Hid (∀ o, QAt (w.alloc o) A [] ul) := fun o => h.below (ext_alloc (Below.refl _ _) o)
  clear h
  go_enter Try.func23, Try.ntmps23
  go_wp2_with (go_at_call 38; refine (told (next_nil A ul _ (H.out _))).mono ?_)
  intro e w1 hp
  obtain ⟨rfl, hb1⟩ := hp.out
  have hb2 := hb1
  have e0 : w1.cell? ⟨w.heap.size, 0, none⟩ = some (.string ⟨#[]⟩) := by rw [hb1.cell (by simp), World.cell?_alloc_new]; rfl
  have e1 : w1.cell? ⟨w.heap.size, 1, none⟩ = some (.int .u64 0) := by rw [hb1.cell (by simp), World.cell?_alloc_new]; rfl
  have e2 : w1.cell? ⟨w.heap.size, 1 + 1, none⟩ = some (.int .u64 0) := by rw [hb1.cell (by simp), World.cell?_alloc_new]; rfl
  have e3 : w1.cell? ⟨w.heap.size, 1 + 1 + 1, none⟩ = some (.pointer none) := by rw [hb1.cell (by simp), World.cell?_alloc_new]; rfl
  have f : ∀ j, w1.frozen? ⟨w.heap.size, j, none⟩ = false := fun j => by rw [hb1.frozen (by simp)]; simp [go_sem]
  have Hb := hid (ext_trans (ext_alloc (Below.refl _ _) _) hb1)
  clear hp hb1 hb2 H
  go_wp2
  refine bodyPost_ret (v := .tuple #[sz ⟨#[]⟩, .bool false]) (by simp [results, Try.results23, go_sem, e0, e1, e2, e3]) rfl ⟨rfl, ?_⟩
  exact (((Hb.out.setCell (by simp) _).setCell (by simp) _).setCell (by simp) _).setCell (by simp) _

set_option maxRecDepth 100000 in
set_option maxHeartbeats 400000 in
theorem zzNext_cons (A : Nat) (s : ByteArray) (kl ul : List ByteArray) (w : World) (h : QAt w A (s :: kl) ul) (hk : kl.length ≤ 1048576) :
    Calls Try.prog 23 #[.pointer (some ⟨A, 0, none⟩)] w fun e w' => e = .returned (.tuple #[sz s, .bool true]) ∧ QAt w' A kl ul ∧ Below A w w' := by
  have H : Hid (∀ o, QIn (w.alloc o) A w.heap.size (s :: kl) ul) := fun o => h.in_.below (ext_alloc (Below.refl _ _) o)
  have hlt := h.lt
  clear h
  go_enter Try.func23, Try.ntmps23
  go_wp2_with (go_at_call 38; refine (told (next_cons A w.heap.size s kl ul _ (H.out _) hk)).mono ?_)
  intro e w1 hp
  obtain ⟨rfl, hq, hb1, hb2⟩ := hp.out
  have hbR := hb2 w.heap.size (by simp) (by omega)
  have e0 : w1.cell? ⟨w.heap.size, 0, none⟩ = some (.string ⟨#[]⟩) := by rw [World.cell?_of_block hbR, World.cell?_alloc_new]; rfl
  have e1 : w1.cell? ⟨w.heap.size, 1, none⟩ = some (.int .u64 0) := by rw [World.cell?_of_block hbR, World.cell?_alloc_new]; rfl
  have e2 : w1.cell? ⟨w.heap.size, 1 + 1, none⟩ = some (.int .u64 0) := by rw [World.cell?_of_block hbR, World.cell?_alloc_new]; rfl
  have e3 : w1.cell? ⟨w.heap.size, 1 + 1 + 1, none⟩ = some (.pointer none) := by rw [World.cell?_of_block hbR, World.cell?_alloc_new]; rfl
  have f : ∀ j, w1.frozen? ⟨w.heap.size, j, none⟩ = false := fun j => by rw [World.frozen?_of_block hbR]; simp [go_sem]
  have Hq := hid hq
  have Hb := hid (((Below.refl A w).alloc (Nat.le_of_lt hlt) _).trans hb1)
  clear hp hb1 hb2 H hq hbR
  go_wp2
  refine bodyPost_ret (v := .tuple #[sz s, .bool true]) (by simp [results, Try.results23, go_sem, e0, e1, e2, e3]) rfl ⟨rfl, (Hq.out.below ?_).out, (((Hb.out.setCell (by simp; omega) _).setCell (by simp; omega) _).setCell (by simp; omega) _).setCell (by simp; omega) _⟩
  exact ((((Below.refl _ _).setCell (by simp) _).setCell (by simp) _).setCell (by simp) _).setCell (by simp) _

/-- A write into a block that is neither the queue's nor a row's of hers. -/
theorem QAt.kept {w w' : World} {A : Nat} {kl ul : List ByteArray} (h : QAt w A kl ul) (ha : w'.heap[A]? = w.heap[A]?) (hf : w'.frozen? ⟨A, 0, none⟩ = false ∧ w'.frozen? ⟨A, 1, none⟩ = false) (hb : ∀ k c, A < k → w.heap[k]? = some (.cells c 54 (0, 0)) ∨ w.heap[k]? = some (.cells c 26 (0, 0)) → w'.heap[k]? = w.heap[k]?) : QAt w' A kl ul := by
  obtain ⟨ka, kc, ua, uc, h1, h2, h3, h4, h5, h6⟩ := h
  have hc : ∀ j, w'.cell? ⟨A, j, none⟩ = w.cell? ⟨A, j, none⟩ := fun j => by simp only [World.cell?, ha]
  refine ⟨ka, kc, ua, uc, by rw [hc]; exact h1, by rw [hc]; exact h2, hf.1, hf.2, h5.kept fun k hk => ?_, h6.kept fun k hk => ?_⟩
  · obtain ⟨hB, _, cur, hg⟩ := h5.own_type hk
    exact hb k cur hB (.inl hg)
  · obtain ⟨hB, _, cur, hg⟩ := h6.own_type hk
    exact hb k cur hB (.inr hg)
end Go.Proofs.Qxb6003717a
