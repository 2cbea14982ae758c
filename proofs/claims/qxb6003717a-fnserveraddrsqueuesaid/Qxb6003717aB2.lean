import Derived.Test.Qxb6003717aB1
import Derived.Test.Qxb6003717aP4
import Derived.Deep.RegionHeld3
import Derived.Deep.DrawnRows
namespace Go.Proofs.Qxb6003717a
open Go.RowKit

attribute [local go_sem ↓] Go.wp_at_zero Go.wp_at_succ

set_option maxHeartbeats 400000 in
theorem zzWire_exact (s : ByteArray) (w : World) :
    Calls Try.prog 12 #[nm s] w fun e w' => e = .returned (.string s) ∧ w' = w.alloc (.cells #[.string s] 26) := by
  go_enter Try.func12, Try.ntmps12
  go_wp2
  go_ret
  exact ⟨rfl, rfl⟩

theorem Strs.at0 {w : World} {g n : Nat} {ss : List ByteArray} (h : Strs w (some ⟨g, 0, none⟩) n ss) {k : Nat} (hk : k < n) :
    ∃ s, w.cell? ⟨g, k, none⟩ = some (.string s) ∧ ss[k]? = some s ∧ s ∈ ss ∧ g < w.heap.size := by
  obtain ⟨b, off, s, ha, hc, hs, hm, hb⟩ := h.at_ hk
  cases ha
  exact ⟨s, by simpa using hc, hs, hm, hb⟩

/-- A contract whose word the walk's simp leaves alone. -/
theorem told {P : Program} {f : FuncId} {args : Array Value} {w : World} {R : Ending → World → Prop} (h : Calls P f args w R) : Calls P f args w (fun e w' => Hid (R e w')) := h

theorem ext_trans {w w1 w2 : World} (h1 : Below w.heap.size w w1) (h2 : Below w1.heap.size w1 w2) : Below w.heap.size w w2 := h1.trans (h2.mono h1.size)
theorem ext_alloc {w w1 : World} (h1 : Below w.heap.size w w1) (o : Obj) : Below w.heap.size w (w1.alloc o) := h1.alloc h1.size o
theorem ext_cell {w1 w2 : World} {o : Array Value} {t : TypeId} {v : Value} (h2 : Below (w1.alloc (.cells o t)).heap.size (w1.alloc (.cells o t)) w2) (hv : o[0]? = some v) : w2.cell? ⟨w1.heap.size, 0, none⟩ = some v := by
  rw [h2.cell (by simp), World.cell?_alloc_new]
  exact hv

theorem size_setCell (w : World) (a : Addr) (v : Value) : (w.setCell a v).heap.size = w.heap.size := by simp [World.setCell]
theorem Cells.set_alloc {w : World} {g n : Nat} {f : Nat → Value} (h : Cells w g n f) (hg : g < w.heap.size) (j : Nat) (v : Value) (o : Obj) : Cells ((w.setCell ⟨g, j, none⟩ v).alloc o) g n (fun i => if i = j then v else f i) :=
  (h.set j v).below ((Below.refl (w.setCell ⟨g, j, none⟩ v).heap.size _).alloc (Nat.le_refl _) o) (by rw [size_setCell]; exact hg)
theorem ext_set_alloc {B : Nat} {w w1 : World} (h1 : Below B w w1) {a : Addr} (ha : B ≤ a.block) (hB : B ≤ w1.heap.size) (v : Value) (o : Obj) : Below B w ((w1.setCell a v).alloc o) :=
  (h1.setCell ha v).alloc (by rw [size_setCell]; exact hB) o

/-- What the first k names and the zero names behind them are. -/
def nmF (hs : List (List ByteArray)) (k : Nat) : Nat → Value := fun i => if i < k then .string (mkW (hs.getD i [])) else .string ⟨#[]⟩
theorem nmF_zero (hs : List (List ByteArray)) (i : Nat) : nmF hs 0 i = .string ⟨#[]⟩ := by simp [nmF]
theorem nmF_step (hs : List (List ByteArray)) (k : Nat) (ss : List ByteArray) (h : hs[k]? = some ss) (i : Nat) : (if i = k then Value.string (mkW ss) else nmF hs k i) = nmF hs (k + 1) i := by
  unfold nmF
  by_cases e : i = k
  · subst e
    rw [if_pos rfl, if_pos (by omega), List.getD_eq_getElem?_getD, h]
    rfl
  · rw [if_neg e]
    by_cases h2 : i < k
    · rw [if_pos h2, if_pos (by omega)]
    · rw [if_neg h2, if_neg (by omega)]
theorem Strs.of_nmF {w : World} {g n : Nat} {hs : List (List ByteArray)} {k : Nat} (h : Cells w g n (nmF hs k)) (hl : hs.length = n) (hn : n ≤ maxLen) (hk : n ≤ k) : Strs w (some ⟨g, 0, none⟩) n (hs.map mkW) := by
  refine Strs.of_cells h (by simpa using hl) hn ?_ ?_
  · intro s hs'
    simp at hs'
    obtain ⟨ss, _, rfl⟩ := hs'
    have := mkW_size_le ss
    unfold maxLen
    omega
  · intro i hi
    have hil : i < hs.length := by omega
    simp [nmF, List.getD_eq_getElem?_getD, List.getElem?_eq_getElem hil]
    omega

theorem Try.info26 : (Try.prog.info? 26).map (fun i => (i.zero, i.size, i.bytes)) = some (some (.agg #[.string ⟨#[]⟩]), 1, 16) := by kernel_rfl
theorem make67 (n : Nat) (hn : n ≤ 1048576) (w : World) : (Instr.makeSlice 67 (.int .i64 (n : Int)) (.int .i64 (n : Int))).run Try.prog w = .ok (.slice (some ⟨w.heap.size, 0, none⟩) n n) (w.alloc (.cells (madeCells #[.string ⟨#[]⟩] n) 26)) := by
  obtain ⟨i0, hi, hz0, hz1, hz2⟩ := info_parts Try.info26
  have := run_make (P := Try.prog) w 67 26 i0 _ Try.underlying67 hi hz0 .i64 .i64 n n (by omega) (Int.le_refl _) (by rw [hz2]; omega) (by omega)
  rw [hz1] at this
  simp only [Int.toNat_natCast, Nat.mul_one] at this
  exact this

/-- What the last loops of FnHintsAddrsFold lean on. -/
structure Hst (w wc : World) (g n H b16 : Nat) (nl : List ByteArray) (q : ByteArray) : Prop where
  names : Strs wc (some ⟨g, 0, none⟩) n nl
  hints : HintsAt wc H nl
  qc : wc.cell? ⟨b16, 0, none⟩ = some (.string q)
  ext : Below w.heap.size w wc
theorem Hst.below {w wc wd : World} {g n H b16 : Nat} {nl : List ByteArray} {q : ByteArray} (h : Hst w wc g n H b16 nl q) (hb : Below wc.heap.size wc wd) : Hst w wd g n H b16 nl q :=
  ⟨h.names.below hb, h.hints.below hb, by rw [hb.cell (World.block_lt_of_cell? _ _ h.qc)]; exact h.qc, ext_trans h.ext hb⟩

theorem cnt_congr {q q' : ByteArray} (h : key q = key q') (l : List ByteArray) : cnt q l = cnt q' l := by unfold cnt; rw [h]

theorem cell_below {w w' : World} {a : Addr} {v : Value} (h : w.cell? a = some v) (hb : Below w.heap.size w w') : w'.cell? a = some v := by
  rw [hb.cell (World.block_lt_of_cell? _ _ h)]; exact h

theorem same_at {l : List ByteArray} {k : Nat} {s t : ByteArray} (h1 : l[k]? = some t) (h2 : l[k]? = some s) : t = s := by
  rw [h2] at h1; cases h1; rfl
theorem match_hit {K : List (List Int)} {k : Nat} {x y : List Int} (hx : K[k]? = some x) (e : x = y) : true = decide (y ∈ K.take (k + 1)) := by
  rw [eq_comm, decide_eq_true_eq, mem_take_succ hx]
  exact .inr e
theorem match_miss {K : List (List Int)} {k : Nat} {x y : List Int} {mb : Bool} (hx : K[k]? = some x) (e : ¬ x = y) (h : mb = decide (y ∈ K.take k)) : mb = decide (y ∈ K.take (k + 1)) := by
  rw [h]
  congr 1
  rw [mem_take_succ hx]
  simp [e]
theorem rep_hit {K : List (List Int)} {k : Nat} {x y : List Int} (hx : K[k]? = some x) (e : x = y) : false = decide (y ∉ K.take (k + 1)) := by
  rw [eq_comm, decide_eq_false_iff_not, mem_take_succ hx]
  simp [e]
theorem rep_miss {K : List (List Int)} {k : Nat} {x y : List Int} (hx : K[k]? = some x) (e : ¬ x = y) (h : true = decide (y ∉ K.take k)) : true = decide (y ∉ K.take (k + 1)) := by
  rw [h]
  congr 1
  rw [mem_take_succ hx]
  simp [e]
theorem part_next_new {nl : List ByteArray} {K : List (List Int)} {k p ck : Nat} {s : ByteArray} (hx : K[k]? = some (key s)) (hp : p = part K k) (hK : K = nl.map key) (hck : cnt s nl = ck) (h : true = decide (key s ∉ K.take k)) : p + ck = part K (k + 1) := by
  have h' : key s ∉ K.take k := by simpa using h.symm
  rw [part_new hx h', ← hp, ← hck, hK, List.countP_map]
  rfl
theorem part_next_old {K : List (List Int)} {k p j : Nat} {x : List Int} (hx : K[k]? = some x) (hp : p = part K k) (h : false = decide (x ∉ K.take j)) (hj : j ≤ k) : p = part K (k + 1) := by
  have h' : x ∈ K.take j := by simpa using h.symm
  rw [part_old hx (List.take_subset_take_left K hj h'), ← hp]
theorem cnt_zero {nl : List ByteArray} {K : List (List Int)} {k : Nat} {q : ByteArray} (hK : K = nl.map key) (h : false = decide (key q ∈ K.take k)) (hk : nl.length ≤ k) : cnt q nl = 0 := by
  have h' : key q ∉ K.take k := by simpa using h.symm
  rw [List.take_of_length_le (by rw [hK]; simpa using hk), hK] at h'
  unfold cnt
  rw [List.countP_eq_zero]
  intro s hs
  simp
  intro e
  exact h' (by rw [← e]; exact List.mem_map_of_mem hs)

set_option maxRecDepth 100000 in
set_option maxHeartbeats 2000000 in
theorem hints_walk (a : Option Addr) (n cap : Nat) (hs : List (List ByteArray)) (qa : Option Addr) (qn qc : Nat) (qs : List ByteArray) (w : World) (h : Grid w a n hs) (hq : Strs w qa qn qs) :
    Calls Try.prog 6 #[.slice a n cap, .slice qa qn qc] w fun e w' => e = .returned (.bool true) ∧ Below w.heap.size w w' := by
  have hn := h.lim
  have hqn := hq.lim
  unfold maxLen at hn hqn
  go_enter Try.func6, Try.ntmps6
  go_wp2_with (go_at_call 27; refine (told (zzBytesHints_any a n cap hs qa qn qc qs _ h hq)).mono ?_)
  intro e w' hp
  obtain ⟨⟨r, rfl, hr⟩, hw⟩ := hp.out
  replace hw := hw.symm
  subst hw
  clear hp
  cases r with
  | false =>
    clear hr
    go_wp2
    go_ret
    exact ⟨rfl, Below.refl _ _⟩
  | true =>
  obtain ⟨hn1, hss, hqs⟩ := hr rfl
  clear hr
  have Hn1 : Hid (hs.length ≤ 1048576) := hn1
  have Hss := hid hss
  have Hqs := hid hqs
  clear hn1 hss hqs
  by_cases hb1 : 1024 < n
  · go_wp2
    go_ret
    exact ⟨rfl, Below.refl _ _⟩
  by_cases hb2 : 65536 < qn
  · go_wp2
    go_ret
    exact ⟨rfl, Below.refl _ _⟩
  go_wp2_with (go_at_call 8; refine (told (zzLabelBytes_any qa qn qc qs _ hq Hqs.out)).mono ?_)
  intro e w'' hp
  obtain ⟨⟨r1, rfl, hr10, hr11⟩, hw⟩ := hp.out
  replace hw := hw.symm
  subst hw
  clear hp
  go_wp2
  go_loop [5, 6] (fun t i => ∃ k : Nat, k ≤ n ∧ i = .int .i64 k ∧ ∃ r : Int, t = .int .i64 r ∧ 0 ≤ r ∧ r ≤ 1048601) (fun _ i => n - (intOf i).toNat)
  case atStart => exact ⟨0, Nat.zero_le _, rfl, _, rfl, by omega, by omega⟩
  case round =>
    obtain ⟨k, hk, rfl, r, rfl, hr0, hr2⟩ := hrel
    by_cases hlt : k < n
    · obtain ⟨b, off, ai, m, ci, ss, rfl, hcell, hst, hat, hmem, hb⟩ := h.at_ hlt
      have hsm := hid (Hss.out ss hmem)
      clear hat hmem
      go_wp2_with (go_at_call 8; refine (told (zzLabelBytes_any ai m ci ss _ hst hsm.out)).mono ?_)
      intro e w3 hp
      obtain ⟨⟨r3, rfl, hr30, hr31⟩, hw⟩ := hp.out
      replace hw := hw.symm
      subst hw
      clear hp
      by_cases hgt : 1048576 < r + r3
      · go_wp2
        go_ret
        exact ⟨rfl, Below.refl _ _⟩
      · go_wp2
        go_round
        case rel => exact ⟨k + 1, by omega, by go_num, _, rfl, by omega, by omega⟩
        case measure => simp [intOf]; omega
    · by_cases hgt : 1048576 < r
      · go_wp2
        go_ret
        exact ⟨rfl, Below.refl _ _⟩
      · go_wp2
        go_loopw [7] (fun i wr => ∃ k : Nat, k ≤ n ∧ i = .int .i64 k ∧ Hid (∀ ss ∈ hs.take k, okN ss = true) ∧ Below w.heap.size w wr) (fun i _ => n - (intOf i).toNat)
        case atStart => exact ⟨0, Nat.zero_le _, rfl, by simp [Hid], Below.refl _ _⟩
        case round =>
          obtain ⟨k2, hk2, rfl, hok, hbel⟩ := hrel
          have Hbel := hid hbel
          clear hr0 hr2 hr10 hr11 hgt hlt
          by_cases hlt : k2 < n
          · obtain ⟨b, off, ai, m, ci, ss, rfl, hcell0, hst0, hat, hmem, hb⟩ := h.at_ hlt
            have hcell : wr.cell? ⟨b, off + k2, none⟩ = some (.slice ai m ci) := (hbel.cell (by exact hb)).trans hcell0
            have hst := hst0.below hbel
            have Hat : Hid (hs[k2]? = some ss) := hat
            clear hcell0 hst0 hat hmem hbel
            go_wp2_with (go_at_call 9; refine (told (zzMkName_any ai m ci ss _ hst)).mono ?_)
            intro e w3 hp
            obtain ⟨rfl, hb3⟩ := hp.out
            have Hb3 := hid hb3
            clear hp hb3
            cases hokb : okN ss with
            | false =>
              go_wp2
              go_ret
              exact ⟨rfl, (Hbel.out.trans (Hb3.out.mono Hbel.out.size)).alloc (Nat.le_trans Hbel.out.size Hb3.out.size) _⟩
            | true =>
              have Hok := hid hokb
              go_wp2
              go_roundw
              case rel => exact ⟨k2 + 1, by omega, by go_num, forall_take_succ Hat.out hok.out Hok.out, (Hbel.out.trans (Hb3.out.mono Hbel.out.size)).alloc (Nat.le_trans Hbel.out.size Hb3.out.size) _⟩
              case measure => simp [intOf]; omega
          · have Hok : Hid (∀ ss ∈ hs, okN ss = true) := forall_take_all (by have := h.len; omega) hok.out
            have hq2 := hq.below hbel
            clear hok hbel
            go_wp2_with (go_at_call 9; refine (told (zzMkName_any qa qn qc qs _ hq2)).mono ?_)
            intro e w3 hp
            obtain ⟨rfl, hb3⟩ := hp.out
            have Hb3 := hid hb3
            clear hp hb3
            cases hokb : okN qs with
            | false =>
              go_wp2
              go_ret
              exact ⟨rfl, (Hbel.out.trans (Hb3.out.mono Hbel.out.size)).alloc (Nat.le_trans Hbel.out.size Hb3.out.size) _⟩
            | true =>
              have Hq := hid hokb
              have hq3 : ∀ o, Strs (w3.alloc o) qa qn qs := fun o => hq.below (ext_alloc (ext_trans Hbel.out Hb3.out) o)
              have Hb4 : Hid (∀ o, Below w.heap.size w (w3.alloc o)) := fun o => ext_alloc (ext_trans Hbel.out Hb3.out) o
              clear hokb hq2 Hbel Hb3
              go_wp2_with (go_at_call 10; refine (told (zzCloneLabels_any qa qn qc qs _ (hq3 _) (by omega))).mono ?_)
              intro e w4 hp
              obtain ⟨⟨qa4, qc4, rfl, hq4⟩, hb4⟩ := hp.out
              have HB4 := hid (ext_trans (Hb4.out _) hb4)
              clear hp hb4 hq3 Hb4
              have hmk := make67 n (by omega)
              go_wp2
              go_loopw [13] (fun i wr => ∃ k : Nat, k ≤ n ∧ i = .int .i64 k ∧ Cells wr w4.heap.size n (nmF hs k) ∧ Below w4.heap.size w4 wr ∧ w4.heap.size < wr.heap.size) (fun i _ => n - (intOf i).toNat)
              case atStart => exact ⟨0, Nat.zero_le _, rfl, (Cells.made w4 _ n 26).congr (fun i _ => (nmF_zero _ i).symm), (Below.refl _ _).alloc (Nat.le_refl _) _, by simp⟩
              case round =>
                clear hmk
                obtain ⟨k3, hk3, rfl, hcs, hbel, hlt0⟩ := hrel
                have HB := hid (ext_trans HB4.out hbel)
                have hlt0' := hid hlt0
                by_cases hlt3 : k3 < n
                · obtain ⟨b, off, ai, m, ci, ss, rfl, hcell0, hst0, hat, hmem, hb⟩ := h.at_ hlt3
                  have hcell : wr.cell? ⟨b, off + k3, none⟩ = some (.slice ai m ci) := (HB.out.cell (by exact hb)).trans hcell0
                  have hst := hst0.below HB.out
                  have Hat : Hid (hs[k3]? = some ss) := hat
                  have Hm : Hid (m ≤ 1048576) := by have := (Hss.out ss hmem).1; have := hst0.len; show _ ≤ _; omega
                  have Hcs := hid hcs
                  have Hbel := hid hbel
                  clear hcell0 hst0 hat hmem hbel hcs
                  go_wp2_with (go_at_call 10; refine (told (zzCloneLabels_any ai m ci ss _ hst Hm.out)).mono ?_)
                  intro e w5 hp
                  obtain ⟨⟨a5, c5, rfl, hst5⟩, hb5⟩ := hp.out
                  have Hb5 := hid hb5
                  clear hp hb5 hcell hst
                  go_wp2_with (go_at_call 9; refine (told (zzMkName_any a5 m c5 ss _ hst5)).mono ?_)
                  intro e w6 hp
                  obtain ⟨rfl, hb6⟩ := hp.out
                  have Hb6 : Hid (Below wr.heap.size wr w6) := ext_trans Hb5.out hb6
                  have HC : Hid (Cells w6 w4.heap.size n (nmF hs k3)) := Hcs.out.below Hb6.out hlt0
                  have hcw : w6.cell? ⟨w4.heap.size, k3, none⟩ = some (nmF hs k3 k3) := (HC.out k3 hlt3).1
                  have hfw : w6.frozen? ⟨w4.heap.size, k3, none⟩ = false := (HC.out k3 hlt3).2
                  have hlt6 : w4.heap.size < w6.heap.size := by have := Hb5.out.size; have := hb6.size; omega
                  clear hp hb6 Hb5 hst5
                  go_wp2
                  go_roundw
                  case rel => exact ⟨k3 + 1, by omega, by go_num, (HC.out.set_alloc hlt6 k3 _ _).congr (fun i _ => nmF_step hs k3 ss Hat.out i), ext_set_alloc (ext_trans Hbel.out Hb6.out) (by simp) (by omega) _ _, by rw [World.size_alloc, size_setCell]; omega⟩
                  case measure => simp [intOf]; omega
                · have hnl := Strs.of_nmF hcs h.len h.lim (by omega)
                  have hq5 := hq4.below hbel
                  have Hnl := hid hnl
                  obtain ⟨w7, rfl⟩ : ∃ w7 : World, w7 = wr := ⟨_, rfl⟩
                  clear hcs hbel hlt0 hlt0' HB4 hq4 hnl
                  go_wp2_with (go_at_call 9; refine (told (zzMkName_any qa4 qn qc4 qs _ hq5)).mono ?_)
                  intro e w8 hp
                  obtain ⟨rfl, hb8⟩ := hp.out
                  have Hb8 := hid hb8
                  have hq8 : ∀ o, Strs (w8.alloc o) qa4 qn qs := fun o => hq5.below (ext_alloc Hb8.out o)
                  clear hp hb8 hq5
                  go_wp2_with (go_at_call 28; refine (told (zzUpperLabels_any qa4 qn qc4 qs _ (hq8 _) (by omega))).mono ?_)
                  intro e w9 hp
                  obtain ⟨⟨a9, c9, rfl, hst9⟩, hb9⟩ := hp.out
                  have Hc9 := hid (ext_cell hb9 rfl)
                  have Hb9 := hid (ext_trans (ext_alloc Hb8.out _) hb9)
                  have hq9 := (hq8 _).below hb9
                  clear hp hb9 hq8 Hb8
                  go_wp2_with (go_at_call 9; refine (told (zzMkName_any a9 qn c9 _ _ hst9)).mono ?_)
                  intro e w10 hp
                  obtain ⟨rfl, hb10⟩ := hp.out
                  have Hc10 := hid (cell_below Hc9.out hb10)
                  have Hb10 := hid (ext_trans Hb9.out hb10)
                  have hq10 : ∀ o, Strs (w10.alloc o) qa4 qn qs := fun o => hq9.below (ext_alloc hb10 o)
                  clear hp hb10 hq9 hst9 Hc9 Hb9
                  go_wp2_with (go_at_call 29; refine (told (zzLowerLabels_any qa4 qn qc4 qs _ (hq10 _) (by omega))).mono ?_)
                  intro e w11 hp
                  obtain ⟨⟨a11, c11, rfl, hst11⟩, hb11⟩ := hp.out
                  have Hc11 := hid (cell_below Hc10.out (ext_trans (ext_alloc (Below.refl _ _) _) hb11))
                  have Hu11 := hid (ext_cell hb11 rfl)
                  have Hb11 := hid (ext_trans (ext_alloc Hb10.out _) hb11)
                  clear hp hb11 hq10 Hc10 Hb10
                  go_wp2_with (go_at_call 9; refine (told (zzMkName_any a11 qn c11 _ _ hst11)).mono ?_)
                  intro e w12 hp
                  obtain ⟨rfl, hb12⟩ := hp.out
                  have Hc12 := hid (cell_below Hc11.out hb12)
                  have Hu12 := hid (cell_below Hu11.out hb12)
                  have Hb12 := hid (ext_trans Hb11.out hb12)
                  have Hn12 : Hid (∀ o, Strs (w12.alloc o) (some ⟨w4.heap.size, 0, none⟩) n (hs.map mkW)) := fun o => Hnl.out.below (ext_alloc Hb12.out o)
                  clear hp hb12 hst11 Hc11 Hu11 Hb11
                  go_wp2_with (go_at_call 30; refine (told (zzHintsOf_any _ n n (hs.map mkW) _ (Hn12.out _) (by omega))).mono ?_)
                  intro e w13 hp
                  obtain ⟨⟨H, rfl, hH, hHlt⟩, hb13⟩ := hp.out
                  have hc13 := (cell_below Hc12.out (ext_trans (ext_alloc (Below.refl _ _) _) hb13))
                  have hu13 := (cell_below Hu12.out (ext_trans (ext_alloc (Below.refl _ _) _) hb13))
                  have hl13 := (ext_cell hb13 rfl)
                  have HH := hid hH
                  have Hst13 : Hid (Hst w w13 w4.heap.size n H w8.heap.size (hs.map mkW) (mkW qs)) := ⟨(Hn12.out _).below hb13, hH, hc13, ext_trans HB.out (ext_trans (ext_alloc Hb12.out _) hb13)⟩
                  have Hll : Hid ((hs.map mkW).length ≤ 1048576) := by have := Hn1.out; show _ ≤ _; simpa using this
                  have Hls : Hid (∀ s ∈ hs.map mkW, s.size ≤ maxLen) := Hnl.out.lims
                  clear hp hb13 Hc12 Hu12 Hb12 Hn12 hH Hnl HB
                  obtain ⟨C, hC⟩ : ∃ C, cnt (mkW qs) (hs.map mkW) = C := ⟨_, rfl⟩
                  have HC1 := hid hC
                  have HC2 : Hid (cnt (mkW (qs.map (mapS upB))) (hs.map mkW) = C) := by show _ = _; rw [cnt_congr (key_mkW_map (mapS upB) (mapS_size upB) key_upS qs), hC]
                  have HC3 : Hid (cnt (mkW (qs.map (mapS lowB))) (hs.map mkW) = C) := by show _ = _; rw [cnt_congr (key_mkW_map (mapS lowB) (mapS_size lowB) key_lowS qs), hC]
                  have hCn : C ≤ n := by have := cnt_le (mkW qs) (hs.map mkW); have := h.len; simp at *; omega
                  clear hC
                  go_wp2_with (go_at_call 31; refine (told (addrs_any H (hs.map mkW) (mkW qs) _ HH.out Hll.out Hls.out)).mono ?_)
                  intro e w14 hp
                  obtain ⟨⟨a14, c14, he⟩, hb14⟩ := hp.out
                  rw [HC1.out] at he
                  subst he
                  have hu14 := cell_below hu13 hb14
                  have hl14 := cell_below hl13 hb14
                  have HH14 := hid (HH.out.below hb14)
                  have Hst14 := hid (Hst13.out.below hb14)
                  clear hp hb14 hu13 hl13 hc13 HH Hst13
                  go_wp2_with (go_at_call 31; refine (told (addrs_any H (hs.map mkW) _ _ HH14.out Hll.out Hls.out)).mono ?_)
                  intro e w15 hp
                  obtain ⟨⟨a15, c15, he⟩, hb15⟩ := hp.out
                  rw [HC2.out] at he
                  subst he
                  have hl15 := cell_below hl14 hb15
                  have HH15 := hid (HH14.out.below hb15)
                  have Hst15 := hid (Hst14.out.below hb15)
                  clear hp hb15 hu14 hl14 HH14 Hst14
                  go_wp2_with (go_at_call 31; refine (told (addrs_any H (hs.map mkW) _ _ HH15.out Hll.out Hls.out)).mono ?_)
                  intro e w16 hp
                  obtain ⟨⟨a16, c16, he⟩, hb16⟩ := hp.out
                  rw [HC3.out] at he
                  subst he
                  have Hst16 := hid (Hst15.out.below hb16)
                  clear hp hb16 hl15 HH15 Hst15 HC2 HC3
                  go_wp2
                  obtain ⟨nl, hnl⟩ : ∃ nl, nl = hs.map mkW := ⟨_, rfl⟩
                  rw [← hnl] at Hst16 Hll Hls HC1
                  have Hnn : Hid (nl.length = n) := by show _ = _; rw [hnl]; simpa using h.len
                  obtain ⟨q, hqq⟩ : ∃ q, q = mkW qs := ⟨_, rfl⟩
                  rw [← hqq] at Hst16 HC1
                  have hqsz : q.size ≤ 254 := by rw [hqq]; exact mkW_size_le qs
                  have Hnsz : Hid (∀ s ∈ nl, s.size ≤ 254) := by
                    intro s hs'
                    rw [hnl] at hs'
                    simp at hs'
                    obtain ⟨ss, _, rfl⟩ := hs'
                    exact mkW_size_le ss
                  clear hnl hqq
                  obtain ⟨K, hK⟩ : ∃ K, K = nl.map key := ⟨_, rfl⟩
                  have HK := hid hK
                  clear hK
                  go_loopw [24, 25, 26] (fun mt sm i wr => ∃ k : Nat, k ≤ n ∧ i = .int .i64 k ∧ (∃ mb, mt = .bool mb ∧ Hid (mb = decide (key q ∈ K.take k))) ∧ (∃ p : Nat, sm = .int .i64 p ∧ Hid (p = part K k)) ∧ Hst w wr w4.heap.size n H w8.heap.size nl q) (fun _ _ i _ => n - (intOf i).toNat)
                  case atStart => exact ⟨0, Nat.zero_le _, rfl, ⟨false, rfl, by simp [Hid]⟩, ⟨0, rfl, (part_zero K).symm⟩, Hst16.out⟩
                  case round =>
                    obtain ⟨k4, hk4, rfl, ⟨mb, rfl, hmb⟩, ⟨p, rfl, hp⟩, hst⟩ := hrel
                    obtain ⟨w17, rfl⟩ : ∃ w17 : World, w17 = wr := ⟨_, rfl⟩
                    have Hst17 := hid hst
                    have hpn : p ≤ n := by have := part_le K k4; have := hp.out; have := HK.out; have := Hnn.out; simp_all
                    clear Hst16
                    by_cases hlt4 : k4 < n
                    · obtain ⟨s, hcs, hsk, hsm, hgl⟩ := hst.names.at0 hlt4
                      have hqc := hst.qc
                      have hqlt : w8.heap.size < w17.heap.size := World.block_lt_of_cell? _ _ hqc
                      have hss := Hnsz.out s hsm
                      have Hsk := hid hsk
                      have HKk : Hid (K[k4]? = some (key s)) := by show _ = _; rw [HK.out, List.getElem?_map, hsk]; rfl
                      have hck1 : 1 ≤ cnt s nl := List.countP_pos_iff.2 ⟨s, hsm, by simp⟩
                      have hckn : cnt s nl ≤ n := by rw [← Hnn.out]; exact cnt_le s nl
                      have HH17 := hid hst.hints
                      obtain ⟨ck, hck⟩ : ∃ ck, cnt s nl = ck := ⟨_, rfl⟩
                      rw [hck] at hck1 hckn
                      have Hck := hid hck
                      clear hsk hsm hck hst
                      go_wp2_with (go_at_call 31; refine (told (addrs_any H nl s _ HH17.out Hll.out Hls.out)).mono ?_)
                      intro e w18 hp2
                      obtain ⟨⟨a18, c18, he⟩, hb18⟩ := hp2.out
                      rw [Hck.out] at he
                      subst he
                      have hcs18 := cell_below hcs hb18
                      have hqc18 := cell_below hqc hb18
                      have hl1 : w4.heap.size < w18.heap.size := by have := hb18.size; omega
                      have hl2 : w8.heap.size < w18.heap.size := by have := hb18.size; omega
                      have Hst18 := hid (Hst17.out.below hb18)
                      have hk0 : (0 : Int) ≤ (k4 : Int) := by omega
                      have hk1 : (k4 : Int) < (n : Int) := by omega
                      have hsm' : s.size ≤ maxLen := by unfold maxLen; omega
                      have HSM := hid hsm'
                      have hck0 : ((ck : Int) == 0) = false := by rw [beq_eq_false_iff_ne]; omega
                      clear hp2 hb18 hcs hqc hqlt hgl HH17 Hst17 hsm'
                      by_cases hkey : key s = key q
                      · have hd : decide (key s = key q) = true := decide_eq_true hkey
                        have hce : ck = C := by rw [← Hck.out, ← HC1.out]; exact cnt_congr hkey nl
                        have Hmb : Hid (true = decide (key q ∈ K.take (k4 + 1))) := match_hit HKk.out hkey
                        subst hce
                        clear hkey
                        go_wp2
                        go_region_held3 (fun w' => w'.cell? ⟨w4.heap.size, k4, none⟩ = some (.string s) ∧ w'.cell? ⟨w8.heap.size, 0, none⟩ = some (.string q)) (go_keep)
                          (first | (go_at_call 12; refine (zzWire_exact _ _).mono ?_; rintro e w' ⟨rfl, rfl⟩) | (go_at_call 11; refine (zzFoldEq_any _ _ _ HSM.out).mono ?_; rintro e w' ⟨rfl, nq, rfl⟩))
                        go_wp2
                        go_loopw [28, 29] (fun rp j wi => ∃ j5 : Nat, j5 ≤ k4 ∧ j = .int .i64 j5 ∧ (∃ rb, rp = .bool rb ∧ Hid (rb = decide (key s ∉ K.take j5))) ∧ Hst w wi w4.heap.size n H w8.heap.size nl q) (fun _ j _ => k4 - (intOf j).toNat)
                        case atStart => exact ⟨0, Nat.zero_le _, rfl, ⟨true, rfl, by simp [Hid]⟩, Hst18.out.below (by repeat (first | exact Below.refl _ _ | apply Below.drew | apply below_drewN | apply ext_alloc))⟩
                        case round =>
                          obtain ⟨j5, hj5, rfl, ⟨rb, rfl, hrb⟩, hst5⟩ := hrel
                          have Hst5 := hid hst5
                          clear hcs18 hqc18 hl1 hl2 Hst18
                          cases rb with
                          | true =>
                            by_cases hlt5 : j5 < k4
                            · obtain ⟨t, hct, htk, htm, hgl5⟩ := hst5.names.at0 (show j5 < n by omega)
                              obtain ⟨s', hcs5, hsk5, _, _⟩ := hst5.names.at0 hlt4
                              obtain rfl : s' = s := same_at hsk5 Hsk.out
                              have HKj : Hid (K[j5]? = some (key t)) := by show _ = _; rw [HK.out, List.getElem?_map, htk]; rfl
                              have HTM : Hid (t.size ≤ maxLen) := by have := Hnsz.out t htm; show _ ≤ _; unfold maxLen; omega
                              have hj0 : (0 : Int) ≤ (j5 : Int) := by omega
                              have hj1 : (j5 : Int) < (n : Int) := by omega
                              clear htk htm hsk5 hst5
                              by_cases hkt : key t = key s'
                              · have hdt : decide (key t = key s') = true := decide_eq_true hkt
                                have Hnew : Hid (false = decide (key s' ∉ K.take (j5 + 1))) := rep_hit HKj.out hkt
                                clear hkt
                                go_wp2
                                go_region_held3 (fun w' => w'.cell? ⟨w4.heap.size, j5, none⟩ = some (.string t) ∧ w'.cell? ⟨w4.heap.size, k4, none⟩ = some (.string s')) (go_keep)
                                  (first | (go_at_call 12; refine (zzWire_exact _ _).mono ?_; rintro e w' ⟨rfl, rfl⟩) | (go_at_call 11; refine (zzFoldEq_any _ _ _ HTM.out).mono ?_; rintro e w' ⟨rfl, nq, rfl⟩))
                                go_wp2
                                go_roundw
                                case rel => exact ⟨j5 + 1, by omega, by go_num, ⟨_, rfl, Hnew⟩, Hst5.out.below (by repeat (first | exact Below.refl _ _ | apply Below.drew | apply below_drewN | apply ext_alloc))⟩
                                case measure => simp [intOf]; omega
                              · have hdt : decide (key t = key s') = false := decide_eq_false hkt
                                have Hnew : Hid (true = decide (key s' ∉ K.take (j5 + 1))) := rep_miss HKj.out hkt hrb.out
                                clear hkt
                                go_wp2
                                go_region_held3 (fun w' => w'.cell? ⟨w4.heap.size, j5, none⟩ = some (.string t) ∧ w'.cell? ⟨w4.heap.size, k4, none⟩ = some (.string s')) (go_keep)
                                  (first | (go_at_call 12; refine (zzWire_exact _ _).mono ?_; rintro e w' ⟨rfl, rfl⟩) | (go_at_call 11; refine (zzFoldEq_any _ _ _ HTM.out).mono ?_; rintro e w' ⟨rfl, nq, rfl⟩))
                                go_wp2
                                go_roundw
                                case rel => exact ⟨j5 + 1, by omega, by go_num, ⟨_, rfl, Hnew⟩, Hst5.out.below (by repeat (first | exact Below.refl _ _ | apply Below.drew | apply below_drewN | apply ext_alloc))⟩
                                case measure => simp [intOf]; omega
                            · have Hpart : Hid (p + ck = part K (k4 + 1)) := part_next_new HKk.out hp.out HK.out Hck.out (by rw [show k4 = j5 by omega]; exact hrb.out)
                              clear hst5
                              go_wp2
                              go_roundw
                              case rel => exact ⟨k4 + 1, by omega, by go_num, ⟨_, rfl, Hmb.out⟩, ⟨p + ck, by go_num, Hpart.out⟩, Hst5.out⟩
                              case measure => simp [intOf]; omega
                          | false =>
                            have Hpart : Hid (p = part K (k4 + 1)) := part_next_old HKk.out hp.out hrb.out hj5
                            clear hst5
                            by_cases hlt5 : j5 < k4
                            · go_wp2
                              go_roundw
                              case rel => exact ⟨k4 + 1, by omega, by go_num, ⟨_, rfl, Hmb.out⟩, ⟨p, rfl, Hpart.out⟩, Hst5.out⟩
                              case measure => simp [intOf]; omega
                            · go_wp2
                              go_roundw
                              case rel => exact ⟨k4 + 1, by omega, by go_num, ⟨_, rfl, Hmb.out⟩, ⟨p, rfl, Hpart.out⟩, Hst5.out⟩
                              case measure => simp [intOf]; omega
                      · have hd : decide (key s = key q) = false := decide_eq_false hkey
                        have Hmb : Hid (mb = decide (key q ∈ K.take (k4 + 1))) := match_miss HKk.out hkey hmb.out
                        clear hkey
                        go_wp2
                        go_region_held3 (fun w' => w'.cell? ⟨w4.heap.size, k4, none⟩ = some (.string s) ∧ w'.cell? ⟨w8.heap.size, 0, none⟩ = some (.string q)) (go_keep)
                          (first | (go_at_call 12; refine (zzWire_exact _ _).mono ?_; rintro e w' ⟨rfl, rfl⟩) | (go_at_call 11; refine (zzFoldEq_any _ _ _ HSM.out).mono ?_; rintro e w' ⟨rfl, nq, rfl⟩))
                        go_wp2
                        go_loopw [28, 29] (fun rp j wi => ∃ j5 : Nat, j5 ≤ k4 ∧ j = .int .i64 j5 ∧ (∃ rb, rp = .bool rb ∧ Hid (rb = decide (key s ∉ K.take j5))) ∧ Hst w wi w4.heap.size n H w8.heap.size nl q) (fun _ j _ => k4 - (intOf j).toNat)
                        case atStart => exact ⟨0, Nat.zero_le _, rfl, ⟨true, rfl, by simp [Hid]⟩, Hst18.out.below (by repeat (first | exact Below.refl _ _ | apply Below.drew | apply below_drewN | apply ext_alloc))⟩
                        case round =>
                          obtain ⟨j5, hj5, rfl, ⟨rb, rfl, hrb⟩, hst5⟩ := hrel
                          have Hst5 := hid hst5
                          clear hcs18 hqc18 hl1 hl2 Hst18
                          cases rb with
                          | true =>
                            by_cases hlt5 : j5 < k4
                            · obtain ⟨t, hct, htk, htm, hgl5⟩ := hst5.names.at0 (show j5 < n by omega)
                              obtain ⟨s', hcs5, hsk5, _, _⟩ := hst5.names.at0 hlt4
                              obtain rfl : s' = s := same_at hsk5 Hsk.out
                              have HKj : Hid (K[j5]? = some (key t)) := by show _ = _; rw [HK.out, List.getElem?_map, htk]; rfl
                              have HTM : Hid (t.size ≤ maxLen) := by have := Hnsz.out t htm; show _ ≤ _; unfold maxLen; omega
                              have hj0 : (0 : Int) ≤ (j5 : Int) := by omega
                              have hj1 : (j5 : Int) < (n : Int) := by omega
                              clear htk htm hsk5 hst5
                              by_cases hkt : key t = key s'
                              · have hdt : decide (key t = key s') = true := decide_eq_true hkt
                                have Hnew : Hid (false = decide (key s' ∉ K.take (j5 + 1))) := rep_hit HKj.out hkt
                                clear hkt
                                go_wp2
                                go_region_held3 (fun w' => w'.cell? ⟨w4.heap.size, j5, none⟩ = some (.string t) ∧ w'.cell? ⟨w4.heap.size, k4, none⟩ = some (.string s')) (go_keep)
                                  (first | (go_at_call 12; refine (zzWire_exact _ _).mono ?_; rintro e w' ⟨rfl, rfl⟩) | (go_at_call 11; refine (zzFoldEq_any _ _ _ HTM.out).mono ?_; rintro e w' ⟨rfl, nq, rfl⟩))
                                go_wp2
                                go_roundw
                                case rel => exact ⟨j5 + 1, by omega, by go_num, ⟨_, rfl, Hnew⟩, Hst5.out.below (by repeat (first | exact Below.refl _ _ | apply Below.drew | apply below_drewN | apply ext_alloc))⟩
                                case measure => simp [intOf]; omega
                              · have hdt : decide (key t = key s') = false := decide_eq_false hkt
                                have Hnew : Hid (true = decide (key s' ∉ K.take (j5 + 1))) := rep_miss HKj.out hkt hrb.out
                                clear hkt
                                go_wp2
                                go_region_held3 (fun w' => w'.cell? ⟨w4.heap.size, j5, none⟩ = some (.string t) ∧ w'.cell? ⟨w4.heap.size, k4, none⟩ = some (.string s')) (go_keep)
                                  (first | (go_at_call 12; refine (zzWire_exact _ _).mono ?_; rintro e w' ⟨rfl, rfl⟩) | (go_at_call 11; refine (zzFoldEq_any _ _ _ HTM.out).mono ?_; rintro e w' ⟨rfl, nq, rfl⟩))
                                go_wp2
                                go_roundw
                                case rel => exact ⟨j5 + 1, by omega, by go_num, ⟨_, rfl, Hnew⟩, Hst5.out.below (by repeat (first | exact Below.refl _ _ | apply Below.drew | apply below_drewN | apply ext_alloc))⟩
                                case measure => simp [intOf]; omega
                            · have Hpart : Hid (p + ck = part K (k4 + 1)) := part_next_new HKk.out hp.out HK.out Hck.out (by rw [show k4 = j5 by omega]; exact hrb.out)
                              clear hst5
                              go_wp2
                              go_roundw
                              case rel => exact ⟨k4 + 1, by omega, by go_num, ⟨_, rfl, Hmb.out⟩, ⟨p + ck, by go_num, Hpart.out⟩, Hst5.out⟩
                              case measure => simp [intOf]; omega
                          | false =>
                            have Hpart : Hid (p = part K (k4 + 1)) := part_next_old HKk.out hp.out hrb.out hj5
                            clear hst5
                            by_cases hlt5 : j5 < k4
                            · go_wp2
                              go_roundw
                              case rel => exact ⟨k4 + 1, by omega, by go_num, ⟨_, rfl, Hmb.out⟩, ⟨p, rfl, Hpart.out⟩, Hst5.out⟩
                              case measure => simp [intOf]; omega
                            · go_wp2
                              go_roundw
                              case rel => exact ⟨k4 + 1, by omega, by go_num, ⟨_, rfl, Hmb.out⟩, ⟨p, rfl, Hpart.out⟩, Hst5.out⟩
                              case measure => simp [intOf]; omega
                    · have hpe : p = n := by rw [hp.out, part_all K k4 (by rw [HK.out, List.length_map, Hnn.out]; omega), HK.out, List.length_map, Hnn.out]
                      subst hpe
                      cases mb with
                      | true =>
                        go_wp2
                        go_ret
                        exact ⟨rfl, Hst17.out.ext⟩
                      | false =>
                        have hC0 : C = 0 := by rw [← HC1.out]; exact cnt_zero HK.out hmb.out (by rw [Hnn.out]; omega)
                        subst hC0
                        go_wp2
                        go_ret
                        exact ⟨rfl, Hst17.out.ext⟩
end Go.Proofs.Qxb6003717a
