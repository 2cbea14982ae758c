import Derived.Test.Qxb6003717aE4
namespace Go.Proofs.Qxb6003717a
open Go.RowKit
attribute [local go_sem ↓] Go.wp_at_zero Go.wp_at_succ

/-- The known addresses' names, in order; the names without glue. -/
def knownOf (ns : List (ByteArray × Nat)) : List ByteArray := ns.flatMap fun x => List.replicate x.2 x.1
def unresOf (ns : List (ByteArray × Nat)) : List ByteArray := ns.flatMap fun x => if x.2 = 0 then [x.1] else []
theorem knownOf_snoc (ns : List (ByteArray × Nat)) (s : ByteArray) (m : Nat) : knownOf (ns ++ [(s, m)]) = knownOf ns ++ List.replicate m s := by simp [knownOf]
theorem unresOf_snoc (ns : List (ByteArray × Nat)) (s : ByteArray) (m : Nat) : unresOf (ns ++ [(s, m)]) = unresOf ns ++ (if m = 0 then [s] else []) := by simp [unresOf]
theorem known_take_le (ns : List (ByteArray × Nat)) (k : Nat) : (knownOf (ns.take k)).length ≤ (knownOf ns).length := by
  have : knownOf ns = knownOf (ns.take k) ++ knownOf (ns.drop k) := by unfold knownOf; rw [← List.flatMap_append, List.take_append_drop]
  rw [this, List.length_append]; omega
theorem unresOf_le : ∀ (ns : List (ByteArray × Nat)), (unresOf ns).length ≤ ns.length
  | [] => by simp [unresOf]
  | x :: ns => by
    have := unresOf_le ns
    unfold unresOf at *
    rw [List.flatMap_cons, List.length_append, List.length_cons]
    have h2 : (if x.2 = 0 then [x.1] else []).length ≤ 1 := by split <;> simp
    omega

theorem cell_new2 (w : World) (o : Obj) (cs : Array Value) (t : TypeId) (j : Nat) : ((w.alloc o).alloc (.cells cs t)).cell? ⟨w.heap.size + 1, j, none⟩ = cs[j]? := cell_of_row _ _ j cs t (0, 0) (heap_new2 ..)
theorem frozen_new2 (w : World) (o : Obj) (cs : Array Value) (t : TypeId) (j : Nat) : ((w.alloc o).alloc (.cells cs t)).frozen? ⟨w.heap.size + 1, j, none⟩ = false := by
  have h : w.heap.size + 1 = (w.alloc o).heap.size := by simp
  rw [h]
  generalize w.alloc o = u
  simp [go_sem]

theorem NSs.at_ {w : World} {a : Option Addr} {n : Nat} {ns : List (ByteArray × Nat)} (h : NSs w a n ns) {k : Nat} (hk : k < n) :
    ∃ b s m ga gc, a = some ⟨b, 0, none⟩ ∧ ns[k]? = some (s, m) ∧ w.cell? ⟨b, k * 2, none⟩ = some (.string s) ∧ w.cell? ⟨b, k * 2 + 1, none⟩ = some (.slice ga m gc) ∧ GlueAt w ga m gc b ∧ b < w.heap.size := by
  rcases h.mem with h0 | ⟨b, ha, h1, h2⟩
  · omega
  · obtain ⟨x, hx⟩ : ∃ x, ns[k]? = some x := ⟨ns[k]'(by have := h.len; omega), List.getElem?_eq_getElem _⟩
    obtain ⟨c1, ga, gc, c2, hg⟩ := h1 k x hx hk
    exact ⟨b, x.1, x.2, ga, gc, ha, hx, c1, c2, hg, World.block_lt_of_cell? _ _ c1⟩

set_option maxRecDepth 100000 in
set_option maxHeartbeats 1000000 in
theorem serverAddrs_any (a : Option Addr) (n cap : Nat) (ns : List (ByteArray × Nat)) (w : World) (h : NSs w a n ns) (hsm : n ≤ 1048576) (hkn : (knownOf ns).length ≤ 1048576) (v : Value) (hv : v = .agg #[.string ⟨#[]⟩, .slice a n cap, .int .u32 0, .int .u64 0, .int .i64 0, .pointer none]) :
    Calls Try.prog 36 #[v] w fun e w' => (∃ A, e = .returned (.pointer (some ⟨A, 0, none⟩)) ∧ w.heap.size ≤ A ∧ QAt w' A (knownOf ns) (unresOf ns)) ∧ Below w.heap.size w w' := by
  obtain ⟨i0, hi0, hz0, hz1, hz2⟩ := info_parts Try.info54
  obtain ⟨j0, hj0, hy0, hy1, hy2⟩ := info_parts Try.info26
  subst hv
  have H := hid h
  clear h
  go_enter Try.func36, Try.ntmps36
  go_wp2
  go_loopw [13] (fun i wr => ∃ k : Nat, k ≤ n ∧ i = .int .i64 k ∧ Hid (QAt wr (w.heap.size + 1) (knownOf (ns.take k)) (unresOf (ns.take k))) ∧ Hid (Below w.heap.size w wr)) (fun i _ => n - (intOf i).toNat)
  case atStart =>
    refine ⟨0, Nat.zero_le _, rfl, ?_, (ext_alloc (ext_alloc (Below.refl _ _) _) _)⟩
    exact ⟨none, 0, none, 0, cell_new2 .., cell_new2 .., frozen_new2 .., frozen_new2 .., OffRow.nil _ _ _ _, OffRow.nil _ _ _ _⟩
  case round =>
    obtain ⟨k, hk, rfl, hq, hbel⟩ := hrel
    by_cases hlt : k < n
    · obtain ⟨b, s, m, ga, gc, rfl, hs0, hc0, hc1, hg0, hb⟩ := H.out.at_ hlt
      have hd0 : wr.cell? ⟨b, k * 2, none⟩ = some (.string s) := (hbel.out.cell (by exact hb)).trans hc0
      have hd1 : wr.cell? ⟨b, k * 2 + 1, none⟩ = some (.slice ga m gc) := (hbel.out.cell (by exact hb)).trans hc1
      have Ht : Hid (ns.take (k + 1) = ns.take k ++ [(s, m)]) := by show _ = _; rw [List.take_add_one, hs0]; rfl
      have hkm : (knownOf (ns.take k)).length + m ≤ 1048576 := by
        have := known_take_le ns (k + 1)
        rw [Ht.out, knownOf_snoc, List.length_append, List.length_replicate] at this
        omega
      have hum : (unresOf (ns.take k)).length ≤ k := by have := unresOf_le (ns.take k); rw [List.length_take] at this; omega
      have Hg := hid hg0
      have hbw : b < wr.heap.size := by have := hbel.out.size; omega
      have hk0 : (0 : Int) ≤ (k : Int) := by omega
      have hk1 : (k : Int) < (n : Int) := by omega
      have hAr := hq.out.lt
      have Hkn : Hid (knownOf (ns.take (k + 1)) = knownOf (ns.take k) ++ List.replicate m s) := by show _ = _; rw [Ht.out, knownOf_snoc]
      have Hun : Hid (unresOf (ns.take (k + 1)) = unresOf (ns.take k) ++ (if m = 0 then [s] else [])) := by show _ = _; rw [Ht.out, unresOf_snoc]
      generalize knownOf (ns.take k) = kl at hq hkm Hkn
      generalize unresOf (ns.take k) = ul at hq hum Hun
      clear hs0 hc0 hc1 hg0
      by_cases hm : m = 0
      · subst hm
        have Hun0 : Hid (unresOf (ns.take (k + 1)) = ul ++ [s]) := by show _ = _; rw [Hun.out, if_pos rfl]
        have Hkn0 : Hid (knownOf (ns.take (k + 1)) = kl) := by show _ = _; rw [Hkn.out]; simp
        clear Hun Hkn
        obtain ⟨ka, kc, ua, uc, h1, h2, h3, h4, h5, h6⟩ := hq.out
        have hfa2 : ∀ o o2, ((wr.alloc o).alloc o2).frozen? ⟨w.heap.size + 1, 1, none⟩ = false := fun o o2 => by rw [(((Below.refl wr.heap.size wr).alloc (Nat.le_refl _) o).alloc (by simp) o2).frozen (by exact hAr)]; exact h4
        have hca2 : ∀ o o2, ((wr.alloc o).alloc o2).cell? ⟨w.heap.size + 1, 1, none⟩ = some (.slice ua ul.length uc) := fun o o2 => by rw [(((Below.refl wr.heap.size wr).alloc (Nat.le_refl _) o).alloc (by simp) o2).cell (by exact hAr)]; exact h2
        have H6 := hid h6
        have H2 := hid h2
        have hne' : some (w.heap.size + 1) ≠ offOwn (.slice ua ul.length uc) := fun he => by have := (h6.own_type he.symm).1; omega
        have hne2 : some wr.heap.size ≠ offOwn (.slice ua ul.length uc) := fun he => by have := (h6.own_type he.symm).2.1; omega
        have hg00 : gc = 0 := (Hg.out.1 rfl).1
        subst hg00
        have hus : ul.length + 1 ≤ 1048576 := by omega
        clear h1 h3 h5 h6
        go_wp2
        go_region_law
          ((refine step_append_off (by rfl) _ _ _ (by rfl) 26 j0 _ 1 16 Try.underlying67 hj0 hy0 hy1 hy2 rfl (by omega) (w.heap.size + 1 + 1) (.slice ua ul.length uc) ul.length (ul.map Value.string) (by rfl) ((H6.out.below (ext_alloc (ext_alloc (Below.refl _ _) _) _).drew))
              ⟨wr.heap.size + 1, 0, none⟩ 1 [.string s] (by rfl) (by rfl) (World.news_of_block (cs := #[.string s]) (t := 26) (fr := (0, 0)) (heap_new2 wr _ _ _)) (by simp [Value.oneCell'])
              hus (by omega) (by simp; omega) ?_; intro ao1 cap1 w1 hown1 hgrow; have hcw1 : w1.cell? ⟨w.heap.size + 1, 1, none⟩ = some (.slice ua ul.length uc) := (hgrow.cell_far ⟨w.heap.size + 1, 1, none⟩ (by simp; omega) hne').trans (hca2 _ _); have hfw1 : w1.frozen? ⟨w.heap.size + 1, 1, none⟩ = false := (hgrow.frozen_far ⟨w.heap.size + 1, 1, none⟩ (by simp; omega) hne').trans (hfa2 _ _)))
        all_goals
          have hblk : w1.heap[wr.heap.size]? = some (.cells #[.string s, .slice ga 0 0] 43 (0, 0)) := (hgrow.block wr.heap.size (by simp; omega) hne2).trans (by
            show ((wr.alloc _).alloc _).heap[wr.heap.size]? = _
            rw [Below.heap_alloc _ _ _ (by simp)]
            exact heap_alloc_new _ _)
          have cblk : w1.cell? ⟨wr.heap.size, 1, none⟩ = some (.slice ga 0 0) := by rw [cell_of_row w1 wr.heap.size 1 _ _ _ hblk]; rfl
          have hneb : wr.heap.size ≠ w.heap.size + 1 := by omega
          obtain ⟨hq1, ho1⟩ := QAt.pushU hq.out H2.out H6.out hown1 (ext_alloc (ext_alloc (Below.refl _ _) _) _).drew hgrow
          have Hq1 := hid hq1
          have Hb1 : Hid (Below w.heap.size w (w1.setCell ⟨w.heap.size + 1, 1, none⟩ (.slice ao1 (ul.length + 1) cap1))) := hbel.out.trans (ho1.1.mono (by omega))
          clear hq1 ho1 hown1 hgrow
          go_wp2
          obtain ⟨wo, hwo⟩ : ∃ wo : World, wo = wr := ⟨_, rfl⟩
          go_loopw [35] (fun i wx => i = .int .i64 0 ∧ Hid (QAt wx (w.heap.size + 1) kl (ul ++ [s])) ∧ Hid (Below w.heap.size w wx)) (fun i _ => 0)
          case atStart => exact ⟨rfl, Hq1, Hb1⟩
          case round =>
            obtain ⟨rfl, hq2, hb2⟩ := hrel
            go_wp2
            go_roundw
            case rel => exact ⟨k + 1, by omega, by go_num, by rw [Hun0.out, Hkn0.out]; exact hq2, hb2⟩
            case measure => simp [intOf]; omega
      · have Hun0 : Hid (unresOf (ns.take (k + 1)) = ul) := by show _ = _; rw [Hun.out, if_neg hm]; simp
        clear Hun
        obtain ⟨g, rfl, hgb, hzs⟩ := Hg.out.2 (by omega)
        have Hz := hid hzs
        have hgl : g < w.heap.size := World.block_lt_of_cell? _ _ (hzs 0 (by omega)).1
        have Hq0 : Hid (∀ o, QAt (wr.alloc o) (w.heap.size + 1) kl ul) := fun o => hq.out.below (ext_alloc (Below.refl _ _) o)
        clear hzs Hg hgb
        have hmm : m ≤ 1048576 := by omega
        have hm0 : ((m : Int) == 0) = false := by simpa using hm
        go_wp2
        obtain ⟨wo, hwo⟩ : ∃ wo : World, wo = wr := ⟨_, rfl⟩
        go_loopw [35] (fun i wx => ∃ j : Nat, j ≤ m ∧ i = .int .i64 j ∧ Hid (QAt wx (w.heap.size + 1) (kl ++ List.replicate j s) ul) ∧ Hid (Below w.heap.size w wx) ∧ Hid (wx.heap[wo.heap.size]? = some (.cells #[.string s, .slice (some ⟨g, 0, none⟩) m gc] 43 (0, 0)))) (fun i _ => m - (intOf i).toNat)
        case atStart => exact ⟨0, Nat.zero_le _, rfl, by rw [List.replicate_zero, List.append_nil]; exact Hq0.out _, ext_alloc hbel.out _, by rw [hwo]; exact heap_alloc_new _ _⟩
        case round =>
          subst hwo
          obtain ⟨j, hj, rfl, hqj, hbj, hblk⟩ := hrel
          by_cases hjm : j < m
          · have hlr : (kl ++ List.replicate j s).length + 1 ≤ 1048576 := by simp; omega
            have Hk1 : Hid (kl ++ List.replicate (j + 1) s = (kl ++ List.replicate j s) ++ [s]) := by show _ = _; rw [List.replicate_succ', List.append_assoc]
            generalize kl ++ List.replicate j s = L at hqj hlr Hk1
            have hltr := hqj.out.lt
            obtain ⟨ka, kc, ua, uc, h1, h2, h3, h4, h5, h6⟩ := hqj.out
            have hzk := Hz.out j hjm
            have c0 : wr.cell? ⟨g, j * 3, none⟩ = some (.int .u64 0) := (hbj.out.cell (by exact hgl)).trans hzk.1
            have c1 : wr.cell? ⟨g, j * 3 + 1, none⟩ = some (.int .u64 0) := (hbj.out.cell (by exact hgl)).trans hzk.2.1
            have c2 : wr.cell? ⟨g, j * 3 + 1 + 1, none⟩ = some (.pointer none) := (hbj.out.cell (by exact hgl)).trans hzk.2.2
            have cb : wr.cell? ⟨wo.heap.size, 0, none⟩ = some (.string s) := by rw [cell_of_row wr wo.heap.size 0 _ _ _ hblk.out]; rfl
            have hbx : wo.heap.size < wr.heap.size := (Array.getElem?_eq_some_iff.1 hblk.out).1
            have hgw : g < wr.heap.size := by omega
            have hfa2 : ∀ o o2, ((wr.alloc o).alloc o2).frozen? ⟨w.heap.size + 1, 0, none⟩ = false := fun o o2 => by rw [(((Below.refl wr.heap.size wr).alloc (Nat.le_refl _) o).alloc (by simp) o2).frozen (by exact hltr)]; exact h3
            have hca2 : ∀ o o2, ((wr.alloc o).alloc o2).cell? ⟨w.heap.size + 1, 0, none⟩ = some (.slice ka L.length kc) := fun o o2 => by rw [(((Below.refl wr.heap.size wr).alloc (Nat.le_refl _) o).alloc (by simp) o2).cell (by exact hltr)]; exact h1
            have H5 := hid h5
            have H1 := hid h1
            have hne' : some (w.heap.size + 1) ≠ offOwn (.slice ka L.length kc) := fun he => by have := (h5.own_type he.symm).1; omega
            have hj0 : (0 : Int) ≤ (j : Int) := by omega
            have hj1 : (j : Int) < (m : Int) := by omega
            clear h2 h4 h6 h5 hzk
            go_wp2
            go_region_law
              ((refine step_append_off (by rfl) _ _ _ (by rfl) 54 i0 _ 4 40 Try.underlying94 hi0 hz0 hz1 hz2 rfl (by omega) (w.heap.size + 1 + 1) (.slice ka L.length kc) L.length (hintCells L) (by rfl) ((H5.out.below (ext_alloc (ext_alloc (Below.refl _ _) _) _).drew))
                  ⟨wr.heap.size + 1, 0, none⟩ 1 (hint1 s) (by rfl) (by rfl) (World.news_of_block (cs := #[.string s, .int .u64 0, .int .u64 0, .pointer none]) (t := 54) (fr := (0, 0)) (heap_new2 wr _ _ _)) (by simp [hint1, Value.oneCell'])
                  hlr (by omega) (by simp; omega) ?_; intro ao1 cap1 w1 hown1 hgrow; have hcw1 : w1.cell? ⟨w.heap.size + 1, 0, none⟩ = some (.slice ka L.length kc) := (hgrow.cell_far ⟨w.heap.size + 1, 0, none⟩ (by simp; omega) hne').trans (hca2 _ _); have hfw1 : w1.frozen? ⟨w.heap.size + 1, 0, none⟩ = false := (hgrow.frozen_far ⟨w.heap.size + 1, 0, none⟩ (by simp; omega) hne').trans (hfa2 _ _)))
            all_goals
              go_wp2
              go_roundw
              case rel =>
                obtain ⟨hq1, ho1⟩ := QAt.push hqj.out H1.out H5.out hown1 (ext_alloc (ext_alloc (Below.refl _ _) _) _).drew hgrow
                refine ⟨j + 1, by omega, by go_num, ?_, hbj.out.trans (ho1.1.mono (by omega)), ?_⟩
                · rw [Hk1.out]; exact hq1
                · exact (ho1.2 _ hbx (by omega) (fun c e => by rw [hblk.out] at e; cases e)).trans hblk.out
              case measure => simp [intOf]; omega
          · have hjm' : j = m := by omega
            subst hjm'
            go_wp2
            go_roundw
            case rel => exact ⟨k + 1, by omega, by go_num, by rw [Hun0.out, Hkn.out]; exact hqj, hbj⟩
            case measure => simp [intOf]; omega
    · have hkn : k = n := by omega
      subst hkn
      have hkl : ns.take k = ns := List.take_of_length_le (by have := H.out.len; omega)
      rw [hkl] at hq
      go_wp2
      go_ret
      exact ⟨⟨_, rfl, by omega, hq.out⟩, hbel.out⟩

set_option maxRecDepth 100000 in
set_option maxHeartbeats 400000 in
theorem zzServerAddrsOf_any (a : Option Addr) (n cap : Nat) (ns : List (ByteArray × Nat)) (w : World) (h : NSs w a n ns) (hsm : n ≤ 1048576) (hkn : (knownOf ns).length ≤ 1048576) :
    Calls Try.prog 21 #[.slice a n cap] w fun e w' => (∃ A, e = .returned (.pointer (some ⟨A, 0, none⟩)) ∧ w.heap.size ≤ A ∧ QAt w' A (knownOf ns) (unresOf ns)) ∧ Below w.heap.size w w' := by
  have H := hid h
  clear h
  go_enter Try.func21, Try.ntmps21
  go_wp2_with (go_at_call 36; refine (told (serverAddrs_any a n cap ns _ H.out hsm hkn _ rfl)).mono ?_)
  intro e w1 hp
  obtain ⟨⟨A, rfl, hA, hq⟩, hb⟩ := hp.out
  have Hq := hid hq
  have Hb := hid hb
  clear hp hq hb
  go_wp2
  go_ret
  exact ⟨⟨A, rfl, hA, Hq.out⟩, Hb.out⟩
end Go.Proofs.Qxb6003717a
