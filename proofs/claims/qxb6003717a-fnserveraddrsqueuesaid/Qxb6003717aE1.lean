import Derived.Test.Qxb6003717aD7
import Derived.Deep.RegionLaw
import Derived.Deep.RegionLawGrows
import Derived.BigRegion
namespace Go.Proofs.Qxb6003717a
open Go.RowKit

/-- The block into which an append to v may write in place. -/
def offOwn : Value → Option Nat
  | .slice (some a) _ (_ + 1) => some a.block
  | _ => none

/-- v is a slice of n elements (type e, size cells each), the cells xs, over a block of the call's own (from B on), beginning anywhere in it. -/
def OffRow (w : World) (B : Nat) (e : TypeId) (size : Nat) (v : Value) (n : Nat) (xs : List Value) : Prop :=
  xs.length = n * size ∧ ∃ ao cap, v = .slice ao n cap ∧ n ≤ cap ∧ cap ≤ maxLen ∧ (ao = none → cap = 0) ∧
    ∀ a, ao = some a → a.spot = none ∧ B ≤ a.block ∧ (0 < cap → ∃ cur, w.heap[a.block]? = some (.cells cur e (0, 0)) ∧ a.off + cap * size ≤ cur.size ∧ ∀ j u, xs[j]? = some u → cur[a.off + j]? = some u)

theorem OffRow.nil (w : World) (B : Nat) (e : TypeId) (size : Nat) : OffRow w B e size (.slice none 0 0) 0 [] :=
  ⟨by simp, none, 0, rfl, Nat.le_refl _, by simp [maxLen], fun _ => rfl, fun a ha => by cases ha⟩

theorem OffRow.own_type {w : World} {B : Nat} {e : TypeId} {size : Nat} {v : Value} {n : Nat} {xs : List Value} (h : OffRow w B e size v n xs) {k : Nat} (hk : offOwn v = some k) : B ≤ k ∧ k < w.heap.size ∧ ∃ cur, w.heap[k]? = some (.cells cur e (0, 0)) := by
  obtain ⟨_, ao, cap, rfl, _, _, _, h5⟩ := h
  cases ao with
  | none => simp [offOwn] at hk
  | some a =>
    cases cap with
    | zero => simp [offOwn] at hk
    | succ c =>
      simp [offOwn] at hk
      subst hk
      obtain ⟨_, hB, hc⟩ := h5 a rfl
      obtain ⟨cur, hg, _⟩ := hc (by omega)
      exact ⟨hB, (Array.getElem?_eq_some_iff.1 hg).1, cur, hg⟩

/-- A row stays while another block is written. -/
theorem OffRow.kept {w w' : World} {B : Nat} {e : TypeId} {size : Nat} {v : Value} {n : Nat} {xs : List Value} (h : OffRow w B e size v n xs) (hb : ∀ k, offOwn v = some k → w'.heap[k]? = w.heap[k]?) : OffRow w' B e size v n xs := by
  obtain ⟨h1, ao, cap, rfl, h2, h3, h4, h5⟩ := h
  refine ⟨h1, ao, cap, rfl, h2, h3, h4, fun a ha => ?_⟩
  obtain ⟨h6, h7, h8⟩ := h5 a ha
  refine ⟨h6, h7, fun hc => ?_⟩
  obtain ⟨cur, hg, h9, h10⟩ := h8 hc
  subst ha
  refine ⟨cur, ?_, h9, h10⟩
  rw [hb a.block (by cases cap with | zero => omega | succ c => rfl)]
  exact hg
theorem OffRow.below {w w' : World} {B : Nat} {e : TypeId} {size : Nat} {v : Value} {n : Nat} {xs : List Value} (h : OffRow w B e size v n xs) (hb : Below w.heap.size w w') : OffRow w' B e size v n xs :=
  h.kept fun k hk => hb.block k (h.own_type hk).2.1

/-- The cells of its elements. -/
theorem OffRow.at_ {w : World} {B : Nat} {e : TypeId} {size : Nat} {v : Value} {n : Nat} {xs : List Value} (h : OffRow w B e size v n xs) (hn : 0 < n) :
    ∃ g off cap, v = .slice (some ⟨g, off, none⟩) n cap ∧ n ≤ cap ∧ cap ≤ maxLen ∧ B ≤ g ∧ g < w.heap.size ∧ ∀ j u, xs[j]? = some u → w.cell? ⟨g, off + j, none⟩ = some u := by
  obtain ⟨h1, ao, cap, rfl, h2, h3, h4, h5⟩ := h
  cases ao with
  | none => have := h4 rfl; omega
  | some a =>
    obtain ⟨g, off, spot⟩ := a
    obtain ⟨h6, h7, h8⟩ := h5 _ rfl
    simp at h6
    subst h6
    obtain ⟨cur, hg, h9, h10⟩ := h8 (by omega)
    refine ⟨g, off, cap, rfl, h2, h3, h7, (Array.getElem?_eq_some_iff.1 hg).1, fun j u hu => ?_⟩
    rw [cell_of_row w g _ cur e (0, 0) hg]
    exact h10 j u hu

/-- The row without its first element. -/
theorem OffRow.tail {w : World} {B : Nat} {e : TypeId} {size : Nat} {g off n cap : Nat} {xs : List Value} (h : OffRow w B e size (.slice (some ⟨g, off, none⟩) n cap) n xs) (hn : 0 < n) (off' : Nat) (ho : off' = off + size ∨ (cap = 1 ∧ off' = off)) :
    OffRow w B e size (.slice (some ⟨g, off', none⟩) (n - 1) (cap - 1)) (n - 1) (xs.drop size) := by
  obtain ⟨h1, ao, cap', hv, h2, h3, h4, h5⟩ := h
  cases hv
  refine ⟨by rw [List.length_drop, h1, Nat.sub_mul]; omega, _, _, rfl, by omega, by omega, fun h => (by cases h), fun a ha => ?_⟩
  cases ha
  obtain ⟨h6, h7, h8⟩ := h5 _ rfl
  refine ⟨rfl, h7, fun hc => ?_⟩
  obtain ⟨cur, hg, h9, h10⟩ := h8 (by omega)
  rcases ho with rfl | ⟨hc1, rfl⟩
  · refine ⟨cur, hg, ?_, fun j u hu => ?_⟩
    · have : (cap - 1) * size + size = cap * size := by rw [← Nat.succ_mul]; congr 1; omega
      simp only at h9 ⊢
      omega
    · rw [List.getElem?_drop] at hu
      have := h10 (size + j) u hu
      simp only at this ⊢
      rw [Nat.add_assoc]
      exact this
  · omega

/-- append onto such a row, in whatever world. -/
theorem run_append_off {w : World} (t ty e : TypeId) (i : TypeInfo) (z : Value) (size bytes : Nat) (ht : Try.prog.underlying t = some (.slice e)) (hi : Try.prog.info? e = some i) (hz : i.zero = some z) (hsize : i.size = size) (hby : i.bytes = bytes) (hzs : z.cells.size = size) (hsz : 0 < size)
    (B : Nat) (v : Value) (n : Nat) (xs : List Value) (h : OffRow w B e size v n xs) (ad : Addr) (c : Nat) (news : List Value) (hl : news.length = size) (hnews : ∀ j u, news[j]? = some u → w.cell? (ad.add j) = some u) (h1 : ∀ u ∈ news, u.oneCell' = true)
    (hn : n + 1 ≤ 1048576) (hbytes : (n + 1) * bytes ≤ 140737488355328) (hB : B ≤ w.heap.size) :
    ∃ ao cap w', (Builtin.append_ #[t, t] ty #[v, .slice (some ad) 1 c]).run Try.prog w = .ok (.slice ao (n + 1) cap) w' ∧ OffRow w' B e size (.slice ao (n + 1) cap) (n + 1) (xs ++ news) ∧ w.grownBy w' (offOwn v) := by
  have h0 := h
  obtain ⟨hx, ao, cap, rfl, h2, h3, h4, h5⟩ := h
  by_cases hroom : n + 1 ≤ cap
  · cases ao with
    | none => have := h4 rfl; omega
    | some a =>
      obtain ⟨g, off, spot⟩ := a
      obtain ⟨h6, h7, h8⟩ := h5 _ rfl
      simp at h6
      subst h6
      obtain ⟨cur, hg, h9, h10⟩ := h8 (by omega)
      simp only at h9 h10 hg h7
      have hcs : n * size + size ≤ cap * size := by rw [← Nat.succ_mul]; exact Nat.mul_le_mul_right _ hroom
      have hnl : news.length = 1 * i.size := by rw [hl, hsize]; omega
      have hf := run_firstCells_some (P := Try.prog) w i.size 1 ad 1 c news hnl hnews
      have hst := run_storeCells_at Try.prog g (off + n * i.size) e news 0 cur w hg (by rw [hsize]; omega) h1
      simp only [Nat.add_zero] at hst
      have hrun : (Builtin.append_ #[t, t] ty #[.slice (some ⟨g, off, none⟩) n cap, .slice (some ad) 1 c]).run Try.prog w = .ok (.slice (some ⟨g, off, none⟩) (n + 1) cap) (w.setRow g (cur.toList.take (off + n * i.size) ++ news ++ cur.toList.drop (off + n * i.size + news.length)).toArray) := by
        simp [Builtin.append_, run_underlying ht, sizeOf, typeInfo, hi, Builtin.lenOf, hroom, hf, Addr.add_lit, hst]
      rw [hsize] at hrun
      refine ⟨_, _, _, hrun, ?_, ?_⟩
      · refine ⟨by rw [List.length_append, hx, hl, Nat.succ_mul], _, _, rfl, hroom, h3, fun h => (by cases h), fun a ha => ?_⟩
        cases ha
        refine ⟨rfl, h7, fun _ => ⟨_, setRow_heap w g cur _ e _ hg, ?_, fun j u hu => ?_⟩⟩
        · simp only [List.size_toArray, List.length_append, List.length_take, List.length_drop, Array.length_toList]
          omega
        · simp only [List.getElem?_toArray]
          by_cases hj : j < n * size
          · rw [List.getElem?_append_left (by omega)] at hu
            rw [List.append_assoc, List.getElem?_append_left (by rw [List.length_take, Array.length_toList]; omega), List.getElem?_take, if_pos (by omega), Array.getElem?_toList]
            exact h10 j u hu
          · rw [List.getElem?_append_right (by omega), hx] at hu
            have hjn : j - n * size < news.length := (List.getElem?_eq_some_iff.1 hu).1
            have htl : (cur.toList.take (off + n * size)).length = off + n * size := by rw [List.length_take, Array.length_toList]; omega
            rw [List.append_assoc, List.getElem?_append_right (by omega), htl, List.getElem?_append_left (by omega), show off + j - (off + n * size) = j - n * size by omega]
            exact hu
      · obtain ⟨cc, rfl⟩ : ∃ cc, cap = cc + 1 := ⟨cap - 1, by omega⟩
        exact ⟨rfl, rfl, rfl, by simp, fun k _ hk => setRow_other w g k _ (fun e => hk (by simp [offOwn, e]))⟩
  · have hfull : cap < n + 1 := by omega
    obtain ⟨olds, hol, holds⟩ : ∃ olds : List Value, olds.length = n * size ∧ olds = xs := ⟨xs, hx, rfl⟩
    subst holds
    have hcells : ∀ b, ao = some b → ∀ j u, olds[j]? = some u → w.cell? (b.add j) = some u := by
      intro b hb j u hu
      have hj : j < n * size := by have := (List.getElem?_eq_some_iff.1 hu).1; omega
      have hn0 : 0 < n := by
        rcases Nat.eq_zero_or_pos n with h | h
        · subst h; simp at hj
        · exact h
      obtain ⟨g, off, cap', hv, _, _, _, _, hc⟩ := h0.at_ hn0
      cases hv
      cases hb
      rw [addr_add]
      exact hc j u hu
    have fin : ∀ v' w', w'.ownsRow w.heap.size e size v' (n + 1) (olds ++ news) → w.grownBy w' none → ∃ ao' cap', v' = .slice ao' (n + 1) cap' ∧ OffRow w' B e size (.slice ao' (n + 1) cap') (n + 1) (olds ++ news) ∧ w.grownBy w' (offOwn (.slice ao n cap)) := by
      intro v' w' r1 r2
      rcases r1.2 with ⟨_, h⟩ | ⟨g, cp, cur, rfl, hg, hh, hnc, hcm, hcs, htk⟩
      · omega
      · refine ⟨_, _, rfl, ⟨r1.1, _, _, rfl, hnc, hcm, fun h => (by cases h), fun a ha => ?_⟩, ⟨r2.os, r2.tape, r2.output, r2.size, fun k hk _ => r2.block k hk (by simp)⟩⟩
        cases ha
        refine ⟨rfl, (show B ≤ g by omega), fun _ => ⟨cur, hh, by simp [hcs], fun j u hu => ?_⟩⟩
        have := own_cell (w := w') (c := cp) r1 hu
        rw [cell_of_row w' g j cur e (0, 0) hh] at this
        simpa using this
    cases ao with
    | some b =>
      obtain ⟨v', w', hrun, r1, r2⟩ := run_append_arg_grows (P := Try.prog) w t ty e i z size bytes ht hi hz hsize hby hzs hsz b n cap olds hol (hcells b rfl) ad 1 c news (by omega) hnews hfull (by unfold maxLen; omega) hbytes
      obtain ⟨ao', cap', rfl, f1, f2⟩ := fin v' w' r1 r2
      exact ⟨_, _, _, hrun, f1, f2⟩
    | none =>
      have hc0 := h4 rfl
      subst hc0
      obtain rfl : n = 0 := by omega
      obtain rfl : olds = [] := List.eq_nil_of_length_eq_zero (by simpa using hol)
      obtain ⟨v', w', hrun, r1, r2, _⟩ := run_append_own (P := Try.prog) w w.heap.size t ty e i z size bytes ht hi hz hsize hby hzs hsz (.slice none 0 0) 0 [] (World.ownsRow_nil w _ e size) ad 1 c news (by omega) hnews h1 (by unfold maxLen; omega) (by simpa using hbytes) (Nat.le_refl _)
      obtain ⟨ao', cap', rfl, f1, f2⟩ := fin v' w' r1 r2
      exact ⟨_, _, _, hrun, f1, f2⟩

/-- The same as one step of a region that draws its order. -/
theorem step_append_off {ops : Array Oper} {o : Oper} {a : Act} {w : World} {K : Act → World → Prop} {Q : Exit → Act → World → Prop} {E : Prop} (hgd : o.guard = none) (s x : Operand) (t : TypeId)
    (ho : o.op = .call { callee := .builtin .append, args := #[s, x], argTypes := #[t, t] })
    (e : TypeId) (i : TypeInfo) (z : Value) (size bytes : Nat) (ht : Try.prog.underlying t = some (.slice e)) (hi : Try.prog.info? e = some i) (hz : i.zero = some z) (hsize : i.size = size) (hby : i.bytes = bytes) (hzs : z.cells.size = size) (hsz : 0 < size)
    (B : Nat) (v : Value) (n : Nat) (xs : List Value) (hs : a.eval s = v) (h : OffRow w B e size v n xs) (ad : Addr) (c : Nat) (news : List Value) (hx : a.eval x = .slice (some ad) 1 c) (hl : news.length = size) (hnews : ∀ j u, news[j]? = some u → w.cell? (ad.add j) = some u) (h1 : ∀ u ∈ news, u.oneCell' = true)
    (hn : n + 1 ≤ 1048576) (hbytes : (n + 1) * bytes ≤ 140737488355328) (hB : B ≤ w.heap.size)
    (hK : ∀ ao cap w', OffRow w' B e size (.slice ao (n + 1) cap) (n + 1) (xs ++ news) → w.grownBy w' (offOwn v) → K (a.put o.dst (.slice ao (n + 1) cap)) w') :
    if Region.wanted o (yielded ops a.tmps) = true then Oper.wp Try.prog o a w K Q else E := by
  have hw : Region.wanted o (yielded ops a.tmps) = true := by simp [Region.wanted, hgd]
  rw [if_pos hw]
  obtain ⟨ao, cap, w', hr, h2, h3⟩ := run_append_off (w := w) t o.type e i z size bytes ht hi hz hsize hby hzs hsz B v n xs h ad c news hl hnews h1 hn hbytes hB
  unfold Oper.wp execOp
  simp only [ho, resolve, invoke, builtin, Sem.run_bind, Sem.run_pure, Result.andThen_ok, List.map_toArray, List.map_cons, List.map_nil, hs, hx, hr]
  exact hK ao cap w' h2 h3
end Go.Proofs.Qxb6003717a
