import Derived.Test.Qxb6003773aA2
namespace Go.Proofs.Qxb6003773a
open Go.RowKit

theorem Try.info5 : (Try.prog.info? 5).map (fun i => (i.zero, i.size, i.bytes)) = some (some (.int .u8 0), 1, 1) := by kernel_rfl
theorem addr_add (b off i : Nat) : (⟨b, off, none⟩ : Addr).add i = ⟨b, off + i, none⟩ := by unfold Addr.add; split <;> simp_all

def RetB (e : Ending) : Prop := ∃ r, e = .returned (.bool r)

set_option maxRecDepth 100000 in
set_option maxHeartbeats 400000 in
theorem zzBytes_any (a : Option Addr) (n cap : Nat) (b : Bool) (w : World) (hn : n ≤ maxLen) : Calls Try.prog 4 #[.slice a n cap, .bool b] w fun e w' => RetB e ∧ w' = w := by
  unfold maxLen at hn
  by_cases h1 : 1048576 < n
  · go_enter Try.func4, Try.ntmps4
    go_wp2
    go_ret
    exact ⟨⟨_, rfl⟩, rfl⟩
  · go_enter Try.func4, Try.ntmps4
    go_wp2
    go_ret
    exact ⟨⟨_, rfl⟩, rfl⟩

set_option maxRecDepth 100000 in
set_option maxHeartbeats 400000 in
theorem clone_any (a : Option Addr) (n cap : Nat) (xs : List Int) (w : World) (h : Bts w a n xs) (hsm : n ≤ 1048576) (h0 : 0 < n) :
    Calls Try.prog 5 #[.slice a n cap] w fun e w' => (e = .returned (.slice (some ⟨w.heap.size, 0, none⟩) n n) ∧ Bts w' (some ⟨w.heap.size, 0, none⟩) n xs) ∧ Below w.heap.size w w' := by
  have q22 : ∀ (w : World) (a : Option Addr) (n c n' c' : Nat), (binOp .eql 22 (.slice a n c) (.slice none n' c')).run Try.prog w = .ok (.bool a.isNone) w := fun w a n c n' c' => Lib.run_eql_slice_nil w _ _ a n c n' c' Try.underlying22
  cases a with
  | none =>
    rcases h.mem with h | ⟨b, off, h, _⟩
    · omega
    · cases h
  | some ad =>
    have hmk := run_make_row' (P := Try.prog) 22 5 (.int .u8 0) 1 Try.underlying22 Try.info5 rfl .i64 .i64 n (by omega) (by omega)
    have hinf : (Try.prog.info? 5).map (·.size) = some 1 := by kernel_rfl
    have hlen := h.len
    have Hl : Hid (xs.length = n) := hlen
    clear hlen
    go_enter Try.func5, Try.ntmps5
    go_wp2_with (refine wpList_copy_splice rfl (.tmp 9) (.tmp 10) 22 22 rfl 5 Try.underlying22 hinf _ _ _ _ _ _ rfl rfl w.heap.size 0 (madeCells #[.int .u8 0] n).toList 5 (heap_alloc_new w _) (xs.map (Value.int .u8)) ?c1 ?c2 ?c3 ?c4 w.heap.size w ((Below.refl _ _).alloc (Nat.le_refl _) _) (Nat.le_refl _) ?_)
    case c1 => simp [Hl.out]
    case c2 =>
      intro _ j s hj
      rcases h.mem with h0 | ⟨b, off, ha, hc⟩
      · omega
      · cases ha
        have hc1 := hc j s hj
        rw [addr_add, World.cell?_alloc_lt _ _ _ (World.block_lt_of_cell? _ _ hc1), hc1]
    case c3 => simp [Hl.out, size_madeCells]
    case c4 => intro v hv; simp at hv; obtain ⟨s, _, rfl⟩ := hv; rfl
    intro w1 hg1 hb1
    go_wp2
    go_ret
    have hsp : splice (madeCells #[Value.int .u8 0] n).toList 0 (xs.map (Value.int .u8)) = xs.map (Value.int .u8) := by
      simp [splice, Hl.out, size_madeCells]
    have hg2 := hg1.out
    rw [hsp] at hg2
    refine ⟨⟨rfl, h.len, h.lim, h.rng, .inr ⟨_, _, rfl, fun i x hx => ?_⟩⟩, hb1⟩
    rw [Nat.zero_add, cell_of_row w1 w.heap.size i _ _ _ hg2]
    simp [hx]

/-- What follows the marker: the end of the line or a blank; where the item interrupts, a start of one and some text. -/
def tl (xs : List Int) (k : Nat) (intr one : Bool) : Bool := (decide (xs.length ≤ k) || blank (xs.getD k 0)) && (!intr || (one && !((xs.drop k).all blank)))
theorem tl_end {xs : List Int} {k : Nat} (h : xs.length ≤ k) (intr one : Bool) : tl xs k intr one = !intr := by
  unfold tl
  rw [decide_eq_true h, List.drop_eq_nil_of_le h]
  cases intr <;> simp
theorem tl_not {xs : List Int} {k : Nat} {x : Int} (h : xs[k]? = some x) (hb : blank x = false) (intr one : Bool) : tl xs k intr one = false := by
  have hk := (List.getElem?_eq_some_iff.1 h).1
  unfold tl
  rw [decide_eq_false (by omega), List.getD_eq_getElem?_getD, h]
  simp [hb]
theorem tl_blank {xs : List Int} {k : Nat} {x : Int} (h : xs[k]? = some x) (hb : blank x = true) (intr one : Bool) : tl xs k intr one = (!intr || (one && !((xs.drop k).all blank))) := by
  unfold tl
  rw [List.getD_eq_getElem?_getD, h]
  simp [hb]
theorem Bts.drop {w : World} {b off n : Nat} {xs : List Int} (h : Bts w (some ⟨b, off, none⟩) n xs) (k : Nat) : Bts w (some ⟨b, off + k, none⟩) (n - k) (xs.drop k) := by
  refine ⟨by rw [List.length_drop, h.len], by have := h.lim; omega, fun x hx => h.rng x (List.mem_of_mem_drop hx), ?_⟩
  rcases h.mem with h0 | ⟨b', off', ha, hc⟩
  · exact .inl (by omega)
  · cases ha
    refine .inr ⟨_, _, rfl, fun i x hx => ?_⟩
    rw [List.getElem?_drop] at hx
    rw [Nat.add_assoc]
    exact hc _ _ hx
theorem Bts.take {w : World} {a : Option Addr} {n : Nat} {xs : List Int} (h : Bts w a n xs) (k : Nat) (hk : k ≤ n) : Bts w a k (xs.take k) := by
  refine ⟨by rw [List.length_take, h.len]; omega, by have := h.lim; omega, fun x hx => h.rng x (List.mem_of_mem_take hx), ?_⟩
  rcases h.mem with h0 | ⟨b', off', ha, hc⟩
  · exact .inl (by omega)
  · refine .inr ⟨_, _, ha, fun i x hx => ?_⟩
    rw [List.getElem?_take] at hx
    split at hx
    · exact hc _ _ hx
    · cases hx
theorem Bts.nil {w : World} (a : Option Addr) : Bts w a 0 [] := ⟨rfl, by simp [maxLen], by simp, .inl rfl⟩
end Go.Proofs.Qxb6003773a
