import Derived.Test.Qxb6003724aRows
import Derived.Test.Qxb6003724aP1
import Derived.WalkKit
import Derived.WalkSpells
import Derived.WalkLawsBesides
import Derived.Deep.QuietTactic
import Derived.BigQuiet
namespace Go.Proofs.Qxb6003724a
open Go.RowKit Ieee

/-- The bits r are the result o; where o is none they are a NaN's. -/
def V (o : Option Nat) (r : Nat) : Prop := match o with | some v => r = v | none => (double.read r).isNaN = true

theorem nan_word (b : Bool) (k : Nat) (hk : k < 2 ^ 52 - 1) : (double.read (double.word b (double.infRung + 1 + k))).isNaN = true := by
  have hi : double.infRung = 0x7ff0000000000000 := by decide
  have hs : double.signWeight = 2 ^ 63 := by decide
  have hb : double.binade = 2 ^ 52 := by decide
  rw [read_word _ _ (by omega)]
  unfold rd
  rw [if_neg (by omega), if_neg (by omega), if_neg (by omega)]
  rfl
theorem nan_cut (t : Nat) : (double.read ((t % 2) * 2 ^ 63 + 0x7ff0000000000000 + 1 + (t / 2) % (2 ^ 52 - 1))).isNaN = true := by
  have hk : (t / 2) % (2 ^ 52 - 1) < 2 ^ 52 - 1 := Nat.mod_lt _ (by decide)
  have hi : double.infRung = 0x7ff0000000000000 := by decide
  have hs : double.signWeight = 2 ^ 63 := by decide
  rcases Nat.mod_two_eq_zero_or_one t with h | h
  · have := nan_word false _ hk
    rw [show double.word false (double.infRung + 1 + t / 2 % (2 ^ 52 - 1)) = (t % 2) * 2 ^ 63 + 0x7ff0000000000000 + 1 + (t / 2) % (2 ^ 52 - 1) by simp only [Format.word, hi, h]; simp] at this
    exact this
  · have := nan_word true _ hk
    rw [show double.word true (double.infRung + 1 + t / 2 % (2 ^ 52 - 1)) = (t % 2) * 2 ^ 63 + 0x7ff0000000000000 + 1 + (t / 2) % (2 ^ 52 - 1) by simp only [Format.word, hi, hs, h]; simp; omega] at this
    exact this

theorem arith_run (P : Program) (op : BinOp) (hop : op = .add ∨ op = .sub ∨ op = .mul) (t : TypeId) (x y : Nat) (w : World) (n : Nat) :
    ∃ r n', (binOp op t (.float .f64 x) (.float .f64 y)).run P (w.drewN n) = .ok (.float .f64 r) (w.drewN n') ∧ V (floatBits op .f64 x y) r := by
  cases h : floatBits op .f64 x y with
  | some r => exact ⟨r, n, run_float_arith _ op t .f64 x y r h, rfl⟩
  | none =>
    refine ⟨(Question.nanBits .f64 x y).cut (w.tape (w.drawn + n) (.nanBits .f64 x y)), n + 1, ?_, nan_cut _⟩
    unfold floatBits at h
    rcases hop with rfl | rfl | rfl
    all_goals
      simp only at h
      simp [binOp, Op.floatArith, h, Question.forced]
      rfl

theorem nan_left {x : Nat} (h : (double.read x).isNaN = true) (op : BinOp) (hop : op = .add ∨ op = .sub ∨ op = .mul) (y : Nat) : floatBits op .f64 x y = none := by
  cases hx : double.read x with
  | number s m e => rw [hx] at h; cases h
  | infinity s => rw [hx] at h; cases h
  | nan s t => rcases hop with rfl | rfl | rfl <;> simp [floatBits, FloatKind.format, Format.add, Format.sub, Format.mul, hx, Datum.sum, Datum.product]
theorem nan_right {y : Nat} (h : (double.read y).isNaN = true) (op : BinOp) (hop : op = .add ∨ op = .sub ∨ op = .mul) (x : Nat) : floatBits op .f64 x y = none := by
  cases hy : double.read y with
  | number s m e => rw [hy] at h; cases h
  | infinity s => rw [hy] at h; cases h
  | nan s t => rcases hop with rfl | rfl | rfl <;> (simp only [floatBits, FloatKind.format, Format.add, Format.sub, Format.mul, hy, Datum.opposite]; cases double.read x <;> rfl)

/-- '+', '-', '*' of two results. -/
theorem arith_V (P : Program) (op : BinOp) (hop : op = .add ∨ op = .sub ∨ op = .mul) (t : TypeId) {ox oy : Option Nat} {x y : Nat} (hx : V ox x) (hy : V oy y) (w : World) (n : Nat) :
    ∃ r n', (binOp op t (.float .f64 x) (.float .f64 y)).run P (w.drewN n) = .ok (.float .f64 r) (w.drewN n') ∧ V (ox.bind fun a => oy.bind fun b => floatBits op .f64 a b) r := by
  obtain ⟨r, n', h1, h2⟩ := arith_run P op hop t x y w n
  refine ⟨r, n', h1, ?_⟩
  cases ox with
  | none => rw [nan_left hx op hop] at h2; exact h2
  | some a =>
    cases hx
    cases oy with
    | none => rw [nan_right hy op hop] at h2; exact h2
    | some b => cases hy; exact h2

theorem max2_run (P : Program) (x y : Nat) (w : World) (n : Nat) : ∃ r n', (Builtin.max2 (.float .f64 x) (.float .f64 y)).run P (w.drewN n) = .ok (.float .f64 r) (w.drewN n') ∧ V (maxO x y) r := by
  have hf : FloatKind.f64.format = double := rfl
  cases h : double.order x y with
  | none =>
    refine ⟨(Question.nanMinMax .f64 true x y).cut (w.tape (w.drawn + n) (.nanMinMax .f64 true x y)), n + 1, ?_, ?_⟩
    · simp [Builtin.max2, hf, h, Question.forced]
      rfl
    · simp only [maxO, h]
      exact nan_cut _
  | some o =>
    cases o
    · exact ⟨y, n, by simp [Builtin.max2, hf, h], by simp [maxO, h, V]⟩
    · exact ⟨if (double.read x).neg then y else x, n, by simp [Builtin.max2, hf, h, FloatKind.decode], by simp [maxO, h, V]⟩
    · exact ⟨x, n, by simp [Builtin.max2, hf, h], by simp [maxO, h, V]⟩
theorem order_nan_left {x : Nat} (h : (double.read x).isNaN = true) (y : Nat) : double.order x y = none := by
  unfold Format.order
  cases hx : double.read x with
  | number s m e => rw [hx] at h; cases h
  | infinity s => rw [hx] at h; cases h
  | nan s t => rfl
theorem order_nan_right {y : Nat} (h : (double.read y).isNaN = true) (x : Nat) : double.order x y = none := by
  unfold Format.order
  cases hy : double.read y with
  | number s m e => rw [hy] at h; cases h
  | infinity s => rw [hy] at h; cases h
  | nan s t => cases double.read x <;> rfl
theorem max2_V (P : Program) {ox oy : Option Nat} {x y : Nat} (hx : V ox x) (hy : V oy y) (w : World) (n : Nat) : ∃ r n', (Builtin.max2 (.float .f64 x) (.float .f64 y)).run P (w.drewN n) = .ok (.float .f64 r) (w.drewN n') ∧ V (ox.bind fun a => oy.bind fun b => maxO a b) r := by
  obtain ⟨r, n', h1, h2⟩ := max2_run P x y w n
  refine ⟨r, n', h1, ?_⟩
  cases ox with
  | none => simp only [maxO, order_nan_left hx] at h2; exact h2
  | some a =>
    cases hx
    cases oy with
    | none => simp only [maxO, order_nan_right hy] at h2; exact h2
    | some b => cases hy; exact h2
/-- max of three. -/
theorem max3_V (P : Program) (ts : Array TypeId) (t : TypeId) {ox oy : Option Nat} {x y : Nat} (hx : V ox x) (hy : V oy y) (w : World) (n : Nat) :
    ∃ r n', (Builtin.max_ ts t #[.float .f64 x, .float .f64 y, .float .f64 0]).run P (w.drewN n) = .ok (.float .f64 r) (w.drewN n') ∧ V (ox.bind fun a => oy.bind fun b => (maxO a b).bind fun z => maxO z 0) r := by
  obtain ⟨r1, n1, h1, v1⟩ := max2_V P hx hy w n
  obtain ⟨r2, n2, h2, v2⟩ := max2_V P v1 (show V (some 0) 0 from rfl) w n1
  refine ⟨r2, n2, ?_, ?_⟩
  · simp [Builtin.max_, h1, h2]
  · cases ox with
    | none => exact v2
    | some a => cases oy with
      | none => exact v2
      | some b => exact v2

/-- '<=' of two results. -/
def leqB (a b : Option Nat) : Bool := match a, b with
  | some x, some y => double.order x y == some .lt || double.order x y == some .eq
  | _, _ => false
theorem leq_V {ox oy : Option Nat} {x y : Nat} (hx : V ox x) (hy : V oy y) : (double.order x y == some .lt || double.order x y == some .eq) = leqB ox oy := by
  cases ox with
  | none => rw [order_nan_left hx]; rfl
  | some a =>
    cases hx
    cases oy with
    | none => rw [order_nan_right hy]; rfl
    | some b => cases hy; rfl

def nearB (ax ay bx by_ r : Nat) : Bool := leqB ((sqO bx ax).bind fun p => (sqO by_ ay).bind fun q => double.add p q) (double.mul r r)

theorem sq_V {o : Option Nat} {r : Nat} (h : V (o.bind fun a => o.bind fun b => floatBits .mul .f64 a b) r) : V (o.bind fun d => double.mul d d) r := by
  cases o with
  | none => exact h
  | some a => exact h

set_option maxRecDepth 100000 in
set_option maxHeartbeats 400000 in
theorem near_any (ax ay bx by_ r : Nat) (w : World) :
    Calls Try.prog 16 #[.float .f64 ax, .float .f64 ay, .float .f64 bx, .float .f64 by_, .float .f64 r] w fun e w' => e = .returned (.bool (nearB ax ay bx by_ r)) ∧ ∃ n, w' = w.drewN n := by
  obtain ⟨d, n1, h1, v1⟩ := arith_V Try.prog .sub (by simp) 22 (show V (some bx) bx from rfl) (show V (some ax) ax from rfl) w 0
  obtain ⟨d', n2, h2, v2⟩ := arith_V Try.prog .sub (by simp) 22 (show V (some by_) by_ from rfl) (show V (some ay) ay from rfl) w n1
  obtain ⟨p, n3, h3, v3⟩ := arith_V Try.prog .mul (by simp) 22 v1 v1 w n2
  obtain ⟨q, n4, h4, v4⟩ := arith_V Try.prog .mul (by simp) 22 v2 v2 w n3
  obtain ⟨s, n5, h5, v5⟩ := arith_V Try.prog .add (by simp) 22 (sq_V v3) (sq_V v4) w n4
  obtain ⟨t, n6, h6, v6⟩ := arith_V Try.prog .mul (by simp) 22 (show V (some r) r from rfl) (show V (some r) r from rfl) w n5
  have hl := leq_V v5 v6
  have h1' : (binOp .sub 22 (.float .f64 bx) (.float .f64 ax)).run Try.prog w = .ok (.float .f64 d) (w.drewN n1) := h1
  clear h1 v1 v2 v3 v4 v5 v6
  have Hl : Hid ((double.order s t == some .lt || double.order s t == some .eq) = nearB ax ay bx by_ r) := hl
  clear hl
  go_enter Try.func16, Try.ntmps16
  go_wp2
  go_ret
  refine ⟨?_, n6, rfl⟩
  rw [← Hl.out]
  rfl
end Go.Proofs.Qxb6003724a
