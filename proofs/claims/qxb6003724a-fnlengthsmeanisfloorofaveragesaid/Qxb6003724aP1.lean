import Derived.WalkKit
import Derived.WalkLawsBesides
namespace Go.Proofs.Qxb6003724a
open Ieee

/-- What a sign and a rung stand for. -/
def rd (b : Bool) (g : Nat) : Datum :=
  if g < double.binade then .number b g double.leastPlace
  else if g < double.infRung then .number b (double.binade + g % double.binade) (double.leastPlace + (g / double.binade - 1 : Nat))
  else if g = double.infRung then .infinity b
  else .nan b (g - double.infRung)

theorem read_word (b : Bool) (g : Nat) (hg : g < double.signWeight) : double.read (double.word b g) = rd b g := by
  have h0 : 0 < double.signWeight := Nat.two_pow_pos _
  have h1 : (double.word b g / double.signWeight % 2 == 1) = b := by
    cases b with
    | false => simp [Format.word, Nat.div_eq_of_lt hg]
    | true =>
      simp only [Format.word, if_true]
      rw [Nat.add_div_left _ h0, Nat.div_eq_of_lt hg]
      rfl
  have h2 : double.word b g % double.signWeight = g := by
    cases b with
    | false => simp [Format.word, Nat.mod_eq_of_lt hg]
    | true => simp [Format.word, Nat.mod_eq_of_lt hg]
  unfold Format.read rd
  simp only [h1, h2]

/-- A rung up to infinity's: a number, the same but for the sign, or an infinity. -/
theorem rd_cases (g : Nat) (hg : g ≤ double.infRung) : (∃ m e, (m = 0 ↔ g = 0) ∧ ∀ b, rd b g = .number b m e) ∨ (g ≠ 0 ∧ ∀ b, rd b g = .infinity b) := by
  have hb : 0 < double.binade := Nat.two_pow_pos _
  by_cases h1 : g < double.binade
  · exact .inl ⟨g, double.leastPlace, Iff.rfl, fun b => by simp [rd, h1]⟩
  · by_cases h2 : g < double.infRung
    · exact .inl ⟨double.binade + g % double.binade, double.leastPlace + (g / double.binade - 1 : Nat), by omega, fun b => by simp only [rd, if_neg h1, if_pos h2]⟩
    · exact .inr ⟨by omega, fun b => by simp only [rd, if_neg h1, if_neg h2, if_pos (Nat.le_antisymm hg (Nat.not_lt.1 h2))]⟩

theorem inf_lt : double.infRung < double.signWeight := double.infRung_lt

/-- The square does not hear the sign. -/
theorem mul_word (a b : Bool) (g : Nat) (hg : g ≤ double.infRung) : double.mul (double.word a g) (double.word a g) = double.mul (double.word b g) (double.word b g) := by
  have hl : g < double.signWeight := Nat.lt_of_le_of_lt hg inf_lt
  unfold Format.mul
  rw [read_word a g hl, read_word b g hl]
  rcases rd_cases g hg with ⟨m, e, _, h⟩ | ⟨_, h⟩
  · rw [h, h]; simp [Datum.product]
  · rw [h, h]; simp [Datum.product]

/-- max of two floats, as bits; none: a NaN. -/
def maxO (x y : Nat) : Option Nat :=
  match double.order x y with
  | none => none
  | some .lt => some y
  | some .gt => some x
  | some .eq => some (if (double.read x).neg then y else x)

theorem signed_pos (m k : Nat) (h : m ≠ 0) : 0 < signed false m k := by
  unfold signed
  simp only [Bool.false_eq_true, if_false, Nat.shiftLeft_eq]
  have : 0 < m * 2 ^ k := Nat.mul_pos (Nat.pos_of_ne_zero h) (Nat.two_pow_pos k)
  omega
theorem signed_neg (m k : Nat) (h : m ≠ 0) : signed true m k < 0 := by
  unfold signed
  simp only [if_true, Nat.shiftLeft_eq]
  have : 0 < m * 2 ^ k := Nat.mul_pos (Nat.pos_of_ne_zero h) (Nat.two_pow_pos k)
  omega
theorem signed_zero (b : Bool) (k : Nat) : signed b 0 k = 0 := by
  unfold signed
  cases b <;> simp [Nat.shiftLeft_eq]

theorem word_zero : double.word false 0 = 0 := rfl

/-- The greatest of a difference, its opposite and zero is the difference but for the sign. -/
theorem max_word (a c : Bool) (g : Nat) (hg : g ≤ double.infRung) (hs : g ≠ 0 → c = !a) :
    ∃ b, ((maxO (double.word a g) (double.word c g)).bind fun z => maxO z 0) = some (double.word b g) := by
  have hl : g < double.signWeight := Nat.lt_of_le_of_lt hg inf_lt
  have h0 : (0 : Nat) < double.signWeight := Nat.two_pow_pos _
  have hb : (0 : Nat) < double.binade := Nat.two_pow_pos _
  have hr0 : double.read 0 = .number false 0 double.leastPlace := by
    have := read_word false 0 h0
    rw [word_zero] at this
    rw [this]
    simp [rd, hb]
  rcases rd_cases g hg with ⟨m, e, hm, h⟩ | ⟨hg0, h⟩
  · by_cases hz : g = 0
    · have hm0 : m = 0 := hm.2 hz
      subst hm0
      have key : ∀ b, maxO (double.word b g) 0 = some (double.word false g) := by
        intro b
        unfold maxO Format.order
        rw [read_word b g hl, h, hr0]
        simp only [Datum.order, signed_zero]
        rw [show compare (0 : Int) 0 = .eq from rfl]
        subst hz
        cases b <;> simp [Datum.neg, word_zero]
      have step : ∃ b, maxO (double.word a g) (double.word c g) = some (double.word b g) := by
        unfold maxO Format.order
        rw [read_word a g hl, read_word c g hl, h, h]
        simp only [Datum.order, signed_zero]
        rw [show compare (0 : Int) 0 = .eq from rfl]
        cases a
        · exact ⟨false, rfl⟩
        · exact ⟨c, rfl⟩
      obtain ⟨b, hb⟩ := step
      rw [hb]
      exact ⟨false, key b⟩
    · have hm0 : m ≠ 0 := fun e => hz (hm.1 e)
      have hc := hs hz
      subst hc
      have key : maxO (double.word false g) 0 = some (double.word false g) := by
        unfold maxO Format.order
        rw [read_word false g hl, h, hr0]
        simp only [Datum.order, signed_zero]
        have := signed_pos m (e - min e double.leastPlace).toNat hm0
        rw [show compare (signed false m (e - min e double.leastPlace).toNat) (0 : Int) = .gt from Int.compare_eq_gt.2 this]
      have step : maxO (double.word a g) (double.word (!a) g) = some (double.word false g) := by
        unfold maxO Format.order
        rw [read_word a g hl, read_word (!a) g hl, h, h]
        simp only [Datum.order]
        have h1 := signed_pos m (e - min e e).toNat hm0
        have h2 := signed_neg m (e - min e e).toNat hm0
        cases a
        · rw [show compare (signed false m (e - min e e).toNat) (signed (!false) m (e - min e e).toNat) = .gt from Int.compare_eq_gt.2 (by simp only [Bool.not_false]; omega)]
        · rw [show compare (signed true m (e - min e e).toNat) (signed (!true) m (e - min e e).toNat) = .lt from Int.compare_eq_lt.2 (by simp only [Bool.not_true]; omega)]
          rfl
      rw [step]
      exact ⟨false, key⟩
  · have hc := hs hg0
    subst hc
    have key : maxO (double.word false g) 0 = some (double.word false g) := by
      unfold maxO Format.order
      rw [read_word false g hl, h, hr0]
      rfl
    have step : maxO (double.word a g) (double.word (!a) g) = some (double.word false g) := by
      unfold maxO Format.order
      rw [read_word a g hl, read_word (!a) g hl, h, h]
      cases a <;> rfl
    rw [step]
    exact ⟨false, key⟩

/-- The rung of the word nearest to a number. -/
def rungOf (mag : Nat) (place : Int) : Nat :=
  if mag = 0 then 0 else
  min (((max (place + mag.log2 - double.fractionBits) double.leastPlace) - double.leastPlace).toNat * double.binade + Toward.even.cut false (mag <<< (place - max (place + mag.log2 - double.fractionBits) double.leastPlace).toNat) (max (place + mag.log2 - double.fractionBits) double.leastPlace - place).toNat) double.infRung
theorem nearest_rung (b : Bool) (mag : Nat) (place : Int) : double.nearest b mag place = double.word b (rungOf mag place) := by
  unfold Format.nearest rungOf
  by_cases h : mag = 0
  · rw [if_pos h, if_pos h]
  · rw [if_neg h, if_neg h]; rfl
theorem rungOf_le (mag : Nat) (place : Int) : rungOf mag place ≤ double.infRung := by
  unfold rungOf
  split
  · omega
  · exact Nat.min_le_right _ _
theorem signed_not (s : Bool) (m k : Nat) : signed (!s) m k = - signed s m k := by
  cases s <;> simp [signed]

/-- A difference and its opposite: both no number, or the same rung with opposite signs. -/
theorem sub_pair (x y : Nat) : (double.sub x y = none ∧ double.sub y x = none) ∨ ∃ g a c, double.sub x y = some (double.word a g) ∧ double.sub y x = some (double.word c g) ∧ g ≤ double.infRung ∧ (g ≠ 0 → c = !a) := by
  unfold Format.sub
  cases hx : double.read x with
  | nan s t => exact .inl ⟨rfl, by cases double.read y <;> rfl⟩
  | infinity s =>
    cases hy : double.read y with
    | nan t u => exact .inl ⟨rfl, rfl⟩
    | infinity t =>
      by_cases h : s = !t
      · subst h
        refine .inr ⟨double.infRung, !t, t, ?_, ?_, Nat.le_refl _, fun _ => by simp⟩
        · simp [Datum.sum, Datum.opposite, Format.write]
        · simp [Datum.sum, Datum.opposite, Format.write]
      · have h' : s = t := by cases s <;> cases t <;> simp_all
        subst h'
        exact .inl ⟨by simp [Datum.sum, Datum.opposite], by simp [Datum.sum, Datum.opposite]⟩
    | number t n j => exact .inr ⟨double.infRung, s, !s, rfl, rfl, Nat.le_refl _, fun _ => rfl⟩
  | number s m i =>
    cases hy : double.read y with
    | nan t u => exact .inl ⟨rfl, rfl⟩
    | infinity t => exact .inr ⟨double.infRung, !t, t, rfl, rfl, Nat.le_refl _, fun _ => by simp⟩
    | number t n j =>
      obtain ⟨total, ht⟩ : ∃ T : Int, T = signed s m (i - min i j).toNat + signed (!t) n (j - min i j).toNat := ⟨_, rfl⟩
      have e1 : (Datum.number s m i).sum (Datum.number t n j).opposite = some (.number (if total = 0 then s && !t else decide (total < 0)) total.natAbs (min i j)) := by rw [ht]; rfl
      have ht2 : signed t n (j - min j i).toNat + signed (!s) m (i - min j i).toNat = -total := by
        rw [ht, Int.min_comm j i, signed_not, signed_not]; omega
      have e2 : (Datum.number t n j).sum (Datum.number s m i).opposite = some (.number (if -total = 0 then t && !s else decide (-total < 0)) (-total).natAbs (min j i)) := by rw [← ht2]; rfl
      rw [e1, e2]
      refine .inr ⟨rungOf total.natAbs (min i j), if total = 0 then s && !t else decide (total < 0), if -total = 0 then t && !s else decide (-total < 0), ?_, ?_, rungOf_le _ _, fun hg => ?_⟩
      · simp only [Option.map_some, Format.write, nearest_rung]
      · simp only [Option.map_some, Format.write, nearest_rung, Int.natAbs_neg, Int.min_comm j i]
      · have hne : total ≠ 0 := by
          intro h0
          rw [h0] at hg
          exact hg rfl
        rw [if_neg hne, if_neg (by omega)]
        by_cases hp : total < 0
        · rw [decide_eq_true hp, decide_eq_false (by omega)]; rfl
        · rw [decide_eq_false hp, decide_eq_true (by omega)]; rfl

/-- The square of a difference; of the greatest of the difference, its opposite and zero. -/
def sqO (x y : Nat) : Option Nat := (double.sub x y).bind fun d => double.mul d d
def mxO (x y : Nat) : Option Nat := (double.sub x y).bind fun d1 => (double.sub y x).bind fun d2 => (maxO d1 d2).bind fun z => maxO z 0
theorem sq_mx (x y : Nat) : ((mxO x y).bind fun d => double.mul d d) = sqO x y := by
  unfold mxO sqO
  rcases sub_pair x y with ⟨h1, h2⟩ | ⟨g, a, c, h1, h2, hg, hs⟩
  · rw [h1]; rfl
  · obtain ⟨b, hb⟩ := max_word a c g hg hs
    rw [h1, h2]
    simp only [Option.bind_some, hb]
    exact mul_word b a g hg
end Go.Proofs.Qxb6003724a
