import Derived.Laws.BitsAllLaws
/-! Plain arithmetic of words: clearing bits one by one, and a mask of a span. No Go in sight. -/
namespace Go.Proofs.Qxb6603345a.Bits

def clr (f : Nat → Nat) (k : Nat) : Nat → Nat := fun w => if w = k / 64 then f w &&& (18446744073709551615 - 2 ^ (k % 64)) else f w
def V (f : Nat → Nat) (lo : Nat) : Nat → Nat → Nat
  | 0 => f
  | c + 1 => clr (V f lo c) (lo + c)

theorem pow_lt (p : Nat) (h : p < 64) : 2 ^ p < 18446744073709551616 := Nat.lt_of_lt_of_eq (Nat.pow_lt_pow_right (by decide) h) (by decide)

theorem tb_not (y i : Nat) (hy : y < 18446744073709551616) : (18446744073709551615 - y).testBit i = (decide (i < 64) && !y.testBit i) := by
  have h := Nat.testBit_two_pow_sub_succ (n := 64) (x := y) (by simpa using hy) i
  have e : 2 ^ 64 - (y + 1) = 18446744073709551615 - y := by omega
  rwa [e] at h

theorem V_lt (f : Nat → Nat) (hf : ∀ w, f w < 18446744073709551616) (lo : Nat) : ∀ c w, V f lo c w < 18446744073709551616
  | 0, w => hf w
  | c + 1, w => by
    show clr (V f lo c) (lo + c) w < _
    unfold clr
    split
    · exact Nat.lt_of_le_of_lt Nat.and_le_left (V_lt f hf lo c w)
    · exact V_lt f hf lo c w

theorem V_bit (f : Nat → Nat) (lo : Nat) : ∀ c w p, p < 64 → (V f lo c w).testBit p = ((f w).testBit p && !(decide (lo ≤ 64 * w + p) && decide (64 * w + p < lo + c)))
  | 0, w, p, hp => by
    show (f w).testBit p = _
    have : (decide (lo ≤ 64 * w + p) && decide (64 * w + p < lo + 0)) = false := by
      rw [Bool.and_eq_false_iff]; by_cases h : lo ≤ 64 * w + p
      · right; simp; omega
      · left; simpa using h
    rw [this]; simp
  | c + 1, w, p, hp => by
    show (clr (V f lo c) (lo + c) w).testBit p = _
    unfold clr
    have ih := V_bit f lo c w p hp
    split
    · rename_i h
      rw [Nat.testBit_and, ih, tb_not _ _ (pow_lt _ (Nat.mod_lt _ (by decide))), Nat.testBit_two_pow]
      by_cases e : (lo + c) % 64 = p
      · have h1 : lo ≤ 64 * w + p := by omega
        have h2 : 64 * w + p < lo + (c + 1) := by omega
        simp [e, h1, h2]
      · have h3 : decide (64 * w + p < lo + (c + 1)) = decide (64 * w + p < lo + c) := by
          by_cases h4 : 64 * w + p < lo + c
          · rw [decide_eq_true h4, decide_eq_true (by omega)]
          · rw [decide_eq_false h4, decide_eq_false (by omega)]
        rw [h3]
        simp [e, hp]
    · rename_i h
      rw [ih]
      have h3 : decide (64 * w + p < lo + (c + 1)) = decide (64 * w + p < lo + c) := by
        by_cases h4 : 64 * w + p < lo + c
        · rw [decide_eq_true h4, decide_eq_true (by omega)]
        · rw [decide_eq_false h4, decide_eq_false (by omega)]
      rw [h3]

theorem eq_of_bits (x y : Nat) (hx : x < 18446744073709551616) (hy : y < 18446744073709551616) (h : ∀ p, p < 64 → x.testBit p = y.testBit p) : x = y := by
  refine Nat.eq_of_testBit_eq fun p => ?_
  by_cases hp : p < 64
  · exact h p hp
  · have hb : (18446744073709551616 : Nat) ≤ 2 ^ p := Nat.le_trans (by decide : (18446744073709551616 : Nat) ≤ 2 ^ 64) (Nat.pow_le_pow_right (by decide) (by omega))
    rw [Nat.testBit_lt_two_pow (Nat.lt_of_lt_of_le hx hb), Nat.testBit_lt_two_pow (Nat.lt_of_lt_of_le hy hb)]

def span (a wd : Nat) : Nat := (2 ^ wd - 1) * 2 ^ a

theorem span_lt (a wd : Nat) (h : a + wd ≤ 64) : span a wd < 18446744073709551616 := by
  unfold span
  have h1 : (2 ^ wd - 1) * 2 ^ a < 2 ^ wd * 2 ^ a := Nat.mul_lt_mul_of_pos_right (by have := Nat.two_pow_pos wd; omega) (Nat.two_pow_pos a)
  rw [← Nat.pow_add] at h1
  exact Nat.lt_of_lt_of_le h1 (Nat.le_trans (Nat.pow_le_pow_right (by decide) (show wd + a ≤ 64 by omega)) (by decide))

theorem span_bit (a wd i : Nat) : (span a wd).testBit i = (decide (a ≤ i) && decide (i - a < wd)) := by
  unfold span
  rw [← Nat.shiftLeft_eq, Nat.testBit_shiftLeft, Nat.testBit_two_pow_sub_one]

/-- The word w, where the span [lo, lo + c) meets it. -/
theorem V_hit (f : Nat → Nat) (hf : ∀ w, f w < 18446744073709551616) (lo c w a b : Nat) (ha : a = lo - 64 * w) (hab : a < b) (hb : b ≤ 64) (hb' : (b = 64 ∧ 64 * w + 64 ≤ lo + c) ∨ 64 * w + b = lo + c) :
    V f lo c w = f w &&& (18446744073709551615 - span a (b - a)) := by
  refine eq_of_bits _ _ (V_lt f hf lo c w) (Nat.lt_of_le_of_lt Nat.and_le_left (hf w)) fun p hp => ?_
  rw [V_bit f lo c w p hp, Nat.testBit_and, tb_not _ _ (span_lt _ _ (by omega)), span_bit]
  have e1 : decide (lo ≤ 64 * w + p) = decide (a ≤ p) := by
    by_cases h : a ≤ p
    · rw [decide_eq_true h, decide_eq_true (by omega)]
    · rw [decide_eq_false h, decide_eq_false (by omega)]
  have e2 : a ≤ p → decide (64 * w + p < lo + c) = decide (p - a < b - a) := by
    intro h0
    by_cases h : p - a < b - a
    · rw [decide_eq_true h, decide_eq_true (by omega)]
    · rw [decide_eq_false h, decide_eq_false (by omega)]
  rw [e1]
  by_cases h : a ≤ p
  · rw [e2 h]; simp [hp]
  · simp [h, hp]

theorem V_miss (f : Nat → Nat) (hf : ∀ w, f w < 18446744073709551616) (lo c w : Nat) (h : lo + c ≤ 64 * w ∨ 64 * w + 64 ≤ lo ∨ c = 0) : V f lo c w = f w := by
  refine eq_of_bits _ _ (V_lt f hf lo c w) (hf w) fun p hp => ?_
  rw [V_bit f lo c w p hp]
  have : (decide (lo ≤ 64 * w + p) && decide (64 * w + p < lo + c)) = false := by
    rw [Bool.and_eq_false_iff]; by_cases h' : lo ≤ 64 * w + p
    · right; simp; omega
    · left; simpa using h'
  rw [this]; simp

end Go.Proofs.Qxb6603345a.Bits
