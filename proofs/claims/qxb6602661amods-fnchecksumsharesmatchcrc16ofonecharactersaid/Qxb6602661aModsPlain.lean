/-
  SEAT b6602661aM: THE PLAIN SIDE: the table of checksum shares as plain functions of naturals. No Go in sight.
-/
namespace Go.Proofs.Qxb6602661aMods.Plain

/-- One bit further: times x modulo the CRC's polynomial. -/
def crcStep (s : Nat) : Nat := if s &&& 32768 ≠ 0 then (s * 2 % 65536) ^^^ 4129 else s * 2 % 65536

/-- x^(16+n) modulo the polynomial. -/
def sh : Nat → Nat
  | 0 => 4129
  | n + 1 => crcStep (sh n)

theorem crcStep_lt (s : Nat) : crcStep s < 65536 := by
  unfold crcStep
  split
  · exact Nat.xor_lt_two_pow (n := 16) (Nat.mod_lt _ (by decide)) (by decide)
  · exact Nat.mod_lt _ (by decide)

theorem sh_lt (n : Nat) : sh n < 65536 := by
  cases n with
  | zero => decide
  | succ n => exact crcStep_lt _

/-- The bits' shares when k of the data's bits are laid. -/
def b1 (k q : Nat) : Nat := if q ≤ 271 ∧ 271 - q < k then sh (271 - q) else 0

/-- .. and when t bits of each of the checksum's bytes are. -/
def b2 (t q : Nat) : Nat := if q < 272 then sh (271 - q) else if q < 280 then (if q - 272 < t then 2 ^ (279 - q) else 0) else if q < 288 then (if q - 280 < t then 2 ^ (295 - q) else 0) else 0

/-- The share of the text's bit q. -/
def bitAt (q : Nat) : Nat := b2 8 q

theorem b1_zero (q : Nat) : b1 0 q = 0 := by
  unfold b1
  rw [if_neg (show ¬ (q ≤ 271 ∧ 271 - q < 0) by omega)]

theorem b1_step (k q : Nat) (hk : k < 272) : b1 (k + 1) q = if q = 271 - k then sh k else b1 k q := by
  unfold b1
  by_cases e : q = 271 - k
  · rw [if_pos e, if_pos (show q ≤ 271 ∧ 271 - q < k + 1 by omega), show 271 - q = k by omega]
  · rw [if_neg e]
    by_cases h : q ≤ 271 ∧ 271 - q < k
    · rw [if_pos h, if_pos (show q ≤ 271 ∧ 271 - q < k + 1 by omega)]
    · rw [if_neg h, if_neg (show ¬ (q ≤ 271 ∧ 271 - q < k + 1) by omega)]

theorem b1_done (q : Nat) : b1 272 q = b2 0 q := by
  unfold b1 b2
  by_cases h : q < 272
  · rw [if_pos (show q ≤ 271 ∧ 271 - q < 272 by omega), if_pos h]
  · rw [if_neg (show ¬ (q ≤ 271 ∧ 271 - q < 272) by omega), if_neg h, if_neg (show ¬ q - 272 < 0 by omega), if_neg (show ¬ q - 280 < 0 by omega)]
    split
    · rfl
    · split <;> rfl

theorem b2_step (t q : Nat) (ht : t < 8) : b2 (t + 1) q = if q = 280 + t then 2 ^ (15 - t) else if q = 272 + t then 2 ^ (7 - t) else b2 t q := by
  unfold b2
  by_cases h1 : q < 272
  · rw [if_pos h1, if_pos h1, if_neg (show ¬ q = 280 + t by omega), if_neg (show ¬ q = 272 + t by omega)]
  rw [if_neg h1, if_neg h1]
  by_cases h2 : q < 280
  · rw [if_pos h2, if_pos h2, if_neg (show ¬ q = 280 + t by omega)]
    by_cases e : q = 272 + t
    · rw [if_pos e, if_pos (show q - 272 < t + 1 by omega), show 279 - q = 7 - t by omega]
    · rw [if_neg e]
      by_cases h : q - 272 < t
      · rw [if_pos h, if_pos (show q - 272 < t + 1 by omega)]
      · rw [if_neg h, if_neg (show ¬ q - 272 < t + 1 by omega)]
  rw [if_neg h2, if_neg h2]
  by_cases h3 : q < 288
  · rw [if_pos h3, if_pos h3]
    by_cases e : q = 280 + t
    · rw [if_pos e, if_pos (show q - 280 < t + 1 by omega), show 295 - q = 15 - t by omega]
    · rw [if_neg e, if_neg (show ¬ q = 272 + t by omega)]
      by_cases h : q - 280 < t
      · rw [if_pos h, if_pos (show q - 280 < t + 1 by omega)]
      · rw [if_neg h, if_neg (show ¬ q - 280 < t + 1 by omega)]
  · rw [if_neg h3, if_neg h3, if_neg (show ¬ q = 280 + t by omega), if_neg (show ¬ q = 272 + t by omega)]

theorem bitAt_lt (q : Nat) : bitAt q < 65536 := by
  unfold bitAt b2
  split
  · exact sh_lt _
  · split
    · split
      · exact Nat.lt_of_le_of_lt (Nat.pow_le_pow_right (by decide) (show 279 - q ≤ 7 by omega)) (by decide)
      · decide
    · split
      · split
        · exact Nat.lt_of_le_of_lt (Nat.pow_le_pow_right (by decide) (show 295 - q ≤ 15 by omega)) (by decide)
        · decide
      · decide

/-- The share of value v at place p, its first t bits summed. -/
def pshare (p v : Nat) : Nat → Nat
  | 0 => 0
  | t + 1 => if v &&& 2 ^ (4 - t) ≠ 0 then pshare p v t ^^^ bitAt (5 * p + t) else pshare p v t

theorem pshare_lt (p v t : Nat) : pshare p v t < 65536 := by
  induction t with
  | zero => exact (by decide : 0 < 65536)
  | succ t ih =>
    unfold pshare
    split
    · exact Nat.xor_lt_two_pow (n := 16) ih (bitAt_lt _)
    · exact ih

/-- What the table's row of 58 times 32 cells holds when the walk stands at place p, value v, bit t. -/
def cell3 (p v t i : Nat) : Nat := if i < 32 * p + v then pshare (i / 32) (i % 32) 5 else if i = 32 * p + v then pshare p v t else 0

theorem cell3_start (i : Nat) : cell3 0 0 0 i = 0 := by
  unfold cell3
  rw [if_neg (show ¬ i < 32 * 0 + 0 by omega)]
  split <;> rfl

theorem cell3_hit (p v t i : Nat) (h : v &&& 2 ^ (4 - t) ≠ 0) : cell3 p v (t + 1) i = if i = 32 * p + v then pshare p v t ^^^ bitAt (5 * p + t) else cell3 p v t i := by
  have e : pshare p v (t + 1) = pshare p v t ^^^ bitAt (5 * p + t) := by
    show (if v &&& 2 ^ (4 - t) ≠ 0 then _ else _) = _
    rw [if_pos h]
  unfold cell3
  rw [e]
  by_cases e : i = 32 * p + v
  · rw [if_neg (show ¬ i < 32 * p + v by omega), if_pos e, if_pos e]
  · rw [if_neg e, if_neg e, if_neg e]

theorem cell3_miss (p v t i : Nat) (h : ¬ v &&& 2 ^ (4 - t) ≠ 0) : cell3 p v (t + 1) i = cell3 p v t i := by
  unfold cell3
  have e : pshare p v (t + 1) = pshare p v t := by
    show (if v &&& 2 ^ (4 - t) ≠ 0 then _ else _) = _
    rw [if_neg h]
  rw [e]

theorem cell3_at (p v t : Nat) : cell3 p v t (32 * p + v) = pshare p v t := by
  unfold cell3
  rw [if_neg (show ¬ 32 * p + v < 32 * p + v by omega), if_pos rfl]

theorem cell3_next (p v i : Nat) (hv : v < 32) : cell3 p v 5 i = cell3 p (v + 1) 0 i := by
  unfold cell3
  by_cases e : i = 32 * p + v
  · rw [if_neg (show ¬ i < 32 * p + v by omega), if_pos e, if_pos (show i < 32 * p + (v + 1) by omega), show i / 32 = p by omega, show i % 32 = v by omega]
  · by_cases h : i < 32 * p + v
    · rw [if_pos h, if_pos (show i < 32 * p + (v + 1) by omega)]
    · rw [if_neg h, if_neg e, if_neg (show ¬ i < 32 * p + (v + 1) by omega)]
      split <;> rfl

theorem cell3_row (p i : Nat) : cell3 p 32 0 i = cell3 (p + 1) 0 0 i := by
  unfold cell3
  rw [show 32 * (p + 1) + 0 = 32 * p + 32 by omega]
  split
  · rfl
  · split <;> rfl

/-- The whole table: cell 32 p + v. -/
def tab (i : Nat) : Nat := pshare (i / 32) (i % 32) 5

theorem cell3_all (i : Nat) (h : i < 1856) : cell3 58 0 0 i = tab i := by
  unfold cell3 tab
  rw [if_pos (show i < 32 * 58 + 0 by omega)]

theorem tab_lt (i : Nat) : tab i < 65536 := pshare_lt _ _ _

theorem tab_at (p v : Nat) (hv : v < 32) : tab (32 * p + v) = pshare p v 5 := by
  unfold tab
  rw [show (32 * p + v) / 32 = p by omega, show (32 * p + v) % 32 = v by omega]

end Go.Proofs.Qxb6602661aMods.Plain
