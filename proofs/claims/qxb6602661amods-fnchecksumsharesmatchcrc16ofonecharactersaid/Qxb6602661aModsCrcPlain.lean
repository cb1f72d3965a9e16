/-
  SEAT b6602661aM: THE PLAIN SIDE of the second law: CRC-16 byte by byte; the text of one character.
-/
import Derived.Test.Qxb6602661aModsPlain
namespace Go.Proofs.Qxb6602661aMods.Plain

/-- k bits further. -/
def bitsOn (s : Nat) : Nat → Nat
  | 0 => s
  | k + 1 => crcStep (bitsOn s k)

theorem bitsOn_lt (s k : Nat) (h : s < 65536) : bitsOn s k < 65536 := by
  cases k with
  | zero => exact h
  | succ k => exact crcStep_lt _

/-- The CRC when the first n bytes are through. -/
def crcRun (f : Nat → Nat) : Nat → Nat
  | 0 => 0
  | n + 1 => bitsOn (crcRun f n ^^^ (f n * 256 % 65536)) 8

theorem xor_lt {a b : Nat} (ha : a < 65536) (hb : b < 65536) : a ^^^ b < 65536 := Nat.xor_lt_two_pow (n := 16) ha hb

theorem crcRun_lt (f : Nat → Nat) (n : Nat) : crcRun f n < 65536 := by
  induction n with
  | zero => exact (by decide : 0 < 65536)
  | succ n ih => exact bitsOn_lt _ _ (xor_lt ih (Nat.mod_lt _ (by decide)))

/-- The 36 bytes of the text that is zero but for character p, value v: its first t bits laid. -/
def bufAt (p v : Nat) : Nat → Nat → Nat
  | 0, _ => 0
  | t + 1, j => if (v / 2 ^ (4 - t)) % 2 ≠ 0 ∧ 5 * p + t < 288 then (if j = (5 * p + t) / 8 then bufAt p v t j ||| 2 ^ (7 - (5 * p + t) % 8) else bufAt p v t j) else bufAt p v t j

theorem bufAt_lt (p v t j : Nat) : bufAt p v t j < 256 := by
  induction t with
  | zero => exact (by decide : 0 < 256)
  | succ t ih =>
    unfold bufAt
    split
    · split
      · exact Nat.or_lt_two_pow (n := 8) ih (Nat.lt_of_le_of_lt (Nat.pow_le_pow_right (by decide) (show 7 - (5 * p + t) % 8 ≤ 7 by omega)) (by decide))
      · exact ih
    · exact ih

theorem bufAt_hit {p v t : Nat} (h1 : (v / 2 ^ (4 - t)) % 2 ≠ 0) (h2 : 5 * p + t < 288) (j : Nat) :
    bufAt p v (t + 1) j = if j = (5 * p + t) / 8 then bufAt p v t ((5 * p + t) / 8) ||| 2 ^ (7 - (5 * p + t) % 8) else bufAt p v t j := by
  show (if (v / 2 ^ (4 - t)) % 2 ≠ 0 ∧ 5 * p + t < 288 then _ else _) = _
  rw [if_pos ⟨h1, h2⟩]
  by_cases e : j = (5 * p + t) / 8
  · rw [if_pos e, if_pos e, e]
  · rw [if_neg e, if_neg e]

theorem bufAt_miss {p v t : Nat} (h : ¬ ((v / 2 ^ (4 - t)) % 2 ≠ 0 ∧ 5 * p + t < 288)) (j : Nat) : bufAt p v (t + 1) j = bufAt p v t j := by
  show (if (v / 2 ^ (4 - t)) % 2 ≠ 0 ∧ 5 * p + t < 288 then _ else _) = _
  rw [if_neg h]

/-- What zzOneCharShare gives. -/
def one (p v : Nat) : Nat := crcRun (bufAt p v 5) 34 ^^^ (bufAt p v 5 34 ||| bufAt p v 5 35 * 256 % 65536)

/-! ### THE SAME, as the kernel reckons it quickly: each number is reckoned out before it is handed on. -/
def force (n : Nat) (k : Nat → Nat) : Nat := Nat.rec (motive := fun _ => Nat) (k 0) (fun m _ => k (m + 1)) n
theorem force_eq (n : Nat) (k : Nat → Nat) : force n k = k n := by cases n <;> rfl

def fstep (s : Nat) : Nat := ((s * 2) % 65536) ^^^ ((s / 32768) * 4129)
theorem fstep_eq (s : Nat) (h : s < 65536) : fstep s = crcStep s := by
  have e : s &&& 32768 = s / 32768 % 2 * 32768 := by
    have h15 : (32768 : Nat) = 2 ^ 15 := by decide
    rw [h15]
    apply Nat.eq_of_testBit_eq
    intro i
    rw [Nat.testBit_and, Nat.testBit_two_pow, Nat.testBit_mul_two_pow]
    by_cases hi : 15 = i
    · subst hi
      simp [Nat.testBit_eq_decide_div_mod_eq]
    · simp only [hi, decide_false, Bool.and_false]
      by_cases hge : 15 ≤ i
      · have : 1 ≤ i - 15 := by omega
        simp only [hge, decide_true, Bool.true_and]
        rw [Nat.testBit_lt_two_pow]
        exact Nat.lt_of_lt_of_le (Nat.mod_lt _ (by decide)) (Nat.pow_le_pow_right (by decide) this : 2 ^ 1 ≤ 2 ^ (i - 15))
      · simp [hge]
  unfold fstep crcStep
  by_cases hb : s < 32768
  · have h0 : s / 32768 = 0 := by omega
    rw [if_neg (by rw [e, h0]; simp), h0]
    simp
  · have h1 : s / 32768 = 1 := by omega
    rw [if_pos (by rw [e, h1]; decide), h1]

def fbits : Nat → Nat → Nat
  | 0, s => s
  | k + 1, s => force (fstep s) (fbits k)
theorem bitsOn_succ' (s k : Nat) : bitsOn s (k + 1) = bitsOn (crcStep s) k := by
  induction k with
  | zero => rfl
  | succ k ih => show crcStep (bitsOn s (k + 1)) = crcStep (bitsOn (crcStep s) k); rw [ih]
theorem fbits_eq (k s : Nat) (h : s < 65536) : fbits k s = bitsOn s k := by
  induction k generalizing s with
  | zero => rfl
  | succ k ih =>
    show force (fstep s) (fbits k) = _
    rw [force_eq, fstep_eq s h, ih _ (crcStep_lt _), bitsOn_succ']

def fcrc (f : Nat → Nat) : Nat → Nat → Nat → Nat
  | 0, _, s => s
  | n + 1, i, s => force (s ^^^ (f i * 256 % 65536)) fun s1 => force (fbits 8 s1) (fcrc f n (i + 1))
theorem fcrc_eq (f : Nat → Nat) (n i : Nat) : fcrc f n i (crcRun f i) = crcRun f (i + n) := by
  induction n generalizing i with
  | zero => rfl
  | succ n ih =>
    show force _ _ = _
    rw [force_eq, force_eq, fbits_eq _ _ (xor_lt (crcRun_lt f i) (Nat.mod_lt _ (by decide)))]
    have := ih (i + 1)
    rw [show i + (n + 1) = i + 1 + n by omega, ← this]
    rfl

def fone (p v : Nat) : Nat := fcrc (bufAt p v 5) 34 0 0 ^^^ (bufAt p v 5 34 ||| bufAt p v 5 35 * 256 % 65536)
theorem fone_eq (p v : Nat) : fone p v = one p v := by
  unfold fone one
  have := fcrc_eq (bufAt p v 5) 34 0
  rw [show 0 + 34 = 34 by rfl] at this
  rw [← this]
  rfl

set_option maxHeartbeats 1000000 in
theorem match_fast0 : ∀ d, d < 15 → ∀ v, v < 32 → pshare (0 + d) v 5 = fone (0 + d) v := by decide +kernel
set_option maxHeartbeats 1000000 in
theorem match_fast1 : ∀ d, d < 15 → ∀ v, v < 32 → pshare (15 + d) v 5 = fone (15 + d) v := by decide +kernel
set_option maxHeartbeats 1000000 in
theorem match_fast2 : ∀ d, d < 15 → ∀ v, v < 32 → pshare (30 + d) v 5 = fone (30 + d) v := by decide +kernel
set_option maxHeartbeats 1000000 in
theorem match_fast3 : ∀ d, d < 13 → ∀ v, v < 32 → pshare (45 + d) v 5 = fone (45 + d) v := by decide +kernel
theorem match_fast (p v : Nat) (hp : p < 58) (hv : v < 32) : pshare p v 5 = fone p v := by
  by_cases h0 : p < 15
  · have := match_fast0 p h0 v hv
    rwa [Nat.zero_add] at this
  by_cases h1 : p < 30
  · have := match_fast1 (p - 15) (by omega) v hv
    rwa [show 15 + (p - 15) = p by omega] at this
  by_cases h2 : p < 45
  · have := match_fast2 (p - 30) (by omega) v hv
    rwa [show 30 + (p - 30) = p by omega] at this
  · have := match_fast3 (p - 45) (by omega) v hv
    rwa [show 45 + (p - 45) = p by omega] at this

/-- THE PLAIN LAW: the table's cell is the residue of the text of that one character. -/
theorem match_all (p v : Nat) (hp : p < 58) (hv : v < 32) : pshare p v 5 = one p v := by rw [match_fast p v hp hv, fone_eq]

end Go.Proofs.Qxb6602661aMods.Plain
