/-
  SEAT b6603062aM: WHAT THE WALKS ARE TOLD OF MEMORY: a slice of structs of two strings; and the guards zzBytes (12), argBytes (8): they only read.
-/
import Derived.Test.Qxb6603062aModsRows
import Derived.WalkKit
import Derived.WalkSpells
import Derived.WalkLawsBesides
import Derived.Deep.OwnRows
import Derived.Deep.QuietTactic
import Derived.BigQuiet
namespace Go.Proofs.Qxb6603062aMods
open Go.RowKit

/-- A fact kept from the walk. -/
theorem hid {p : Prop} (h : p) : Hid p := h

/-- The slice value '.slice a n c' reads, in w, as n pairs of strings (nm i, sq i); its row lies in a block of which S holds. -/
def Args (w : World) (S : Nat → Prop) (a : Option Addr) (n c : Nat) (nm sq : Nat → ByteArray) : Prop :=
  (a = none → n = 0 ∧ c = 0) ∧ n ≤ c ∧
  ∃ b f, (0 < n → a = some ⟨b, f, none⟩ ∧ S b) ∧ ∀ i, i < n → w.cell? ⟨b, f + i * 2, none⟩ = some (.string (nm i)) ∧ w.cell? ⟨b, f + i * 2 + 1, none⟩ = some (.string (sq i))

theorem Args.carry {w w' : World} {S : Nat → Prop} {a : Option Addr} {n c : Nat} {nm sq : Nat → ByteArray} (h : Args w S a n c nm sq) (hb : ∀ k, S k → w'.heap[k]? = w.heap[k]?) : Args w' S a n c nm sq := by
  obtain ⟨h1, h2, b, f, h3, h4⟩ := h
  refine ⟨h1, h2, b, f, h3, fun i hi => ?_⟩
  have hk := hb b (h3 (by omega)).2
  rw [World.cell?_of_block (w := w) (a := ⟨b, f + i * 2, none⟩) hk, World.cell?_of_block (w := w) (a := ⟨b, f + i * 2 + 1, none⟩) hk]
  exact h4 i hi

theorem Args.more {w : World} {S S' : Nat → Prop} {a : Option Addr} {n c : Nat} {nm sq : Nat → ByteArray} (h : Args w S a n c nm sq) (hl : ∀ k, S k → S' k) : Args w S' a n c nm sq := by
  obtain ⟨h1, h2, b, f, h3, h4⟩ := h
  exact ⟨h1, h2, b, f, fun hn => ⟨(h3 hn).1, hl _ (h3 hn).2⟩, h4⟩

/-- A round's element: the slice's address, its two cells. -/
theorem Args.at {w : World} {S : Nat → Prop} {a : Option Addr} {n c : Nat} {nm sq : Nat → ByteArray} (h : Args w S a n c nm sq) {i : Nat} (hi : i < n) :
    ∃ b f, a = some ⟨b, f, none⟩ ∧ S b ∧ w.cell? ⟨b, f + i * 2, none⟩ = some (.string (nm i)) ∧ w.cell? ⟨b, f + i * 2 + 1, none⟩ = some (.string (sq i)) := by
  obtain ⟨_, _, b, f, h3, h4⟩ := h
  exact ⟨b, f, (h3 (by omega)).1, (h3 (by omega)).2, (h4 i hi).1, (h4 i hi).2⟩

theorem Args.alike {w : World} {S : Nat → Prop} {a : Option Addr} {n c : Nat} {nm sq : Nat → ByteArray} (h : Args w S a n c nm sq) (q : Nat) : Args (w.drewN q) S a n c nm sq := h.carry (fun _ _ => rfl)

/-- What the guard leaves: it turns nothing; where it says yes, every length is at most 1 << 20. -/
def GuardPost (n : Nat) (nm sq : Nat → ByteArray) (w : World) (e : Ending) (w' : World) : Prop :=
  ∃ t, e = .returned (.bool t) ∧ w' = w ∧ (t = true → n ≤ 1048576 ∧ ∀ i, i < n → (nm i).size ≤ 1048576 ∧ (sq i).size ≤ 1048576)
theorem GuardPost.no (n : Nat) (nm sq : Nat → ByteArray) (w : World) : GuardPost n nm sq w (.returned (.bool false)) w := ⟨false, rfl, rfl, fun h => by cases h⟩

set_option maxHeartbeats 400000 in
theorem bytes12 (a : Option Addr) (n c : Nat) (nm sq : Nat → ByteArray) (w : World) (S : Nat → Prop) (hA : Args w S a n c nm sq) (hn : n ≤ 9223372036854775807) (hs : ∀ i, i < n → (nm i).size ≤ 9223372036854775807 ∧ (sq i).size ≤ 9223372036854775807) :
    Calls Trym.prog 12 #[.slice a n c] w (GuardPost n nm sq w) := by
  go_enter Trym.func12, Trym.ntmps12
  go_wp2
  · go_ret
    exact GuardPost.no _ _ _ _
  · go_loop [3, 4] (fun t i => ∃ k : Nat, k ≤ n ∧ i = .int .i64 k ∧ (∃ z : Nat, z ≤ 1048576 ∧ t = .int .i64 z) ∧ ∀ j, j < k → (nm j).size ≤ 1048576 ∧ (sq j).size ≤ 1048576) (fun _ i => n - (intOf i).toNat)
    case atStart => exact ⟨0, Nat.zero_le _, rfl, ⟨n, by omega, rfl⟩, fun j hj => absurd hj (Nat.not_lt_zero _)⟩
    case round =>
      obtain ⟨k, hk, rfl, ⟨z, hz, rfl⟩, hall⟩ := hrel
      by_cases hlt : k < n
      · obtain ⟨b, f, rfl, _, h0, h1⟩ := hA.at hlt
        obtain ⟨l0, l1⟩ := hs k hlt
        have HA := hid hall
        generalize hx : nm k = x at *
        generalize hy : sq k = y at *
        have HX := hid (And.intro hx hy)
        clear hall hA hs hx hy
        go_wp2
        · go_ret
          exact GuardPost.no _ _ _ _
        · go_ret
          exact GuardPost.no _ _ _ _
        · go_ret
          exact GuardPost.no _ _ _ _
        · go_ret
          exact GuardPost.no _ _ _ _
        · go_round
          case rel =>
            refine ⟨k + 1, by omega, by go_num, ⟨z + x.size + y.size, by omega, by go_num⟩, fun j hj => ?_⟩
            by_cases e : j = k
            · subst e
              rw [HX.out.1, HX.out.2]
              omega
            · exact HA.out j (by omega)
          case measure => simp [intOf]; omega
      · have hkn : k = n := by omega
        have HA := hid hall
        clear hall
        go_wp2
        go_ret
        exact ⟨true, rfl, rfl, fun _ => ⟨by omega, fun i hi => HA.out i (by omega)⟩⟩

/-- What argBytes leaves: some number; it only draws. -/
def NumPost (w : World) (e : Ending) (w' : World) : Prop := ∃ (z : Nat) (q : Nat), z ≤ 8388608 ∧ e = .returned (.int .i64 z) ∧ w' = w.drewN q

set_option maxHeartbeats 800000 in
theorem argBytes8 (a : Option Addr) (n c : Nat) (nm sq : Nat → ByteArray) (w : World) (S : Nat → Prop) (hA : Args w S a n c nm sq) (hn : n ≤ 65536) (hs : ∀ i, i < n → (nm i).size ≤ 1048576 ∧ (sq i).size ≤ 1048576) :
    Calls Trym.prog 8 #[.slice a n c] w (NumPost w) := by
  go_enter Trym.func8, Trym.ntmps8
  go_wp2
  go_loopw [3, 4] (fun t i wr => ∃ k : Nat, k ≤ n ∧ i = .int .i64 k ∧ (∃ z : Nat, z ≤ 2097152 ∧ t = .int .i64 z) ∧ ∃ q, wr = w.drewN q) (fun _ i _ => n - (intOf i).toNat)
  case atStart => exact ⟨0, Nat.zero_le _, rfl, ⟨32 * n, by omega, by go_num⟩, 0, rfl⟩
  case round =>
    obtain ⟨k, hk, rfl, ⟨z, hz, rfl⟩, q, rfl⟩ := hrel
    by_cases hlt : k < n
    · obtain ⟨b, f, rfl, _, h0, h1⟩ := hA.at hlt
      obtain ⟨l0, l1⟩ := hs k hlt
      have hlt' : (k : Int) < (n : Int) := by omega
      generalize nm k = x at *
      generalize sq k = y at *
      clear hA hs
      have l0' : ¬ (1048576 : Int) < (x.size : Int) := by omega
      have l1' : ¬ (1048576 : Int) < (y.size : Int) := by omega
      go_wp2
      go_quiet (fail)
      go_wp2
      · go_ret
        exact ⟨2097152, _, by omega, rfl, rfl⟩
      · go_roundw
        case rel => exact ⟨k + 1, by omega, by go_num, ⟨z + (x.size + y.size), by omega, by go_num⟩, _, rfl⟩
        case measure => simp [intOf]; omega
    · go_wp2
      go_ret
      exact ⟨z, q, by omega, rfl, rfl⟩

end Go.Proofs.Qxb6603062aMods
