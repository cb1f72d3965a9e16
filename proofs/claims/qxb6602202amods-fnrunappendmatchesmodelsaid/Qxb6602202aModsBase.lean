/-
  SEAT b6602202aM: WHAT THE WALKS ARE TOLD OF MEMORY: a slice of bytes, a slice of such slices; how both are carried from one world to another.
-/
import Derived.Test.Qxb6602202aModsRows
import Derived.Test.Qxb6602202aModsPlain
import Derived.WalkKit
import Derived.WalkSpells
import Derived.WalkLawsBesides
namespace Go.Proofs.Qxb6602202aMods
open Go.RowKit Plain

/-- The slice value '.slice a n c' reads as the bytes 'o' (none: nil) in w; its row lies in a block of which S holds. -/
def Bytes (w : World) (S : Nat → Prop) (a : Option Addr) (n c : Nat) (o : Option (List Int)) : Prop :=
  (a = none ↔ o = none) ∧ (a = none → n = 0 ∧ c = 0) ∧ n = (bs o).length ∧ n ≤ c ∧
  ∃ b f, (0 < n → a = some ⟨b, f, none⟩ ∧ S b) ∧ ∀ i, i < n → w.cell? ⟨b, f + i, none⟩ = some (.int .u8 ((bs o).getD i 0))

/-- The slice value '.slice a n c' reads as the entries E in w; all its rows lie in blocks of which S holds. -/
def Ents (w : World) (S : Nat → Prop) (a : Option Addr) (n c : Nat) (E : List (Option (List Int))) : Prop :=
  n = E.length ∧ (a = none → n = 0 ∧ c = 0) ∧ n ≤ c ∧
  ∃ b f, (0 < n → a = some ⟨b, f, none⟩ ∧ S b) ∧ ∀ r, r < n → ∃ a' n' c', w.cell? ⟨b, f + r, none⟩ = some (.slice a' n' c') ∧ Bytes w S a' n' c' (E.getD r none)

theorem Bytes.carry {w w' : World} {S : Nat → Prop} {a : Option Addr} {n c : Nat} {o : Option (List Int)} (h : Bytes w S a n c o) (hb : ∀ k, S k → w'.heap[k]? = w.heap[k]?) : Bytes w' S a n c o := by
  obtain ⟨h1, h2, h3, h4, b, f, h5, h6⟩ := h
  refine ⟨h1, h2, h3, h4, b, f, h5, fun i hi => ?_⟩
  rw [World.cell?_of_block (w := w) (hb b (h5 (by omega)).2)]
  exact h6 i hi

theorem Bytes.more {w : World} {S S' : Nat → Prop} {a : Option Addr} {n c : Nat} {o : Option (List Int)} (h : Bytes w S a n c o) (hl : ∀ k, S k → S' k) : Bytes w S' a n c o := by
  obtain ⟨h1, h2, h3, h4, b, f, h5, h6⟩ := h
  exact ⟨h1, h2, h3, h4, b, f, fun hn => ⟨(h5 hn).1, hl _ (h5 hn).2⟩, h6⟩

theorem Ents.carry {w w' : World} {S : Nat → Prop} {a : Option Addr} {n c : Nat} {E : List (Option (List Int))} (h : Ents w S a n c E) (hb : ∀ k, S k → w'.heap[k]? = w.heap[k]?) : Ents w' S a n c E := by
  obtain ⟨h1, h2, h3, b, f, h5, h6⟩ := h
  refine ⟨h1, h2, h3, b, f, h5, fun r hr => ?_⟩
  obtain ⟨a', n', c', hc, hB⟩ := h6 r hr
  refine ⟨a', n', c', ?_, hB.carry hb⟩
  rw [World.cell?_of_block (w := w) (hb b (h5 (by omega)).2)]
  exact hc

theorem Ents.more {w : World} {S S' : Nat → Prop} {a : Option Addr} {n c : Nat} {E : List (Option (List Int))} (h : Ents w S a n c E) (hl : ∀ k, S k → S' k) : Ents w S' a n c E := by
  obtain ⟨h1, h2, h3, b, f, h5, h6⟩ := h
  refine ⟨h1, h2, h3, b, f, fun hn => ⟨(h5 hn).1, hl _ (h5 hn).2⟩, fun r hr => ?_⟩
  obtain ⟨a', n', c', hc, hB⟩ := h6 r hr
  exact ⟨a', n', c', hc, hB.more hl⟩

/-- A round's entry: the outer slice's address, the entry's own value, its cell. -/
theorem Ents.at {w : World} {S : Nat → Prop} {a : Option Addr} {n c : Nat} {E : List (Option (List Int))} (h : Ents w S a n c E) {r : Nat} (hr : r < n) :
    ∃ b f a' n' c', a = some ⟨b, f, none⟩ ∧ S b ∧ w.cell? ⟨b, f + r, none⟩ = some (.slice a' n' c') ∧ Bytes w S a' n' c' (E.getD r none) := by
  obtain ⟨_, _, _, b, f, h5, h6⟩ := h
  obtain ⟨a', n', c', hc, hB⟩ := h6 r hr
  exact ⟨b, f, a', n', c', (h5 (by omega)).1, (h5 (by omega)).2, hc, hB⟩

/-- A value that owns its bytes, as the walks are told of it. -/
theorem own_bytes {w : World} {base : Nat} {v : Value} {o : Option (List Int)} (h : w.ownsRow base 5 1 v (bs o).length ((bs o).map (Value.int .u8))) (hn : v = .slice none 0 0 ↔ o = none) :
    ∃ a c, v = .slice a (bs o).length c ∧ Bytes w (fun b => v.ownBlock = some b ∧ base ≤ b ∧ b < w.heap.size) a (bs o).length c o := by
  rcases h.2 with ⟨rfl, h0⟩ | ⟨g, cap, cur, rfl, hg, hh, hnc, hr⟩
  · obtain rfl := hn.1 rfl
    exact ⟨none, 0, rfl, by simp, fun _ => ⟨rfl, rfl⟩, rfl, Nat.le_refl _, 0, 0, fun h => absurd h (by simp [bs]), fun i hi => absurd hi (by simp [bs])⟩
  · refine ⟨_, _, rfl, ⟨fun h => (by cases h), fun h => (by have := hn.2 h; cases this)⟩, (fun h => by cases h), rfl, hnc, g, 0, fun _ => ⟨rfl, rfl, hg, (Array.getElem?_eq_some_iff.1 hh).1⟩, fun i hi => ?_⟩
    rw [Nat.zero_add, h.cellAt i (by omega), List.getElem?_map, List.getElem?_eq_getElem hi]
    simp [List.getD_eq_getElem?_getD, List.getElem?_eq_getElem hi]

theorem below_grown {w w' : World} (h : Below w.heap.size w w') (row : Option Nat) : w.grownBy w' row := ⟨h.os, h.tape, h.output, h.size, fun k hk _ => h.block k hk⟩

/-- A fact kept from the walk. -/
theorem hid {p : Prop} (h : p) : Hid p := h

theorem ret_int {k : IntKind} {a b : Int} (h : a = b) : Ending.returned (.int k a) = .returned (.int k b) := by rw [h]

theorem Trym.info5 : (Trym.prog.info? 5).map (fun i => (i.zero, i.size, i.bytes)) = some (some (.int .u8 0), 1, 1) := by kernel_rfl
theorem Trym.info23 : (Trym.prog.info? 23).map (fun i => (i.zero, i.size, i.bytes)) = some (some (.slice none 0 0), 1, 24) := by kernel_rfl

end Go.Proofs.Qxb6602202aMods
