/-
  SEAT b6602202aM: THE ARGUMENTS OPENED: what came in, as the walks are told of it.
-/
import Derived.Test.Qxb6602202aModsBase
import Derived.ProofKit
import Derived.OpenShut
import Derived.ShutString
import Derived.ChangeOld
import Derived.Deep.Matrix
namespace Go.Proofs.Qxb6602202aMods
open Go.ChangeShapes Go.WideShapes Go.ChangeAt Go.RowKit Go.Deep Plain

theorem own : ownKnob Trym.prog.godebug = none := by kernel_rfl
theorem laidOut : laidOutB Trym.prog = true := by kernel_rfl
theorem Trym.cells23 : Trym.prog.cellsOf 23 = 1 := by kernel_rfl
theorem Trym.cells5 : Trym.prog.cellsOf 5 = 1 := by kernel_rfl

/-! ### THE ARGUMENTS, AS THE WALKS ARE TOLD OF THEM -/
/-- A byte slice that came in. -/
theorem open_bytes {H : Type} {enc : TypeId × Value → H} {W : World} {a : Option Addr} {n c : Nat} {fuel : Nat} {x : DataW H × List MemPlace}
    (h : DataW.trod enc Trym.prog W 0 (fun _ => true) true fuel 23 [.slice a n c] = some x) : ∃ o, Bytes W (fun b => b < W.heap.size) a n c o ∧ c ≤ maxLen := by
  rcases open_ints Trym.underlying23 Trym.underlying5 Trym.cells5 h with ⟨hcs, _⟩ | ⟨y, l, k, zs, hcs, _, hl, hm, hz, _, hcell, hwz⟩
  · simp at hcs
    obtain ⟨rfl, rfl, rfl⟩ := hcs
    exact ⟨none, ⟨by simp, fun _ => ⟨rfl, rfl⟩, rfl, Nat.le_refl _, 0, 0, (fun h => absurd h (by omega)), fun i hi => absurd hi (by omega)⟩, Nat.zero_le _⟩
  · simp at hcs
    obtain ⟨rfl, rfl, rfl⟩ := hcs
    simp only [if_true] at hz
    have hbs : bs (some (zs.take n)) = zs.take n := rfl
    have hlen : n = (bs (some (zs.take n))).length := by rw [hbs, List.length_take]; omega
    obtain ⟨b, f, spot⟩ := y
    have hspot : 0 < n → spot = none := fun hn => by simpa [Addr.add] using World.cell?_spot (hcell 0 (by omega))
    refine ⟨some (zs.take n), ⟨⟨fun h => (by cases h), fun h => (by cases h)⟩, (fun h => by cases h), hlen, hl, b, f, fun hn => ?_, fun i hi => ?_⟩, hm⟩
    · have h0 := hcell 0 (by omega)
      obtain rfl := hspot hn
      exact ⟨rfl, World.block_lt_of_cell? _ _ (by simpa [Addr.add] using h0)⟩
    · have h0 := hcell i (by omega)
      obtain rfl := hspot (by omega)
      rw [Addr.add_lit] at h0
      rw [h0, hbs]
      simp [List.getD_eq_getElem?_getD, hi]

/-- A slice of byte slices that came in. -/
theorem open_entries {H : Type} {enc : TypeId × Value → H} {W : World} {a : Option Addr} {n c : Nat} {fuel : Nat} {x : DataW H × List MemPlace}
    (h : DataW.trod enc Trym.prog W 0 (fun _ => true) true fuel 22 [.slice a n c] = some x) : ∃ E, Ents W (fun b => b < W.heap.size) a n c E ∧ c ≤ maxLen := by
  rcases open_slice1 Trym.underlying22 Trym.cells23 h with ⟨hcs, _⟩ | ⟨y, l, k, m, q, V, D, Pl, hcs, _, hl, hm, hmm, _, hx⟩
  · simp at hcs
    obtain ⟨rfl, rfl, rfl⟩ := hcs
    exact ⟨[], ⟨rfl, fun _ => ⟨rfl, rfl⟩, Nat.le_refl _, 0, 0, (fun h => absurd h (by omega)), fun i hi => absurd hi (by omega)⟩, Nat.zero_le _⟩
  · simp at hcs
    obtain ⟨rfl, rfl, rfl⟩ := hcs
    simp only [if_true] at hmm
    have each : ∀ r, r < n → ∃ o, ∃ a' n' c', V r = .slice a' n' c' ∧ Bytes W (fun b => b < W.heap.size) a' n' c' o := fun r hr => by
      have hr2 := (hx r (by omega)).2
      rcases open_ints Trym.underlying23 Trym.underlying5 Trym.cells5 hr2 with ⟨hcs, _⟩ | ⟨_, _, _, _, hcs, _⟩
      all_goals
        rw [List.cons.injEq] at hcs
        rw [hcs.1] at hr2
        obtain ⟨o, ho, _⟩ := open_bytes hr2
        exact ⟨o, _, _, _, hcs.1, ho⟩
    obtain ⟨o, ho⟩ := choose_lt each
    obtain ⟨b, f, spot⟩ := y
    have hspot : 0 < n → spot = none := fun hn => by simpa [Addr.add] using World.cell?_spot (hx 0 (by omega)).1
    refine ⟨(List.range n).map o, ⟨by simp, (fun h => by cases h), hl, b, f, fun hn => ?_, fun r hr => ?_⟩, hm⟩
    · have h0 := (hx 0 (by omega)).1
      obtain rfl := hspot hn
      exact ⟨rfl, World.block_lt_of_cell? _ _ (by simpa [Addr.add] using h0)⟩
    · have h0 := (hx r (by omega)).1
      obtain rfl := hspot (by omega)
      rw [Addr.add_lit] at h0
      obtain ⟨a', n', c', hv, hB⟩ := ho r hr
      refine ⟨a', n', c', by rw [h0, hv], ?_⟩
      have e : ((List.range n).map o).getD r none = o r := by simp [List.getD_eq_getElem?_getD, hr]
      rw [e]
      exact hB

end Go.Proofs.Qxb6602202aMods
