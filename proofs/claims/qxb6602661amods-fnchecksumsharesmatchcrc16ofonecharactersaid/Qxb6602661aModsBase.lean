/-
  SEAT b6602661aM: LAWS FOR WHOLE ARRAYS: 'var x [N]T' of many cells, a whole array stored into a row, a whole array boxed: the cells stand behind a function of the index (Derived/Deep/OwnRows.lean, 'rowIs'), so that 1856 cost what 2 cost.
-/
import Derived.Test.Qxb6602661aModsRows
import Derived.WalkKit
import Derived.WalkSpells
import Derived.WalkLawsBesides
import Derived.Deep.OwnRows
import Derived.Laws.BitsAllLaws
namespace Go.Proofs.Qxb6602661aMods
open Go.RowKit

/-- A fact kept from the walk. -/
theorem hid {p : Prop} (h : p) : Hid p := h

section
variable {P : Program} {w : World} {ops : Array Oper} {rest : List Oper} {o : Oper} {a : Act} {Q : Exit → Act → World → Prop}

/-- The whole array out of a row. -/
theorem wpList_load_is (ty t : TypeId) (x : Operand) (ho : o.op = .load ty x) (hgd : o.guard = none) (g n m : Nat) (e : TypeId) (f : Nat → Value) (hx : a.eval x = .pointer (some ⟨g, 0, none⟩)) (hr : w.rowIs g t n f)
    (hu : P.underlying ty = some (.array m e)) (hi : (P.info? ty).map (·.size) = some n)
    (h : ∀ c : Array Value, w.heap[g]? = some (.cells c t (0, 0)) → c.size = n → (∀ i, i < n → c[i]? = some (f i)) → wpList P ops Q rest (a.put o.dst (.agg c)) w) : wpList P ops Q (o :: rest) a w := by
  obtain ⟨c, h1, h2, h3⟩ := hr
  exact wpList_load_row hgd ty x ho g hx t c (0, 0) _ h1 hu rfl (by rw [h2]; exact hi) (h c h1 h2 h3)

/-- A whole array stored into a row. -/
theorem wpList_store_is (ty t : TypeId) (p x : Operand) (ho : o.op = .store ty p x) (hgd : o.guard = none) (g n : Nat) (f f' : Nat → Value) (c : Array Value) (hp : a.eval p = .pointer (some ⟨g, 0, none⟩)) (hx : a.eval x = .agg c) (hr : w.rowIs g t n f)
    (hi : (P.info? ty).map (·.size) = some n) (hc : c.size = n) (hf : ∀ i, i < n → c[i]? = some (f' i)) (h1 : ∀ i, i < n → (f' i).oneCell' = true)
    (h : ∀ w1 : World, w1.rowIs g t n f' → (∀ k, k ≠ g → w1.heap[k]? = w.heap[k]?) → w1.heap.size = w.heap.size → w1.os = w.os → w1.tape = w.tape → w1.output = w.output → wpList P ops Q rest (a.put o.dst undef) w1) : wpList P ops Q (o :: rest) a w := by
  obtain ⟨old, k1, k2, k3⟩ := hr
  have hall : c.all (·.oneCell') = true := by
    rw [Array.all_eq_true_iff_forall_mem]
    intro u hu
    obtain ⟨i, hi', rfl⟩ := Array.mem_iff_getElem.1 hu
    have := hf i (by omega)
    rw [Array.getElem?_eq_getElem hi'] at this
    rw [Option.some.inj this]
    exact h1 i (by omega)
  have hrun := run_storeVar_row (P := P) w g t ty old c k1 (by rw [hc]; exact hi) (by omega) hall
  refine wpList_plain hgd fun K hK => ?_
  unfold Oper.wp execOp
  simp only [ho, hp, hx, Instr.storeAt, Instr.sureAddr, Sem.run_bind, Sem.run_pure, Result.andThen_ok, hrun]
  refine hK _ _ (h _ ⟨c, setRow_heap w g old c t _ k1, hc, hf⟩ (fun k hk => setRow_other w g k c hk) (by simp) rfl rfl rfl)
end

/-- The zero values of the three array types, behind names. -/
def Z28 : Array Value := Array.replicate 1856 (.int .u16 0)
def Z40 : Array Value := Array.replicate 290 (.int .u16 0)
def Z33 : Array Value := Array.replicate 36 (.int .u8 0)
theorem zero28 (w : World) : (zeroValue 28).run Trym.prog w = .ok (.agg Z28) w := by kernel_rfl
theorem zero40 (w : World) : (zeroValue 40).run Trym.prog w = .ok (.agg Z40) w := by kernel_rfl
theorem zero33 (w : World) : (zeroValue 33).run Trym.prog w = .ok (.agg Z33) w := by kernel_rfl
theorem row28 (w : World) : (w.alloc (.cells Z28 28)).rowIs w.heap.size 28 1856 (fun _ => .int .u16 0) := by
  have := World.rowIs_alloc w Z28 28 (fun _ => .int .u16 0) (fun i hi => by simp [Z28] at hi; simp [Z28, hi])
  simpa [Z28] using this
theorem row40 (w : World) : (w.alloc (.cells Z40 40)).rowIs w.heap.size 40 290 (fun _ => .int .u16 0) := by
  have := World.rowIs_alloc w Z40 40 (fun _ => .int .u16 0) (fun i hi => by simp [Z40] at hi; simp [Z40, hi])
  simpa [Z40] using this
theorem row33 (w : World) : (w.alloc (.cells Z33 33)).rowIs w.heap.size 33 36 (fun _ => .int .u8 0) := by
  have := World.rowIs_alloc w Z33 33 (fun _ => .int .u8 0) (fun i hi => by simp [Z33] at hi; simp [Z33, hi])
  simpa [Z33] using this
theorem info28 : (Trym.prog.info? 28).map (·.size) = some 1856 := by kernel_rfl
theorem info33 : (Trym.prog.info? 33).map (·.size) = some 36 := by kernel_rfl

end Go.Proofs.Qxb6602661aMods
