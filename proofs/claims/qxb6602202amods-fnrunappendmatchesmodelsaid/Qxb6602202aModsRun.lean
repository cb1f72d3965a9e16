/-
  SEAT b6602202aM: NewRun (14), ZZSize (13), appendTo (15), ZZAppendTo (10).
-/
import Derived.Test.Qxb6602202aModsBase
import Derived.Maps.AppendAt
import Derived.Lib.AppendStr
namespace Go.Proofs.Qxb6602202aMods
open Go.RowKit Plain

/-- What NewRun leaves. -/
def RunPost (w : World) (V : Value) (s : Nat) (e : Ending) (w' : World) : Prop := e = .returned (.agg #[V, .int .i64 s]) ∧ Below w.heap.size w w'

set_option maxHeartbeats 400000 in
theorem newRun14 (ga : Option Addr) (G Gc : Nat) (E : List (Option (List Int))) (w : World) (S : Nat → Prop) (hE : Ents w S ga G Gc E) (hS : ∀ b, S b → b < w.heap.size) (hG : G ≤ 1048576) (ht : tot E ≤ 1048576) :
    Calls Trym.prog 14 #[.slice ga G Gc] w (RunPost w (.slice ga G Gc) (sz E)) := by
  have q23 := fun (w : World) (a : Option Addr) (n c n' c' : Nat) => Lib.run_eql_slice_nil (P := Trym.prog) w 23 5 a n c n' c' Trym.underlying23
  go_enter Trym.func14, Trym.ntmps14
  go_wp2
  go_loopw [10] (fun i wr => ∃ k : Nat, k ≤ G ∧ i = .int .i64 k ∧ wr = (w.alloc (.cells #[.slice none 0 0, .int .i64 0] 31)).alloc (.cells #[.slice ga G Gc, .int .i64 (sz (E.take k) : Nat)] 31)) (fun i _ => G - (intOf i).toNat)
  case atStart => exact ⟨0, Nat.zero_le _, rfl, by simp [sz]⟩
  case round =>
    obtain ⟨k, hk, rfl, rfl⟩ := hrel
    have hsb := sz_take_le E k
    have hlen : Hid (G = E.length) := hE.1
    have hGE : E.length ≤ 1048576 := by have := hE.1; omega
    by_cases hlt : k < G
    · obtain ⟨b, f, a', n', c', rfl, hSb, hc0, hB⟩ := hE.at hlt
      have hc : ∀ o1 o2, ((w.alloc o1).alloc o2).cell? ⟨b, f + k, none⟩ = some (.slice a' n' c') := fun o1 o2 => by
        have hb := hS b hSb
        rw [World.cell?_alloc_lt _ _ _ (by simp; omega), World.cell?_alloc_lt _ _ _ hb]
        exact hc0
      have hn' : n' ≤ 1048576 := by
        have h1 := len_le_tot E k (by have := hE.1; omega)
        have h2 := hB.2.2.1
        omega
      have HT : Hid (sz (E.take (k + 1)) = szStep (sz (E.take k)) (E.getD k none)) := sz_succ E k (by have := hlen.out; omega)
      have HB : Hid ((a' = none ↔ E.getD k none = none) ∧ n' = (bs (E.getD k none)).length) := ⟨hB.1, hB.2.2.1⟩
      generalize hs : sz (E.take k) = s at *
      clear hs hB hE hc0
      cases a' with
      | none =>
        have HT' : Hid (sz (E.take (k + 1)) = s) := by
          have e1 := HT.out
          rw [HB.out.1.1 rfl] at e1
          exact e1
        go_wp2
        go_roundw
        case rel => exact ⟨k + 1, by omega, by go_num, by rw [HT'.out]⟩
        case measure => simp [intOf]; omega
      | some x =>
        have HT' : Hid (sz (E.take (k + 1)) = (if 0 < s then s + 2 else s) + n') := by
          have e1 := HT.out
          have e2 := HB.out.2
          cases ho : E.getD k none with
          | none => have := HB.out.1.2 ho; cases this
          | some l => rw [ho] at e1 e2; rw [e1, e2]; rfl
        clear HT HB
        by_cases h0 : 0 < s
        · have HT2 : Hid (sz (E.take (k + 1)) = s + 2 + n') := by have := HT'.out; rw [if_pos h0] at this; exact this
          clear HT'
          go_wp2
          go_roundw
          case rel => exact ⟨k + 1, by omega, by go_num, by rw [HT2.out]; simp⟩
          case measure => simp [intOf]; omega
        · have HT2 : Hid (sz (E.take (k + 1)) = s + n') := by have := HT'.out; rw [if_neg h0] at this; exact this
          clear HT'
          go_wp2
          go_roundw
          case rel => exact ⟨k + 1, by omega, by go_num, by rw [HT2.out]; simp⟩
          case measure => simp [intOf]; omega
    · have hall : Hid (sz (E.take k) = sz E) := by
        have := hlen.out
        rw [List.take_of_length_le (by omega)]; exact rfl
      go_wp2
      rw [hall.out]
      exact bodyPost_ret (v := .agg #[.slice ga G Gc, .int .i64 (sz E : Nat)]) (by simp [results, Trym.results14, go_sem]) rfl ⟨rfl, ((Below.refl _ _).alloc (Nat.le_refl _) _).alloc (by simp) _⟩

theorem field31 (ga : Option Addr) (G Gc : Nat) (s : Int) (w : World) : (Instr.field 31 (.agg #[.slice ga G Gc, .int .i64 s]) 1).run Trym.prog w = .ok (.int .i64 s) w := by kernel_rfl

set_option maxHeartbeats 400000 in
theorem zzSize13 (ga : Option Addr) (G Gc : Nat) (E : List (Option (List Int))) (w : World) (S : Nat → Prop) (hE : Ents w S ga G Gc E) (hS : ∀ b, S b → b < w.heap.size) (hG : G ≤ 1048576) (ht : tot E ≤ 1048576) :
    Calls Trym.prog 13 #[.slice ga G Gc] w fun e w' => e = .returned (.int .i64 (sz E : Nat)) ∧ Below w.heap.size w w' := by
  have HC : Hid (Calls Trym.prog 14 #[.slice ga G Gc] w (RunPost w (.slice ga G Gc) (sz E))) := newRun14 ga G Gc E w S hE hS hG ht
  clear hE
  have hfd := field31
  go_enter Trym.func13, Trym.ntmps13
  go_wp2_with fail
  refine HC.out.mono ?_
  rintro e w' ⟨rfl, hb⟩
  go_wp2
  go_ret
  exact ⟨rfl, hb⟩

end Go.Proofs.Qxb6602202aMods
