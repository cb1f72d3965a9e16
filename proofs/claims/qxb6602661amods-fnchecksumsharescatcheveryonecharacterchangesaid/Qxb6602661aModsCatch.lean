/-
  SEAT b6602661aM: 'Rows.FnChecksumSharesCatchEveryOneCharacterChangeSaid'.
-/
import Derived.Test.Qxb6602661aModsMake
import Derived.ProofKit
import Derived.OpenShut
import Derived.ShutString
import Derived.ChangeOld
namespace Go.Proofs.Qxb6602661aMods
open Go.ChangeShapes Go.WideShapes Go.ChangeAt Go.RowKit Plain

theorem own : ownKnob Trym.prog.godebug = none := by kernel_rfl

/-- THE PLAIN LAW: exactly these single-character changes are missed. -/
theorem catch_all : ∀ p, p < 58 → ∀ v, v < 32 → (pshare p v 5 = 0 ↔ v = 0 ∨ (p = 57 ∧ v < 4)) := by decide +kernel

set_option maxHeartbeats 800000 in
theorem catch6 (w : World) : Calls Trym.prog 6 #[] w fun e w' => e = .returned (.bool true) ∧ Below w.heap.size w w' := by
  have hz28 := zero28
  go_enter Trym.func6, Trym.ntmps6
  go_wp2_with fail
  refine (zzMake11 _).mono ?_
  rintro e w1 ⟨c, rfl, hc2, hc3, hb⟩
  have hr := row28 w1
  have hs := hb.size
  have hb0 : Below w.heap.size w (w1.alloc (.cells Z28 28)) := hb.alloc hb.size _
  clear hb
  go_wp2_with (refine wpList_store_is 28 28 (.tmp 1) (.tmp 5) rfl rfl w1.heap.size 1856 (fun _ => .int .u16 0) (fun i => .int .u16 (tab i : Nat)) c rfl rfl hr info28 hc2 hc3 (fun _ _ => rfl) ?_)
  intro w2 hr1 hk1 hz1 ho1 ht1 hu1
  have hbel : Hid (Below w.heap.size w w2) := ⟨ho1.trans hb0.os, ht1.trans hb0.tape, hu1.trans hb0.output, by have := hb0.size; simp at this; omega, fun k hk => (hk1 k (by omega)).trans (hb0.block k hk)⟩
  clear hb0 hc3 hk1 hr hz28 hz1 ho1 ht1 hu1
  go_wp2
  go_loop [2] (fun i => ∃ p : Nat, p ≤ 58 ∧ i = .int .i64 p) (fun i => 58 - (intOf i).toNat)
  case atStart => exact ⟨0, by omega, rfl⟩
  case round =>
    obtain ⟨p, hp, rfl⟩ := hrel
    by_cases hlt : p < 58
    · go_wp2
      go_loop [3] (fun i => ∃ v : Nat, v ≤ 32 ∧ i = .int .i64 v) (fun i => 32 - (intOf i).toNat)
      case atStart => exact ⟨0, by omega, rfl⟩
      case round =>
        obtain ⟨v, hv, rfl⟩ := hrel
        by_cases hlt2 : v < 32
        · have hc : w2.cell? ⟨w1.heap.size, p * 32 + v, none⟩ = some (.int .u16 (pshare p v 5 : Nat)) := by
            rw [hr1.cell (i := p * 32 + v) (by omega), Nat.mul_comm p 32, tab_at p v hlt2]
          have hcat := hid (catch_all p hlt v hlt2)
          generalize pshare p v 5 = x at *
          by_cases hv0 : v = 0
          · obtain rfl : x = 0 := hcat.out.2 (.inl hv0)
            subst hv0
            have hc0 : w2.cell? ⟨w1.heap.size, p * 32, none⟩ = some (.int .u16 0) := hc
            clear hc
            go_wp2
            go_round
            case rel => exact ⟨1, by omega, rfl⟩
            case measure => simp [intOf]
          have hv0' : ((v : Int) == 0) = false := by simp; omega
          by_cases hp57 : p = 57
          · have hp' : ((p : Int) == 57) = true := by simp; omega
            by_cases hv4 : v < 4
            · obtain rfl : x = 0 := hcat.out.2 (.inr ⟨hp57, hv4⟩)
              have hv4' : (v : Int) < 4 := by omega
              clear hp57
              go_wp2
              go_round
              case rel => exact ⟨v + 1, by omega, by go_num⟩
              case measure => simp [intOf]; omega
            · have hx' : ((x : Int) == 0) = false := by
                have : ¬ x = 0 := fun e => by have := hcat.out.1 e; omega
                simp; omega
              have hv4' : ¬ (v : Int) < 4 := by omega
              clear hp57
              go_wp2
              go_round
              case rel => exact ⟨v + 1, by omega, by go_num⟩
              case measure => simp [intOf]; omega
          · have hp' : ((p : Int) == 57) = false := by simp; omega
            have hx' : ((x : Int) == 0) = false := by
              have : ¬ x = 0 := fun e => by have := hcat.out.1 e; omega
              simp; omega
            go_wp2
            go_round
            case rel => exact ⟨v + 1, by omega, by go_num⟩
            case measure => simp [intOf]; omega
        · go_wp2
          go_round
          case rel => exact ⟨p + 1, by omega, by go_num⟩
          case measure => simp [intOf]; omega
    · go_wp2
      go_ret
      exact ⟨rfl, hbel.out⟩

/-! ### THE ROW's STEP -/
set_option maxRecDepth 100000 in
theorem catch_lifted (os : Os) (started : os.Started) (H : Type) (enc : TypeId × Value → H) :
    ReturnsInHanded {} Trym.checked os 6 .any (Rows.fnChecksumSharesCatchEveryOneCharacterChangeSpec.pre6 enc Trym.prog Trym.f6 Rows.fnChecksumSharesCatchEveryOneCharacterChangeRow.domain false) (Rows.fnChecksumSharesCatchEveryOneCharacterChangeSpec.post enc Trym.prog Trym.f6 false true false false) := by
  refine returnsInHanded_of_change (C := Trym.checked) own started (by kernel_rfl) Trym.func6
    (ChangeSpec.witness6 (enc := enc) (C := Trym.checked) false ⟨#[], #[], []⟩ 8 (by kernel_rfl) (by kernel_rfl) (by kernel_rfl) (by kernel_rfl)) ?_
  intro W base args ds gs before hval0 hW hcnd _
  have hval : ∀ (j : Nat) t v, Trym.f6.params[j]? = some t → args[j]? = some v → Value.okWide Trym.prog W .any base t v := hval0
  have hW' := hW
  obtain ⟨p, q, hA0, hV, rfl, hfz, hnd⟩ := hW
  have hA : DataW.TrodAll enc Trym.prog W 0 (fun _ => true) true Trym.f6.params.toList args.toList ds p := hA0
  rw [Trym.params6] at hA hval
  obtain ⟨rfl, rfl, rfl⟩ := trodAll_none hA
  obtain ⟨rfl, rfl⟩ := trodVars_none hV
  clear hA0 hval0
  simp only [List.append_nil] at hW'
  refine (catch6 W).mono fun e W' ⟨he, bel⟩ => ?_
  subst he
  exact ⟨_, rfl, _, _, _, [], [], [], hW', trodAll_mk1 (shut_bool Trym.underlying4 _), rfl, rfl, bel.frame _, fun h => by cases h⟩

theorem catch_over : Rows.fnChecksumSharesCatchEveryOneCharacterChangeRow.holds Trym.pinned (OpenSpec.ofChange Rows.fnChecksumSharesCatchEveryOneCharacterChangeSpec) :=
  OpenClaim.holds_of_wide 6 Trym.f6 rfl rfl rfl rfl rfl rfl rfl ⟨rfl, rfl, rfl, rfl, rfl⟩ rfl rfl rfl rfl rfl (by kernel_rfl) Trym.func6 (by kernel_rfl)
    (of_decide_eq_true (by kernel_rfl)) (by unfold Func.isWrapper; first | (rw [if_pos (by decide +kernel)]; kernel_rfl) | (rw [if_neg (by decide +kernel)]; exact ⟨rfl, rfl⟩))
    (fun os started H enc _ => catch_lifted os started H enc)

/-- THE STATEMENT. -/
theorem catch_proved : Rows.FnChecksumSharesCatchEveryOneCharacterChangeSaid :=
  catch_over
end Go.Proofs.Qxb6602661aMods
