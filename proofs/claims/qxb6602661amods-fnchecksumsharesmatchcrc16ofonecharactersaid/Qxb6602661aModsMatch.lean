/-
  SEAT b6602661aM: 'Rows.FnChecksumSharesMatchCRC16OfOneCharacterSaid'.
-/
import Derived.Test.Qxb6602661aModsCrc
import Derived.Deep.RegionWith
import Derived.ProofKit
import Derived.OpenShut
import Derived.ShutString
import Derived.ChangeOld
namespace Go.Proofs.Qxb6602661aMods
open Go.ChangeShapes Go.WideShapes Go.ChangeAt Go.RowKit Plain

theorem own : ownKnob Trym.prog.godebug = none := by kernel_rfl

/-- WHAT HOLDS AT EVERY ROUND's HEAD: the table lies in block G; nothing that was there has turned. -/
def Held (w wr : World) (G : Nat) : Prop := wr.rowIs G 28 1856 (fun i => .int .u16 (tab i : Nat)) ∧ w.heap.size ≤ G ∧ Below w.heap.size w wr

theorem Held.on {w wr w1 : World} {G : Nat} (h : Held w wr G) (hb : Below wr.heap.size wr w1) : Held w w1 G :=
  ⟨h.1.of_block (hb.block G h.1.lt), h.2.1, h.2.2.trans (hb.mono h.2.2.size)⟩

theorem Held.drew {w wr : World} {G : Nat} (h : Held w wr G) : Held w wr.drew G := ⟨h.1.drew, h.2.1, h.2.2.drew⟩

theorem Held.cell {w wr : World} {G : Nat} (h : Held w wr G) {p v : Nat} (hp : p < 58) (hv : v < 32) : wr.cell? ⟨G, p * 32 + v, none⟩ = some (.int .u16 (pshare p v 5 : Nat)) := by
  rw [h.1.cell (i := p * 32 + v) (by omega), Nat.mul_comm p 32, tab_at p v hv]

set_option maxHeartbeats 800000 in
theorem match4 (w : World) : Calls Trym.prog 4 #[] w fun e w' => e = .returned (.bool true) ∧ Below w.heap.size w w' := by
  have hz28 := zero28
  go_enter Trym.func4, Trym.ntmps4
  go_wp2_with fail
  refine (zzMake11 _).mono ?_
  rintro e w1 ⟨c, rfl, hc2, hc3, hb⟩
  have hr := row28 w1
  have hs := hb.size
  have hb0 : Below w.heap.size w (w1.alloc (.cells Z28 28)) := hb.alloc hb.size _
  clear hb
  go_wp2_with (refine wpList_store_is 28 28 (.tmp 1) (.tmp 4) rfl rfl w1.heap.size 1856 (fun _ => .int .u16 0) (fun i => .int .u16 (tab i : Nat)) c rfl rfl hr info28 hc2 hc3 (fun _ _ => rfl) ?_)
  intro w2 hr1 hk1 hz1 ho1 ht1 hu1
  have hH : Held w w2 w1.heap.size := ⟨hr1, hs, ho1.trans hb0.os, ht1.trans hb0.tape, hu1.trans hb0.output, by have := hb0.size; simp at this; omega, fun k hk => (hk1 k (by omega)).trans (hb0.block k hk)⟩
  clear hb0 hc3 hk1 hr hz28 hz1 ho1 ht1 hu1 hr1
  generalize w1.heap.size = G at *
  go_wp2
  go_loopw [2] (fun i wr => ∃ p : Nat, p ≤ 58 ∧ i = .int .i64 p ∧ Held w wr G) (fun i _ => 58 - (intOf i).toNat)
  case atStart => exact ⟨0, by omega, rfl, hH⟩
  case round =>
    clear hH
    obtain ⟨p, hp, rfl, hH⟩ := hrel
    by_cases hlt : p < 58
    · have hd : decide ((p : Int) < 58) = true := by simp; omega
      go_wp2
      go_loopw [3] (fun i wr => ∃ v : Nat, v ≤ 32 ∧ i = .int .i64 v ∧ Held w wr G) (fun i _ => 32 - (intOf i).toNat)
      case atStart => exact ⟨0, by omega, rfl, hH⟩
      case round =>
        clear hH
        obtain ⟨v, hv, rfl, hH⟩ := hrel
        by_cases hlt2 : v < 32
        · have hc := hH.cell hlt hlt2
          have HC := hid (fun W => one12 p v W hlt hlt2)
          have hm := match_all p v hlt hlt2
          rw [← hm] at HC
          have HH := hid hH
          have HQ : Hid (∀ w3 : World, Below wr.drew.heap.size wr.drew w3 → w3.cell? ⟨G, p * 32 + v, none⟩ = some (.int .u16 (pshare p v 5 : Nat))) := fun w3 h3 => (hH.drew.on h3).cell hlt hlt2
          clear hm hH
          generalize pshare p v 5 = x at *
          go_wp2_with fail
          go_region_with (go_at_call 12; refine (HC.out _).mono ?_; rintro e w3 ⟨rfl, hb3⟩; have hc3 := HQ.out w3 hb3)
          all_goals
            go_wp2
            go_roundw
            case rel => exact ⟨v + 1, by omega, by go_num, HH.out.drew.on (by assumption)⟩
            case measure => simp [intOf]; omega
        · go_wp2
          go_roundw
          case rel => exact ⟨p + 1, by omega, by go_num, hH⟩
          case measure => simp [intOf]; omega
    · go_wp2
      go_ret
      exact ⟨rfl, hH.2.2⟩

/-! ### THE ROW's STEP -/
set_option maxRecDepth 100000 in
theorem match_lifted (os : Os) (started : os.Started) (H : Type) (enc : TypeId × Value → H) :
    ReturnsInHanded {} Trym.checked os 4 .any (Rows.fnChecksumSharesMatchCRC16OfOneCharacterSpec.pre6 enc Trym.prog Trym.f4 Rows.fnChecksumSharesMatchCRC16OfOneCharacterRow.domain false) (Rows.fnChecksumSharesMatchCRC16OfOneCharacterSpec.post enc Trym.prog Trym.f4 false true false false) := by
  refine returnsInHanded_of_change (C := Trym.checked) own started (by kernel_rfl) Trym.func4
    (ChangeSpec.witness6 (enc := enc) (C := Trym.checked) false ⟨#[], #[], []⟩ 8 (by kernel_rfl) (by kernel_rfl) (by kernel_rfl) (by kernel_rfl)) ?_
  intro W base args ds gs before hval0 hW hcnd _
  have hval : ∀ (j : Nat) t v, Trym.f4.params[j]? = some t → args[j]? = some v → Value.okWide Trym.prog W .any base t v := hval0
  have hW' := hW
  obtain ⟨p, q, hA0, hV, rfl, hfz, hnd⟩ := hW
  have hA : DataW.TrodAll enc Trym.prog W 0 (fun _ => true) true Trym.f4.params.toList args.toList ds p := hA0
  rw [Trym.params4] at hA hval
  obtain ⟨rfl, rfl, rfl⟩ := trodAll_none hA
  obtain ⟨rfl, rfl⟩ := trodVars_none hV
  clear hA0 hval0
  simp only [List.append_nil] at hW'
  refine (match4 W).mono fun e W' ⟨he, bel⟩ => ?_
  subst he
  exact ⟨_, rfl, _, _, _, [], [], [], hW', trodAll_mk1 (shut_bool Trym.underlying4 _), rfl, rfl, bel.frame _, fun h => by cases h⟩

theorem match_over : Rows.fnChecksumSharesMatchCRC16OfOneCharacterRow.holds Trym.pinned (OpenSpec.ofChange Rows.fnChecksumSharesMatchCRC16OfOneCharacterSpec) :=
  OpenClaim.holds_of_wide 4 Trym.f4 rfl rfl rfl rfl rfl rfl rfl ⟨rfl, rfl, rfl, rfl, rfl⟩ rfl rfl rfl rfl rfl (by kernel_rfl) Trym.func4 (by kernel_rfl)
    (of_decide_eq_true (by kernel_rfl)) (by unfold Func.isWrapper; first | (rw [if_pos (by decide +kernel)]; kernel_rfl) | (rw [if_neg (by decide +kernel)]; exact ⟨rfl, rfl⟩))
    (fun os started H enc _ => match_lifted os started H enc)

/-- THE STATEMENT. -/
theorem match_proved : Rows.FnChecksumSharesMatchCRC16OfOneCharacterSaid :=
  match_over
end Go.Proofs.Qxb6602661aMods
