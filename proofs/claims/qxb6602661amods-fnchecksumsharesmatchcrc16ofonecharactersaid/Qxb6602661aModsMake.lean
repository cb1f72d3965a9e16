/-
  SEAT b6602661aM: makeChecksumShares (16).
-/
import Derived.Test.Qxb6602661aModsBase
import Derived.Test.Qxb6602661aModsPlain
namespace Go.Proofs.Qxb6602661aMods
open Go.RowKit Plain

/-- The call's two rows: the table's (block N), the bits' (block N + 1). -/
def Two (w wr : World) (f g : Nat → Nat) : Prop :=
  wr.rowIs w.heap.size 28 1856 (fun i => .int .u16 (f i : Nat)) ∧ wr.rowIs (w.heap.size + 1) 40 290 (fun i => .int .u16 (g i : Nat)) ∧ Below w.heap.size w wr

theorem two_start (w : World) : Two w ((w.alloc (.cells Z28 28)).alloc (.cells Z40 40)) (cell3 0 0 0) (b1 0) := by
  refine ⟨((row28 w).alloc _).congr (fun i _ => by rw [cell3_start]; rfl), ?_, ((Below.refl _ _).alloc (Nat.le_refl _) _).alloc (by simp) _⟩
  have := (row40 (w.alloc (.cells Z28 28))).congr (g := fun i => .int .u16 (b1 0 i : Nat)) (fun i _ => by rw [b1_zero]; rfl)
  simpa using this

/-- A store into the bits' row. -/
theorem Two.bit {w wr : World} {f g g' : Nat → Nat} (h : Two w wr f g) (q x : Nat) (hg : ∀ i, g' i = if i = q then x else g i) : Two w (wr.setCell ⟨w.heap.size + 1, q, none⟩ (.int .u16 (x : Nat))) f g' := by
  refine ⟨h.1.setOther (by show w.heap.size ≠ w.heap.size + 1; omega) _, (h.2.1.set q _).congr (fun i _ => ?_), h.2.2.setCell (by show w.heap.size ≤ w.heap.size + 1; omega) _⟩
  rw [hg i]
  split <;> rfl

/-- A store into the table's row. -/
theorem Two.tab {w wr : World} {f g f' : Nat → Nat} (h : Two w wr f g) (q x : Nat) (hf : ∀ i, f' i = if i = q then x else f i) : Two w (wr.setCell ⟨w.heap.size, q, none⟩ (.int .u16 (x : Nat))) f' g := by
  refine ⟨(h.1.set q _).congr (fun i _ => ?_), h.2.1.setOther (by show w.heap.size + 1 ≠ w.heap.size; omega) _, h.2.2.setCell (Nat.le_refl _) _⟩
  rw [hf i]
  split <;> rfl

theorem Two.drew {w wr : World} {f g : Nat → Nat} (h : Two w wr f g) : Two w wr.drew f g := ⟨h.1.drew, h.2.1.drew, h.2.2.drew⟩

theorem Two.congr {w wr : World} {f g f' g' : Nat → Nat} (h : Two w wr f g) (hf : ∀ i, f i = f' i) (hg : ∀ i, g i = g' i) : Two w wr f' g' :=
  ⟨h.1.congr (fun i _ => by rw [hf]), h.2.1.congr (fun i _ => by rw [hg]), h.2.2⟩

/-- The round's test and its two ways, in the walk's own forms. -/
theorem step_hit {s : Nat} (hs : s < 65536) (h : (bits .and .u16 (s : Int) 32768 != 0) = true) : bits .xor .u16 (IntKind.u16.wrap ((s : Int) * 2)) 4129 = ((crcStep s : Nat) : Int) := by
  have e : bits .and .u16 (s : Int) 32768 = ((s &&& 32768 : Nat) : Int) := u16_and_nat s 32768 hs (by decide)
  rw [e] at h
  have h' : s &&& 32768 ≠ 0 := by
    intro h0
    rw [h0] at h
    simp at h
  have e2 : IntKind.u16.wrap ((s : Int) * 2) = ((s * 2 % 65536 : Nat) : Int) := by rw [IntKind.wrap_u16]; omega
  rw [e2]
  unfold crcStep
  rw [if_pos h']
  exact u16_xor_nat _ 4129 (Nat.mod_lt _ (by decide)) (by decide)
theorem step_miss {s : Nat} (hs : s < 65536) (h : (bits .and .u16 (s : Int) 32768 != 0) = false) : IntKind.u16.wrap ((s : Int) * 2) = ((crcStep s : Nat) : Int) := by
  have e : bits .and .u16 (s : Int) 32768 = ((s &&& 32768 : Nat) : Int) := u16_and_nat s 32768 hs (by decide)
  rw [e] at h
  have h' : s &&& 32768 = 0 := by simpa using h
  unfold crcStep
  rw [if_neg (fun hn => hn h'), IntKind.wrap_u16]
  omega

theorem down (k : Nat) : Value.int .i64 (271 - (k : Int) - 1) = .int .i64 (271 - ((k + 1 : Nat) : Int)) := by
  rw [show (271 : Int) - (k : Int) - 1 = 271 - ((k + 1 : Nat) : Int) by omega]

theorem wrap_pow {n : Nat} (h : n < 16) : IntKind.u16.wrap ((2 : Int) ^ n) = ((2 ^ n : Nat) : Int) := by
  rw [IntKind.wrap_u16]
  have : (2 : Nat) ^ n < 65536 := Nat.lt_of_lt_of_le (Nat.pow_lt_pow_right (by decide) h) (by decide)
  have e : ((2 : Int) ^ n) = ((2 ^ n : Nat) : Int) := by simp
  rw [e]
  exact Int.emod_eq_of_lt (Int.natCast_nonneg _) (Int.ofNat_lt.mpr this)

/-- What the call leaves: the table, by value. -/
def TabPost (w : World) (e : Ending) (w' : World) : Prop :=
  ∃ c : Array Value, e = .returned (.agg c) ∧ c.size = 1856 ∧ (∀ i, i < 1856 → c[i]? = some (.int .u16 (tab i : Nat))) ∧ Below w.heap.size w w'

theorem bit_test : ∀ v : Nat, v < 32 → ∀ t : Nat, t < 5 → (bits BinOp.and IntKind.i64 (v : Int) (wrap64 (2 ^ (4 - t))) != 0) = decide (v &&& 2 ^ (4 - t) ≠ 0) := by decide +kernel
theorem bit_yes {v t : Nat} (hv : v < 32) (ht : t < 5) (h : (bits BinOp.and IntKind.i64 (v : Int) (wrap64 (2 ^ (4 - t))) != 0) = true) : v &&& 2 ^ (4 - t) ≠ 0 := by
  rw [bit_test v hv t ht] at h
  exact of_decide_eq_true h
theorem bit_no {v t : Nat} (hv : v < 32) (ht : t < 5) (h : (bits BinOp.and IntKind.i64 (v : Int) (wrap64 (2 ^ (4 - t))) != 0) = false) : ¬ v &&& 2 ^ (4 - t) ≠ 0 := by
  rw [bit_test v hv t ht] at h
  exact of_decide_eq_false h

set_option maxHeartbeats 800000 in
theorem make16 (w : World) : Calls Trym.prog 16 #[] w (TabPost w) := by
  have hz28 := zero28
  have hz40 := zero40
  go_enter Trym.func16, Trym.ntmps16
  go_wp2
  clear hz28 hz40
  go_loopw [2, 3] (fun s i wr => ∃ k : Nat, k ≤ 272 ∧ i = .int .i64 (271 - (k : Int)) ∧ s = .int .u16 (sh k : Nat) ∧ Two w wr (cell3 0 0 0) (b1 k)) (fun _ i _ => (intOf i + 1).toNat)
  case atStart => exact ⟨0, by omega, rfl, rfl, two_start w⟩
  case round =>
    obtain ⟨k, hk, rfl, rfl, hT⟩ := hrel
    by_cases hlt : k < 272
    · have hc := hT.2.1.cell (i := 271 - k) (by omega)
      have hf := hT.2.1.frozen (271 - k)
      have HN := hid (hT.bit (271 - k) (sh k) (fun i => b1_step k i hlt))
      have hs := sh_lt k
      have HK : Hid (sh (k + 1) = crcStep (sh k)) := rfl
      generalize sh k = s at *
      clear hT
      go_wp2
      · have h1 : (bits BinOp.and IntKind.u16 (s : Int) 32768 != 0) = true := by assumption
        go_roundw
        case rel => exact ⟨k + 1, by omega, down k, by rw [HK.out, step_hit hs h1], HN.out⟩
        case measure => simp [intOf]; omega
      · have h1 : (bits BinOp.and IntKind.u16 (s : Int) 32768 != 0) = false := by assumption
        go_roundw
        case rel => exact ⟨k + 1, by omega, down k, by rw [HK.out, step_miss hs h1], HN.out⟩
        case measure => simp [intOf]; omega
    · have hT2 : Two w wr (cell3 0 0 0) (b2 0) := hT.congr (fun _ => rfl) (fun i => by rw [show k = 272 by omega, b1_done])
      clear hT
      generalize sh k = s at *
      go_wp2
      go_loopw [23] (fun i wr => ∃ t : Nat, t ≤ 8 ∧ i = .int .i64 t ∧ Two w wr (cell3 0 0 0) (b2 t)) (fun i _ => 8 - (intOf i).toNat)
      case atStart => exact ⟨0, by omega, rfl, hT2⟩
      case round =>
        clear hT2
        obtain ⟨t, ht, rfl, hT⟩ := hrel
        by_cases hlt2 : t < 8
        · have hc := hT.2.1.cell (i := 272 + t) (by omega)
          have hf := hT.2.1.frozen (272 + t)
          have hc2 : ∀ v, (wr.setCell ⟨w.heap.size + 1, 272 + t, none⟩ v).cell? ⟨w.heap.size + 1, 280 + t, none⟩ = some (.int .u16 (b2 t (280 + t) : Nat)) := fun v => by
            rw [World.cell?_setCell_other _ _ _ _ (fun e => by have := congrArg Addr.off e; simp at this)]
            exact hT.2.1.cell (i := 280 + t) (by omega)
          have hf2 : ∀ v, (wr.setCell ⟨w.heap.size + 1, 272 + t, none⟩ v).frozen? ⟨w.heap.size + 1, 280 + t, none⟩ = false := fun v => (hT.2.1.set (272 + t) v).frozen (280 + t)
          have HN := hid ((hT.bit (272 + t) (2 ^ (7 - t)) (g' := fun i => if i = 272 + t then 2 ^ (7 - t) else b2 t i) (fun _ => rfl)).bit (280 + t) (2 ^ (15 - t)) (g' := b2 (t + 1)) (fun i => b2_step t i hlt2))
          clear hT
          go_wp2
          go_roundw
          case rel => exact ⟨t + 1, by omega, by go_num, by rw [wrap_pow (show 7 - t < 16 by omega), wrap_pow (show 15 - t < 16 by omega)]; exact HN.out⟩
          case measure => simp [intOf]; omega
        · have hT3 : Two w wr (cell3 0 0 0) bitAt := hT.congr (fun _ => rfl) (fun i => by rw [show t = 8 by omega]; rfl)
          clear hT
          go_wp2
          go_loopw [39] (fun i wr => ∃ p : Nat, p ≤ 58 ∧ i = .int .i64 p ∧ Two w wr (cell3 p 0 0) bitAt) (fun i _ => 58 - (intOf i).toNat)
          case atStart => exact ⟨0, by omega, rfl, hT3⟩
          case round =>
            clear hT3
            obtain ⟨p, hp, rfl, hT⟩ := hrel
            by_cases hlt3 : p < 58
            · go_wp2
              go_loopw [42] (fun i wr => ∃ v : Nat, v ≤ 32 ∧ i = .int .i64 v ∧ Two w wr (cell3 p v 0) bitAt) (fun i _ => 32 - (intOf i).toNat)
              case atStart => exact ⟨0, by omega, rfl, hT⟩
              case round =>
                clear hT
                obtain ⟨v, hv, rfl, hT⟩ := hrel
                by_cases hlt4 : v < 32
                · go_wp2
                  go_loopw [45] (fun i wr => ∃ t : Nat, t ≤ 5 ∧ i = .int .i64 t ∧ Two w wr (cell3 p v t) bitAt) (fun i _ => 5 - (intOf i).toNat)
                  case atStart => exact ⟨0, by omega, rfl, hT⟩
                  case round =>
                    clear hT
                    obtain ⟨t, ht, rfl, hT⟩ := hrel
                    by_cases hlt5 : t < 5
                    · have hc : wr.cell? ⟨w.heap.size, p * 32 + v, none⟩ = some (.int .u16 (pshare p v t : Nat)) := by
                        rw [hT.1.cell (i := p * 32 + v) (by omega), Nat.mul_comm p 32, cell3_at]
                      have hf := hT.1.frozen (p * 32 + v)
                      have hcb := hT.2.1.cell (i := 5 * p + t) (by omega)
                      have hl1 := pshare_lt p v t
                      have hl2 := bitAt_lt (5 * p + t)
                      go_wp2
                      · have h1 : (bits BinOp.and IntKind.i64 (v : Int) (wrap64 (2 ^ (4 - t))) != 0) = true := by assumption
                        have HN := hid (hT.tab (p * 32 + v) (pshare p v t ^^^ bitAt (5 * p + t)) (f' := cell3 p v (t + 1)) (fun i => by rw [Nat.mul_comm p 32]; exact cell3_hit p v t i (bit_yes hlt4 hlt5 h1)))
                        clear hT
                        generalize pshare p v t = x at *
                        generalize bitAt (5 * p + t) = y at *
                        go_region
                        go_wp2
                        go_roundw
                        case rel => exact ⟨t + 1, by omega, by go_num, by rw [u16_xor_nat x y hl1 hl2]; exact HN.out.drew⟩
                        case measure => simp [intOf]; omega
                      · have h1 : (bits BinOp.and IntKind.i64 (v : Int) (wrap64 (2 ^ (4 - t))) != 0) = false := by assumption
                        go_roundw
                        case rel => exact ⟨t + 1, by omega, by go_num, hT.congr (fun i => (cell3_miss p v t i (bit_no hlt4 hlt5 h1)).symm) (fun _ => rfl)⟩
                        case measure => simp [intOf]; omega
                    · have hT4 : Two w wr (cell3 p (v + 1) 0) bitAt := hT.congr (fun i => by rw [show t = 5 by omega]; exact cell3_next p v i hlt4) (fun _ => rfl)
                      clear hT
                      go_wp2
                      go_roundw
                      case rel => exact ⟨v + 1, by omega, by go_num, hT4⟩
                      case measure => simp [intOf]; omega
                · have hT4 : Two w wr (cell3 (p + 1) 0 0) bitAt := hT.congr (fun i => by rw [show v = 32 by omega]; exact cell3_row p i) (fun _ => rfl)
                  clear hT
                  go_wp2
                  go_roundw
                  case rel => exact ⟨p + 1, by omega, by go_num, hT4⟩
                  case measure => simp [intOf]; omega
            · have hT4 : Two w wr tab bitAt := by
                refine ⟨hT.1.congr (fun i hi => ?_), hT.2⟩
                rw [show p = 58 by omega, cell3_all i hi]
              clear hT
              go_wp2_with (refine wpList_load_is 28 28 (.tmp 0) rfl rfl w.heap.size 1856 58 27 (fun i => .int .u16 (tab i : Nat)) rfl hT4.1 Trym.underlying28 info28 ?_)
              intro c hc1 hc2 hc3
              go_wp2_with (refine wpList_store_is 28 28 (.tmp 0) (.tmp 71) rfl rfl w.heap.size 1856 (fun i => .int .u16 (tab i : Nat)) (fun i => .int .u16 (tab i : Nat)) c rfl rfl hT4.1 info28 hc2 hc3 (fun _ _ => rfl) ?_)
              intro w1 hr1 hk1 hz1 ho1 ht1 hu1
              obtain ⟨c1, hb1, hs1, hv1⟩ := hr1
              have hbel : Below w.heap.size w w1 := ⟨ho1.trans hT4.2.2.os, ht1.trans hT4.2.2.tape, hu1.trans hT4.2.2.output, by rw [hz1]; exact hT4.2.2.size, fun k hk => (hk1 k (by omega)).trans (hT4.2.2.block k hk)⟩
              clear hT4 hc1 hc3 hk1
              go_wp2
              exact bodyPost_ret (v := .agg c1) (results_cell_row rfl _ w1 w.heap.size 28 c1 (0, 0) _ rfl hb1 Trym.underlying28 rfl (by rw [hs1]; exact info28)) rfl ⟨c1, rfl, hs1, hv1, hbel⟩

set_option maxHeartbeats 400000 in
theorem zzMake11 (w : World) : Calls Trym.prog 11 #[] w (TabPost w) := by
  have hz28 := zero28
  go_enter Trym.func11, Trym.ntmps11
  go_wp2_with fail
  clear hz28
  refine (make16 _).mono ?_
  rintro e w1 ⟨c, rfl, hc2, hc3, hb⟩
  have hr : w1.rowIs w.heap.size 28 1856 (fun _ => .int .u16 0) := (row28 w).of_block (hb.block _ (by simp))
  have hb0 : Below w.heap.size w w1 := ((Below.refl _ _).alloc (Nat.le_refl _) _).trans (hb.mono (by simp))
  clear hb
  go_wp2_with (refine wpList_store_is 28 28 (.tmp 0) (.tmp 1) rfl rfl w.heap.size 1856 (fun _ => .int .u16 0) (fun i => .int .u16 (tab i : Nat)) c rfl rfl hr info28 hc2 hc3 (fun _ _ => rfl) ?_)
  intro w2 hr1 hk1 hz1 ho1 ht1 hu1
  obtain ⟨c1, hb1, hs1, hv1⟩ := hr1
  have hbel : Below w.heap.size w w2 := ⟨ho1.trans hb0.os, ht1.trans hb0.tape, hu1.trans hb0.output, by rw [hz1]; exact hb0.size, fun k hk => (hk1 k (by omega)).trans (hb0.block k hk)⟩
  clear hb0 hc3 hk1 hr
  go_wp2
  exact bodyPost_ret (v := .agg c1) (results_cell_row rfl _ w2 w.heap.size 28 c1 (0, 0) _ rfl hb1 Trym.underlying28 rfl (by rw [hs1]; exact info28)) rfl ⟨c1, rfl, hs1, hv1, hbel⟩

end Go.Proofs.Qxb6602661aMods
