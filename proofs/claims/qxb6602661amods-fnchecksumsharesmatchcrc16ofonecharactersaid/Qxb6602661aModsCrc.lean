/-
  SEAT b6602661aM: zzCRC16 (13), zzOneCharShare (12).
-/
import Derived.Test.Qxb6602661aModsMake
import Derived.Test.Qxb6602661aModsCrcPlain
namespace Go.Proofs.Qxb6602661aMods
open Go.RowKit Plain

theorem wrap_byte (y : Nat) : IntKind.u16.wrap (IntKind.u16.wrap (y : Int) * 256) = ((y * 256 % 65536 : Nat) : Int) := by
  rw [IntKind.wrap_u16, IntKind.wrap_u16]; omega

theorem crc_in {x y : Nat} (hx : x < 65536) : bits .xor .u16 (x : Int) (IntKind.u16.wrap (IntKind.u16.wrap (y : Int) * 256)) = ((x ^^^ (y * 256 % 65536) : Nat) : Int) := by
  rw [wrap_byte y]
  exact u16_xor_nat _ _ hx (Nat.mod_lt _ (by decide))

set_option maxHeartbeats 400000 in
theorem crc13 (c : Array Value) (f : Nat → Nat) (w : World) (hc : c.size = 36) (hf : ∀ i, i < 36 → c[i]? = some (.int .u8 (f i : Nat))) :
    Calls Trym.prog 13 #[.agg c] w fun e w' => e = .returned (.int .u16 (crcRun f 34 : Nat)) ∧ Below w.heap.size w w' := by
  have hr : (w.alloc (.cells c 33)).rowIs w.heap.size 33 36 (fun i => .int .u8 (f i : Nat)) := by
    have := World.rowIs_alloc w c 33 (fun i => .int .u8 (f i : Nat)) (fun i hi => hf i (by omega))
    rwa [hc] at this
  clear hf
  go_enter Trym.func13, Trym.ntmps13
  go_wp2
  go_loop [3, 4] (fun s i => ∃ n : Nat, n ≤ 34 ∧ i = .int .i64 n ∧ s = .int .u16 (crcRun f n : Nat)) (fun _ i => 34 - (intOf i).toNat)
  case atStart => exact ⟨0, by omega, rfl, rfl⟩
  case round =>
    obtain ⟨n, hn, rfl, rfl⟩ := hrel
    by_cases hlt : n < 34
    · have hcell := hr.cell (i := n) (by omega)
      have HI := hid (crc_in (y := f n) (crcRun_lt f n))
      have HS : Hid (crcRun f (n + 1) = bitsOn (crcRun f n ^^^ (f n * 256 % 65536)) 8) := rfl
      have hs0 : crcRun f n ^^^ (f n * 256 % 65536) < 65536 := xor_lt (crcRun_lt f n) (Nat.mod_lt _ (by decide))
      generalize crcRun f n ^^^ (f n * 256 % 65536) = s0 at *
      go_wp2
      go_loop [3, 5] (fun s i => ∃ k : Nat, k ≤ 8 ∧ i = .int .i64 k ∧ s = .int .u16 (bitsOn s0 k : Nat)) (fun _ i => 8 - (intOf i).toNat)
      case atStart => exact ⟨0, by omega, rfl, by rw [HI.out]; rfl⟩
      case round =>
        obtain ⟨k, hk, rfl, rfl⟩ := hrel
        by_cases hlt2 : k < 8
        · have HK : Hid (bitsOn s0 (k + 1) = crcStep (bitsOn s0 k)) := rfl
          have hx := bitsOn_lt s0 k hs0
          generalize bitsOn s0 k = x at *
          go_wp2
          · have h1 : (bits BinOp.and IntKind.u16 (x : Int) 32768 != 0) = true := by assumption
            go_round
            case rel => exact ⟨k + 1, by omega, by go_num, by rw [HK.out, step_hit hx h1]⟩
            case measure => simp [intOf]; omega
          · have h1 : (bits BinOp.and IntKind.u16 (x : Int) 32768 != 0) = false := by assumption
            go_round
            case rel => exact ⟨k + 1, by omega, by go_num, by rw [HK.out, step_miss hx h1]⟩
            case measure => simp [intOf]; omega
        · obtain rfl : k = 8 := by omega
          generalize bitsOn s0 8 = x at *
          go_wp2
          go_round
          case rel => exact ⟨n + 1, by omega, by go_num, by rw [HS.out]⟩
          case measure => simp [intOf]; omega
    · obtain rfl : n = 34 := by omega
      go_wp2
      go_ret
      exact ⟨rfl, (Below.refl _ _).alloc (Nat.le_refl _) _⟩

theorem ret_u16 {a b : Int} (h : a = b) : Ending.returned (.int .u16 a) = .returned (.int .u16 b) := by rw [h]

theorem share_out {x a b : Nat} (hx : x < 65536) (ha : a < 256) (hb : b < 256) : bits .xor .u16 (x : Int) (bits .or .u16 (a : Int) ((b : Int) * 256)) = ((x ^^^ (a ||| b * 256 % 65536) : Nat) : Int) := by
  have e1 : ((b : Int) * 256) = ((b * 256 % 65536 : Nat) : Int) := by omega
  have l1 : b * 256 % 65536 < 65536 := Nat.mod_lt _ (by decide)
  rw [e1, u16_or_nat a _ (by omega) l1]
  exact u16_xor_nat x _ hx (Nat.or_lt_two_pow (n := 16) (by omega) l1)

theorem or_pow {y n : Nat} (hy : y < 256) (hn : n ≤ 7) : bits .or .u8 (y : Int) ((2 : Int) ^ n % 256) = ((y ||| 2 ^ n : Nat) : Int) := by
  have h : (2 : Nat) ^ n < 256 := Nat.lt_of_le_of_lt (Nat.pow_le_pow_right (by decide) hn) (by decide)
  have e : ((2 : Int) ^ n % 256) = ((2 ^ n : Nat) : Int) := by
    have e0 : ((2 : Int) ^ n) = ((2 ^ n : Nat) : Int) := by simp
    rw [e0]
    exact Int.emod_eq_of_lt (Int.natCast_nonneg _) (Int.ofNat_lt.mpr h)
  rw [e]
  exact u8_or_nat y _ hy h

theorem sh_test : ∀ v : Nat, v < 32 → ∀ t : Nat, t < 5 → (bits BinOp.and IntKind.i64 ((v : Int) / 2 ^ (4 - t)) 1 != 0) = decide ((v / 2 ^ (4 - t)) % 2 ≠ 0) := by decide +kernel
theorem sh_yes {v t : Nat} (hv : v < 32) (ht : t < 5) (h : (bits BinOp.and IntKind.i64 ((v : Int) / 2 ^ (4 - t)) 1 != 0) = true) : (v / 2 ^ (4 - t)) % 2 ≠ 0 := by
  rw [sh_test v hv t ht] at h
  exact of_decide_eq_true h
theorem sh_no {v t : Nat} (hv : v < 32) (ht : t < 5) (h : (bits BinOp.and IntKind.i64 ((v : Int) / 2 ^ (4 - t)) 1 != 0) = false) : (v / 2 ^ (4 - t)) % 2 = 0 := by
  rw [sh_test v hv t ht] at h
  have := of_decide_eq_false h
  omega

set_option maxRecDepth 20000 in
set_option maxHeartbeats 400000 in
theorem one12 (p v : Nat) (w : World) (hp : p < 58) (hv : v < 32) :
    Calls Trym.prog 12 #[.int .i64 p, .int .i64 v] w fun e w' => e = .returned (.int .u16 (one p v : Nat)) ∧ Below w.heap.size w w' := by
  go_enter Trym.func12, Trym.ntmps12
  go_wp2
  go_loopw [6] (fun i wr => ∃ t : Nat, t ≤ 5 ∧ i = .int .i64 t ∧ wr.rowIs w.heap.size 33 36 (fun j => .int .u8 (bufAt p v t j : Nat)) ∧ Below w.heap.size w wr) (fun i _ => 5 - (intOf i).toNat)
  case atStart => exact ⟨0, by omega, rfl, (row33 w).congr (fun _ _ => rfl), (Below.refl _ _).alloc (Nat.le_refl _) _⟩
  case round =>
    obtain ⟨t, ht, rfl, hr, hb⟩ := hrel
    by_cases hlt : t < 5
    · have HR := hid hr
      have HB := hid hb
      clear hr hb
      by_cases hq : 5 * p + t < 288
      · have hc := HR.out.cell (i := (5 * p + t) / 8) (by omega)
        have hf := HR.out.frozen ((5 * p + t) / 8)
        have HN : Hid (∀ x : Nat, x = bufAt p v t ((5 * p + t) / 8) ||| 2 ^ (7 - (5 * p + t) % 8) → (v / 2 ^ (4 - t)) % 2 ≠ 0 → (wr.setCell ⟨w.heap.size, (5 * p + t) / 8, none⟩ (.int .u8 (x : Nat))).rowIs w.heap.size 33 36 (fun j => .int .u8 (bufAt p v (t + 1) j : Nat))) := by
          intro x hx h1
          refine (HR.out.set ((5 * p + t) / 8) _).congr (fun j _ => ?_)
          rw [bufAt_hit h1 hq j, hx]
          split <;> rfl
        have hlb := bufAt_lt p v t ((5 * p + t) / 8)
        generalize bufAt p v t ((5 * p + t) / 8) = y at *
        go_wp2
        · have h1 : (bits BinOp.and IntKind.i64 ((v : Int) / 2 ^ (4 - t)) 1 != 0) = true := by assumption
          go_roundw
          case rel => exact ⟨t + 1, by omega, by go_num, by rw [or_pow hlb (show 7 - (5 * p + t) % 8 ≤ 7 by omega)]; exact HN.out _ rfl (sh_yes hv hlt h1), HB.out.setCell (Nat.le_refl _) _⟩
          case measure => simp [intOf]; omega
        · have h1 : (bits BinOp.and IntKind.i64 ((v : Int) / 2 ^ (4 - t)) 1 != 0) = false := by assumption
          go_roundw
          case rel => exact ⟨t + 1, by omega, by go_num, HR.out.congr (fun j _ => by rw [bufAt_miss (fun h => h.1 (sh_no hv hlt h1))]), HB.out⟩
          case measure => simp [intOf]; omega
      · go_wp2
        all_goals
          go_roundw
          case rel => exact ⟨t + 1, by omega, by go_num, HR.out.congr (fun j _ => by rw [bufAt_miss (fun h => hq h.2)]), HB.out⟩
          case measure => simp [intOf]; omega
    · obtain rfl : t = 5 := by omega
      have h34 := hr.cell (i := 34) (by omega)
      have h35 := hr.cell (i := 35) (by omega)
      have l34 := bufAt_lt p v 5 34
      have l35 := bufAt_lt p v 5 35
      have HO : Hid (one p v = crcRun (bufAt p v 5) 34 ^^^ (bufAt p v 5 34 ||| bufAt p v 5 35 * 256 % 65536)) := rfl
      have HX := crcRun_lt (bufAt p v 5) 34
      generalize bufAt p v 5 = f at *
      go_wp2_with (refine wpList_load_is 33 33 (.tmp 5) rfl rfl w.heap.size 36 36 5 (fun j => .int .u8 (f j : Nat)) rfl hr Trym.underlying33 info33 ?_)
      intro c hc1 hc2 hc3
      go_wp2_with fail
      refine (crc13 c f wr hc2 hc3).mono ?_
      rintro e w1 ⟨rfl, hb1⟩
      go_wp2
      go_ret
      refine ⟨ret_u16 ?_, hb.trans (hb1.mono hb.size)⟩
      rw [HO.out]
      exact share_out HX l34 l35

end Go.Proofs.Qxb6602661aMods
