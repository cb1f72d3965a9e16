/-
  SEAT b6603062aM: ZZMakeArgument (10), toStore (9), names (20), ZZNames (11).
-/
import Derived.Test.Qxb6603062aModsBase
import Derived.Deep.RegionWith
namespace Go.Proofs.Qxb6603062aMods
open Go.RowKit

theorem Trym.info28 : (Trym.prog.info? 28).map (fun i => (i.zero, i.size, i.bytes)) = some (some (.agg #[.string ⟨#[]⟩, .string ⟨#[]⟩]), 2, 32) := by kernel_rfl
theorem Trym.info9 : (Trym.prog.info? 9).map (fun i => (i.zero, i.size, i.bytes)) = some (some (.string ⟨#[]⟩), 1, 16) := by kernel_rfl

set_option maxHeartbeats 400000 in
theorem make10 (x y : ByteArray) (w : World) : Calls Trym.prog 10 #[.string x, .string y] w fun e w' => e = .returned (.agg #[.string x, .string y]) ∧ Below w.heap.size w w' := by
  go_enter Trym.func10, Trym.ntmps10
  go_wp2
  exact bodyPost_ret (v := .agg #[.string x, .string y]) (by simp [results, Trym.results10, go_sem]) rfl ⟨rfl, (Below.refl _ _).alloc (Nat.le_refl _) _⟩

/-- WHAT HOLDS WHEN k ELEMENTS ARE LAID: the new row of pairs (block w.heap.size). -/
def Laid (w wr : World) (n k : Nat) (nm sq : Nat → ByteArray) : Prop :=
  ∃ g : Nat → Value, wr.rowIs w.heap.size 28 (n * 2) g ∧ Below w.heap.size w wr ∧ ∀ i, i < k → g (i * 2) = .string (nm i) ∧ g (i * 2 + 1) = .string (sq i)

theorem laid_start (w : World) (z : Array Value) (n : Nat) (nm sq : Nat → ByteArray) : Laid w (w.alloc (.cells (madeCells z (n * 2)) 28)) n 0 nm sq := by
  refine ⟨fun i => (madeCells z (n * 2))[i]?.getD undef, ?_, (Below.refl _ _).alloc (Nat.le_refl _) _, fun i hi => absurd hi (Nat.not_lt_zero _)⟩
  have := World.rowIs_alloc w (madeCells z (n * 2)) 28 (fun i => (madeCells z (n * 2))[i]?.getD undef) (fun i hi => by rw [Array.getElem?_eq_getElem hi]; rfl)
  rwa [size_madeCells] at this

theorem laid_drew {w wr : World} {n k : Nat} {nm sq : Nat → ByteArray} (h : Laid w wr n k nm sq) : Laid w wr.drew n k nm sq := by
  obtain ⟨g, h1, h2, h3⟩ := h
  exact ⟨g, h1.drew, h2.drew, h3⟩

theorem laid_step {w wr w2 : World} {n k : Nat} {nm sq : Nat → ByteArray} (h : Laid w wr n k nm sq) (hb : Below wr.heap.size wr w2) :
    Laid w ((w2.setCell ⟨w.heap.size, k * 2, none⟩ (.string (nm k))).setCell ⟨w.heap.size, k * 2 + 1, none⟩ (.string (sq k))) n (k + 1) nm sq := by
  obtain ⟨g, hr, hbel, hold⟩ := h
  have hlt := hr.lt
  have hr2 := (((hr.of_block (hb.block _ hlt)).set (k * 2) (.string (nm k))).set (k * 2 + 1) (.string (sq k)))
  refine ⟨_, hr2, ((hbel.trans (hb.mono (Nat.le_of_lt hlt))).setCell (Nat.le_refl _) _).setCell (Nat.le_refl _) _, fun i hi => ?_⟩
  by_cases e : i = k
  · subst e
    simp
  · obtain ⟨h1, h2⟩ := hold i (by omega)
    constructor
    · rw [if_neg (by omega), if_neg (by omega)]; exact h1
    · rw [if_neg (by omega), if_neg (by omega)]; exact h2

theorem laid_cells {w wr w2 : World} {n k : Nat} {nm sq : Nat → ByteArray} (h : Laid w wr n k nm sq) (hb : Below wr.heap.size wr w2) (hk : k < n) :
    (∃ u, w2.cell? ⟨w.heap.size, k * 2, none⟩ = some u) ∧ (∃ u, w2.cell? ⟨w.heap.size, k * 2 + 1, none⟩ = some u) ∧ w2.frozen? ⟨w.heap.size, k * 2, none⟩ = false ∧ w2.frozen? ⟨w.heap.size, k * 2 + 1, none⟩ = false := by
  obtain ⟨g, hr, _, _⟩ := h
  have hr2 := hr.of_block (hb.block _ hr.lt)
  exact ⟨⟨_, hr2.cell (by omega)⟩, ⟨_, hr2.cell (by omega)⟩, hr2.frozen _, hr2.frozen _⟩

theorem laid_done {w wr : World} {n : Nat} {nm sq : Nat → ByteArray} (h : Laid w wr n n nm sq) : Args wr (fun b => b = w.heap.size ∧ b < wr.heap.size) (some ⟨w.heap.size, 0, none⟩) n n nm sq := by
  obtain ⟨g, hr, _, hall⟩ := h
  refine ⟨(fun h => by cases h), Nat.le_refl _, w.heap.size, 0, fun _ => ⟨rfl, rfl, hr.lt⟩, fun i hi => ?_⟩
  rw [Nat.zero_add, hr.cell (by omega), hr.cell (by omega), (hall i hi).1, (hall i hi).2]
  exact ⟨rfl, rfl⟩

/-- What toStore leaves: the same pairs in new memory. -/
def StorePost (w : World) (n : Nat) (nm sq : Nat → ByteArray) (e : Ending) (w' : World) : Prop :=
  ∃ a c, e = .returned (.slice a n c) ∧ Args w' (fun b => b = w.heap.size ∧ b < w'.heap.size) a n c nm sq ∧ Below w.heap.size w w'

set_option maxHeartbeats 800000 in
theorem toStore9 (a : Option Addr) (n c : Nat) (nm sq : Nat → ByteArray) (w : World) (S : Nat → Prop) (hA : Args w S a n c nm sq) (hS : ∀ b, S b → b < w.heap.size) (hn : n ≤ 1048576) :
    Calls Trym.prog 9 #[.slice a n c] w (StorePost w n nm sq) := by
  have q22 := fun (w : World) (a : Option Addr) (n c n' c' : Nat) => Lib.run_eql_slice_nil (P := Trym.prog) w 22 31 a n c n' c' Trym.underlying22
  obtain ⟨i0, hi, hz0, hz1, hz2⟩ := info_parts Trym.info28
  cases a with
  | none =>
    obtain ⟨rfl, rfl⟩ := hA.1 rfl
    go_enter Trym.func9, Trym.ntmps9
    go_wp2
    go_ret
    exact ⟨none, 0, rfl, ⟨fun _ => ⟨rfl, rfl⟩, Nat.le_refl _, 0, 0, (fun h => absurd h (by omega)), fun i hi => absurd hi (by omega)⟩, Below.refl _ _⟩
  | some x =>
    have hmk : ∀ W : World, (Instr.makeSlice 25 (.int .i64 n) (.int .i64 n)).run Trym.prog W = .ok (.slice (some ⟨W.heap.size, 0, none⟩) n n) (W.alloc (.cells (madeCells #[.string ⟨#[]⟩, .string ⟨#[]⟩] (n * 2)) 28)) := fun W => by
      have := run_make (P := Trym.prog) W 25 28 i0 _ Trym.underlying25 hi hz0 .i64 .i64 n n (by omega) (by omega) (by rw [hz2]; omega) (by omega)
      rw [hz1] at this
      simpa [Value.cells] using this
    have HL := hid (laid_start w #[.string ⟨#[]⟩, .string ⟨#[]⟩] n nm sq)
    generalize hZ : madeCells #[.string ⟨#[]⟩, .string ⟨#[]⟩] (n * 2) = Z at *
    clear hZ
    go_enter Trym.func9, Trym.ntmps9
    go_wp2
    clear hmk
    go_loopw [4] (fun i wr => ∃ k : Nat, k ≤ n ∧ i = .int .i64 k ∧ Laid w wr n k nm sq) (fun i _ => n - (intOf i).toNat)
    case atStart => exact ⟨0, Nat.zero_le _, rfl, HL.out⟩
    case round =>
      clear HL
      obtain ⟨k, hk, rfl, hL⟩ := hrel
      by_cases hlt : k < n
      · obtain ⟨b, f, hx, hSb, g0, g1⟩ := hA.at hlt
        obtain rfl := Option.some.inj hx
        have hlt' : (k : Int) < (n : Int) := by omega
        have hbel : Below w.heap.size w wr := by obtain ⟨_, _, hb, _⟩ := hL; exact hb
        have e0 : wr.cell? ⟨b, f + k * 2, none⟩ = some (.string (nm k)) := by rw [hbel.cell (p := ⟨b, f + k * 2, none⟩) (hS b hSb)]; exact g0
        have e1 : wr.cell? ⟨b, f + k * 2 + 1, none⟩ = some (.string (sq k)) := by rw [hbel.cell (p := ⟨b, f + k * 2 + 1, none⟩) (hS b hSb)]; exact g1
        have HC : Hid (∀ w3 : World, Below wr.drew.heap.size wr.drew w3 → _) := hid (fun (w3 : World) (h3 : Below wr.drew.heap.size wr.drew w3) => laid_cells (laid_drew hL) h3 hlt)
        have HS : Hid (∀ w3 : World, Below wr.drew.heap.size wr.drew w3 → _) := hid (fun (w3 : World) (h3 : Below wr.drew.heap.size wr.drew w3) => laid_step (laid_drew hL) h3)
        have HX : Hid (∀ x y W, Calls Trym.prog 10 #[.string x, .string y] W fun e w' => e = .returned (.agg #[.string x, .string y]) ∧ Below W.heap.size W w') := make10
        clear hL hbel g0 g1 hA
        generalize nm k = x at *
        generalize sq k = y at *
        go_wp2_with fail
        go_region_with (go_at_call 10; refine (HX.out _ _ _).mono ?_; rintro e w3 ⟨rfl, hb3⟩; obtain ⟨⟨u0, c0⟩, ⟨u1, c1⟩, f0, f1⟩ := HC.out w3 hb3)
        all_goals
          go_wp2
          go_roundw
          case rel => exact ⟨k + 1, by omega, by go_num, HS.out _ (by assumption)⟩
          case measure => simp [intOf]; omega
      · have hkn : k = n := by omega
        subst hkn
        have HD := hid (laid_done hL)
        have HB : Hid (Below w.heap.size w wr) := by obtain ⟨_, _, hb, _⟩ := hL; exact hb
        clear hL
        go_wp2
        go_ret
        exact ⟨_, _, rfl, HD.out, HB.out⟩

/-- WHAT HOLDS WHEN k NAMES ARE LAID: the new row of strings (block w.heap.size). -/
def Named (w wr : World) (n k : Nat) (nm : Nat → ByteArray) : Prop :=
  ∃ g : Nat → Value, wr.rowIs w.heap.size 9 n g ∧ Below w.heap.size w wr ∧ ∀ i, i < k → g i = .string (nm i)

theorem named_start (w : World) (z : Array Value) (n : Nat) (nm : Nat → ByteArray) : Named w (w.alloc (.cells (madeCells z n) 9)) n 0 nm := by
  refine ⟨fun i => (madeCells z n)[i]?.getD undef, ?_, (Below.refl _ _).alloc (Nat.le_refl _) _, fun i hi => absurd hi (Nat.not_lt_zero _)⟩
  have := World.rowIs_alloc w (madeCells z n) 9 (fun i => (madeCells z n)[i]?.getD undef) (fun i hi => by rw [Array.getElem?_eq_getElem hi]; rfl)
  rwa [size_madeCells] at this

theorem named_step {w wr : World} {n k : Nat} {nm : Nat → ByteArray} (h : Named w wr n k nm) (hk : k < n) (o : Obj) :
    (∃ u, (wr.alloc o).cell? ⟨w.heap.size, k, none⟩ = some u) ∧ (wr.alloc o).frozen? ⟨w.heap.size, k, none⟩ = false ∧ Named w ((wr.alloc o).setCell ⟨w.heap.size, k, none⟩ (.string (nm k))) n (k + 1) nm := by
  obtain ⟨g, hr, hbel, hold⟩ := h
  refine ⟨⟨_, (hr.alloc o).cell hk⟩, (hr.alloc o).frozen k, _, (hr.alloc o).set k _, (hbel.alloc hbel.size o).setCell (Nat.le_refl _) _, fun i hi => ?_⟩
  by_cases e : i = k
  · subst e
    simp
  · rw [if_neg e]
    exact hold i (by omega)

/-- What names leaves: the names in a new row of strings. -/
def NamesPost (w : World) (n : Nat) (nm : Nat → ByteArray) (e : Ending) (w' : World) : Prop :=
  e = .returned (.slice (some ⟨w.heap.size, 0, none⟩) n n) ∧ w'.rowIs w.heap.size 9 n (fun i => .string (nm i)) ∧ Below w.heap.size w w'

set_option maxHeartbeats 800000 in
theorem names20 (a : Option Addr) (n c : Nat) (nm sq : Nat → ByteArray) (w : World) (S : Nat → Prop) (hA : Args w S a n c nm sq) (hS : ∀ b, S b → b < w.heap.size) (hn : n ≤ 1048576) :
    Calls Trym.prog 20 #[.slice a n c] w (NamesPost w n nm) := by
  obtain ⟨i0, hi, hz0, hz1, hz2⟩ := info_parts Trym.info9
  have hmk : ∀ W : World, (Instr.makeSlice 32 (.int .i64 n) (.int .i64 n)).run Trym.prog W = .ok (.slice (some ⟨W.heap.size, 0, none⟩) n n) (W.alloc (.cells (madeCells #[.string ⟨#[]⟩] n) 9)) := fun W => by
    have := run_make (P := Trym.prog) W 32 9 i0 _ Trym.underlying32 hi hz0 .i64 .i64 n n (by omega) (by omega) (by rw [hz2]; omega) (by omega)
    rw [hz1] at this
    simpa [Value.cells] using this
  have HL := hid (named_start w #[.string ⟨#[]⟩] n nm)
  generalize hZ : madeCells #[.string ⟨#[]⟩] n = Z at *
  clear hZ
  go_enter Trym.func20, Trym.ntmps20
  go_wp2
  clear hmk
  go_loopw [11] (fun i wr => ∃ k : Nat, k ≤ n ∧ i = .int .i64 k ∧ Named w wr n k nm) (fun i _ => n - (intOf i).toNat)
  case atStart => exact ⟨0, Nat.zero_le _, rfl, HL.out⟩
  case round =>
    clear HL
    obtain ⟨k, hk, rfl, hL⟩ := hrel
    by_cases hlt : k < n
    · obtain ⟨b, f, rfl, hSb, g0, g1⟩ := hA.at hlt
      have hbel : Below w.heap.size w wr := by obtain ⟨_, _, hb, _⟩ := hL; exact hb
      have e0 : wr.cell? ⟨b, f + k * 2, none⟩ = some (.string (nm k)) := by rw [hbel.cell (p := ⟨b, f + k * 2, none⟩) (hS b hSb)]; exact g0
      have e1 : wr.cell? ⟨b, f + k * 2 + 1, none⟩ = some (.string (sq k)) := by rw [hbel.cell (p := ⟨b, f + k * 2 + 1, none⟩) (hS b hSb)]; exact g1
      obtain ⟨⟨u, hu⟩, hf, hN⟩ := named_step hL hlt (.cells #[.string (nm k), .string (sq k)] 28)
      have HN := hid hN
      clear hL hbel g0 g1 hA hN
      generalize nm k = x at *
      generalize sq k = y at *
      go_wp2
      go_roundw
      case rel => exact ⟨k + 1, by omega, by go_num, HN.out⟩
      case measure => simp [intOf]; omega
    · have hkn : k = n := by omega
      subst hkn
      have HD : Hid (wr.rowIs w.heap.size 9 k (fun i => .string (nm i)) ∧ Below w.heap.size w wr) := by
        obtain ⟨g, hr, hb, hall⟩ := hL
        exact ⟨hr.congr (fun i hi => hall i hi), hb⟩
      clear hL
      go_wp2
      go_ret
      exact ⟨rfl, HD.out⟩

set_option maxHeartbeats 400000 in
theorem zzNames11 (a : Option Addr) (n c : Nat) (nm sq : Nat → ByteArray) (w : World) (S : Nat → Prop) (hA : Args w S a n c nm sq) (hS : ∀ b, S b → b < w.heap.size) (hn : n ≤ 1048576) :
    Calls Trym.prog 11 #[.slice a n c] w (NamesPost w n nm) := by
  have HC := hid (names20 a n c nm sq w S hA hS hn)
  clear hA
  go_enter Trym.func11, Trym.ntmps11
  go_wp2_with fail
  refine HC.out.mono ?_
  rintro e w1 ⟨rfl, h1, h2⟩
  go_wp2
  go_ret
  exact ⟨rfl, h1, h2⟩

end Go.Proofs.Qxb6603062aMods
