/-
  SEAT b6602202aM: zzClone (8), zzCloneAll (7): fresh copies.
-/
import Derived.Test.Qxb6602202aModsBase
namespace Go.Proofs.Qxb6602202aMods
open Go.RowKit Plain

/-- What a clone leaves: a value that owns the same bytes in new memory; nil stays nil. -/
def ClonePost (w : World) (o : Option (List Int)) (e : Ending) (w' : World) : Prop :=
  ∃ v, e = .returned v ∧ w'.ownsRow w.heap.size 5 1 v (bs o).length ((bs o).map (Value.int .u8)) ∧ (v = .slice none 0 0 ↔ o = none) ∧ Below w.heap.size w w'

/-- What lies in the new row when k bytes are copied. -/
def filled (xs : List Int) (n k : Nat) : List Value := (xs.take k ++ List.replicate (n - k) 0).map (Value.int .u8)

theorem filled_zero (xs : List Int) (n : Nat) : filled xs n 0 = (madeCells #[Value.int .u8 0] n).toList := by
  rw [toList_madeCells_one]; simp [filled]

theorem filled_all (xs : List Int) (n : Nat) (h : xs.length = n) : filled xs n n = xs.map (Value.int .u8) := by
  simp [filled, ← h]

theorem filled_step (xs : List Int) (n k : Nat) (h : xs.length = n) (hk : k < n) : (filled xs n k).set k (.int .u8 (xs.getD k 0)) = filled xs n (k + 1) := by
  unfold filled
  have e : n - k = (n - (k + 1)) + 1 := by omega
  rw [e, List.replicate_succ, List.take_succ_eq_append_getElem (by omega)]
  have hl : ¬ k < (xs.take k).length := by simp; omega
  have hl2 : k - (xs.take k).length = 0 := by simp; omega
  have hg : xs.getD k 0 = xs[k] := by simp [List.getD_eq_getElem?_getD, List.getElem?_eq_getElem (show k < xs.length by omega)]
  rw [hg, List.map_append, List.set_append, List.length_map, if_neg hl, hl2, List.map_append, List.map_append]
  simp

theorem filled_at (xs : List Int) (n k : Nat) (h : xs.length = n) (hk : k < n) : ∃ u, (filled xs n k)[k]? = some u := by
  refine ⟨_, List.getElem?_eq_getElem ?_⟩
  simp [filled]; omega

set_option maxHeartbeats 400000 in
theorem clone8 (a : Option Addr) (n c : Nat) (o : Option (List Int)) (w : World) (S : Nat → Prop) (hB : Bytes w S a n c o) (hlim : ∀ b, S b → b < w.heap.size) (hn : n ≤ 1048576) :
    Calls Trym.prog 8 #[.slice a n c] w (ClonePost w o) := by
  have q23 := fun (w : World) (a : Option Addr) (n c n' c' : Nat) => Lib.run_eql_slice_nil (P := Trym.prog) w 23 5 a n c n' c' Trym.underlying23
  obtain ⟨i0, hi, hz0, hz1, hz2⟩ := info_parts Trym.info5
  obtain ⟨h1, h2, h3, h4, b, f, h5, h6⟩ := hB
  cases a with
  | none =>
    obtain ⟨rfl, rfl⟩ := h2 rfl
    obtain rfl := h1.1 rfl
    go_enter Trym.func8, Trym.ntmps8
    go_wp2
    go_ret
    exact ⟨.slice none 0 0, rfl, World.ownsRow_nil _ _ _ _, by simp, Below.refl _ _⟩
  | some x =>
    clear h2
    have HN : Hid (n = (bs o).length) := h3
    have HO : Hid (o ≠ none) := fun e => by have := h1.2 e; cases this
    clear h1 h3
    go_enter Trym.func8, Trym.ntmps8
    go_wp2_with (at_make; refine wpList_make_full _ rfl _ _ 23 rfl w.heap.size 5 i0 (.int .u8 0) 1 Trym.underlying23 hi hz0 hz1 .i64 .i64 _ _ n rfl rfl rfl rfl ?_ ?_ ?_ ?_)
    · rw [hz2]; omega
    · unfold maxLen; omega
    · exact Nat.le_refl _
    · intro w1 hown hgrow
      have hbel : Below w.heap.size w w1 := (Below.refl _ _).grown hgrow (Nat.le_refl _) (by intro k h; cases h)
      have ho : w1.ownsRow w.heap.size 5 1 (.slice (some ⟨w.heap.size, 0, none⟩) n n) n (filled (bs o) n 0) := by
        rw [filled_zero]; exact hown
      clear hown hgrow
      go_wp2
      go_loopw [4] (fun i wr => ∃ k : Nat, k ≤ n ∧ i = .int .i64 k ∧ wr.ownsRow w.heap.size 5 1 (.slice (some ⟨w.heap.size, 0, none⟩) n n) n (filled (bs o) n k) ∧ Below w.heap.size w wr) (fun i _ => n - (intOf i).toNat)
      case atStart => exact ⟨0, Nat.zero_le _, rfl, ho, hbel⟩
      case round =>
        clear ho hbel
        obtain ⟨k, hk, rfl, ho, hbel⟩ := hrel
        by_cases hlt : k < n
        · obtain ⟨hx, hbl⟩ := h5 (by omega)
          obtain rfl := Option.some.inj hx
          obtain ⟨z, hz⟩ : ∃ z, z = (bs o).getD k 0 := ⟨_, rfl⟩
          have hc : wr.cell? ⟨b, f + k, none⟩ = some (.int .u8 z) := by
            rw [hbel.cell (p := ⟨b, f + k, none⟩) (hlim b hbl), h6 k hlt, hz]
          have HZ : Hid (z = (bs o).getD k 0) := hz
          obtain ⟨u, hu⟩ := filled_at (bs o) n k HN.out.symm hlt
          have hs1 : wr.cell? ⟨w.heap.size, k, none⟩ = some u := by rw [ho.cellAt k (by omega)]; exact hu
          have hs2 : wr.frozen? ⟨w.heap.size, k, none⟩ = false := ho.frozenAt k
          have HH : Hid ((wr.setCell ⟨w.heap.size, k, none⟩ (.int .u8 z)).ownsRow w.heap.size 5 1 (.slice (some ⟨w.heap.size, 0, none⟩) n n) n (filled (bs o) n (k + 1))) := by
            have := (ho.stored k (.int .u8 z)).1
            rw [hz, filled_step _ _ _ HN.out.symm hlt] at this
            rw [hz]
            exact this
          have HB : Hid (Below w.heap.size w (wr.setCell ⟨w.heap.size, k, none⟩ (.int .u8 z))) := hbel.setCell (Nat.le_refl _) _
          clear hz hu ho hbel h6 h5
          go_wp2
          go_roundw
          case rel => exact ⟨k + 1, by omega, by go_num, HH.out, HB.out⟩
          case measure => simp [intOf]; omega
        · have hkn : k = n := by omega
          subst hkn
          go_wp2
          go_ret
          refine ⟨_, rfl, ?_, ?_, hbel⟩
          · rw [← HN.out, ← filled_all (bs o) k HN.out.symm]; exact ho
          · exact ⟨fun h => (by cases h), fun h => absurd h HO.out⟩

/-- What zzCloneAll leaves: a value that reads as the same entries, all of it in new memory. -/
def AllPost (w : World) (E : List (Option (List Int))) (e : Ending) (w' : World) : Prop :=
  ∃ a n c, e = .returned (.slice a n c) ∧ Ents w' (fun b => w.heap.size ≤ b ∧ b < w'.heap.size) a n c E ∧ Below w.heap.size w w'

/-- WHAT HOLDS WHEN k ENTRIES ARE CLONED: the new row of slices (block w.heap.size) owns L, whose first k read as E's first k. -/
def Some (w wr : World) (n : Nat) (E : List (Option (List Int))) (k : Nat) : Prop :=
  ∃ L, wr.ownsRow w.heap.size 23 1 (.slice (some ⟨w.heap.size, 0, none⟩) n n) n L ∧ Below w.heap.size w wr ∧
    ∀ r, r < k → ∃ a' n' c', L[r]? = some (.slice a' n' c') ∧ Bytes wr (fun b => w.heap.size < b ∧ b < wr.heap.size) a' n' c' (E.getD r none)

/-- 'c[i] = zzClone(entries[i])'. -/
theorem some_step {w wr w2 : World} {n : Nat} {E : List (Option (List Int))} {k : Nat} (h : Some w wr n E k) {v : Value} (hk : k < n)
    (hown : w2.ownsRow wr.heap.size 5 1 v (bs (E.getD k none)).length ((bs (E.getD k none)).map (Value.int .u8))) (hn : v = .slice none 0 0 ↔ E.getD k none = none) (hb : Below wr.heap.size wr w2) :
    (∃ a c, v = .slice a (bs (E.getD k none)).length c) ∧ (∃ u, w2.cell? ⟨w.heap.size, k, none⟩ = some u) ∧ w2.frozen? ⟨w.heap.size, k, none⟩ = false ∧ Some w (w2.setCell ⟨w.heap.size, k, none⟩ v) n E (k + 1) := by
  obtain ⟨L, hL, hbel, hold⟩ := h
  have hG : w.heap.size < wr.heap.size := (hL.lt w.heap.size rfl).2
  have hL2 := hL.kept (below_grown hb none) (.inr (by simp [Value.ownBlock]))
  have hbel2 : Below w.heap.size w w2 := hbel.trans (hb.mono (Nat.le_of_lt hG))
  have hLlen : L.length = n := by simpa using hL.1
  obtain ⟨a, c, hv, hB⟩ := own_bytes hown hn
  refine ⟨⟨a, c, hv⟩, ⟨_, by rw [hL2.cellAt k (by omega)]; exact List.getElem?_eq_getElem (by omega)⟩, hL2.frozenAt k, L.set k v, (hL2.stored k v).1, hbel2.setCell (Nat.le_refl _) _, fun r hr => ?_⟩
  have hsz : (w2.setCell ⟨w.heap.size, k, none⟩ v).heap.size = w2.heap.size := by simp [World.setCell]
  by_cases e : r = k
  · subst e
    refine ⟨a, (bs (E.getD r none)).length, c, ?_, ?_⟩
    · rw [List.getElem?_set_self (by omega), hv]
    · rw [hsz]
      refine (hB.more (S' := fun b => w.heap.size < b ∧ b < w2.heap.size) (fun b hb' => ⟨by omega, hb'.2.2⟩)).carry (fun b hb' => Below.heap_setCell _ _ _ _ (by show b ≠ w.heap.size; omega))
  · obtain ⟨a', n', c', hg, hB'⟩ := hold r (by omega)
    refine ⟨a', n', c', ?_, ?_⟩
    · rw [List.getElem?_set_ne (by omega)]; exact hg
    · rw [hsz]
      have hs := hb.size
      refine ((hB'.carry (fun b hb' => hb.block b hb'.2)).more (S' := fun b => w.heap.size < b ∧ b < w2.heap.size) (fun b hb' => ⟨hb'.1, by omega⟩)).carry (fun b hb' => Below.heap_setCell _ _ _ _ (by show b ≠ w.heap.size; omega))

theorem some_done {w wr : World} {n : Nat} {E : List (Option (List Int))} (h : Some w wr n E n) (hn : n = E.length) : Ents wr (fun b => w.heap.size ≤ b ∧ b < wr.heap.size) (some ⟨w.heap.size, 0, none⟩) n n E := by
  obtain ⟨L, hL, hbel, hold⟩ := h
  have hG := (hL.lt w.heap.size rfl).2
  refine ⟨hn, (fun h => by cases h), Nat.le_refl _, w.heap.size, 0, fun _ => ⟨rfl, Nat.le_refl _, hG⟩, fun r hr => ?_⟩
  obtain ⟨a', n', c', hg, hB⟩ := hold r hr
  refine ⟨a', n', c', ?_, hB.more fun b hb => ⟨by omega, hb.2⟩⟩
  rw [Nat.zero_add, hL.cellAt r (by omega)]
  exact hg

set_option maxHeartbeats 400000 in
theorem cloneAll7 (ga : Option Addr) (G Gc : Nat) (E : List (Option (List Int))) (w : World) (S : Nat → Prop) (hE : Ents w S ga G Gc E) (hS : ∀ b, S b → b < w.heap.size) (hG : G ≤ 1048576) (ht : tot E ≤ 1048576) :
    Calls Trym.prog 7 #[.slice ga G Gc] w (AllPost w E) := by
  have q22 := fun (w : World) (a : Option Addr) (n c n' c' : Nat) => Lib.run_eql_slice_nil (P := Trym.prog) w 22 23 a n c n' c' Trym.underlying22
  obtain ⟨i0, hi, hz0, hz1, hz2⟩ := info_parts Trym.info23
  cases ga with
  | none =>
    obtain ⟨rfl, rfl⟩ := hE.2.1 rfl
    go_enter Trym.func7, Trym.ntmps7
    go_wp2
    go_ret
    exact ⟨none, 0, 0, rfl, ⟨hE.1, fun _ => ⟨rfl, rfl⟩, Nat.le_refl _, 0, 0, (fun h => absurd h (by omega)), fun r hr => absurd hr (by omega)⟩, Below.refl _ _⟩
  | some x =>
    go_enter Trym.func7, Trym.ntmps7
    go_wp2_with (at_make; refine wpList_make_full _ rfl _ _ 22 rfl w.heap.size 23 i0 (.slice none 0 0) 1 Trym.underlying22 hi hz0 hz1 .i64 .i64 _ _ G rfl rfl rfl rfl ?_ ?_ ?_ ?_)
    · rw [hz2]; omega
    · unfold maxLen; omega
    · exact Nat.le_refl _
    · intro w1 hown hgrow
      have hbel : Below w.heap.size w w1 := (Below.refl _ _).grown hgrow (Nat.le_refl _) (by intro k h; cases h)
      have ho : Some w w1 G E 0 := ⟨_, hown, hbel, fun r hr => absurd hr (Nat.not_lt_zero _)⟩
      clear hown hgrow hbel
      go_wp2
      go_loopw [4] (fun i wr => ∃ k : Nat, k ≤ G ∧ i = .int .i64 k ∧ Some w wr G E k) (fun i _ => G - (intOf i).toNat)
      case atStart => exact ⟨0, Nat.zero_le _, rfl, ho⟩
      case round =>
        clear ho
        obtain ⟨k, hk, rfl, ho⟩ := hrel
        by_cases hlt : k < G
        · obtain ⟨b, f, a', n', c', hx, hSb, hc0, hB⟩ := hE.at hlt
          obtain rfl := Option.some.inj hx
          have hbel : Below w.heap.size w wr := by obtain ⟨_, _, hb, _⟩ := ho; exact hb
          have hc : wr.cell? ⟨b, f + k, none⟩ = some (.slice a' n' c') := by rw [hbel.cell (p := ⟨b, f + k, none⟩) (hS b hSb)]; exact hc0
          have hB' : Bytes wr S a' n' c' (E.getD k none) := hB.carry (fun j hj => hbel.block j (hS j hj))
          have hn' : n' ≤ 1048576 := by
            have h1 := len_le_tot E k (by have := hE.1; omega)
            have h2 := hB.2.2.1
            omega
          have HC : Hid (Calls Trym.prog 8 #[.slice a' n' c'] wr (ClonePost wr (E.getD k none))) := clone8 a' n' c' _ wr S hB' (fun b hb => Nat.lt_of_lt_of_le (hS b hb) hbel.size) hn'
          clear hB hB' hc0 hbel
          go_wp2_with fail
          refine HC.out.mono ?_
          rintro e w2 ⟨v, rfl, hown2, hnil2, hb2⟩
          obtain ⟨⟨a2, c2, rfl⟩, ⟨u, hu⟩, hfr, hnext⟩ := some_step ho hlt hown2 hnil2 hb2
          have HN : Hid (Some w (w2.setCell ⟨w.heap.size, k, none⟩ (.slice a2 (bs (E.getD k none)).length c2)) G E (k + 1)) := hnext
          clear hown2 hnil2 hb2 hnext ho HC
          go_wp2
          go_roundw
          case rel => exact ⟨k + 1, by omega, by go_num, HN.out⟩
          case measure => simp [intOf]; omega
        · have hkn : k = G := by omega
          subst hkn
          have hbel : Below w.heap.size w wr := by obtain ⟨_, _, hb, _⟩ := ho; exact hb
          go_wp2
          go_ret
          exact ⟨_, _, _, rfl, some_done ho hE.1, hbel⟩

end Go.Proofs.Qxb6602202aMods
