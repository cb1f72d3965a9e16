/-
  SEAT b6602202aM: 'Rows.FnRunSizeIsAppendedLengthSaid'.
-/
import Derived.Test.Qxb6602202aModsGuards
import Derived.Test.Qxb6602202aModsClone
import Derived.Test.Qxb6602202aModsAppend
import Derived.Test.Qxb6602202aModsOpen
namespace Go.Proofs.Qxb6602202aMods
open Go.ChangeShapes Go.WideShapes Go.ChangeAt Go.RowKit Go.Deep Plain

theorem ret_true {b : Bool} (h : b = true) : Ending.returned (.bool b) = .returned (.bool true) := by rw [h]

set_option maxHeartbeats 400000 in
theorem walk4 (ga : Option Addr) (G Gc : Nat) (E : List (Option (List Int))) (ba : Option Addr) (bn bc : Nat) (o : Option (List Int)) (w : World) (hE : Ents w (fun b => b < w.heap.size) ga G Gc E) (hB : Bytes w (fun b => b < w.heap.size) ba bn bc o)
    (hG : G ≤ 9223372036854775807) (hb : bn ≤ 9223372036854775807) :
    Calls Trym.prog 4 #[.slice ga G Gc, .slice ba bn bc] w fun e w' => e = .returned (.bool true) ∧ Below w.heap.size w w' := by
  have H1 := hid (bytes12 ga G Gc E ba bn bc w _ hE hG hb)
  have H2 := hid (fits6 ga G Gc E ba bn bc w _ hE hG hb)
  have HE : Hid (Ents w (fun b => b < w.heap.size) ga G Gc E) := hE
  have HB : Hid (Bytes w (fun b => b < w.heap.size) ba bn bc o) := hB
  clear hE hB
  go_enter Trym.func4, Trym.ntmps4
  go_wp2_with fail
  refine H1.out.mono ?_
  rintro e w' ⟨t, rfl, rfl, ht⟩
  cases t with
  | false =>
    go_wp2
    go_ret
    exact ⟨rfl, Below.refl _ _⟩
  | true =>
    have ht' := ht rfl
    clear ht
    go_wp2_with fail
    refine (H2.out (by omega)).mono ?_
    rintro e w' ⟨t, rfl, rfl, _⟩
    cases t with
    | false =>
      go_wp2
      go_ret
      exact ⟨rfl, Below.refl _ _⟩
    | true =>
      go_wp2_with fail
      refine (cloneAll7 ga G Gc E w' _ HE.out (fun b hb => hb) (by omega) (by omega)).mono ?_
      rintro e w1 ⟨a1, n1, c1, rfl, hE1, hb1⟩
      have hn1 : n1 ≤ 1048576 := by have := hE1.1; have := HE.out.1; omega
      have HE1 := hid hE1
      clear hE1
      go_wp2_with fail
      refine (clone8 ba bn bc o w1 (fun b => b < w'.heap.size) (HB.out.carry fun j hj => hb1.block j hj) (fun b hb => Nat.lt_of_lt_of_le hb hb1.size) (by omega)).mono ?_
      rintro e w2 ⟨v, rfl, hown, hnil, hb2⟩
      obtain ⟨va, vc, rfl⟩ := own_form hown
      have hlb : (bs o).length ≤ 1048576 := by have := HB.out.2.2.1; omega
      have HB2 : Hid (Below w'.heap.size w' w2) := hb1.trans (hb2.mono hb1.size)
      have hblk := hown.lt
      have HA := hid (zzAppendTo10 a1 n1 c1 E va vc (bs o) w2 _ w1.heap.size (HE1.out.carry fun j hj => hb2.block j hj.2) hown
        (fun b hb => ⟨Nat.lt_of_lt_of_le hb.2 hb2.size, fun e => by have := hblk b e.symm; omega⟩) hb2.size hn1 (by omega) hlb)
      have hbs := hb2.size
      have HE2 : Hid (∀ w3 : World, w2.grownBy w3 (Value.ownBlock (.slice va (bs o).length vc)) → Ents w3 (fun b => w'.heap.size ≤ b ∧ b < w1.heap.size) a1 n1 c1 E) := fun w3 hg =>
        (HE1.out.carry fun j hj => hb2.block j hj.2).carry fun j hj => hg.block j (Nat.lt_of_lt_of_le hj.2 hbs) (fun e => by have := hblk j e.symm; omega)
      have HBb : Hid (∀ w3 : World, w2.grownBy w3 (Value.ownBlock (.slice va (bs o).length vc)) → Below w'.heap.size w' w3) := fun w3 hg =>
        HB2.out.grown hg (Nat.le_trans hb1.size hbs) (fun k e => by have := hblk k e; have := hb1.size; omega)
      clear hown hnil hblk hb1 hb2 HE1
      generalize hbl : bs o = B at *
      clear hbl
      go_wp2_with fail
      refine HA.out.mono ?_
      rintro e w3 ⟨a3, c3, rfl, hst⟩
      have hlen := ap_length E B
      have hsz : sz E ≤ 3145728 := by have := sz_le E; have := HE.out.1; omega
      have hbig := hst.2.1.size
      have HC := hid (zzSize13 a1 n1 c1 E w3 _ (HE2.out w3 hst.2.1) (fun b hb => by omega) hn1 (by omega))
      have HB3 := HBb.out w3 hst.2.1
      clear hst
      go_wp2_with fail
      refine HC.out.mono ?_
      rintro e w4 ⟨rfl, hb4⟩
      go_wp2
      go_ret
      refine ⟨?_, HB3.trans (hb4.mono (Nat.le_trans HB3.size (Nat.le_refl _)))⟩
      exact ret_true (by rw [beq_iff_eq]; omega)

/-! ### THE ROW's STEP -/
set_option maxRecDepth 100000 in
theorem size_lifted (os : Os) (started : os.Started) (H : Type) (enc : TypeId × Value → H) :
    ReturnsInHanded {} Trym.checked os 4 .any (Rows.fnRunSizeIsAppendedLengthSpec.pre6 enc Trym.prog Trym.f4 Rows.fnRunSizeIsAppendedLengthRow.domain false) (Rows.fnRunSizeIsAppendedLengthSpec.post enc Trym.prog Trym.f4 false true false false) := by
  refine returnsInHanded_of_change (C := Trym.checked) own started (by kernel_rfl) Trym.func4
    (ChangeSpec.witness6 (enc := enc) (C := Trym.checked) false ⟨#[], #[.slice none 0 0, .slice none 0 0], []⟩ 8 (by kernel_rfl) (by kernel_rfl) (by kernel_rfl) (by kernel_rfl)) ?_
  intro W base args ds gs before hval0 hW hcnd _
  have hval : ∀ (j : Nat) t v, Trym.f4.params[j]? = some t → args[j]? = some v → Value.okWide Trym.prog W .any base t v := hval0
  have hW' := hW
  obtain ⟨p, q, hA0, hV, rfl, hfz, hnd⟩ := hW
  have hA : DataW.TrodAll enc Trym.prog W 0 (fun _ => true) true Trym.f4.params.toList args.toList ds p := hA0
  rw [Trym.params4] at hA hval
  obtain ⟨v0, vs0, d0, ds0, p0, q0, hargs, rfl, rfl, h0, r0⟩ := trodAll_cons hA
  obtain ⟨v1, vs1, d1, ds1, p1, q1, rfl, rfl, rfl, h1, r1⟩ := trodAll_cons r0
  obtain ⟨rfl, rfl, rfl⟩ := trodAll_nil r1
  obtain rfl : args = #[v0, v1] := by cases args; simp_all
  obtain ⟨rfl, rfl⟩ := trodVars_none hV
  obtain ⟨a0, len0, cap0, rfl⟩ := okWide_slice Trym.underlying22 (hval 0 22 v0 rfl rfl)
  obtain ⟨a1, len1, cap1, rfl⟩ := okWide_slice Trym.underlying23 (hval 1 23 v1 rfl rfl)
  have k0 := h0
  have k1 := h1
  have lt0 : ∀ x ∈ p0, x.block < W.heap.size := by obtain ⟨m, hm⟩ := k0; exact DataW.trod_lt m _ _ _ hm
  have lt1 : ∀ x ∈ p1, x.block < W.heap.size := by obtain ⟨m, hm⟩ := k1; exact DataW.trod_lt m _ _ _ hm
  obtain ⟨E, hE, hEc⟩ : ∃ E, Ents W (fun b => b < W.heap.size) a0 len0 cap0 E ∧ cap0 ≤ maxLen := by
    obtain ⟨fuel, hf⟩ := h0
    exact open_entries (by simpa [Value.cells] using hf)
  obtain ⟨o, hB, hBc⟩ : ∃ o, Bytes W (fun b => b < W.heap.size) a1 len1 cap1 o ∧ cap1 ≤ maxLen := by
    obtain ⟨fuel, hf⟩ := h1
    exact open_bytes (by simpa [Value.cells] using hf)
  have hl0 : len0 ≤ 9223372036854775807 := by have := hE.2.2.1; unfold maxLen at hEc; omega
  have hl1 : len1 ≤ 9223372036854775807 := by have := hB.2.2.2.1; unfold maxLen at hBc; omega
  clear hA0 hval0
  refine (walk4 a0 len0 cap0 E a1 len1 cap1 o W hE hB hl0 hl1).mono fun e W' ⟨he, bel⟩ => ?_
  subst he
  exact ⟨_, rfl, _, _, _, [], _, [], hW', trodAll_mk1 (shut_bool Trym.underlying4 _), (trodAll_cons_mk (Below.trod laidOut (by kernel_rfl) (of_decide_eq_true (by kernel_rfl)) k0 bel lt0) (trodAll_cons_mk (Below.trod laidOut (by kernel_rfl) (of_decide_eq_true (by kernel_rfl)) k1 bel lt1) trodAll_mk0)), rfl, bel.frame _, fun h => by cases h⟩

/-- THE STATEMENT. -/
theorem size_proved : Rows.FnRunSizeIsAppendedLengthSaid :=
  OpenClaim.holds_of_wide 4 Trym.f4 rfl rfl rfl rfl rfl rfl rfl ⟨rfl, rfl, rfl, rfl, rfl⟩ rfl rfl rfl rfl rfl (by kernel_rfl) Trym.func4 (by kernel_rfl)
    (of_decide_eq_true (by kernel_rfl)) (by unfold Func.isWrapper; first | (rw [if_pos (by decide +kernel)]; kernel_rfl) | (rw [if_neg (by decide +kernel)]; exact ⟨rfl, rfl⟩))
    (fun os started H enc _ => size_lifted os started H enc)

end Go.Proofs.Qxb6602202aMods
