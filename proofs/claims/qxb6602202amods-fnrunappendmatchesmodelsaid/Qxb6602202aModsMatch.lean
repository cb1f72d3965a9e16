/-
  SEAT b6602202aM: 'Rows.FnRunAppendMatchesModelSaid'.
-/
import Derived.Test.Qxb6602202aModsGuards
import Derived.Test.Qxb6602202aModsEqual
import Derived.Test.Qxb6602202aModsOpen
namespace Go.Proofs.Qxb6602202aMods
open Go.ChangeShapes Go.WideShapes Go.ChangeAt Go.RowKit Go.Deep Plain

/-- A value that owns its bytes, as zzEqual is told of it. -/
theorem own_any {w : World} {base : Nat} {a : Option Addr} {c : Nat} {out : List Int} (h : w.ownsRow base 5 1 (.slice a out.length c) out.length (out.map (Value.int .u8))) :
    ∃ o, bs o = out ∧ Bytes w (fun _ => True) a out.length c o := by
  rcases h.2 with ⟨hv, h0⟩ | ⟨g, cap, cur, hv, hg, hh, hnc, hr⟩
  · obtain ⟨rfl, _, rfl⟩ := Value.slice.inj hv
    have : out = [] := List.eq_nil_of_length_eq_zero h0
    subst this
    exact ⟨none, rfl, by simp, fun _ => ⟨rfl, rfl⟩, rfl, Nat.le_refl _, 0, 0, (fun h => absurd h (by simp)), fun i hi => absurd hi (by simp)⟩
  · obtain ⟨rfl, _, rfl⟩ := Value.slice.inj hv
    refine ⟨some out, rfl, ⟨fun h => (by cases h), fun h => (by cases h)⟩, (fun h => by cases h), rfl, hnc, g, 0, fun _ => ⟨rfl, trivial⟩, fun i hi => ?_⟩
    rw [Nat.zero_add, h.cellAt i (by omega), List.getElem?_map, List.getElem?_eq_getElem hi]
    simp [bs, List.getD_eq_getElem?_getD, List.getElem?_eq_getElem hi]

theorem own_nil {w : World} {base : Nat} {e : TypeId} {a : Option Addr} {n c : Nat} {xs : List Value} (h : w.ownsRow base e 1 (.slice a n c) n xs) : a = none ↔ Value.slice a n c = .slice none 0 0 := by
  rcases h.2 with ⟨hv, h0⟩ | ⟨g, cap, cur, hv, _⟩
  · rw [hv]; obtain ⟨rfl, _, _⟩ := Value.slice.inj hv; simp
  · obtain ⟨rfl, _, _⟩ := Value.slice.inj hv; simp

set_option maxHeartbeats 800000 in
theorem walk3 (ga : Option Addr) (G Gc : Nat) (E : List (Option (List Int))) (ba : Option Addr) (bn bc : Nat) (o : Option (List Int)) (w : World) (hE : Ents w (fun b => b < w.heap.size) ga G Gc E) (hB : Bytes w (fun b => b < w.heap.size) ba bn bc o)
    (hG : G ≤ 9223372036854775807) (hb : bn ≤ 9223372036854775807) :
    Calls Trym.prog 3 #[.slice ga G Gc, .slice ba bn bc] w fun e w' => e = .returned (.bool true) ∧ Below w.heap.size w w' := by
  have q23 := fun (w : World) (a : Option Addr) (n c n' c' : Nat) => Lib.run_eql_slice_nil (P := Trym.prog) w 23 5 a n c n' c' Trym.underlying23
  have H1 := hid (bytes5 ga G Gc E ba bn bc w _ hE hG hb)
  have H2 := hid (fits6 ga G Gc E ba bn bc w _ hE hG hb)
  have HE := hid hE
  have HB := hid hB
  clear hE hB
  go_enter Trym.func3, Trym.ntmps3
  go_wp2_with fail
  refine H1.out.mono ?_
  rintro e w' ⟨t, rfl, rfl, ht⟩
  cases t with
  | false =>
    go_wp2
    go_ret
    exact ⟨rfl, Below.refl _ _⟩
  | true =>
    have ht' := ht rfl
    clear ht
    go_wp2_with fail
    refine (H2.out (by omega)).mono ?_
    rintro e w' ⟨t, rfl, rfl, _⟩
    cases t with
    | false =>
      go_wp2
      go_ret
      exact ⟨rfl, Below.refl _ _⟩
    | true =>
      go_wp2_with fail
      refine (cloneAll7 ga G Gc E w' _ HE.out (fun b hb => hb) (by omega) (by omega)).mono ?_
      rintro e w1 ⟨a1, n1, c1, rfl, hE1, hb1⟩
      have hn1 : n1 ≤ 1048576 := by have := hE1.1; have := HE.out.1; omega
      have HE1 := hid hE1
      clear hE1
      go_wp2_with fail
      refine (clone8 ba bn bc o w1 (fun b => b < w'.heap.size) (HB.out.carry fun j hj => hb1.block j hj) (fun b hb => Nat.lt_of_lt_of_le hb hb1.size) (by omega)).mono ?_
      rintro e w2 ⟨v, rfl, hown, hnil, hb2⟩
      obtain ⟨va, vc, hv, hBy⟩ := own_bytes hown hnil
      subst hv
      have hlb : (bs o).length ≤ 1048576 := by have := HB.out.2.2.1; omega
      have HB2 : Hid (Below w'.heap.size w' w2) := hb1.trans (hb2.mono hb1.size)
      have hblk := hown.lt
      have hE2 := HE1.out.carry (w' := w2) fun j hj => hb2.block j hj.2
      have HM := hid (model9 a1 n1 c1 E va (bs o).length vc o w2 _ _ hE2 hBy (fun b hb => Nat.lt_of_lt_of_le hb.2 hb2.size) (fun b hb => hb.2.2) hn1 (by omega) hlb)
      have HA : Hid (∀ w3 : World, Below w2.heap.size w2 w3 → _) := hid (fun w3 (hb3 : Below w2.heap.size w2 w3) => zzAppendTo10 a1 n1 c1 E va vc (bs o) w3 _ w1.heap.size (hE2.carry fun j hj => hb3.block j (Nat.lt_of_lt_of_le hj.2 hb2.size))
        (hown.kept (below_grown hb3 none) (by cases hv : Value.ownBlock (.slice va (bs o).length vc) <;> simp))
        (fun b hb => ⟨Nat.lt_of_lt_of_le hb.2 (Nat.le_trans hb2.size hb3.size), fun e => by have := hblk b e.symm; omega⟩) (Nat.le_trans hb2.size hb3.size) hn1 (by omega) hlb)
      have hbs := hb2.size
      have HBb : Hid (∀ w3 w4 : World, Below w2.heap.size w2 w3 → w3.grownBy w4 (Value.ownBlock (.slice va (bs o).length vc)) → Below w'.heap.size w' w4) := fun w3 w4 hb3 hg =>
        (HB2.out.trans (hb3.mono (Nat.le_trans hb1.size hbs))).grown hg (Nat.le_trans hb1.size (Nat.le_trans hbs hb3.size)) (fun k e => by have := hblk k e; have := hb1.size; omega)
      have HNv : Hid ((va = none ↔ Value.slice va (bs o).length vc = .slice none 0 0) ∧ ∀ k, Value.ownBlock (.slice va (bs o).length vc) = some k → k < w2.heap.size) := ⟨own_nil hown, fun k e => (hblk k e).2⟩
      clear hown hnil hblk hb1 hb2 HE1 hE2 hBy
      generalize bs o = B at *
      go_wp2_with fail
      refine HM.out.mono ?_
      rintro e w3 ⟨a3, c3, rfl, hwant, hb3⟩
      go_wp2_with fail
      refine (HA.out w3 hb3).mono ?_
      rintro e w4 ⟨a4, c4, rfl, hst⟩
      have hwant4 := hwant.kept hst.2.1 (by
        by_cases e : Value.ownBlock (.slice a3 (ap E B).length c3) = none
        · exact .inl e
        · right
          intro e2
          cases hk : Value.ownBlock (.slice a3 (ap E B).length c3) with
          | none => exact e hk
          | some k =>
            have h1 := hwant.lt k hk
            have h2 := HNv.out.2 k (by rw [← e2]; exact hk)
            omega)
      obtain ⟨o3, ho3, hB3⟩ := own_any hwant4
      obtain ⟨o4, ho4, hB4⟩ := own_any hst.1
      have ha4 : a4 = none ↔ va = none ∧ (ap E B).length = 0 := by rw [own_nil hst.1, hst.2.2.2, HNv.out.1]
      have hlen : (ap E B).length ≤ 6291456 := by
        have h1 := ap_length E B
        have h2 := sz_le E
        have h3 := HE.out.1
        omega
      have HQ := hid (equal11 a4 (ap E B).length c4 a3 c3 o4 o3 w4 _ _ hB4 hB3 (by rw [ho3, ho4]) (by omega))
      have HBf := hid (HBb.out w3 w4 hb3 hst.2.1)
      clear hst hwant hwant4 hB3 hB4 ho3 ho4 HA HM HBb HNv hb3
      generalize (ap E B).length = n at *
      cases va with
      | none =>
        by_cases h0 : n = 0
        · obtain rfl := ha4.2 ⟨rfl, h0⟩
          subst h0
          clear ha4
          go_wp2_with fail
          refine HQ.out.mono ?_
          rintro e w5 ⟨rfl, q, rfl⟩
          go_wp2
          go_ret
          exact ⟨rfl, below_drewN HBf.out q⟩
        · obtain ⟨x, rfl⟩ : ∃ x, a4 = some x := by
            cases a4 with
            | none => have := (ha4.1 rfl).2; omega
            | some x => exact ⟨x, rfl⟩
          have hne : ((n : Int) == 0) = false := by simp; omega
          clear ha4
          go_wp2_with fail
          refine HQ.out.mono ?_
          rintro e w5 ⟨rfl, q, rfl⟩
          go_wp2
          go_ret
          exact ⟨rfl, below_drewN HBf.out q⟩
      | some x =>
        obtain ⟨y, rfl⟩ : ∃ y, a4 = some y := by
          cases a4 with
          | none => have := (ha4.1 rfl).1; cases this
          | some y => exact ⟨y, rfl⟩
        clear ha4
        go_wp2_with fail
        refine HQ.out.mono ?_
        rintro e w5 ⟨rfl, q, rfl⟩
        go_wp2
        go_ret
        exact ⟨rfl, below_drewN HBf.out q⟩

/-! ### THE ROW's STEP -/
set_option maxRecDepth 100000 in
theorem match_lifted (os : Os) (started : os.Started) (H : Type) (enc : TypeId × Value → H) :
    ReturnsInHanded {} Trym.checked os 3 .any (Rows.fnRunAppendMatchesModelSpec.pre6 enc Trym.prog Trym.f3 Rows.fnRunAppendMatchesModelRow.domain false) (Rows.fnRunAppendMatchesModelSpec.post enc Trym.prog Trym.f3 false true false false) := by
  refine returnsInHanded_of_change (C := Trym.checked) own started (by kernel_rfl) Trym.func3
    (ChangeSpec.witness6 (enc := enc) (C := Trym.checked) false ⟨#[], #[.slice none 0 0, .slice none 0 0], []⟩ 8 (by kernel_rfl) (by kernel_rfl) (by kernel_rfl) (by kernel_rfl)) ?_
  intro W base args ds gs before hval0 hW hcnd _
  have hval : ∀ (j : Nat) t v, Trym.f3.params[j]? = some t → args[j]? = some v → Value.okWide Trym.prog W .any base t v := hval0
  have hW' := hW
  obtain ⟨p, q, hA0, hV, rfl, hfz, hnd⟩ := hW
  have hA : DataW.TrodAll enc Trym.prog W 0 (fun _ => true) true Trym.f3.params.toList args.toList ds p := hA0
  rw [Trym.params3] at hA hval
  obtain ⟨v0, vs0, d0, ds0, p0, q0, hargs, rfl, rfl, h0, r0⟩ := trodAll_cons hA
  obtain ⟨v1, vs1, d1, ds1, p1, q1, rfl, rfl, rfl, h1, r1⟩ := trodAll_cons r0
  obtain ⟨rfl, rfl, rfl⟩ := trodAll_nil r1
  obtain rfl : args = #[v0, v1] := by cases args; simp_all
  obtain ⟨rfl, rfl⟩ := trodVars_none hV
  obtain ⟨a0, len0, cap0, rfl⟩ := okWide_slice Trym.underlying22 (hval 0 22 v0 rfl rfl)
  obtain ⟨a1, len1, cap1, rfl⟩ := okWide_slice Trym.underlying23 (hval 1 23 v1 rfl rfl)
  have k0 := h0
  have k1 := h1
  have lt0 : ∀ x ∈ p0, x.block < W.heap.size := by obtain ⟨m, hm⟩ := k0; exact DataW.trod_lt m _ _ _ hm
  have lt1 : ∀ x ∈ p1, x.block < W.heap.size := by obtain ⟨m, hm⟩ := k1; exact DataW.trod_lt m _ _ _ hm
  obtain ⟨E, hE, hEc⟩ : ∃ E, Ents W (fun b => b < W.heap.size) a0 len0 cap0 E ∧ cap0 ≤ maxLen := by
    obtain ⟨fuel, hf⟩ := h0
    exact open_entries (by simpa [Value.cells] using hf)
  obtain ⟨o, hB, hBc⟩ : ∃ o, Bytes W (fun b => b < W.heap.size) a1 len1 cap1 o ∧ cap1 ≤ maxLen := by
    obtain ⟨fuel, hf⟩ := h1
    exact open_bytes (by simpa [Value.cells] using hf)
  have hl0 : len0 ≤ 9223372036854775807 := by have := hE.2.2.1; unfold maxLen at hEc; omega
  have hl1 : len1 ≤ 9223372036854775807 := by have := hB.2.2.2.1; unfold maxLen at hBc; omega
  clear hA0 hval0
  refine (walk3 a0 len0 cap0 E a1 len1 cap1 o W hE hB hl0 hl1).mono fun e W' ⟨he, bel⟩ => ?_
  subst he
  exact ⟨_, rfl, _, _, _, [], _, [], hW', trodAll_mk1 (shut_bool Trym.underlying4 _), (trodAll_cons_mk (Below.trod laidOut (by kernel_rfl) (of_decide_eq_true (by kernel_rfl)) k0 bel lt0) (trodAll_cons_mk (Below.trod laidOut (by kernel_rfl) (of_decide_eq_true (by kernel_rfl)) k1 bel lt1) trodAll_mk0)), rfl, bel.frame _, fun h => by cases h⟩

/-- THE STATEMENT. -/
theorem match_proved : Rows.FnRunAppendMatchesModelSaid :=
  OpenClaim.holds_of_wide 3 Trym.f3 rfl rfl rfl rfl rfl rfl rfl ⟨rfl, rfl, rfl, rfl, rfl⟩ rfl rfl rfl rfl rfl (by kernel_rfl) Trym.func3 (by kernel_rfl)
    (of_decide_eq_true (by kernel_rfl)) (by unfold Func.isWrapper; first | (rw [if_pos (by decide +kernel)]; kernel_rfl) | (rw [if_neg (by decide +kernel)]; exact ⟨rfl, rfl⟩))
    (fun os started H enc _ => match_lifted os started H enc)

end Go.Proofs.Qxb6602202aMods
