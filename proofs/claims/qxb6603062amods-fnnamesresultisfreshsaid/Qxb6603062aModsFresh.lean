/-
  SEAT b6603062aM: 'Rows.FnNamesResultIsFreshSaid'.
-/
import Derived.Test.Qxb6603062aModsNames
import Derived.ProofKit
import Derived.OpenShut
import Derived.ShutString
import Derived.ChangeOld
import Derived.Deep.SlicePairs
namespace Go.Proofs.Qxb6603062aMods
open Go.ChangeShapes Go.WideShapes Go.ChangeAt Go.RowKit Go.Deep

/-- WHAT HOLDS BEHIND THE TWO FIRST CALLS: the argument; its copy; the first list (block G1), which now holds g; the second (block G2). -/
def M (w wr : World) (a : Option Addr) (n c : Nat) (nm sq : Nat → ByteArray) (ai : Option Addr) (ci G1 G2 : Nat) (g : Nat → ByteArray) : Prop :=
  Args wr (fun b => b < w.heap.size) a n c nm sq ∧ Args wr (fun b => b < G1) ai n ci nm sq ∧ wr.rowIs G1 9 n (fun i => .string (g i)) ∧ wr.rowIs G2 9 n (fun i => .string (nm i)) ∧ w.heap.size ≤ G1 ∧ G1 < G2 ∧ Below w.heap.size w wr

theorem M.store {w wr : World} {a : Option Addr} {n c : Nat} {nm sq : Nat → ByteArray} {ai : Option Addr} {ci G1 G2 : Nat} {g g' : Nat → ByteArray} (h : M w wr a n c nm sq ai ci G1 G2 g) (k : Nat) (x : ByteArray) (hg : ∀ i, g' i = if i = k then x else g i) :
    M w (wr.setCell ⟨G1, k, none⟩ (.string x)) a n c nm sq ai ci G1 G2 g' := by
  obtain ⟨h1, h2, h3, h4, h5, h6, h7⟩ := h
  refine ⟨h1.carry fun b hb => Below.heap_setCell _ _ _ _ (by show b ≠ G1; omega), h2.carry fun b hb => Below.heap_setCell _ _ _ _ (by show b ≠ G1; omega), (h3.set k _).congr (fun i _ => ?_), h4.setOther (by show G2 ≠ G1; omega) _, h5, h6, h7.setCell h5 _⟩
  rw [hg i]
  split <;> rfl

theorem M.congr {w wr : World} {a : Option Addr} {n c : Nat} {nm sq : Nat → ByteArray} {ai : Option Addr} {ci G1 G2 : Nat} {g g' : Nat → ByteArray} (h : M w wr a n c nm sq ai ci G1 G2 g) (hg : ∀ i, i < n → g i = g' i) : M w wr a n c nm sq ai ci G1 G2 g' := by
  obtain ⟨h1, h2, h3, h4, h5, h6, h7⟩ := h
  exact ⟨h1, h2, h3.congr (fun i hi => by rw [hg i hi]), h4, h5, h6, h7⟩

/-- Behind loop 1: k entries are written. -/
def written (nm : Nat → ByteArray) (k : Nat) : Nat → ByteArray := fun i => if i < k then ⟨#[0]⟩ ++ nm i else nm i

theorem written_step (nm : Nat → ByteArray) (k i : Nat) : written nm (k + 1) i = if i = k then ⟨#[0]⟩ ++ nm k else written nm k i := by
  unfold written
  by_cases e : i = k
  · subst e
    rw [if_pos rfl, if_pos (Nat.lt_succ_self _)]
  · rw [if_neg e]
    by_cases h : i < k
    · rw [if_pos h, if_pos (Nat.lt_succ_of_lt h)]
    · rw [if_neg h, if_neg (fun hh => h (by omega))]

set_option maxHeartbeats 1000000 in
theorem walk4 (a : Option Addr) (n c : Nat) (nm sq : Nat → ByteArray) (w : World) (hA : Args w (fun b => b < w.heap.size) a n c nm sq) (hn : n ≤ 9223372036854775807) (hs : ∀ i, i < n → (nm i).size ≤ 9223372036854775807 ∧ (sq i).size ≤ 9223372036854775807) :
    Calls Trym.prog 4 #[.slice a n c] w fun e w' => e = .returned (.bool true) ∧ Below w.heap.size w w' := by
  have H1 := hid (bytes12 a n c nm sq w _ hA hn hs)
  have HA := hid hA
  clear hA hs
  go_enter Trym.func4, Trym.ntmps4
  go_wp2_with fail
  refine H1.out.mono ?_
  rintro e w' ⟨t, rfl, rfl, ht⟩
  cases t with
  | false =>
    go_wp2
    go_ret
    exact ⟨rfl, Below.refl _ _⟩
  | true =>
    obtain ⟨hn1, hsz⟩ := ht rfl
    have HZ := hid hsz
    clear ht hsz
    by_cases hbig : 65536 < n
    · go_wp2
      go_ret
      exact ⟨rfl, Below.refl _ _⟩
    have hb2 : n ≤ 65536 := by omega
    have hd15 : decide ((65536 : Int) < (n : Int)) = false := by simp; omega
    go_wp2_with fail
    refine (argBytes8 a n c nm sq w' _ HA.out hb2 HZ.out).mono ?_
    rintro e w0 ⟨z, q, hz, rfl, rfl⟩
    by_cases hbig2 : 1048576 < z
    · go_wp2
      go_ret
      exact ⟨rfl, below_drewN (Below.refl _ _) q⟩
    have hz2 : (z : Int) ≤ 1048576 := by omega
    have hd18 : decide ((1048576 : Int) < (z : Int)) = false := by simp; omega
    go_wp2_with fail
    refine (toStore9 a n c nm sq (w'.drewN q) _ (HA.out.alike q) (fun b hb => hb) hn1).mono ?_
    rintro e w1 ⟨ai, ci, rfl, hI, hb1⟩
    have hlt1 : w'.heap.size ≤ w1.heap.size := hb1.size
    have HI : Hid (Args w1 (fun b => b < w1.heap.size) ai n ci nm sq) := hI.more fun b hb => hb.2
    clear hI
    go_wp2_with fail
    refine (zzNames11 ai n ci nm sq w1 _ HI.out (fun b hb => hb) hn1).mono ?_
    rintro e w2 ⟨rfl, hr1, hb2'⟩
    have HI2 : Hid (Args w2 (fun b => b < w1.heap.size) ai n ci nm sq) := HI.out.carry fun b hb => hb2'.block b hb
    have hG1 := hr1.lt
    have HR1 := hid hr1
    clear hr1
    go_wp2_with fail
    refine (zzNames11 ai n ci nm sq w2 _ HI2.out (fun b hb => Nat.lt_trans hb hG1) hn1).mono ?_
    rintro e w3 ⟨rfl, hr2, hb3⟩
    have HM : Hid (M w' w3 a n c nm sq ai ci w1.heap.size w2.heap.size (written nm 0)) := by
      have hb0 : Below w'.heap.size w' w1 := (below_drewN (Below.refl _ _) q).trans hb1
      have hb03 : Below w'.heap.size w' w3 := (hb0.trans (hb2'.mono hlt1)).trans (hb3.mono (Nat.le_trans hlt1 hb2'.size))
      refine ⟨HA.out.carry fun b hb => hb03.block b hb, HI2.out.carry fun b hb => hb3.block b (Nat.lt_trans hb hG1), ?_, hr2, hlt1, hG1, hb03⟩
      exact (HR1.out.of_block (hb3.block _ hG1)).congr (fun i _ => by simp [written])
    clear hr2 hb3 hb2' hb1 HR1 HI2 HI
    generalize w1.heap.size = G1 at *
    generalize w2.heap.size = G2 at *
    go_wp2
    go_loopw [6] (fun i wr => ∃ k : Nat, k ≤ n ∧ i = .int .i64 k ∧ M w' wr a n c nm sq ai ci G1 G2 (written nm k)) (fun i _ => n - (intOf i).toNat)
    case atStart => exact ⟨0, Nat.zero_le _, rfl, HM.out⟩
    case round =>
      clear HM
      obtain ⟨k, hk, rfl, hM⟩ := hrel
      by_cases hlt : k < n
      · have hc : wr.cell? ⟨G1, k, none⟩ = some (.string (nm k)) := by
          rw [hM.2.2.1.cell hlt]
          unfold written
          rw [if_neg (Nat.lt_irrefl k)]
        have hf := hM.2.2.1.frozen k
        have HN := hid (hM.store k (⟨#[0]⟩ ++ nm k) (written_step nm k))
        obtain ⟨l0, _⟩ := HZ.out k hlt
        clear hM
        generalize nm k = x at *
        go_wp2
        go_roundw
        case rel => exact ⟨k + 1, by omega, by go_num, HN.out⟩
        case measure => simp [intOf]; omega
      · have HM : Hid (M w' wr a n c nm sq ai ci G1 G2 (fun i => ⟨#[0]⟩ ++ nm i)) := hM.congr (fun i hi => by unfold written; rw [if_pos (by omega)])
        clear hM
        go_wp2
        go_loopw [7] (fun i w5 => ∃ k : Nat, k ≤ n ∧ i = .int .i64 k ∧ ∃ q, w5 = wr.drewN q) (fun i _ => n - (intOf i).toNat)
        case atStart => exact ⟨0, Nat.zero_le _, rfl, 0, rfl⟩
        case round =>
          obtain ⟨j, hj, rfl, q5, rfl⟩ := hrel
          by_cases hlt2 : j < n
          · have hlt2' : (j : Int) < (n : Int) := by omega
            have h1 : wr.cell? ⟨G1, j, none⟩ = some (.string (⟨#[0]⟩ ++ nm j)) := HM.out.2.2.1.cell hlt2
            have h2 : wr.cell? ⟨G2, j, none⟩ = some (.string (nm j)) := HM.out.2.2.2.1.cell hlt2
            obtain ⟨b, f, ha, _, h3, _⟩ := HM.out.1.at hlt2
            subst ha
            obtain ⟨l0, _⟩ := HZ.out j hlt2
            generalize nm j = x at *
            go_wp2
            go_quiet (fail)
            go_wp2
            go_quiet (fail)
            go_wp2
            go_roundw
            case rel => exact ⟨j + 1, by omega, by go_num, _, rfl⟩
            case measure => simp [intOf]; omega
          · go_wp2_with fail
            have HI : Hid (Args (wr.drewN q5) (fun b => b < G1) ai n ci nm sq) := HM.out.2.1.alike q5
            have hG2 : G2 < wr.heap.size := HM.out.2.2.2.1.lt
            have hG12 := HM.out.2.2.2.2.2.1
            refine (zzNames11 ai n ci nm sq (wr.drewN q5) _ HI.out (fun b hb => by show b < wr.heap.size; omega) hn1).mono ?_
            rintro e w6 ⟨rfl, hr6, hb6⟩
            have HR6 := hid hr6
            have HA6 : Hid (Args w6 (fun b => b < w'.heap.size) a n c nm sq ∧ Below w'.heap.size w' w6) := by
              have hb06 : Below w'.heap.size w' w6 := (below_drewN HM.out.2.2.2.2.2.2 q5).trans (hb6.mono HM.out.2.2.2.2.2.2.size)
              exact ⟨HA.out.carry fun b hb => hb06.block b hb, hb06⟩
            clear hr6 hb6 HI hG2 hG12
            go_wp2
            go_loopw [9] (fun i w7 => ∃ k : Nat, k ≤ n ∧ i = .int .i64 k ∧ ∃ q, w7 = w6.drewN q) (fun i _ => n - (intOf i).toNat)
            case atStart => exact ⟨0, Nat.zero_le _, rfl, 0, rfl⟩
            case round =>
              obtain ⟨l, hl, rfl, q7, rfl⟩ := hrel
              by_cases hlt3 : l < n
              · have hlt3' : (l : Int) < (n : Int) := by omega
                have h1 : w6.cell? ⟨wr.heap.size, l, none⟩ = some (.string (nm l)) := HR6.out.cell hlt3
                obtain ⟨b, f, ha, _, h3, _⟩ := HA6.out.1.at hlt3
                subst ha
                generalize nm l = x at *
                go_wp2
                go_quiet (fail)
                go_wp2
                go_roundw
                case rel => exact ⟨l + 1, by omega, by go_num, _, rfl⟩
                case measure => simp [intOf]; omega
              · go_wp2
                go_ret
                exact ⟨rfl, below_drewN HA6.out.2 q7⟩

theorem own : ownKnob Trym.prog.godebug = none := by kernel_rfl
theorem laidOut : laidOutB Trym.prog = true := by kernel_rfl
theorem Trym.cells31 : Trym.prog.cellsOf 31 = 2 := by kernel_rfl
theorem Trym.cells9 : Trym.prog.cellsOf 9 = 1 := by kernel_rfl

/-- A slice of pairs of strings that came in, as the walks are told of it. -/
theorem open_args {H : Type} {enc : TypeId × Value → H} {W : World} {a : Option Addr} {n c : Nat} {fuel : Nat} {x : DataW H × List MemPlace}
    (h : DataW.trod enc Trym.prog W 0 (fun _ => true) true fuel 22 [.slice a n c] = some x) :
    ∃ nm sq, Args W (fun b => b < W.heap.size) a n c nm sq ∧ c ≤ maxLen ∧ ∀ i, i < n → (nm i).size ≤ maxLen ∧ (sq i).size ≤ maxLen := by
  rcases open_slice_pairs Trym.underlying22 Trym.underlying31 Trym.cells31 rfl rfl Trym.cells9 Trym.cells9 h with ⟨hcs, _⟩ | ⟨y, l, k, m, q, V0, V1, D0, D1, P0, P1, hcs, _, hl, hm, hmm, _, hx⟩
  · simp at hcs
    obtain ⟨rfl, rfl, rfl⟩ := hcs
    exact ⟨fun _ => ⟨#[]⟩, fun _ => ⟨#[]⟩, ⟨fun _ => ⟨rfl, rfl⟩, Nat.le_refl _, 0, 0, (fun h => absurd h (by omega)), fun i hi => absurd hi (by omega)⟩, Nat.zero_le _, fun i hi => absurd hi (by omega)⟩
  · simp at hcs
    obtain ⟨rfl, rfl, rfl⟩ := hcs
    simp only [if_true] at hmm
    have e0 : ∀ i, i < n → ∃ s : ByteArray, V0 i = .string s ∧ s.size ≤ maxLen := fun i hi => by
      obtain ⟨s, hs, _, hz⟩ := DataW.trod_string Trym.underlying9 (hx i (by omega)).2.2.1
      exact ⟨s, by simpa using hs, hz⟩
    have e1 : ∀ i, i < n → ∃ s : ByteArray, V1 i = .string s ∧ s.size ≤ maxLen := fun i hi => by
      obtain ⟨s, hs, _, hz⟩ := DataW.trod_string Trym.underlying9 (hx i (by omega)).2.2.2
      exact ⟨s, by simpa using hs, hz⟩
    obtain ⟨nm, hnm⟩ := choose_lt e0
    obtain ⟨sq, hsq⟩ := choose_lt e1
    obtain ⟨b, f, spot⟩ := y
    have hspot : 0 < n → spot = none := fun hn => by simpa [Addr.add] using World.cell?_spot (hx 0 (by omega)).1
    refine ⟨nm, sq, ⟨(fun h => by cases h), hl, b, f, fun hn => ?_, fun i hi => ?_⟩, hm, fun i hi => ⟨(hnm i hi).2, (hsq i hi).2⟩⟩
    · have h0 := (hx 0 (by omega)).1
      obtain rfl := hspot hn
      exact ⟨rfl, World.block_lt_of_cell? _ _ (by simpa [Addr.add] using h0)⟩
    · have h0 := (hx i (by omega)).1
      have h1 := (hx i (by omega)).2.1
      obtain rfl := hspot (by omega)
      rw [Addr.add_lit] at h0 h1
      rw [h0, (hnm i hi).1, Nat.add_assoc, h1, (hsq i hi).1]
      exact ⟨rfl, rfl⟩

/-! ### THE ROW's STEP -/
set_option maxRecDepth 100000 in
theorem fresh_lifted (os : Os) (started : os.Started) (H : Type) (enc : TypeId × Value → H) :
    ReturnsInHanded {} Trym.checked os 4 .any (Rows.fnNamesResultIsFreshSpec.pre6 enc Trym.prog Trym.f4 Rows.fnNamesResultIsFreshRow.domain false) (Rows.fnNamesResultIsFreshSpec.post enc Trym.prog Trym.f4 false true false false) := by
  refine returnsInHanded_of_change (C := Trym.checked) own started (by kernel_rfl) Trym.func4
    (ChangeSpec.witness6 (enc := enc) (C := Trym.checked) false ⟨#[], #[.slice none 0 0], []⟩ 8 (by kernel_rfl) (by kernel_rfl) (by kernel_rfl) (by kernel_rfl)) ?_
  intro W base args ds gs before hval0 hW hcnd _
  have hval : ∀ (j : Nat) t v, Trym.f4.params[j]? = some t → args[j]? = some v → Value.okWide Trym.prog W .any base t v := hval0
  have hW' := hW
  obtain ⟨p, q, hA0, hV, rfl, hfz, hnd⟩ := hW
  have hA : DataW.TrodAll enc Trym.prog W 0 (fun _ => true) true Trym.f4.params.toList args.toList ds p := hA0
  rw [Trym.params4] at hA hval
  obtain ⟨v0, vs0, d0, ds0, p0, q0, hargs, rfl, rfl, h0, r0⟩ := trodAll_cons hA
  obtain ⟨rfl, rfl, rfl⟩ := trodAll_nil r0
  obtain rfl : args = #[v0] := by cases args; simp_all
  obtain ⟨rfl, rfl⟩ := trodVars_none hV
  obtain ⟨a0, len0, cap0, rfl⟩ := okWide_slice Trym.underlying22 (hval 0 22 v0 rfl rfl)
  have k0 := h0
  have lt0 : ∀ x ∈ p0, x.block < W.heap.size := by obtain ⟨m, hm⟩ := k0; exact DataW.trod_lt m _ _ _ hm
  obtain ⟨nm, sq, hE, hEc, hEs⟩ : ∃ nm sq, Args W (fun b => b < W.heap.size) a0 len0 cap0 nm sq ∧ cap0 ≤ maxLen ∧ ∀ i, i < len0 → (nm i).size ≤ maxLen ∧ (sq i).size ≤ maxLen := by
    obtain ⟨fuel, hf⟩ := h0
    exact open_args (by simpa [Value.cells] using hf)
  have hl0 : len0 ≤ 9223372036854775807 := by have := hE.2.1; unfold maxLen at hEc; omega
  unfold maxLen at hEs
  clear hA0 hval0
  refine (walk4 a0 len0 cap0 nm sq W hE hl0 hEs).mono fun e W' ⟨he, bel⟩ => ?_
  subst he
  exact ⟨_, rfl, _, _, _, [], _, [], hW', trodAll_mk1 (shut_bool Trym.underlying4 _), (trodAll_cons_mk (Below.trod laidOut (by kernel_rfl) (of_decide_eq_true (by kernel_rfl)) k0 bel lt0) trodAll_mk0), rfl, bel.frame _, fun h => by cases h⟩

/-- THE STATEMENT. -/
theorem fresh_proved : Rows.FnNamesResultIsFreshSaid :=
  OpenClaim.holds_of_wide 4 Trym.f4 rfl rfl rfl rfl rfl rfl rfl ⟨rfl, rfl, rfl, rfl, rfl⟩ rfl rfl rfl rfl rfl (by kernel_rfl) Trym.func4 (by kernel_rfl)
    (of_decide_eq_true (by kernel_rfl)) (by unfold Func.isWrapper; first | (rw [if_pos (by decide +kernel)]; kernel_rfl) | (rw [if_neg (by decide +kernel)]; exact ⟨rfl, rfl⟩))
    (fun os started H enc _ => fresh_lifted os started H enc)

end Go.Proofs.Qxb6603062aMods
