/-
  SEAT b6602202aM: zzEqual (11) on two slices of the same bytes; zzRunModel (9).
-/
import Derived.Test.Qxb6602202aModsClone
import Derived.Test.Qxb6602202aModsAppend
import Derived.Deep.QuietTactic
import Derived.BigQuiet
namespace Go.Proofs.Qxb6602202aMods
open Go.RowKit Plain

set_option maxHeartbeats 400000 in
theorem equal11 (a : Option Addr) (n c : Nat) (a' : Option Addr) (c' : Nat) (o o' : Option (List Int)) (w : World) (S S' : Nat → Prop) (h : Bytes w S a n c o) (h' : Bytes w S' a' n c' o') (he : bs o = bs o') (hn : n ≤ 9223372036854775807) :
    Calls Trym.prog 11 #[.slice a n c, .slice a' n c'] w fun e w' => e = .returned (.bool true) ∧ ∃ q, w' = w.drewN q := by
  obtain ⟨_, _, _, _, b, f, h5, h6⟩ := h
  obtain ⟨_, _, _, _, b', f', h5', h6'⟩ := h'
  rw [← he] at h6'
  clear he
  go_enter Trym.func11, Trym.ntmps11
  go_wp2
  go_loopw [5] (fun i wr => ∃ k : Nat, k ≤ n ∧ i = .int .i64 k ∧ ∃ q, wr = w.drewN q) (fun i _ => n - (intOf i).toNat)
  case atStart => exact ⟨0, Nat.zero_le _, rfl, 0, rfl⟩
  case round =>
    obtain ⟨k, hk, rfl, q, rfl⟩ := hrel
    by_cases hlt : k < n
    · obtain ⟨rfl, _⟩ := h5 (by omega)
      obtain ⟨rfl, _⟩ := h5' (by omega)
      obtain ⟨z, hz⟩ : ∃ z, z = (bs o).getD k 0 := ⟨_, rfl⟩
      have hc : w.cell? ⟨b, f + k, none⟩ = some (.int .u8 z) := by rw [h6 k hlt, hz]
      have hc' : w.cell? ⟨b', f' + k, none⟩ = some (.int .u8 z) := by rw [h6' k hlt, hz]
      have hlt' : (k : Int) < (n : Int) := by omega
      clear hz h6 h6' h5 h5'
      go_wp2
      go_quiet (fail)
      go_wp2
      go_roundw
      case rel => exact ⟨k + 1, by omega, by go_num, _, rfl⟩
      case measure => simp [intOf]; omega
    · go_wp2
      go_ret
      exact ⟨rfl, q, rfl⟩

theorem ap_empty {b : List Int} {o : Option (List Int)} (h : (bs o).length = 0) : apStep b.length b o = b := by
  cases o with
  | none => rfl
  | some l =>
    have : l = [] := List.eq_nil_of_length_eq_zero h
    subst this
    simp [apStep]

theorem ap_first {b : List Int} {o : Option (List Int)} (h : o ≠ none) : apStep b.length b o = b ++ bs o := by
  cases o with
  | none => exact absurd rfl h
  | some l => simp [apStep, bs]

theorem ap_later {start : Nat} {out : List Int} {o : Option (List Int)} (h : o ≠ none) (hl : start < out.length) : apStep start out o = (out ++ [44, 10]) ++ bs o := by
  cases o with
  | none => exact absurd rfl h
  | some l => simp only [apStep, bs, if_pos hl]; rfl

/-- What zzRunModel leaves: a value that owns what appendTo would have made, in new memory. -/
def ModelPost (w : World) (out : List Int) (e : Ending) (w' : World) : Prop :=
  ∃ a c, e = .returned (.slice a out.length c) ∧ w'.ownsRow w.heap.size 5 1 (.slice a out.length c) out.length (out.map (Value.int .u8)) ∧ Below w.heap.size w w'

/-- The model's slice on its way. -/
def Mid (w : World) (out : List Int) (v : Value) (wr : World) : Prop := wr.ownsRow w.heap.size 5 1 v out.length (out.map (Value.int .u8)) ∧ Below w.heap.size w wr

theorem Mid.next {w : World} {out news : List Int} {v v' : Value} {wr w1 : World} (h : Mid w out v wr) (hown : w1.ownsRow w.heap.size 5 1 v' (out.length + news.length) (out.map (Value.int .u8) ++ news.map (Value.int .u8))) (hg : wr.grownBy w1 v.ownBlock) :
    Mid w (out ++ news) v' w1 :=
  ⟨by rw [List.length_append, List.map_append]; exact hown, h.2.grown hg h.2.size (fun k e => (h.1.lt k e).1)⟩

theorem Mid.alloc {w : World} {out : List Int} {v : Value} {wr : World} (h : Mid w out v wr) (o : Obj) : Mid w out v (wr.alloc o) := ⟨h.1.alloc o, h.2.alloc h.2.size o⟩

theorem two_new (w : World) (t : TypeId) : ∀ j u, [Value.int .u8 44, Value.int .u8 10][j]? = some u → (w.alloc (.cells #[.int .u8 44, .int .u8 10] t)).cell? ((⟨w.heap.size, 0, none⟩ : Addr).add j) = some u := by
  intro j u hu
  rw [Addr.add_lit, Nat.zero_add]
  match j, hu with
  | 0, hu => simp at hu; subst hu; simp
  | 1, hu => simp at hu; subst hu; simp
  | n + 2, hu => simp at hu

set_option maxHeartbeats 800000 in
theorem model9 (ga : Option Addr) (G Gc : Nat) (E : List (Option (List Int))) (ba : Option Addr) (bn bc : Nat) (o : Option (List Int)) (w : World) (S S' : Nat → Prop) (hE : Ents w S ga G Gc E) (hB : Bytes w S' ba bn bc o)
    (hS : ∀ b, S b → b < w.heap.size) (hS' : ∀ b, S' b → b < w.heap.size) (hG : G ≤ 1048576) (ht : tot E ≤ 1048576) (hbn : bn ≤ 1048576) :
    Calls Trym.prog 9 #[.slice ga G Gc, .slice ba bn bc] w (ModelPost w (ap E (bs o))) := by
  have q23 := fun (w : World) (a : Option Addr) (n c n' c' : Nat) => Lib.run_eql_slice_nil (P := Trym.prog) w 23 5 a n c n' c' Trym.underlying23
  obtain ⟨i0, hi, hz0, hz1, hz2⟩ := info_parts Trym.info5
  have H1 := hid (clone8 ba bn bc o w S' hB hS' hbn)
  have hbl : (bs o).length ≤ 1048576 := by have := hB.2.2.1; omega
  have hlen := hid hE.1
  clear hB
  go_enter Trym.func9, Trym.ntmps9
  go_wp2_with fail
  refine H1.out.mono ?_
  rintro e w1 ⟨v, rfl, hown, _, hb1⟩
  have hm : Mid w (bs o) v w1 := ⟨hown, hb1⟩
  clear hown H1
  obtain ⟨va, vc, rfl⟩ := own_form hm.1
  have HE := hid hE
  have hE1 := hE.carry fun j hj => hb1.block j (hS j hj)
  clear hb1 hE
  generalize bs o = B at *
  go_wp2
  go_loop [6] (fun i => ∃ k : Nat, k ≤ G ∧ i = .int .i64 k ∧ Hid (apTo E B k = B)) (fun i => G - (intOf i).toNat)
  case atStart => exact ⟨0, Nat.zero_le _, rfl, hid rfl⟩
  case round =>
    obtain ⟨k, hk, rfl, HK⟩ := hrel
    by_cases hlt : k < G
    · obtain ⟨b, f, a', n', c', rfl, hSb, hc0, hB00⟩ := hE1.at hlt
      have hlt' : (k : Int) < (G : Int) := by omega
      have hn' : n' ≤ 1048576 := by
        have h1 := len_le_tot E k (by have := hlen.out; omega)
        have h2 := hB00.2.2.1
        omega
      obtain ⟨ek, hek, hB0, HT⟩ : ∃ ek, Hid (ek = E.getD k none) ∧ Bytes w1 S a' n' c' ek ∧ Hid (apTo E B (k + 1) = apStep B.length (apTo E B k) ek) := ⟨_, hid rfl, hB00, hid (apTo_succ E B k (by have := hlen.out; omega))⟩
      clear hB00
      by_cases h0 : n' = 0
      · -- an empty entry, or nil: on
        subst h0
        have HK2 : Hid (apTo E B (k + 1) = B) := by
          have e1 := HT.out
          rw [HK.out, ap_empty hB0.2.2.1.symm] at e1
          exact e1
        clear hB0 HT
        go_wp2
        go_round
        case rel => exact ⟨k + 1, by omega, by go_num, HK2⟩
        case measure => simp [intOf]; omega
      · -- the first entry that is not empty
        have hne : ((n' : Int) == 0) = false := by simp; omega
        have hkG : ((k : Int) == (G : Int)) = false := by simp; omega
        obtain ⟨x, rfl⟩ : ∃ x, a' = some x := by
          cases a' with
          | none => have := (hB0.2.1 rfl).1; omega
          | some x => exact ⟨x, rfl⟩
        have HK2 : Hid (apTo E B (k + 1) = B ++ bs ek ∧ (bs ek).length = n') := by
          have e1 := HT.out
          rw [HK.out, ap_first (fun e => by have := hB0.1.2 e; cases this)] at e1
          exact ⟨e1, hB0.2.2.1.symm⟩
        go_wp2_with (at_builtin; refine wpList_append_own _ rfl (.tmp 29) (.tmp 33) 23 rfl w.heap.size 5 i0 (.int .u8 0) 1 1 Trym.underlying23 hi hz0 hz1 hz2 rfl (by decide) _ B.length (B.map (Value.int .u8)) rfl hm.1 x n' c' ((bs ek).map (Value.int .u8)) rfl (by rw [List.length_map, HK2.out.2, Nat.mul_one]) hB0.news (ints_oneCell _ _) (by unfold maxLen; omega) (by omega) hm.2.size ?_)
        · intro v1 w2 hown hg _
          have hm1 : Mid w (B ++ bs ek) v1 w2 := hm.next (by rw [HK2.out.2]; exact hown) hg
          have HM1 : Hid (Mid w (apTo E B (k + 1)) v1 w2 ∧ B.length < (apTo E B (k + 1)).length) := by
            rw [HK2.out.1]
            refine ⟨hm1, ?_⟩
            rw [List.length_append, HK2.out.2]; omega
          clear hm1 hown hg hm HK2 hB0 hc0 hne HT HK hE1 hek
          go_wp2
          go_loopw [5, 7] (fun v i wr => ∃ k : Nat, k ≤ G ∧ i = .int .i64 k ∧ Mid w (apTo E B k) v wr ∧ B.length < (apTo E B k).length) (fun _ i _ => G - (intOf i).toNat)
          case atStart => exact ⟨k + 1, by omega, by go_num, HM1.out⟩
          case round =>
            clear HM1 hkG h0 hn' hlt' hlt hk
            obtain ⟨j, hk, rfl, hm, hlo⟩ := hrel
            have hol : (apTo E B j).length ≤ 6291456 := by
              have h1 := apTo_length E B j
              have h2 := sz_take_le E j
              have h3 := hlen.out
              omega
            obtain ⟨oa, oc, rfl⟩ := own_form hm.1
            by_cases hlt : j < G
            · obtain ⟨b2, f2, a2, n2, c2, hx, hSb2, hc0, hB00⟩ := HE.out.at hlt
              obtain ⟨rfl, rfl, _⟩ := Addr.mk.inj (Option.some.inj hx)
              have hcw : ∀ w3 : World, Below w.heap.size w w3 → w3.cell? ⟨b, f + j, none⟩ = some (.slice a2 n2 c2) := fun w3 h3 => by rw [h3.cell (p := ⟨b, f + j, none⟩) (hS b hSb2)]; exact hc0
              have HCW := hid hcw
              have hc := hcw wr hm.2
              have hn2 : n2 ≤ 1048576 := by
                have h1 := len_le_tot E j (by have := hlen.out; omega)
                have h2 := hB00.2.2.1
                omega
              obtain ⟨ej, hB0, HT⟩ : ∃ ej, Hid (∀ w3 : World, Below w.heap.size w w3 → Bytes w3 S a2 n2 c2 ej) ∧ Hid (apTo E B (j + 1) = apStep B.length (apTo E B j) ej) :=
                ⟨_, hid (fun w3 h3 => hB00.carry fun i hi => h3.block i (hS i hi)), hid (apTo_succ E B j (by have := hlen.out; omega))⟩
              have hB1 := hB0.out w (Below.refl _ _)
              have HN : Hid ((a2 = none ↔ ej = none) ∧ n2 = (bs ej).length) := ⟨hB1.1, hB1.2.2.1⟩
              generalize apTo E B j = out at *
              clear hcw hc0 hB00 hB1 hx
              cases a2 with
              | none =>
                have HT' : Hid (apTo E B (j + 1) = out) := by
                  have e1 := HT.out
                  rw [HN.out.1.1 rfl] at e1
                  exact e1
                have HM := hid hm
                clear hm HT HN hB0 HCW
                go_wp2
                go_roundw
                case rel => exact ⟨j + 1, by omega, by go_num, by rw [HT'.out]; exact ⟨HM.out, hlo⟩⟩
                case measure => simp [intOf]; omega
              | some y =>
                have HT' : Hid (apTo E B (j + 1) = (out ++ [44, 10]) ++ bs ej) := by
                  have e1 := HT.out
                  rw [ap_later (fun e => by have := HN.out.1.2 e; cases this) hlo] at e1
                  exact e1
                clear HT
                have hbig := hm.2.size
                go_wp2_with (at_builtin; refine wpList_append_own _ rfl (.tmp 48) (.tmp 49) 23 rfl w.heap.size 5 i0 (.int .u8 0) 1 1 Trym.underlying23 hi hz0 hz1 hz2 rfl (by decide) _ out.length (out.map (Value.int .u8)) rfl (hm.alloc _).1 ⟨wr.heap.size, 0, none⟩ 2 2 [.int .u8 44, .int .u8 10] rfl rfl (two_new _ _) (by intro u hu; simp at hu; rcases hu with rfl | rfl <;> rfl) (by unfold maxLen; omega) (by omega) (by simp; omega) ?_)
                intro v1 w2 hown hg _
                obtain ⟨out2, hou2⟩ : ∃ o2, o2 = out ++ [44, 10] := ⟨_, rfl⟩
                have HO := hid hou2
                have hol2 : out2.length ≤ 6291458 := by rw [hou2]; simp; omega
                have hlo2 : B.length < out2.length := by rw [hou2]; simp; omega
                have hm2 : Mid w out2 v1 w2 := by rw [hou2]; exact (hm.alloc _).next (news := [44, 10]) hown hg
                clear hou2 hown hg hm hc
                obtain ⟨oa1, oc1, rfl⟩ := own_form hm2.1
                have hc2 := HCW.out w2 hm2.2
                have hB2 := hB0.out w2 hm2.2
                go_wp2_with (at_builtin; refine wpList_append_own _ rfl (.tmp 51) (.tmp 55) 23 rfl w.heap.size 5 i0 (.int .u8 0) 1 1 Trym.underlying23 hi hz0 hz1 hz2 rfl (by decide) _ out2.length (out2.map (Value.int .u8)) rfl hm2.1 y n2 c2 ((bs ej).map (Value.int .u8)) rfl (by rw [List.length_map, ← HN.out.2, Nat.mul_one]) hB2.news (ints_oneCell _ _) (by unfold maxLen; omega) (by omega) hm2.2.size ?_)
                intro v2 w3 hown hg _
                have HM : Hid (Mid w (out2 ++ bs ej) v2 w3) := hm2.next (by rw [← HN.out.2]; exact hown) hg
                clear hown hg hm2 hB2 hB0 HCW hc2
                go_wp2
                go_roundw
                case rel => exact ⟨j + 1, by omega, by go_num, by rw [HT'.out, ← HO.out]; exact ⟨HM.out, by rw [List.length_append]; omega⟩⟩
                case measure => simp [intOf]; omega
            · have hkn : j = G := by omega
              have hall : Hid (apTo E B j = ap E B) := by
                rw [← apTo_all, ← hlen.out, ← hkn]; exact rfl
              have HM : Hid (Mid w (ap E B) (.slice oa (ap E B).length oc) wr) := by rw [← hall.out]; exact hm
              clear hm
              go_wp2
              go_ret
              refine ⟨oa, oc, ?_, HM.out⟩
              rw [← hall.out]; rfl
    · have hkn : k = G := by omega
      have hkG : ((k : Int) == (G : Int)) = true := by simp; omega
      have hd : decide ((k : Int) < (G : Int)) = false := by simp; omega
      have hall : Hid (ap E B = B) := by
        rw [← apTo_all, ← hlen.out, ← hkn]; exact HK.out
      have HM := hid hm
      clear hm
      go_wp2
      go_ret
      rw [hall.out]
      exact ⟨va, vc, rfl, HM.out⟩

end Go.Proofs.Qxb6602202aMods
