/-
  SEAT b6602202aM: THE GUARDS: zzBytes_.. (functions 5 and 12), zzRunFits (6): they only read.
-/
import Derived.Test.Qxb6602202aModsBase
namespace Go.Proofs.Qxb6602202aMods
open Go.RowKit Plain

/-- What a guard leaves: it turns nothing; where it says yes, n is at most 1 << 20. -/
def GuardPost (n : Nat) (w : World) (e : Ending) (w' : World) : Prop := ∃ t, e = .returned (.bool t) ∧ w' = w ∧ (t = true → n ≤ 1048576)
theorem GuardPost.no (n : Nat) (w : World) : GuardPost n w (.returned (.bool false)) w := ⟨false, rfl, rfl, fun h => by cases h⟩
theorem GuardPost.yes (n : Nat) (w : World) (h : n ≤ 1048576) : GuardPost n w (.returned (.bool true)) w := ⟨true, rfl, rfl, fun _ => h⟩

set_option maxHeartbeats 400000 in
theorem bytes12 (ga : Option Addr) (G Gc : Nat) (E : List (Option (List Int))) (ba : Option Addr) (bn bc : Nat) (w : World) (S : Nat → Prop) (hE : Ents w S ga G Gc E) (hG : G ≤ 9223372036854775807) (hb : bn ≤ 9223372036854775807) :
    Calls Trym.prog 12 #[.slice ga G Gc, .slice ba bn bc] w (GuardPost (G + tot E + bn) w) := by
  have hlen : Hid (G = E.length) := hE.1
  go_enter Trym.func12, Trym.ntmps12
  go_wp2
  · go_ret
    exact GuardPost.no _ _
  · go_loop [5, 6] (fun t i => ∃ k : Nat, k ≤ G ∧ i = .int .i64 k ∧ t = .int .i64 ((G + tot (E.take k) : Nat) : Int) ∧ G + tot (E.take k) ≤ 1048576) (fun _ i => G - (intOf i).toNat)
    case atStart => exact ⟨0, Nat.zero_le _, rfl, by simp [tot], by simp [tot]; omega⟩
    case round =>
      obtain ⟨k, hk, rfl, rfl, hs⟩ := hrel
      by_cases hlt : k < G
      · obtain ⟨b, f, a', n', c', rfl, _, hc, hB⟩ := hE.at hlt
        have hT : Hid (tot (E.take (k + 1)) = tot (E.take k) + n') := by
          have := tot_succ E k (by have := hlen.out; omega)
          rw [hB.2.2.1]; exact this
        clear hB hE
        go_wp2
        · go_ret
          exact GuardPost.no _ _
        · go_ret
          exact GuardPost.no _ _
        · go_round
          case rel => exact ⟨k + 1, by omega, by go_num, by rw [hT.out]; go_num, by rw [hT.out]; omega⟩
          case measure => simp [intOf]; omega
      · have hall : Hid (tot (E.take k) = tot E) := by
          have := hlen.out
          rw [List.take_of_length_le (by omega)]; exact rfl
        go_wp2
        · go_ret
          exact GuardPost.no _ _
        · go_ret
          exact GuardPost.no _ _
        · go_ret
          exact GuardPost.yes _ _ (by rw [← hall.out]; omega)

set_option maxHeartbeats 400000 in
theorem bytes5 (ga : Option Addr) (G Gc : Nat) (E : List (Option (List Int))) (ba : Option Addr) (bn bc : Nat) (w : World) (S : Nat → Prop) (hE : Ents w S ga G Gc E) (hG : G ≤ 9223372036854775807) (hb : bn ≤ 9223372036854775807) :
    Calls Trym.prog 5 #[.slice ga G Gc, .slice ba bn bc] w (GuardPost (G + tot E + bn) w) := by
  have hlen : Hid (G = E.length) := hE.1
  go_enter Trym.func5, Trym.ntmps5
  go_wp2
  · go_ret
    exact GuardPost.no _ _
  · go_loop [5, 6] (fun t i => ∃ k : Nat, k ≤ G ∧ i = .int .i64 k ∧ t = .int .i64 ((G + tot (E.take k) : Nat) : Int) ∧ G + tot (E.take k) ≤ 1048576) (fun _ i => G - (intOf i).toNat)
    case atStart => exact ⟨0, Nat.zero_le _, rfl, by simp [tot], by simp [tot]; omega⟩
    case round =>
      obtain ⟨k, hk, rfl, rfl, hs⟩ := hrel
      by_cases hlt : k < G
      · obtain ⟨b, f, a', n', c', rfl, _, hc, hB⟩ := hE.at hlt
        have hT : Hid (tot (E.take (k + 1)) = tot (E.take k) + n') := by
          have := tot_succ E k (by have := hlen.out; omega)
          rw [hB.2.2.1]; exact this
        clear hB hE
        go_wp2
        · go_ret
          exact GuardPost.no _ _
        · go_ret
          exact GuardPost.no _ _
        · go_round
          case rel => exact ⟨k + 1, by omega, by go_num, by rw [hT.out]; go_num, by rw [hT.out]; omega⟩
          case measure => simp [intOf]; omega
      · have hall : Hid (tot (E.take k) = tot E) := by
          have := hlen.out
          rw [List.take_of_length_le (by omega)]; exact rfl
        go_wp2
        · go_ret
          exact GuardPost.no _ _
        · go_ret
          exact GuardPost.no _ _
        · go_ret
          exact GuardPost.yes _ _ (by rw [← hall.out]; omega)

set_option maxHeartbeats 400000 in
theorem fits6 (ga : Option Addr) (G Gc : Nat) (E : List (Option (List Int))) (ba : Option Addr) (bn bc : Nat) (w : World) (S : Nat → Prop) (hE : Ents w S ga G Gc E) (hG : G ≤ 9223372036854775807) (hb : bn ≤ 9223372036854775807) (ht : tot E ≤ 1048576) :
    Calls Trym.prog 6 #[.slice ga G Gc, .slice ba bn bc] w (GuardPost (bn + 24 * G + tot E) w) := by
  have hlen : Hid (G = E.length) := hE.1
  by_cases h1 : 65536 < G
  · have h1' : (65536 : Int) < (G : Int) := by omega
    go_enter Trym.func6, Trym.ntmps6
    go_wp2
    go_ret
    exact GuardPost.no _ _
  by_cases h2 : 1048576 < bn
  · go_enter Trym.func6, Trym.ntmps6
    go_wp2
    go_ret
    exact GuardPost.no _ _
  go_enter Trym.func6, Trym.ntmps6
  go_wp2
  · go_ret
    exact GuardPost.no _ _
  · go_loop [5, 6] (fun t i => ∃ k : Nat, k ≤ G ∧ i = .int .i64 k ∧ t = .int .i64 ((bn + 24 * G + tot (E.take k) : Nat) : Int) ∧ bn + 24 * G + tot (E.take k) ≤ 1048576 ∧ tot (E.take k) ≤ 1048576) (fun _ i => G - (intOf i).toNat)
    case atStart => exact ⟨0, Nat.zero_le _, rfl, by simp [tot], by simp [tot]; omega, by simp [tot]⟩
    case round =>
      obtain ⟨k, hk, rfl, rfl, hs, hs2⟩ := hrel
      by_cases hlt : k < G
      · obtain ⟨b, f, a', n', c', rfl, _, hc, hB⟩ := hE.at hlt
        have hT : Hid (tot (E.take (k + 1)) = tot (E.take k) + n') := by
          have := tot_succ E k (by have := hlen.out; omega)
          rw [hB.2.2.1]; exact this
        have hn' : n' ≤ 1048576 := by
          have := len_le_tot E k (by have := hlen.out; omega)
          have := hB.2.2.1
          omega
        clear hB hE
        go_wp2
        · go_ret
          exact GuardPost.no _ _
        · go_round
          case rel => exact ⟨k + 1, by omega, by go_num, by rw [hT.out]; go_num, by rw [hT.out]; omega, by rw [hT.out]; omega⟩
          case measure => simp [intOf]; omega
      · have hall : Hid (tot (E.take k) = tot E) := by
          have := hlen.out
          rw [List.take_of_length_le (by omega)]; exact rfl
        go_wp2
        go_ret
        exact GuardPost.yes _ _ (by rw [← hall.out]; omega)

end Go.Proofs.Qxb6602202aMods
