/-
  SEAT b6602202aM: LAWS ON append THAT THE WALKS WANT: where the new slice lies when a string is appended; a state 'St' that is carried through appends; and appendTo (15), ZZAppendTo (10).
-/
import Derived.Test.Qxb6602202aModsRun
namespace Go.Proofs.Qxb6602202aMods
open Go.RowKit Plain

/-- A value that owns a row has the form of a slice. -/
theorem own_form {w : World} {base : Nat} {e : TypeId} {size : Nat} {v : Value} {n : Nat} {xs : List Value} (h : w.ownsRow base e size v n xs) : ∃ a c, v = .slice a n c := by
  rcases h.2 with ⟨rfl, rfl⟩ | ⟨g, cap, cur, rfl, _⟩
  · exact ⟨_, _, rfl⟩
  · exact ⟨_, _, rfl⟩

section
variable {P : Program} (w : World)

/-- 'append(b, s...)', b not empty: the old row, or the block that is made now. -/
theorem run_str_at (base : Nat) (t u ty e : TypeId) (i : TypeInfo) (ht : P.underlying t = some (.slice e)) (hu : P.underlying u = some .string) (hi : P.info? e = some i) (hz : i.zero = some (.int .u8 0))
    (hsize : i.size = 1) (hby : i.bytes = 1) (v : Value) (n : Nat) (xs : List Value) (hown : w.ownsRow base e 1 v n xs) (s : ByteArray) (h0 : 0 < n)
    (h63 : n + s.size ≤ maxLen) (hbytes : n + s.size ≤ 140737488355328) (hbase : base ≤ w.heap.size) :
    ∃ v' w', (Builtin.append_ #[t, u] ty #[v, .string s]).run P w = .ok v' w' ∧ w'.ownsRow base e 1 v' (n + s.size) (xs ++ Lib.strCells s) ∧ w.grownBy w' v.ownBlock ∧ (v'.ownBlock = v.ownBlock ∨ v'.ownBlock = some w.heap.size) := by
  obtain ⟨v', w', hr, h2, h3, _⟩ := Lib.run_append_own_string (P := P) w base t u ty e i ht hu hi hz hsize hby v n xs hown s h63 hbytes hbase
  refine ⟨v', w', hr, h2, h3, ?_⟩
  rcases hown.2 with ⟨_, h00⟩ | ⟨g, cap, cur, rfl, hbg, hg, hnc, hcm, hcs, htake⟩
  · omega
  have hcs' : cur.size = cap := by simpa using hcs
  by_cases hroom : n + s.size ≤ cap
  · have hr2 := Lib.run_append_room_string (P := P) w t u ty e i ht hu hi hsize g n cap cur hg s hroom (by omega)
    rw [hr] at hr2
    simp only [Result.ok.injEq] at hr2
    rw [hr2.1]
    exact .inl rfl
  · have holds : ∀ j u, xs[j]? = some u → w.cell? ((⟨g, 0, none⟩ : Addr).add j) = some u := hown.cells (g := g) rfl
    have h63' : n + s.size ≤ 9223372036854775807 := by simp only [maxLen] at h63; omega
    have hr2 := Lib.run_append_grow_string (P := P) w t u ty e i (.int .u8 0) ht hu hi hz ⟨g, 0, none⟩ n cap xs (by rw [hsize]; exact hown.1) holds s (by omega) (by omega) (by rw [hby]; exact growslice_fits (by omega) (by omega))
    rw [hr] at hr2
    simp only [Result.ok.injEq] at hr2
    rw [hr2.1]
    exact .inr rfl

theorem wpList_str_at {ops : Array Oper} {rest : List Oper} {o : Oper} {a : Act} {Q : Exit → Act → World → Prop} (hgd : o.guard = none) (sl x : Operand) (t u : TypeId)
    (ho : o.op = .call { callee := .builtin .append, args := #[sl, x], argTypes := #[t, u] })
    (base : Nat) (e : TypeId) (i : TypeInfo) (ht : P.underlying t = some (.slice e)) (hu : P.underlying u = some .string) (hi : P.info? e = some i) (hz : i.zero = some (.int .u8 0))
    (hsize : i.size = 1) (hby : i.bytes = 1)
    (v : Value) (n : Nat) (xs : List Value) (hs : a.eval sl = v) (hown : w.ownsRow base e 1 v n xs) (s : ByteArray) (hx : a.eval x = .string s) (h0 : 0 < n)
    (h63 : n + s.size ≤ maxLen) (hbytes : n + s.size ≤ 140737488355328) (hbase : base ≤ w.heap.size)
    (h : ∀ v' w', w'.ownsRow base e 1 v' (n + s.size) (xs ++ Lib.strCells s) → w.grownBy w' v.ownBlock → (v'.ownBlock = v.ownBlock ∨ v'.ownBlock = some w.heap.size) → wpList P ops Q rest (a.put o.dst v') w') : wpList P ops Q (o :: rest) a w := by
  refine wpList_plain hgd fun K hK => ?_
  obtain ⟨v', w', hr, h2, h3, h4⟩ := run_str_at (P := P) w base t u o.type e i ht hu hi hz hsize hby v n xs hown s h0 h63 hbytes hbase
  unfold Oper.wp execOp
  simp only [ho, resolve, invoke, builtin, Sem.run_bind, Sem.run_pure, Result.andThen_ok, List.map_toArray, List.map_cons, List.map_nil, hs, hx, hr]
  exact hK _ _ (h v' w' h2 h3 h4)
end

/-- A SLICE THAT IS APPENDED TO: it began as vb in w; now it is v in wr and holds 'out'; of w's blocks only vb's own row may have been written. -/
def St (w : World) (base : Nat) (vb : Value) (out : List Int) (v : Value) (wr : World) : Prop :=
  wr.ownsRow base 5 1 v out.length (out.map (Value.int .u8)) ∧ w.grownBy wr vb.ownBlock ∧ (v.ownBlock = vb.ownBlock ∨ ∃ g, v.ownBlock = some g ∧ w.heap.size ≤ g) ∧ (v = .slice none 0 0 ↔ vb = .slice none 0 0 ∧ out.length = 0)

theorem own_nil_len {w : World} {base : Nat} {e : TypeId} {v : Value} {n : Nat} {xs : List Value} (h : w.ownsRow base e 1 v n xs) (hv : v = .slice none 0 0) : n = 0 := by
  rcases h.2 with ⟨_, h0⟩ | ⟨g, cap, cur, hh, _⟩
  · exact h0
  · rw [hv] at hh; cases hh

theorem St.start {w : World} {base : Nat} {vb : Value} {B : List Int} (h : w.ownsRow base 5 1 vb B.length (B.map (Value.int .u8))) (o : Obj) : St w base vb B vb (w.alloc o) :=
  ⟨h.alloc o, World.grownBy_alloc w o _, .inl rfl, fun e => ⟨e, own_nil_len h e⟩, fun e => e.1⟩

theorem St.next {w : World} {base : Nat} {vb : Value} {out news : List Int} {v v' : Value} {wr w1 : World} (h : St w base vb out v wr)
    (hown : w1.ownsRow base 5 1 v' (out.length + news.length) (out.map (Value.int .u8) ++ news.map (Value.int .u8))) (hg : wr.grownBy w1 v.ownBlock) (hat : v'.ownBlock = v.ownBlock ∨ v'.ownBlock = some wr.heap.size)
    (hn : v' = .slice none 0 0 ↔ v = .slice none 0 0 ∧ news.length = 0) : St w base vb (out ++ news) v' w1 := by
  obtain ⟨h1, h2, h3, h4⟩ := h
  refine ⟨by rw [List.length_append, List.map_append]; exact hown, ⟨hg.os.trans h2.os, hg.tape.trans h2.tape, hg.output.trans h2.output, Nat.le_trans h2.size hg.size, fun k hk hne => ?_⟩, ?_, ?_⟩
  · have hs := h2.size
    rw [hg.block k (by omega) ?_]
    · exact h2.block k hk hne
    · intro e
      rcases h3 with h3 | ⟨g, h3, hge⟩
      · exact hne (e.trans h3)
      · rw [h3] at e; have := Option.some.inj e; omega
  · have hs := h2.size
    rcases hat with hat | hat
    · rw [hat]; exact h3
    · exact .inr ⟨_, hat, hs⟩
  · rw [hn, h4, List.length_append]
    constructor
    · rintro ⟨⟨e1, e2⟩, e3⟩; exact ⟨e1, by omega⟩
    · rintro ⟨e1, e2⟩; exact ⟨⟨e1, by omega⟩, by omega⟩

/-- .. and behind the separator: something had been appended, so nothing is nil. -/
theorem St.next_sep {w : World} {base : Nat} {vb : Value} {out : List Int} {v v' : Value} {wr w1 : World} {s : ByteArray} {news : List Int} (h : St w base vb out v wr) (hs : Lib.strCells s = news.map (Value.int .u8)) (h0 : 0 < out.length)
    (hown : w1.ownsRow base 5 1 v' (out.length + s.size) (out.map (Value.int .u8) ++ Lib.strCells s)) (hg : wr.grownBy w1 v.ownBlock) (hat : v'.ownBlock = v.ownBlock ∨ v'.ownBlock = some wr.heap.size) :
    St w base vb (out ++ news) v' w1 := by
  have hl : s.size = news.length := by rw [← Lib.strCells_length, hs, List.length_map]
  rw [hs, hl] at hown
  refine h.next hown hg hat ⟨fun e => ?_, fun e => ?_⟩
  · have := own_nil_len hown e; omega
  · have := own_nil_len h.1 e.1; omega

/-- The cells of an entry, as an append wants them. -/
theorem Bytes.news {w : World} {S : Nat → Prop} {x : Addr} {n c : Nat} {o : Option (List Int)} (h : Bytes w S (some x) n c o) : ∀ j u, ((bs o).map (Value.int .u8))[j]? = some u → w.cell? (x.add j) = some u := by
  obtain ⟨_, _, h3, _, b, f, h5, h6⟩ := h
  intro j u hu
  rw [List.getElem?_map] at hu
  obtain ⟨y, hy, rfl⟩ := Option.map_eq_some_iff.1 hu
  have hj : j < n := by rw [h3]; exact (List.getElem?_eq_some_iff.1 hy).1
  obtain rfl := Option.some.inj (h5 (by omega)).1
  rw [Addr.add_lit, h6 j hj, List.getD_eq_getElem?_getD, hy]
  rfl

/-- What appendTo leaves. -/
def AppPost (w : World) (base : Nat) (vb : Value) (out : List Int) (e : Ending) (w' : World) : Prop := ∃ a c, e = .returned (.slice a out.length c) ∧ St w base vb out (.slice a out.length c) w'

theorem sepCells : Lib.strCells { data := #[44, 10] } = [44, 10].map (Value.int .u8) := rfl

set_option maxHeartbeats 400000 in
theorem appendTo15 (ga : Option Addr) (G Gc : Nat) (E : List (Option (List Int))) (sz0 : Int) (va : Option Addr) (vc : Nat) (B : List Int) (w : World) (S : Nat → Prop) (base : Nat) (hE : Ents w S ga G Gc E)
    (hB : w.ownsRow base 5 1 (.slice va B.length vc) B.length (B.map (Value.int .u8))) (hS : ∀ b, S b → b < w.heap.size ∧ some b ≠ Value.ownBlock (.slice va B.length vc)) (hbase : base ≤ w.heap.size)
    (hG : G ≤ 1048576) (ht : tot E ≤ 1048576) (hBl : B.length ≤ 1048576) :
    Calls Trym.prog 15 #[.agg #[.slice ga G Gc, .int .i64 sz0], .slice va B.length vc] w (AppPost w base (.slice va B.length vc) (ap E B)) := by
  have q23 := fun (w : World) (a : Option Addr) (n c n' c' : Nat) => Lib.run_eql_slice_nil (P := Trym.prog) w 23 5 a n c n' c' Trym.underlying23
  obtain ⟨i0, hi, hz0, hz1, hz2⟩ := info_parts Trym.info5
  have H0 : Hid (St w base (.slice va B.length vc) B (.slice va B.length vc) (w.alloc (.cells #[.slice ga G Gc, .int .i64 sz0] 31))) := St.start hB _
  clear hB
  generalize hbl : B.length = bl at *
  have HBL : Hid (B.length = bl) := hbl
  clear hbl
  go_enter Trym.func15, Trym.ntmps15
  go_wp2
  go_loopw [1, 13] (fun v i wr => ∃ k : Nat, k ≤ G ∧ i = .int .i64 k ∧ St w base (.slice va bl vc) (apTo E B k) v wr) (fun _ i _ => G - (intOf i).toNat)
  case atStart => exact ⟨0, Nat.zero_le _, rfl, H0.out⟩
  case round =>
    clear H0
    obtain ⟨k, hk, rfl, hst⟩ := hrel
    have hlen : Hid (G = E.length) := hE.1
    have hol : (apTo E B k).length ≤ 6291456 := by
      have h1 := apTo_length E B k
      have h2 := sz_take_le E k
      have h3 := hE.1
      have h4 := HBL.out
      omega
    obtain ⟨oa, oc, rfl⟩ := own_form hst.1
    by_cases hlt : k < G
    · obtain ⟨b, f, a', n', c', rfl, hSb, hc0, hB0⟩ := hE.at hlt
      have hcar : ∀ w1 : World, w.grownBy w1 (Value.ownBlock (.slice va bl vc)) → ∀ j, S j → w1.heap[j]? = w.heap[j]? := fun w1 hg j hj => hg.block j (hS j hj).1 (hS j hj).2
      have hc : wr.cell? ⟨b, f + k, none⟩ = some (.slice a' n' c') := by
        rw [World.cell?_of_block (w := w) (hcar wr hst.2.1 b hSb)]; exact hc0
      have hn' : n' ≤ 1048576 := by
        have h1 := len_le_tot E k (by have := hE.1; omega)
        have h2 := hB0.2.2.1
        omega
      have HT : Hid (apTo E B (k + 1) = apStep bl (apTo E B k) (E.getD k none)) := by
        have := apTo_succ E B k (by have := hlen.out; omega)
        rw [HBL.out] at this; exact this
      have HB1 : Hid (∀ w1 : World, w.grownBy w1 (Value.ownBlock (.slice va bl vc)) → Bytes w1 S a' n' c' (E.getD k none)) := fun w1 hg => hB0.carry (hcar w1 hg)
      have HN : Hid ((a' = none ↔ E.getD k none = none) ∧ n' = (bs (E.getD k none)).length) := ⟨hB0.1, hB0.2.2.1⟩
      generalize hou : apTo E B k = out at *
      clear hou hcar hc0 hB0 hE hS
      cases a' with
      | none =>
        have HT' : Hid (apTo E B (k + 1) = out) := by
          have e1 := HT.out
          rw [HN.out.1.1 rfl] at e1
          exact e1
        have HS : Hid (St w base (.slice va bl vc) out (.slice oa out.length oc) wr) := hst
        clear hst HT HN HB1
        go_wp2
        go_roundw
        case rel => exact ⟨k + 1, by omega, by go_num, by rw [HT'.out]; exact HS.out⟩
        case measure => simp [intOf]; omega
      | some x =>
        have HT' : Hid (apTo E B (k + 1) = (if bl < out.length then out ++ [44, 10] else out) ++ bs (E.getD k none)) := by
          have e1 := HT.out
          cases ho : E.getD k none with
          | none => have := HN.out.1.2 ho; cases this
          | some l => rw [ho] at e1; rw [e1]; rfl
        clear HT
        by_cases hsep : bl < out.length
        · have HT2 : Hid (apTo E B (k + 1) = (out ++ [44, 10]) ++ bs (E.getD k none)) := by have := HT'.out; rw [if_pos hsep] at this; exact this
          clear HT'
          go_wp2_with (at_builtin; refine wpList_str_at _ rfl (.tmp 23) (.const (.string { data := #[44, 10] })) 23 9 rfl base 5 i0 Trym.underlying23 Trym.underlying9 hi hz0 hz1 hz2 _ out.length (out.map (Value.int .u8)) rfl hst.1 { data := #[44, 10] } rfl ?_ ?_ ?_ ?_ ?_)
          · omega
          · show out.length + 2 ≤ maxLen; unfold maxLen; omega
          · show out.length + 2 ≤ _; omega
          · have := hst.2.1.size; omega
          · intro v1 w1 hown hg hat
            obtain ⟨out2, hou2⟩ : ∃ o2, o2 = out ++ [44, 10] := ⟨_, rfl⟩
            have HO : Hid (out2 = out ++ [44, 10]) := hou2
            have hol2 : out2.length ≤ 6291458 := by rw [hou2]; simp; omega
            have hst1 : St w base (.slice va bl vc) out2 v1 w1 := by rw [hou2]; exact hst.next_sep sepCells (by omega) hown hg hat
            clear hou2 hown hg hat hst
            have hbig := hst1.2.1.size
            obtain ⟨oa1, oc1, rfl⟩ := own_form hst1.1
            go_wp2_with (at_builtin; refine wpList_append_own_at _ rfl (.tmp 25) (.tmp 26) 23 rfl base 5 i0 (.int .u8 0) 1 1 Trym.underlying23 hi hz0 hz1 hz2 rfl (by decide) _ out2.length (out2.map (Value.int .u8)) rfl hst1.1 x n' c' ((bs (E.getD k none)).map (Value.int .u8)) rfl ?_ ?_ ?_ ?_ ?_ ?_ ?_)
            · rw [List.length_map, ← HN.out.2]; omega
            · exact (HB1.out w1 hst1.2.1).news
            · exact ints_oneCell _ _
            · unfold maxLen; omega
            · omega
            · omega
            · intro v2 w2 hown hg hn hat
              have hst2 : St w base (.slice va bl vc) (out2 ++ bs (E.getD k none)) v2 w2 := hst1.next (by rw [← HN.out.2]; exact hown) hg hat (by rw [← HN.out.2]; simpa using hn)
              have HS : Hid (St w base (.slice va bl vc) (out2 ++ bs (E.getD k none)) v2 w2) := hst2
              clear hst1 hst2 hown hg hn hat HB1 HN
              go_wp2
              go_roundw
              case rel => exact ⟨k + 1, by omega, by go_num, by rw [HT2.out, ← HO.out]; exact HS.out⟩
              case measure => simp [intOf]; omega
        · have HT2 : Hid (apTo E B (k + 1) = out ++ bs (E.getD k none)) := by have := HT'.out; rw [if_neg hsep] at this; exact this
          clear HT'
          have hbig := hst.2.1.size
          go_wp2_with (at_builtin; refine wpList_append_own_at _ rfl (.tmp 25) (.tmp 26) 23 rfl base 5 i0 (.int .u8 0) 1 1 Trym.underlying23 hi hz0 hz1 hz2 rfl (by decide) _ out.length (out.map (Value.int .u8)) rfl hst.1 x n' c' ((bs (E.getD k none)).map (Value.int .u8)) rfl ?_ ?_ ?_ ?_ ?_ ?_ ?_)
          · rw [List.length_map, ← HN.out.2]; omega
          · exact (HB1.out wr hst.2.1).news
          · exact ints_oneCell _ _
          · unfold maxLen; omega
          · omega
          · omega
          · intro v1 w1 hown hg hn hat
            have hst1 : St w base (.slice va bl vc) (out ++ bs (E.getD k none)) v1 w1 := hst.next (by rw [← HN.out.2]; exact hown) hg hat (by rw [← HN.out.2]; simpa using hn)
            have HS : Hid (St w base (.slice va bl vc) (out ++ bs (E.getD k none)) v1 w1) := hst1
            clear hst hst1 hown hg hn hat HB1 HN
            go_wp2
            go_roundw
            case rel => exact ⟨k + 1, by omega, by go_num, by rw [HT2.out]; exact HS.out⟩
            case measure => simp [intOf]; omega
    · have hkn : k = G := by omega
      have hall : Hid (apTo E B k = ap E B) := by
        have := hlen.out
        rw [hkn, this]; exact apTo_all E B
      have hst2 : St w base (.slice va bl vc) (ap E B) (.slice oa (ap E B).length oc) wr := by rw [← hall.out]; exact hst
      have HS : Hid (St w base (.slice va bl vc) (ap E B) (.slice oa (ap E B).length oc) wr) := hst2
      clear hst hst2
      go_wp2
      go_ret
      refine ⟨oa, oc, ?_, HS.out⟩
      rw [← hall.out]; rfl

theorem St.before {w w1 : World} {base : Nat} {vb : Value} {out : List Int} {v : Value} {wr : World} (h : St w1 base vb out v wr) (hb : Below w.heap.size w w1) : St w base vb out v wr := by
  obtain ⟨h1, h2, h3, h4⟩ := h
  refine ⟨h1, (below_grown hb _).trans h2, ?_, h4⟩
  rcases h3 with h3 | ⟨g, h3, hg⟩
  · exact .inl h3
  · exact .inr ⟨g, h3, Nat.le_trans hb.size hg⟩

set_option maxHeartbeats 400000 in
theorem zzAppendTo10 (ga : Option Addr) (G Gc : Nat) (E : List (Option (List Int))) (va : Option Addr) (vc : Nat) (B : List Int) (w : World) (S : Nat → Prop) (base : Nat) (hE : Ents w S ga G Gc E)
    (hB : w.ownsRow base 5 1 (.slice va B.length vc) B.length (B.map (Value.int .u8))) (hS : ∀ b, S b → b < w.heap.size ∧ some b ≠ Value.ownBlock (.slice va B.length vc)) (hbase : base ≤ w.heap.size)
    (hG : G ≤ 1048576) (ht : tot E ≤ 1048576) (hBl : B.length ≤ 1048576) :
    Calls Trym.prog 10 #[.slice ga G Gc, .slice va B.length vc] w (AppPost w base (.slice va B.length vc) (ap E B)) := by
  have HC : Hid (Calls Trym.prog 14 #[.slice ga G Gc] w (RunPost w (.slice ga G Gc) (sz E))) := newRun14 ga G Gc E w S hE (fun b hb => (hS b hb).1) hG ht
  have HA : Hid (∀ w1 : World, Below w.heap.size w w1 → Calls Trym.prog 15 #[.agg #[.slice ga G Gc, .int .i64 (sz E : Nat)], .slice va B.length vc] w1 (AppPost w1 base (.slice va B.length vc) (ap E B))) := fun w1 hb =>
    appendTo15 ga G Gc E _ va vc B w1 S base (hE.carry fun j hj => hb.block j (hS j hj).1) (hB.kept (below_grown hb none) (by cases hv : Value.ownBlock (.slice va B.length vc) <;> simp))
      (fun b hb' => ⟨Nat.lt_of_lt_of_le (hS b hb').1 hb.size, (hS b hb').2⟩) (Nat.le_trans hbase hb.size) hG ht hBl
  clear hE hB hS
  generalize hbl : B.length = bl at *
  clear hbl
  go_enter Trym.func10, Trym.ntmps10
  go_wp2_with fail
  refine HC.out.mono ?_
  rintro e w1 ⟨rfl, hb⟩
  go_wp2_with fail
  refine (HA.out w1 hb).mono ?_
  rintro e w2 ⟨a, c, rfl, hst⟩
  have hst' := hst.before hb
  clear hst
  go_wp2
  go_ret
  exact ⟨a, c, rfl, hst'⟩

end Go.Proofs.Qxb6602202aMods
