/-
  SEAT b6602202aM: THE PLAIN PART: no Go in sight. Entries: 'List (Option (List Int))' (none: a nil entry). What NewRun counts, what appendTo appends, what the model writes.
-/
namespace Go.Proofs.Qxb6602202aMods.Plain

/-- An entry's bytes. -/
def bs (o : Option (List Int)) : List Int := o.getD []

/-- The entries' bytes, counted. -/
def tot : List (Option (List Int)) → Nat
  | [] => 0
  | o :: r => (bs o).length + tot r

theorem tot_append (a b : List (Option (List Int))) : tot (a ++ b) = tot a + tot b := by
  induction a with
  | nil => simp [tot]
  | cons x r ih => simp [tot, ih]; omega

theorem tot_succ (E : List (Option (List Int))) (k : Nat) (h : k < E.length) : tot (E.take (k + 1)) = tot (E.take k) + (bs (E.getD k none)).length := by
  rw [List.take_succ_eq_append_getElem h, tot_append]
  simp [tot, List.getD_eq_getElem?_getD, List.getElem?_eq_getElem h]

theorem tot_le (E : List (Option (List Int))) (k : Nat) : tot (E.take k) ≤ tot E := by
  have h := tot_append (E.take k) (E.drop k)
  rw [List.take_append_drop] at h
  omega

theorem len_le_tot (E : List (Option (List Int))) (k : Nat) (h : k < E.length) : (bs (E.getD k none)).length ≤ tot E := by
  have h1 := tot_succ E k h
  have h2 := tot_le E (k + 1)
  omega

/-- One entry more, as NewRun counts it. -/
def szStep (s : Nat) : Option (List Int) → Nat
  | none => s
  | some l => (if 0 < s then s + 2 else s) + l.length

/-- What NewRun counts. -/
def sz (E : List (Option (List Int))) : Nat := E.foldl szStep 0

/-- One entry more, as appendTo appends it: 'start': how long b was. -/
def apStep (start : Nat) (out : List Int) : Option (List Int) → List Int
  | none => out
  | some l => (if start < out.length then out ++ [44, 10] else out) ++ l

/-- What appendTo makes of b. -/
def ap (E : List (Option (List Int))) (b : List Int) : List Int := E.foldl (apStep b.length) b

theorem ap_sz (E : List (Option (List Int))) : ∀ (b : List Int) (start s : Nat), b.length = start + s → (E.foldl (apStep start) b).length = start + E.foldl szStep s := by
  induction E with
  | nil => intro b start s h; simpa using h
  | cons o r ih =>
    intro b start s h
    simp only [List.foldl_cons]
    refine ih _ _ _ ?_
    cases o with
    | none => simpa [apStep, szStep] using h
    | some l =>
      simp only [apStep, szStep]
      by_cases h0 : 0 < s
      · rw [if_pos h0, if_pos (by omega)]
        simp only [List.length_append, List.length_cons, List.length_nil]
        omega
      · rw [if_neg h0, if_neg (by omega)]
        simp only [List.length_append]
        omega

/-- THE PLAIN LAW OF THE FIRST STATEMENT: the count is what is appended. -/
theorem ap_length (E : List (Option (List Int))) (b : List Int) : (ap E b).length = b.length + sz E := by
  have := ap_sz E b b.length 0 (by omega)
  simpa [ap, sz] using this

theorem sz_bound (E : List (Option (List Int))) : ∀ s, E.foldl szStep s ≤ s + tot E + 2 * E.length := by
  induction E with
  | nil => intro s; simp [tot]
  | cons o r ih =>
    intro s
    simp only [List.foldl_cons, tot, List.length_cons]
    have h := ih (szStep s o)
    cases o with
    | none => simp [szStep, bs] at h ⊢; omega
    | some l =>
      have hh : szStep s (some l) ≤ s + 2 + l.length := by
        simp only [szStep]; split <;> omega
      have hb : bs (some l) = l := rfl
      rw [hb]
      omega

theorem sz_le (E : List (Option (List Int))) : sz E ≤ tot E + 2 * E.length := by
  have := sz_bound E 0
  unfold sz; omega

theorem foldl_take_succ {α β : Type} (f : β → α → β) (b : β) (E : List α) (k : Nat) (h : k < E.length) : (E.take (k + 1)).foldl f b = f ((E.take k).foldl f b) E[k] := by
  rw [List.take_succ_eq_append_getElem h, List.foldl_append]
  rfl

theorem sz_succ (E : List (Option (List Int))) (k : Nat) (h : k < E.length) : sz (E.take (k + 1)) = szStep (sz (E.take k)) (E.getD k none) := by
  unfold sz
  rw [foldl_take_succ _ _ _ _ h]
  simp [List.getD_eq_getElem?_getD, List.getElem?_eq_getElem h]

theorem sz_take_le (E : List (Option (List Int))) (k : Nat) : sz (E.take k) ≤ tot E + 2 * E.length := by
  have h1 := sz_le (E.take k)
  have h2 := tot_le E k
  have h3 : (E.take k).length ≤ E.length := List.length_take_le' _ _
  omega

/-- What appendTo has made when k entries are through. -/
def apTo (E : List (Option (List Int))) (b : List Int) (k : Nat) : List Int := (E.take k).foldl (apStep b.length) b

theorem apTo_zero (E : List (Option (List Int))) (b : List Int) : apTo E b 0 = b := rfl

theorem apTo_succ (E : List (Option (List Int))) (b : List Int) (k : Nat) (h : k < E.length) : apTo E b (k + 1) = apStep b.length (apTo E b k) (E.getD k none) := by
  unfold apTo
  rw [foldl_take_succ _ _ _ _ h]
  simp [List.getD_eq_getElem?_getD, List.getElem?_eq_getElem h]

theorem apTo_all (E : List (Option (List Int))) (b : List Int) : apTo E b E.length = ap E b := by
  unfold apTo ap
  rw [List.take_length]

theorem apTo_length (E : List (Option (List Int))) (b : List Int) (k : Nat) : (apTo E b k).length = b.length + sz (E.take k) := by
  have := ap_sz (E.take k) b b.length 0 (by omega)
  simpa [apTo, sz] using this

end Go.Proofs.Qxb6602202aMods.Plain
