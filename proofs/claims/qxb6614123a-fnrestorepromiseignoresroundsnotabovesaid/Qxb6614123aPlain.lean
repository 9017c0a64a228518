namespace Go.Proofs.Qxb6614123a

/-- A round: epoch, number, leader, sub. -/
structure R where
  e : Int
  n : Int
  l : Int
  s : Int

def R.zero : R := ⟨0, 0, 0, 0⟩

/-- The order of rounds. -/
def less (a b : R) : Bool :=
  if (a.e != b.e) = true then decide (a.e < b.e) else if (a.n != b.n) = true then decide (a.n < b.n) else if (a.l != b.l) = true then decide (a.l < b.l) else decide (a.s < b.s)

/-- The last of a list, the zero round if there is none. -/
def top (l : List R) : R := l.getLastD R.zero

/-- The rounds that rose above all before them, one more round seen. -/
def recStep (l : List R) (r : R) : List R := if less (top l) r = true then l ++ [r] else l
def recOf (l : List R) : List R := l.foldl recStep []

/-- What the acceptor keeps apart, and what it falls back to, behind the records l. -/
def kept (l : List R) : List R := l.drop (l.length - 4)
def baseOf (l : List R) : R := if 4 < l.length then l.getD (l.length - 5) R.zero else R.zero

theorem top_snoc (l : List R) (r : R) : top (l ++ [r]) = r := by simp [top]
theorem kept_length (l : List R) : (kept l).length = min 4 l.length := by simp [kept]; omega
theorem kept_le (l : List R) : (kept l).length ≤ 4 := by rw [kept_length]; omega

/-- What promise makes of what is kept apart. -/
def keptNext (ps : List R) (r : R) : List R := (if ps.length = 4 then ps.tail else ps) ++ [r]
def baseNext (pr bs : R) (ps : List R) : R := if ps.length = 0 then pr else if ps.length = 4 then ps.headD R.zero else bs

theorem kept_snoc (l : List R) (r : R) : kept (l ++ [r]) = keptNext (kept l) r := by
  unfold keptNext
  rw [kept_length]
  by_cases h : 4 ≤ l.length
  · rw [if_pos (by omega)]
    unfold kept
    rw [List.length_append, List.drop_append_of_le_length (by simp)]
    congr 1
    rw [List.tail_drop]
    congr 1
    simp; omega
  · rw [if_neg (by omega)]
    unfold kept
    rw [show (l ++ [r]).length - 4 = 0 by simp; omega, show l.length - 4 = 0 by omega]
    rfl

theorem base_snoc (l : List R) (r : R) : baseOf (l ++ [r]) = baseNext (top l) (baseOf l) (kept l) := by
  unfold baseNext
  rw [kept_length]
  by_cases h0 : l.length = 0
  · have : l = [] := List.eq_nil_of_length_eq_zero h0
    subst this
    simp [baseOf, top]
  · rw [if_neg (by omega)]
    by_cases h4 : 4 ≤ l.length
    · rw [if_pos (by omega)]
      unfold baseOf kept
      rw [if_pos (by simp; omega)]
      have e1 : (l ++ [r]).length - 5 = l.length - 4 := by simp
      rw [e1]
      have hlt : l.length - 4 < l.length := by omega
      rw [List.getD_eq_getElem?_getD, List.getElem?_append_left hlt, List.getElem?_eq_getElem hlt, List.drop_eq_getElem_cons hlt]
      rfl
    · rw [if_neg (by omega)]
      unfold baseOf
      rw [if_neg (by simp; omega), if_neg (by omega)]

theorem recOf_snoc (l : List R) (r : R) : recOf (l ++ [r]) = recStep (recOf l) r := by simp [recOf]
theorem recOf_length : ∀ (l : List R), (recOf l).length ≤ l.length := by
  have : ∀ (l : List R) (a : List R), (l.foldl recStep a).length ≤ a.length + l.length := by
    intro l
    induction l with
    | nil => intro a; simp
    | cons x l ih =>
      intro a
      rw [List.foldl_cons]
      have h1 := ih (recStep a x)
      have h2 : (recStep a x).length ≤ a.length + 1 := by unfold recStep; split <;> simp
      simp only [List.length_cons]; omega
  intro l
  have := this l []
  simpa [recOf] using this

/-- The records of the records are the records. -/
theorem recOf_recOf_take : ∀ (n : Nat) (l : List R), l.length = n → recOf (recOf l) = recOf l
  | 0, l, h => by
    have : l = [] := List.eq_nil_of_length_eq_zero h
    subst this; rfl
  | n + 1, l, h => by
    have hne : l ≠ [] := by intro e; subst e; simp at h
    obtain ⟨l', r, rfl⟩ : ∃ l' r, l = l' ++ [r] := ⟨l.dropLast, l.getLast hne, (List.dropLast_concat_getLast hne).symm⟩
    have ih := recOf_recOf_take n l' (by simpa using h)
    rw [recOf_snoc]
    by_cases hl : less (top (recOf l')) r = true
    · have e : recStep (recOf l') r = recOf l' ++ [r] := by unfold recStep; rw [if_pos hl]
      rw [e, recOf_snoc, ih, e]
    · have e : recStep (recOf l') r = recOf l' := by unfold recStep; rw [if_neg hl]
      rw [e, ih]
theorem recOf_recOf (l : List R) : recOf (recOf l) = recOf l := recOf_recOf_take _ l rfl

theorem take_snoc (l : List R) (k : Nat) (h : k < l.length) : l.take (k + 1) = l.take k ++ [l.getD k R.zero] := by
  rw [List.take_succ_eq_append_getElem h, List.getD_eq_getElem?_getD, List.getElem?_eq_getElem h]; rfl

theorem recTake_succ (l : List R) (k : Nat) (h : k < l.length) : recOf (l.take (k + 1)) = recStep (recOf (l.take k)) (l.getD k R.zero) := by
  rw [take_snoc l k h, recOf_snoc]
end Go.Proofs.Qxb6614123a
