/-
  The automaton over JSON's numbers, plainly: it answers as the plain function numL does. No Go here.
-/
import Derived.Test.Qxb6601304aPlain
namespace Go.Proofs.Qxb6601304a.Plain

def isExp (c : Int) : Bool := c == 101 || c == 69
/-- The table. -/
def stepA (st c : Int) : Int :=
  if st = 0 then (if c = 45 then 1 else if c = 48 then 2 else if isDig c = true then 3 else 9)
  else if st = 1 then (if c = 48 then 2 else if isDig c = true then 3 else 9)
  else if st = 2 then (if c = 46 then 4 else if isExp c = true then 6 else 9)
  else if st = 3 then (if isDig c = true then 3 else if c = 46 then 4 else if isExp c = true then 6 else 9)
  else if st = 4 then (if isDig c = true then 5 else 9)
  else if st = 5 then (if isDig c = true then 5 else if isExp c = true then 6 else 9)
  else if st = 6 then (if c = 43 ∨ c = 45 then 7 else if isDig c = true then 8 else 9)
  else (if isDig c = true then 8 else 9)
def acc (st : Int) : Bool := st == 2 || st == 3 || st == 5 || st == 8

/-- How many bytes the automaton reads from state st on; none where it stops in no accepting state. -/
def autR (st : Int) : List Int → Option Nat
  | [] => if acc st = true then some 0 else none
  | c :: r => if stepA st c = 9 then (if acc st = true then some 0 else none) else (autR (stepA st c) r).map (· + 1)

theorem digs_cons_yes {c : Int} {r : List Int} (h : isDig c = true) : digs (c :: r) = digs r + 1 := by
  unfold digs; rw [List.takeWhile_cons, if_pos h, List.length_cons]
theorem digs_cons_no {c : Int} {r : List Int} (h : isDig c = false) : digs (c :: r) = 0 := by
  unfold digs; rw [List.takeWhile_cons, if_neg (by rw [h]; decide)]; rfl

theorem a8 (l : List Int) : autR 8 l = some (digs l) := by
  induction l with
  | nil => rfl
  | cons c r ih =>
    cases h : isDig c with
    | true => rw [autR, show stepA 8 c = 8 from by simp [stepA, h], if_neg (by decide), ih, digs_cons_yes h]; rfl
    | false => rw [autR, show stepA 8 c = 9 from by simp [stepA, h], if_pos rfl, digs_cons_no h]; rfl
theorem a7 (l : List Int) : autR 7 l = digO l := by
  unfold digO
  cases l with
  | nil => rfl
  | cons c r =>
    cases h : isDig c with
    | true => rw [autR, show stepA 7 c = 8 from by simp [stepA, h], if_neg (by decide), a8, digs_cons_yes h, if_neg (by omega)]; rfl
    | false => rw [autR, show stepA 7 c = 9 from by simp [stepA, h], if_pos rfl, digs_cons_no h, if_pos rfl]; rfl
theorem sign_dig {c : Int} (h : c = 43 ∨ c = 45) : isDig c = false := by rcases h with rfl | rfl <;> rfl
theorem a6 (l : List Int) : autR 6 l = if hd l = 43 ∨ hd l = 45 then (digO (l.drop 1)).map (· + 1) else digO l := by
  cases l with
  | nil => rfl
  | cons c r =>
    rw [hd_cons]
    by_cases hs : c = 43 ∨ c = 45
    · rw [autR, show stepA 6 c = 7 from by simp [stepA, hs], if_neg (by decide), a7, if_pos hs]; rfl
    · rw [if_neg hs]
      unfold digO
      cases h : isDig c with
      | true => rw [autR, show stepA 6 c = 8 from by simp [stepA, h, hs], if_neg (by decide), a8, digs_cons_yes h, if_neg (by omega)]; rfl
      | false => rw [autR, show stepA 6 c = 9 from by simp [stepA, h, hs], if_pos rfl, digs_cons_no h, if_pos rfl]; rfl

theorem exp6 {c : Int} {r : List Int} (h : isExp c = true) : expL (c :: r) = (autR 6 r).map (· + 1) := by
  have he : hd (c :: r) = 101 ∨ hd (c :: r) = 69 := by rw [hd_cons]; unfold isExp at h; simpa using h
  unfold expL
  rw [if_pos he, a6]
  have e1 : (c :: r).drop 1 = r := rfl
  have e2 : (c :: r).drop 2 = r.drop 1 := rfl
  rw [e1]
  by_cases hs : hd r = 43 ∨ hd r = 45
  · simp only [if_pos hs, e2]
    unfold digO
    by_cases hd0 : digs (r.drop 1) = 0
    · rw [if_pos hd0, if_pos hd0]; rfl
    · rw [if_neg hd0, if_neg hd0]
      simp only [Option.map_some, Option.some.injEq]; omega
  · simp only [if_neg hs, e1]
    unfold digO
    by_cases hd0 : digs r = 0
    · rw [if_pos hd0, if_pos hd0]; rfl
    · rw [if_neg hd0, if_neg hd0]
      simp only [Option.map_some, Option.some.injEq]; omega
theorem exp0 {c : Int} {r : List Int} (h : isExp c = false) : expL (c :: r) = some 0 := by
  unfold expL
  rw [if_neg]
  rw [hd_cons]; unfold isExp at h; simpa using h
theorem exp_dig {c : Int} (h : isDig c = true) : isExp c = false ∧ c ≠ 46 ∧ c ≠ 45 := by
  unfold isDig at h
  simp only [Bool.and_eq_true, decide_eq_true_eq] at h
  refine ⟨?_, by omega, by omega⟩
  unfold isExp
  simp only [Bool.or_eq_false_iff, beq_eq_false_iff_ne]
  exact ⟨by omega, by omega⟩
theorem dig_exp {c : Int} (h : isExp c = true) : isDig c = false ∧ c ≠ 46 := by
  unfold isExp at h
  simp only [Bool.or_eq_true, beq_iff_eq] at h
  rcases h with rfl | rfl <;> exact ⟨rfl, by decide⟩
theorem drop_dig {c : Int} {r : List Int} (h : isDig c = true) : (c :: r).drop (digs (c :: r)) = r.drop (digs r) := by
  rw [digs_cons_yes h]; rfl
theorem map_two (o : Option Nat) (a : Nat) : (o.map (· + a)).map (· + 1) = o.map (· + (a + 1)) := by
  cases o with
  | none => rfl
  | some m => simp only [Option.map_some, Option.some.injEq]; omega
theorem map_zero (o : Option Nat) : o.map (· + 0) = o := by cases o <;> rfl

theorem a5 (l : List Int) : autR 5 l = (expL (l.drop (digs l))).map (· + digs l) := by
  induction l with
  | nil => rfl
  | cons c r ih =>
    cases h : isDig c with
    | true => rw [autR, show stepA 5 c = 5 from by simp [stepA, h], if_neg (by decide), ih, drop_dig h, digs_cons_yes h, map_two]
    | false =>
      rw [digs_cons_no h, List.drop_zero, map_zero]
      cases he : isExp c with
      | true => rw [autR, show stepA 5 c = 6 from by simp [stepA, h, he], if_neg (by decide), exp6 he]
      | false => rw [autR, show stepA 5 c = 9 from by simp [stepA, h, he], if_pos rfl, exp0 he]; rfl
theorem a4 (l : List Int) : autR 4 l = if digs l = 0 then none else (expL (l.drop (digs l))).map (· + digs l) := by
  cases l with
  | nil => rfl
  | cons c r =>
    cases h : isDig c with
    | true => rw [autR, show stepA 4 c = 5 from by simp [stepA, h], if_neg (by decide), a5, drop_dig h, digs_cons_yes h, map_two, if_neg (by omega)]
    | false => rw [autR, show stepA 4 c = 9 from by simp [stepA, h], if_pos rfl, digs_cons_no h, if_pos rfl]; rfl
theorem frac4 (r : List Int) : fracL (46 :: r) = (autR 4 r).map (· + 1) := by
  unfold fracL
  rw [hd_cons, if_pos rfl, a4]
  have e1 : (46 :: r).drop 1 = r := rfl
  rw [e1]
  by_cases hd0 : digs r = 0
  · rw [if_pos hd0, if_pos hd0]; rfl
  · rw [if_neg hd0, if_neg hd0, map_two, show (46 :: r).drop (1 + digs r) = r.drop (digs r) from by rw [Nat.add_comm]; rfl, Nat.add_comm]
theorem frac_not {c : Int} {r : List Int} (h : c ≠ 46) : fracL (c :: r) = expL (c :: r) := by
  unfold fracL; rw [hd_cons, if_neg h]
theorem a2 (l : List Int) : autR 2 l = fracL l := by
  cases l with
  | nil => rfl
  | cons c r =>
    by_cases h46 : c = 46
    · subst h46
      rw [autR, show stepA 2 46 = 4 from rfl, if_neg (by decide), frac4]
    · rw [frac_not h46]
      cases he : isExp c with
      | true => rw [autR, show stepA 2 c = 6 from by simp [stepA, h46, he], if_neg (by decide), exp6 he]
      | false => rw [autR, show stepA 2 c = 9 from by simp [stepA, h46, he], if_pos rfl, exp0 he]; rfl
theorem a3 (l : List Int) : autR 3 l = (fracL (l.drop (digs l))).map (· + digs l) := by
  induction l with
  | nil => rfl
  | cons c r ih =>
    cases h : isDig c with
    | true => rw [autR, show stepA 3 c = 3 from by simp [stepA, h], if_neg (by decide), ih, drop_dig h, digs_cons_yes h, map_two]
    | false =>
      rw [digs_cons_no h, List.drop_zero, map_zero]
      by_cases h46 : c = 46
      · subst h46
        rw [autR, show stepA 3 46 = 4 from rfl, if_neg (by decide), frac4]
      · rw [frac_not h46]
        cases he : isExp c with
        | true => rw [autR, show stepA 3 c = 6 from by simp [stepA, h, h46, he], if_neg (by decide), exp6 he]
        | false => rw [autR, show stepA 3 c = 9 from by simp [stepA, h, h46, he], if_pos rfl, exp0 he]; rfl
theorem int_cons {c : Int} {r : List Int} (h : isDig c = true) (h0 : c ≠ 48) : intL (c :: r) = (autR 3 r).map (· + 1) := by
  unfold intL
  rw [hd_cons, if_pos h, if_neg h0, a3, drop_dig h, digs_cons_yes h, map_two]
theorem int_zero' (r : List Int) : intL (48 :: r) = (autR 2 r).map (· + 1) := by
  unfold intL
  rw [hd_cons, if_pos (by decide), if_pos rfl, a2]; rfl
theorem int_no {c : Int} {r : List Int} (h : isDig c = false) : intL (c :: r) = none := by
  unfold intL; rw [hd_cons, if_neg (by rw [h]; decide)]
theorem a1 (l : List Int) : autR 1 l = intL l := by
  cases l with
  | nil => rfl
  | cons c r =>
    by_cases h0 : c = 48
    · subst h0
      rw [autR, show stepA 1 48 = 2 from rfl, if_neg (by decide), int_zero']
    · cases h : isDig c with
      | true => rw [autR, show stepA 1 c = 3 from by simp [stepA, h, h0], if_neg (by decide), int_cons h h0]
      | false => rw [autR, show stepA 1 c = 9 from by simp [stepA, h, h0], if_pos rfl, int_no h]; rfl
/-- The automaton reads just what numL says. -/
theorem a0 (l : List Int) : autR 0 l = numL l := by
  cases l with
  | nil => rfl
  | cons c r =>
    unfold numL
    rw [hd_cons]
    by_cases h45 : c = 45
    · subst h45
      rw [autR, show stepA 0 45 = 1 from rfl, if_neg (by decide), a1, if_pos rfl]; rfl
    · rw [if_neg h45]
      by_cases h0 : c = 48
      · subst h0
        rw [autR, show stepA 0 48 = 2 from rfl, if_neg (by decide), int_zero']
      · cases h : isDig c with
        | true => rw [autR, show stepA 0 c = 3 from by simp [stepA, h, h0, h45], if_neg (by decide), int_cons h h0]
        | false => rw [autR, show stepA 0 c = 9 from by simp [stepA, h, h0, h45], if_pos rfl, int_no h]; rfl

theorem aut_end {zs : List Int} {p : Nat} {st : Int} (h : zs.length ≤ p) : place p (autR st (zs.drop p)) = if acc st = true then (p : Int) else -1 := by
  rw [List.drop_of_length_le h, autR]
  split <;> rfl
theorem aut_stop {zs : List Int} {p : Nat} {st : Int} (h : p < zs.length) (hs : stepA st (zs.getD p 0) = 9) : place p (autR st (zs.drop p)) = if acc st = true then (p : Int) else -1 := by
  rw [drop_cons h, autR, if_pos hs]
  split <;> rfl
theorem aut_next {zs : List Int} {p : Nat} {st : Int} (h : p < zs.length) (hs : stepA st (zs.getD p 0) ≠ 9) : place p (autR st (zs.drop p)) = place (p + 1) (autR (stepA st (zs.getD p 0)) (zs.drop (p + 1))) := by
  rw [drop_cons h, autR, if_neg hs, place_map]
theorem step_range (st c : Int) : 1 ≤ stepA st c ∧ stepA st c ≤ 9 := by
  unfold stepA
  repeat' split
  all_goals omega

end Go.Proofs.Qxb6601304a.Plain
