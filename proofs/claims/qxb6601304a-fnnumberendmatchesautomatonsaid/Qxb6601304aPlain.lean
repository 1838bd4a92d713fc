/-
  Plain functions on lists of bytes (as integers): JSON's numbers. No Go here.
-/
namespace Go.Proofs.Qxb6601304a.Plain

def isDig (c : Int) : Bool := decide (48 ≤ c) && decide (c ≤ 57)
def hd (l : List Int) : Int := l.headD 0
/-- How many digits stand ahead. -/
def digs (l : List Int) : Nat := (l.takeWhile isDig).length
def expL (l : List Int) : Option Nat :=
  if hd l = 101 ∨ hd l = 69 then
    if digs (l.drop (if hd (l.drop 1) = 43 ∨ hd (l.drop 1) = 45 then 2 else 1)) = 0 then none
    else some ((if hd (l.drop 1) = 43 ∨ hd (l.drop 1) = 45 then 2 else 1) + digs (l.drop (if hd (l.drop 1) = 43 ∨ hd (l.drop 1) = 45 then 2 else 1)))
  else some 0
def fracL (l : List Int) : Option Nat :=
  if hd l = 46 then
    if digs (l.drop 1) = 0 then none else (expL (l.drop (1 + digs (l.drop 1)))).map (· + (1 + digs (l.drop 1)))
  else expL l
def intL (l : List Int) : Option Nat :=
  if isDig (hd l) = true then
    if hd l = 48 then (fracL (l.drop 1)).map (· + 1) else (fracL (l.drop (digs l))).map (· + digs l)
  else none
/-- How many bytes the number takes that stands ahead; none where no number does. -/
def numL (l : List Int) : Option Nat := if hd l = 45 then (intL (l.drop 1)).map (· + 1) else intL l

/-- As a place: -1 where there is none. -/
def place (i : Nat) (o : Option Nat) : Int := match o with | some m => ((i + m : Nat) : Int) | none => -1

theorem hd_nil : hd [] = 0 := rfl
theorem hd_cons (c : Int) (r : List Int) : hd (c :: r) = c := rfl
theorem hd_take {l : List Int} {m : Nat} (h : 0 < m) : hd (l.take m) = hd l := by
  cases l with
  | nil => simp
  | cons c r => match m, h with
    | m + 1, _ => rfl
theorem digs_take (l : List Int) : ∀ q, digs l ≤ q → digs (l.take q) = digs l := by
  induction l with
  | nil => intro q _; simp [digs]
  | cons c r ih =>
    intro q hq
    unfold digs at hq ih ⊢
    by_cases hc : isDig c = true
    · rw [List.takeWhile_cons, if_pos hc, List.length_cons] at hq ⊢
      match q, hq with
      | q + 1, hq =>
        rw [List.take_succ_cons, List.takeWhile_cons, if_pos hc, List.length_cons, ih q (by omega)]
    · rw [List.takeWhile_cons, if_neg hc] at hq ⊢
      cases q with
      | zero => simp
      | succ q => rw [List.take_succ_cons, List.takeWhile_cons, if_neg hc]
theorem digs_le (l : List Int) : digs l ≤ l.length := (List.takeWhile_sublist isDig).length_le
theorem drop_take' (l : List Int) (a e : Nat) : (l.take (e + a)).drop a = (l.drop a).take e := by
  rw [List.drop_take]; congr 1; omega
theorem hd_drop_pos {l : List Int} {i : Nat} (h : hd (l.drop i) ≠ 0) : i < l.length := by
  by_cases hi : i < l.length
  · exact hi
  · exfalso; apply h; rw [List.drop_of_length_le (by omega)]; rfl

theorem exp_self {l : List Int} {m : Nat} (h : expL l = some m) : m ≤ l.length ∧ expL (l.take m) = some m := by
  by_cases he : hd l = 101 ∨ hd l = 69
  · have hl : 0 < l.length := hd_drop_pos (l := l) (i := 0) (by rw [List.drop_zero]; omega)
    by_cases hs : hd (l.drop 1) = 43 ∨ hd (l.drop 1) = 45
    · have hl1 : 1 < l.length := hd_drop_pos (l := l) (i := 1) (by omega)
      unfold expL at h
      simp only [if_pos he, if_pos hs] at h
      by_cases hd0 : digs (l.drop 2) = 0
      · rw [if_pos hd0] at h; cases h
      · rw [if_neg hd0] at h
        simp only [Option.some.injEq] at h
        have hdl := digs_le (l.drop 2)
        simp only [List.length_drop] at hdl
        refine ⟨by omega, ?_⟩
        have e1 : hd (l.take m) = hd l := hd_take (by omega)
        have e2 : hd ((l.take m).drop 1) = hd (l.drop 1) := by
          rw [show m = (m - 1) + 1 from by omega, drop_take', hd_take (by omega)]
        have e3 : digs ((l.take m).drop 2) = digs (l.drop 2) := by
          rw [show m = (m - 2) + 2 from by omega, drop_take', digs_take _ _ (by omega)]
        unfold expL
        rw [e1, e2]
        simp only [if_pos he, if_pos hs, e3, if_neg hd0]
        congr 1
    · unfold expL at h
      simp only [if_pos he, if_neg hs] at h
      by_cases hd0 : digs (l.drop 1) = 0
      · rw [if_pos hd0] at h; cases h
      · rw [if_neg hd0] at h
        simp only [Option.some.injEq] at h
        have hdl := digs_le (l.drop 1)
        simp only [List.length_drop] at hdl
        refine ⟨by omega, ?_⟩
        have e1 : hd (l.take m) = hd l := hd_take (by omega)
        have e2 : hd ((l.take m).drop 1) = hd (l.drop 1) := by
          rw [show m = (m - 1) + 1 from by omega, drop_take', hd_take (by omega)]
        have e3 : digs ((l.take m).drop 1) = digs (l.drop 1) := by
          rw [show m = (m - 1) + 1 from by omega, drop_take', digs_take _ _ (by omega)]
        unfold expL
        rw [e1, e2]
        simp only [if_pos he, if_neg hs, e3, if_neg hd0]
        congr 1
  · unfold expL at h
    rw [if_neg he] at h
    simp only [Option.some.injEq] at h
    subst h
    refine ⟨by omega, ?_⟩
    rw [List.take_zero]; rfl

theorem frac_self {l : List Int} {m : Nat} (h : fracL l = some m) : m ≤ l.length ∧ fracL (l.take m) = some m := by
  by_cases hf : hd l = 46
  · unfold fracL at h
    rw [if_pos hf] at h
    by_cases hd0 : digs (l.drop 1) = 0
    · rw [if_pos hd0] at h; cases h
    · rw [if_neg hd0] at h
      cases he : expL (l.drop (1 + digs (l.drop 1))) with
      | none => rw [he] at h; cases h
      | some q =>
        rw [he] at h
        simp only [Option.map_some, Option.some.injEq] at h
        have h1 := exp_self he
        have hl : 0 < l.length := hd_drop_pos (l := l) (i := 0) (by rw [List.drop_zero]; omega)
        have hdl := digs_le (l.drop 1)
        have h11 := h1.1
        simp only [List.length_drop] at hdl h11
        refine ⟨by omega, ?_⟩
        have e1 : hd (l.take m) = hd l := hd_take (by omega)
        have e3 : digs ((l.take m).drop 1) = digs (l.drop 1) := by
          rw [show m = (m - 1) + 1 from by omega, drop_take', digs_take _ _ (by omega)]
        unfold fracL
        rw [e1, if_pos hf, e3, if_neg hd0, ← h, drop_take', h1.2]
        rfl
  · unfold fracL at h
    rw [if_neg hf] at h
    have h1 := exp_self h
    refine ⟨h1.1, ?_⟩
    unfold fracL
    rw [if_neg ?_]
    · exact h1.2
    · by_cases hm : 0 < m
      · rw [hd_take hm]; exact hf
      · have : m = 0 := by omega
        subst this
        rw [List.take_zero, hd_nil]; decide

theorem dig_pos {l : List Int} (h : isDig (hd l) = true) : 0 < digs l ∧ 0 < l.length := by
  cases l with
  | nil => exact absurd h (by decide)
  | cons c r =>
    rw [hd_cons] at h
    unfold digs
    rw [List.takeWhile_cons, if_pos h]
    simp

theorem int_self {l : List Int} {m : Nat} (h : intL l = some m) : 0 < m ∧ m ≤ l.length ∧ intL (l.take m) = some m := by
  by_cases hi : isDig (hd l) = true
  · obtain ⟨hp, hl⟩ := dig_pos hi
    unfold intL at h
    rw [if_pos hi] at h
    by_cases h0 : hd l = 48
    · rw [if_pos h0] at h
      cases hf : fracL (l.drop 1) with
      | none => rw [hf] at h; cases h
      | some q =>
        rw [hf] at h
        simp only [Option.map_some, Option.some.injEq] at h
        have h1 := frac_self hf
        have h11 := h1.1
        simp only [List.length_drop] at h11
        refine ⟨by omega, by omega, ?_⟩
        unfold intL
        rw [hd_take (by omega), if_pos hi, if_pos h0, ← h, drop_take', h1.2]
        rfl
    · rw [if_neg h0] at h
      cases hf : fracL (l.drop (digs l)) with
      | none => rw [hf] at h; cases h
      | some q =>
        rw [hf] at h
        simp only [Option.map_some, Option.some.injEq] at h
        have h1 := frac_self hf
        have h11 := h1.1
        have hdl := digs_le l
        simp only [List.length_drop] at h11
        refine ⟨by omega, by omega, ?_⟩
        unfold intL
        rw [hd_take (by omega), if_pos hi, if_neg h0, digs_take l m (by omega), ← h, drop_take', h1.2]
        rfl
  · unfold intL at h
    rw [if_neg hi] at h
    cases h

/-- The number's text, cut out alone, is read whole. -/
theorem num_self {l : List Int} {m : Nat} (h : numL l = some m) : 0 < m ∧ m ≤ l.length ∧ numL (l.take m) = some m := by
  unfold numL at h
  by_cases h0 : hd l = 45
  · rw [if_pos h0] at h
    cases hi : intL (l.drop 1) with
    | none => rw [hi] at h; cases h
    | some q =>
      rw [hi] at h
      simp only [Option.map_some, Option.some.injEq] at h
      have h1 := int_self hi
      have hl : 0 < l.length := hd_drop_pos (l := l) (i := 0) (by rw [List.drop_zero]; omega)
      have h11 := h1.2.1
      simp only [List.length_drop] at h11
      refine ⟨by omega, by omega, ?_⟩
      unfold numL
      rw [hd_take (by omega), if_pos h0, ← h, drop_take', h1.2.2]
      rfl
  · rw [if_neg h0] at h
    have h1 := int_self h
    refine ⟨h1.1, h1.2.1, ?_⟩
    unfold numL
    rw [hd_take h1.1, if_neg h0]
    exact h1.2.2

theorem hd_drop (zs : List Int) (i : Nat) : hd (zs.drop i) = zs.getD i 0 := by
  unfold hd
  rw [List.headD_eq_head?_getD, List.head?_drop, List.getD_eq_getElem?_getD]

/-- The run of digits that stands ahead; none where there is none. -/
def digO (l : List Int) : Option Nat := if digs l = 0 then none else some (digs l)
theorem place_map (i k : Nat) (o : Option Nat) : place i (o.map (· + k)) = place (i + k) o := by
  cases o with
  | none => rfl
  | some m => simp only [Option.map_some, place]; omega
theorem drop_cons {zs : List Int} {k : Nat} (h : k < zs.length) : zs.drop k = zs.getD k 0 :: zs.drop (k + 1) := by
  rw [List.drop_eq_getElem_cons h, List.getD_eq_getElem?_getD, List.getElem?_eq_getElem h]; rfl
theorem digs_yes {zs : List Int} {k : Nat} (h : k < zs.length) (hd : isDig (zs.getD k 0) = true) : digs (zs.drop k) = 1 + digs (zs.drop (k + 1)) := by
  unfold digs; rw [drop_cons h, List.takeWhile_cons, if_pos hd, List.length_cons]; omega
theorem digs_no {zs : List Int} {k : Nat} (h : k < zs.length) (hd : isDig (zs.getD k 0) = false) : digs (zs.drop k) = 0 := by
  unfold digs; rw [drop_cons h, List.takeWhile_cons, if_neg (by rw [hd]; decide)]; rfl
theorem digs_end {zs : List Int} {k : Nat} (h : zs.length ≤ k) : digs (zs.drop k) = 0 := by
  rw [List.drop_of_length_le h]; rfl
theorem place_dig (i k : Nat) (l : List Int) (hk : i ≤ k) (h : digs l = k - i) : place i (digO l) = if k = i then -1 else (k : Int) := by
  unfold digO
  by_cases e : k = i
  · rw [if_pos (by omega), if_pos e]; rfl
  · rw [if_neg (by omega), if_neg e]; simp only [place]; omega

theorem num_minus {zs : List Int} {i : Nat} (h : zs.getD i 0 = 45) : place i (numL (zs.drop i)) = place (i + 1) (intL (zs.drop (i + 1))) := by
  unfold numL; rw [hd_drop, if_pos h, place_map, List.drop_drop]
theorem num_plain {zs : List Int} {i : Nat} (h : zs.getD i 0 ≠ 45) : place i (numL (zs.drop i)) = place i (intL (zs.drop i)) := by
  unfold numL; rw [hd_drop, if_neg h]
theorem int_none {zs : List Int} {q : Nat} (h : isDig (zs.getD q 0) = false) : place q (intL (zs.drop q)) = -1 := by
  unfold intL; rw [hd_drop, if_neg (by rw [h]; decide)]; rfl
theorem int_zero {zs : List Int} {q : Nat} (h : zs.getD q 0 = 48) : place q (intL (zs.drop q)) = place (q + 1) (fracL (zs.drop (q + 1))) := by
  unfold intL; rw [hd_drop, if_pos (by rw [h]; decide), if_pos h, place_map, List.drop_drop]
theorem int_more {zs : List Int} {q : Nat} (h : isDig (zs.getD q 0) = true) (h0 : zs.getD q 0 ≠ 48) : place q (intL (zs.drop q)) = place (q + digs (zs.drop q)) (fracL (zs.drop (q + digs (zs.drop q)))) := by
  unfold intL; rw [hd_drop, if_pos h, if_neg h0, place_map, List.drop_drop]
theorem frac_dot {zs : List Int} {q : Nat} (h : zs.getD q 0 = 46) (hd : digs (zs.drop (q + 1)) = 0) : place q (fracL (zs.drop q)) = -1 := by
  unfold fracL; rw [hd_drop, if_pos h, List.drop_drop, if_pos hd]; rfl
theorem frac_more {zs : List Int} {q : Nat} (h : zs.getD q 0 = 46) (hd : digs (zs.drop (q + 1)) ≠ 0) : place q (fracL (zs.drop q)) = place (q + 1 + digs (zs.drop (q + 1))) (expL (zs.drop (q + 1 + digs (zs.drop (q + 1))))) := by
  unfold fracL; rw [hd_drop, if_pos h, List.drop_drop, if_neg hd, place_map, List.drop_drop]
  rw [show q + (1 + digs (zs.drop (q + 1))) = q + 1 + digs (zs.drop (q + 1)) from by omega]
theorem frac_plain {zs : List Int} {q : Nat} (h : zs.getD q 0 ≠ 46) : place q (fracL (zs.drop q)) = place q (expL (zs.drop q)) := by
  unfold fracL; rw [hd_drop, if_neg h]
theorem exp_plain {zs : List Int} {q : Nat} (h : ¬ (zs.getD q 0 = 101 ∨ zs.getD q 0 = 69)) : place q (expL (zs.drop q)) = (q : Int) := by
  unfold expL; rw [hd_drop, if_neg h]; rfl
theorem exp_sign {zs : List Int} {q : Nat} (h : zs.getD q 0 = 101 ∨ zs.getD q 0 = 69) (hs : zs.getD (q + 1) 0 = 43 ∨ zs.getD (q + 1) 0 = 45) : place q (expL (zs.drop q)) = place (q + 2) (digO (zs.drop (q + 2))) := by
  unfold expL digO
  have e : hd ((zs.drop q).drop 1) = zs.getD (q + 1) 0 := by rw [List.drop_drop, hd_drop]
  rw [hd_drop, if_pos h, e]
  simp only [if_pos hs, List.drop_drop]
  split
  · rfl
  · simp only [place]; omega
theorem exp_bare {zs : List Int} {q : Nat} (h : zs.getD q 0 = 101 ∨ zs.getD q 0 = 69) (hs : ¬ (zs.getD (q + 1) 0 = 43 ∨ zs.getD (q + 1) 0 = 45)) : place q (expL (zs.drop q)) = place (q + 1) (digO (zs.drop (q + 1))) := by
  unfold expL digO
  have e : hd ((zs.drop q).drop 1) = zs.getD (q + 1) 0 := by rw [List.drop_drop, hd_drop]
  rw [hd_drop, if_pos h, e]
  simp only [if_neg hs, List.drop_drop]
  split
  · rfl
  · simp only [place]; omega
theorem dig_at {zs : List Int} {q : Nat} (h : isDig (zs.getD q 0) = true) : digs (zs.drop q) ≠ 0 := by
  have := (dig_pos (l := zs.drop q) (by rw [hd_drop]; exact h)).1
  omega
theorem getD_end {zs : List Int} {q : Nat} (h : zs.length ≤ q) : zs.getD q 0 = 0 := by
  rw [List.getD_eq_getElem?_getD, List.getElem?_eq_none h]; rfl
theorem place_digO {q : Nat} {l : List Int} (h : digs l ≠ 0) : place q (digO l) = ((q + digs l : Nat) : Int) := by
  unfold digO; rw [if_neg h]; rfl

end Go.Proofs.Qxb6601304a.Plain
