/-
  Plain functions on lists of bytes (as integers) for the splitter's laws. No Go here.
-/
namespace Go.Proofs.Qxb6600131a.Plain

/-- Past the opening quote: how many bytes to just behind the closing quote; none where the text ends inside the string. -/
def scan : List Int → Option Nat
  | [] => none
  | [c] => if c = 92 then none else if c = 34 then some 1 else none
  | c :: d :: r => if c = 92 then (scan r).map (· + 2) else if c = 34 then some 1 else (scan (d :: r)).map (· + 1)

/-- The same from place k of zs, as a place. -/
def scanFrom (zs : List Int) (k : Nat) : Option Nat := (scan (zs.drop k)).map (· + k)

theorem scan_esc (r : List Int) : scan (92 :: r) = (scan (r.drop 1)).map (· + 2) := by
  cases r with
  | nil => simp [scan]
  | cons d r => simp [scan]

theorem scan_quote (r : List Int) : scan (34 :: r) = some 1 := by
  cases r with
  | nil => simp [scan]
  | cons d r => simp [scan]

theorem scan_else (c : Int) (r : List Int) (h1 : c ≠ 92) (h2 : c ≠ 34) : scan (c :: r) = (scan r).map (· + 1) := by
  cases r with
  | nil => simp [scan, h1, h2]
  | cons d r => simp [scan, h1, h2]

theorem drop_cons {zs : List Int} {k : Nat} (h : k < zs.length) : zs.drop k = zs.getD k 0 :: zs.drop (k + 1) := by
  rw [List.drop_eq_getElem_cons h, List.getD_eq_getElem?_getD, List.getElem?_eq_getElem h]; rfl

theorem scanFrom_end {zs : List Int} {k : Nat} (h : zs.length ≤ k) : scanFrom zs k = none := by
  unfold scanFrom; rw [List.drop_of_length_le h]; rfl

theorem scanFrom_esc {zs : List Int} {k : Nat} (h : k < zs.length) (hc : zs.getD k 0 = 92) : scanFrom zs k = scanFrom zs (k + 2) := by
  unfold scanFrom
  rw [drop_cons h, hc, scan_esc, List.drop_drop]
  cases scan (zs.drop (k + 1 + 1)) <;> simp [Nat.add_comm, Nat.add_left_comm]

theorem scanFrom_quote {zs : List Int} {k : Nat} (h : k < zs.length) (hc : zs.getD k 0 = 34) : scanFrom zs k = some (k + 1) := by
  unfold scanFrom
  rw [drop_cons h, hc, scan_quote]; simp [Nat.add_comm]

theorem scanFrom_else {zs : List Int} {k : Nat} (h : k < zs.length) (h1 : zs.getD k 0 ≠ 92) (h2 : zs.getD k 0 ≠ 34) : scanFrom zs k = scanFrom zs (k + 1) := by
  unfold scanFrom
  rw [drop_cons h, scan_else _ _ h1 h2]
  cases scan (zs.drop (k + 1)) <;> simp [Nat.add_comm, Nat.add_left_comm]

theorem scanFrom_le {zs : List Int} {k j : Nat} (h : scanFrom zs k = some j) : j ≤ zs.length ∧ k < j := by
  unfold scanFrom at h
  cases hs : scan (zs.drop k) with
  | none => simp [hs] at h
  | some m =>
    simp [hs] at h
    have key : ∀ (n : Nat) (l : List Int), l.length ≤ n → ∀ m, scan l = some m → m ≤ l.length ∧ 0 < m := by
      intro n
      induction n with
      | zero => intro l hl m hm; have : l = [] := List.eq_nil_of_length_eq_zero (by omega); subst this; simp [scan] at hm
      | succ n ih =>
        intro l hl m hm
        cases l with
        | nil => simp [scan] at hm
        | cons c r =>
          by_cases h92 : c = 92
          · subst h92
            rw [scan_esc] at hm
            cases hr : scan (r.drop 1) with
            | none => rw [hr] at hm; cases hm
            | some q =>
              simp only [hr, Option.map_some, Option.some.injEq] at hm
              have hd : (r.drop 1).length = r.length - 1 := by simp
              have := ih (r.drop 1) (by simp at hl; omega) q hr
              simp at hl ⊢
              by_cases hr0 : r.length = 0
              · omega
              · omega
          · by_cases h34 : c = 34
            · subst h34; rw [scan_quote] at hm; simp at hm; simp; omega
            · rw [scan_else c r h92 h34] at hm
              cases hr : scan r with
              | none => simp [hr] at hm
              | some q =>
                simp [hr] at hm
                have := ih r (by simp at hl; omega) q hr
                simp; omega
    have := key _ _ (Nat.le_refl _) m hs
    have hl : (zs.drop k).length = zs.length - k := by simp
    omega

/-- The body of a string as it is written: a backslash ahead of a quote, a backslash or a control byte. -/
def encOne (b : Int) : List Int := if b = 34 ∨ b = 92 ∨ b < 32 then [92, b] else [b]
def enc : List Int → List Int
  | [] => []
  | b :: r => encOne b ++ enc r

theorem enc_snoc (l : List Int) (b : Int) : enc (l ++ [b]) = enc l ++ encOne b := by
  induction l with
  | nil => simp [enc]
  | cons c r ih => simp [enc, ih]

theorem take_snoc {zs : List Int} {k : Nat} (h : k < zs.length) : zs.take (k + 1) = zs.take k ++ [zs.getD k 0] := by
  rw [List.take_succ_eq_append_getElem h, List.getD_eq_getElem?_getD, List.getElem?_eq_getElem h]; rfl

theorem enc_take {zs : List Int} {k : Nat} {z : Int} (h : k < zs.length) (hz : z = zs.getD k 0) : enc (zs.take (k + 1)) = enc (zs.take k) ++ encOne z := by
  rw [take_snoc h, enc_snoc, hz]

theorem encOne_yes {z : Int} (h : z = 34 ∨ z = 92 ∨ z < 32) : encOne z = [92, z] := if_pos h
theorem encOne_no {z : Int} (h : ¬ (z = 34 ∨ z = 92 ∨ z < 32)) : encOne z = [z] := if_neg h

theorem enc_length (l : List Int) : (enc l).length ≤ 2 * l.length := by
  induction l with
  | nil => simp [enc]
  | cons c r ih =>
    simp only [enc, List.length_append, List.length_cons]
    have : (encOne c).length ≤ 2 := by unfold encOne; split <;> simp
    omega

theorem scan_enc (l tail : List Int) : scan (enc l ++ 34 :: tail) = some ((enc l).length + 1) := by
  induction l with
  | nil => simp [enc, scan_quote]
  | cons b r ih =>
    simp only [enc, encOne]
    by_cases h : b = 34 ∨ b = 92 ∨ b < 32
    · rw [if_pos h]
      simp only [List.cons_append, List.nil_append]
      rw [scan_esc]
      simp [ih, Nat.add_assoc]
    · rw [if_neg h]
      simp only [List.cons_append, List.nil_append]
      rw [scan_else b _ (by omega) (by omega), ih]
      simp

/-- The law's core: at the opening quote, the string's end is found. -/
theorem scanFrom_enc (pre body tail : List Int) : scanFrom (pre ++ 34 :: (enc body ++ 34 :: tail)) (pre.length + 1) = some (pre.length + 1 + (enc body).length + 1) := by
  unfold scanFrom
  rw [show pre ++ 34 :: (enc body ++ 34 :: tail) = (pre ++ [34]) ++ (enc body ++ 34 :: tail) from by simp, show pre.length + 1 = (pre ++ [(34 : Int)]).length from by simp, List.drop_left, scan_enc]
  simp; omega

/-- Whitespace. -/
def isWs (c : Int) : Bool := c == 32 || c == 9 || c == 10 || c == 13
/-- The place of the first byte from i on that is no whitespace; the text's end where there is none. -/
def wsEnd (zs : List Int) (i : Nat) : Nat := i + ((zs.drop i).takeWhile isWs).length

theorem wsEnd_end {zs : List Int} {i : Nat} (h : zs.length ≤ i) : wsEnd zs i = i := by
  unfold wsEnd; rw [List.drop_of_length_le h]; rfl
theorem wsEnd_yes {zs : List Int} {i : Nat} (h : i < zs.length) (hc : isWs (zs.getD i 0) = true) : wsEnd zs i = wsEnd zs (i + 1) := by
  unfold wsEnd; rw [drop_cons h, List.takeWhile_cons, if_pos hc]; simp; omega
theorem wsEnd_no {zs : List Int} {i : Nat} (h : i < zs.length) (hc : isWs (zs.getD i 0) = false) : wsEnd zs i = i := by
  unfold wsEnd; rw [drop_cons h, List.takeWhile_cons, if_neg (by rw [hc]; decide)]; rfl
theorem wsEnd_le {zs : List Int} {i : Nat} (h : i ≤ zs.length) : i ≤ wsEnd zs i ∧ wsEnd zs i ≤ zs.length := by
  unfold wsEnd
  have h1 : ((zs.drop i).takeWhile isWs).length ≤ (zs.drop i).length := (List.takeWhile_sublist isWs).length_le
  simp at h1 ⊢
  omega

/-- A run of whitespace is written: one byte for each. -/
def ws (b : Int) : Int := if b % 4 = 0 then 32 else if b % 4 = 1 then 9 else if b % 4 = 2 then 10 else 13
theorem ws_isWs (b : Int) : isWs (ws b) = true := by 
  unfold ws
  split
  · rfl
  · split
    · rfl
    · split <;> rfl

/-- Behind a run of whitespace at place i: the run's end, if no whitespace follows. -/
theorem wsEnd_run (pre lead rest : List Int) (h : ∀ c ∈ lead, isWs c = true) (hr : ∀ c r, rest = c :: r → isWs c = false) : wsEnd (pre ++ (lead ++ rest)) pre.length = pre.length + lead.length := by
  unfold wsEnd
  rw [List.drop_left]
  congr 1
  induction lead with
  | nil =>
    cases rest with
    | nil => rfl
    | cons c r => rw [List.nil_append, List.takeWhile_cons, if_neg (by simp [hr c r rfl])]
  | cons c r ih =>
    rw [List.cons_append, List.takeWhile_cons, if_pos (h c (by simp)), List.length_cons, List.length_cons, ih (fun c hc => h c (by simp [hc]))]

end Go.Proofs.Qxb6600131a.Plain
