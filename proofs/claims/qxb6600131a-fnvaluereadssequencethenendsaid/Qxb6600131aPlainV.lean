/-
  Plain laws on whole values: what the splitter's 'value' reads. No Go here.
-/
import Derived.Test.Qxb6600131aPlain
namespace Go.Proofs.Qxb6600131a.Plain

def opens (c : Int) : Bool := c == 123 || c == 91
def shuts (c : Int) : Bool := c == 125 || c == 93
/-- The depth behind a byte that is no quote. -/
def turn (c d : Int) : Int := if opens c = true then d + 1 else if shuts c = true then d - 1 else d

/-- From a place on at depth d: how many bytes to just behind the byte that brings the depth to nought; strings are skipped whole. -/
def dwalk : Nat → List Int → Int → Option Nat
  | 0, _, _ => none
  | _ + 1, [], _ => none
  | f + 1, c :: r, d =>
    if c = 34 then match scan r with
      | none => none
      | some k => (dwalk f (r.drop k) d).map (· + (k + 1))
    else if turn c d = 0 then some 1 else (dwalk f r (turn c d)).map (· + 1)

/-- At depth 1 or more v is passed over whole, the depth as it was. -/
def Flat (v : List Int) : Prop := ∀ (rest : List Int) (d : Int) (f m : Nat), 1 ≤ d → dwalk f rest d = some m → ∃ f', dwalk f' (v ++ rest) d = some (v.length + m)

theorem flat_nil : Flat [] := fun rest d f m _ h => ⟨f, by simpa using h⟩
theorem flat_append {a b : List Int} (ha : Flat a) (hb : Flat b) : Flat (a ++ b) := by
  intro rest d f m hd h
  obtain ⟨f1, h1⟩ := hb rest d f m hd h
  obtain ⟨f2, h2⟩ := ha (b ++ rest) d f1 _ hd h1
  exact ⟨f2, by rw [List.append_assoc, h2, List.length_append]; congr 1; omega⟩

theorem dwalk_quote (f : Nat) (r : List Int) (d : Int) (k : Nat) (h : scan r = some k) : dwalk (f + 1) (34 :: r) d = (dwalk f (r.drop k) d).map (· + (k + 1)) := by
  rw [dwalk, if_pos rfl, h]
theorem dwalk_stop (f : Nat) (c : Int) (r : List Int) (d : Int) (h : c ≠ 34) (ht : turn c d = 0) : dwalk (f + 1) (c :: r) d = some 1 := by
  rw [dwalk, if_neg h, if_pos ht]
theorem dwalk_next (f : Nat) (c : Int) (r : List Int) (d : Int) (h : c ≠ 34) (ht : turn c d ≠ 0) : dwalk (f + 1) (c :: r) d = (dwalk f r (turn c d)).map (· + 1) := by
  rw [dwalk, if_neg h, if_neg ht]

theorem flat_one {c : Int} (h : c ≠ 34) (ho : opens c = false) (hs : shuts c = false) : Flat [c] := by
  intro rest d f m hd hm
  have ht : turn c d = d := by unfold turn; rw [if_neg (by simp [ho]), if_neg (by simp [hs])]
  refine ⟨f + 1, ?_⟩
  rw [List.singleton_append, dwalk_next f c rest d h (by omega), ht, hm]
  simp; omega

theorem flat_str (l : List Int) : Flat (34 :: (enc l ++ [34])) := by
  intro rest d f m hd hm
  have hsc : scan (enc l ++ 34 :: rest) = some ((enc l).length + 1) := scan_enc l rest
  refine ⟨f + 1, ?_⟩
  rw [show (34 :: (enc l ++ [34])) ++ rest = 34 :: (enc l ++ 34 :: rest) from by simp, dwalk_quote f _ d _ hsc]
  rw [show (enc l ++ 34 :: rest).drop ((enc l).length + 1) = rest from by rw [show enc l ++ 34 :: rest = (enc l ++ [34]) ++ rest from by simp, show (enc l).length + 1 = (enc l ++ [(34 : Int)]).length from by simp, List.drop_left], hm]
  simp; omega

/-- The two pairs of brackets. -/
def Pair (o s : Int) : Prop := (o = 91 ∧ s = 93) ∨ (o = 123 ∧ s = 125)

theorem turn_open {o s d : Int} (h : Pair o s) : turn o d = d + 1 ∧ o ≠ 34 := by
  rcases h with ⟨rfl, rfl⟩ | ⟨rfl, rfl⟩ <;> exact ⟨rfl, by decide⟩
theorem turn_shut {o s d : Int} (h : Pair o s) : turn s d = d - 1 ∧ s ≠ 34 := by
  rcases h with ⟨rfl, rfl⟩ | ⟨rfl, rfl⟩ <;> exact ⟨rfl, by decide⟩

theorem flat_comp {o s : Int} {inner : List Int} (hp : Pair o s) (hi : Flat inner) : Flat (o :: (inner ++ [s])) := by
  intro rest d f m hd hm
  have h1 : dwalk (f + 1) (s :: rest) (d + 1) = some (m + 1) := by
    have ht := turn_shut (d := d + 1) hp
    rw [dwalk_next f s rest (d + 1) ht.2 (by rw [ht.1]; omega), ht.1, show d + 1 - 1 = d from by omega, hm]; rfl
  obtain ⟨f', h2⟩ := hi (s :: rest) (d + 1) (f + 1) (m + 1) (by omega) h1
  have ht := turn_open (d := d) hp
  refine ⟨f' + 1, ?_⟩
  rw [show (o :: (inner ++ [s])) ++ rest = o :: (inner ++ s :: rest) from by simp, dwalk_next f' o _ d ht.2 (by rw [ht.1]; omega), ht.1, h2]
  simp; omega

theorem comp_reads {o s : Int} {inner tail : List Int} (hp : Pair o s) (hi : Flat inner) : ∃ f, dwalk f (o :: (inner ++ s :: tail)) 0 = some (inner.length + 2) := by
  have h1 : dwalk 1 (s :: tail) 1 = some 1 := by
    have ht := turn_shut (d := 1) hp
    exact dwalk_stop 0 s tail 1 ht.2 (by rw [ht.1]; omega)
  obtain ⟨f', h2⟩ := hi (s :: tail) 1 1 1 (by omega) h1
  have ht := turn_open (d := 0) hp
  refine ⟨f' + 1, ?_⟩
  rw [dwalk_next f' o _ 0 ht.2 (by rw [ht.1]; omega), ht.1, show (0 : Int) + 1 = 1 from rfl, h2]
  simp

/-- A byte that may follow a scalar. -/
def delim (c : Int) : Bool := c == 44 || c == 58 || c == 125 || c == 93 || isWs c
/-- A byte of a scalar. -/
def bare (c : Int) : Bool := !(delim c) && !(c == 34) && !(opens c) && !(c == 0)

/-- A whole value: a scalar, a string, or brackets round what is flat. -/
def Val (v : List Int) : Prop :=
  (v ≠ [] ∧ ∀ c ∈ v, bare c = true) ∨ (∃ l, v = 34 :: (enc l ++ [34])) ∨ (∃ o s inner, Pair o s ∧ Flat inner ∧ v = o :: (inner ++ [s]))

theorem bare_parts {c : Int} (h : bare c = true) : delim c = false ∧ c ≠ 34 ∧ opens c = false ∧ c ≠ 0 ∧ shuts c = false ∧ isWs c = false := by
  unfold bare at h
  simp only [Bool.and_eq_true, Bool.not_eq_true', beq_eq_false_iff_ne] at h
  obtain ⟨⟨⟨h1, h2⟩, h3⟩, h4⟩ := h
  refine ⟨h1, h2, h3, h4, ?_, ?_⟩
  · unfold delim at h1; unfold shuts; simp only [Bool.or_eq_false_iff] at h1 ⊢; exact ⟨h1.1.1.2, h1.1.2⟩
  · unfold delim at h1; simp only [Bool.or_eq_false_iff] at h1; exact h1.2

theorem flat_bare {v : List Int} (h : ∀ c ∈ v, bare c = true) : Flat v := by
  induction v with
  | nil => exact flat_nil
  | cons c r ih =>
    have hp := bare_parts (h c (by simp))
    exact flat_append (a := [c]) (flat_one hp.2.1 hp.2.2.1 hp.2.2.2.2.1) (ih fun c hc => h c (by simp [hc]))

theorem Val.flat {v : List Int} (h : Val v) : Flat v := by
  rcases h with ⟨_, h⟩ | ⟨l, rfl⟩ | ⟨o, s, inner, hp, hi, rfl⟩
  · exact flat_bare h
  · exact flat_str l
  · exact flat_comp hp hi

/-- What 'value' reads, standing at the first byte that is no whitespace: m bytes. -/
def Reads (rest : List Int) (m : Nat) : Prop :=
  (∃ r k, rest = 34 :: r ∧ scan r = some k ∧ m = k + 1) ∨
  (∃ c r f, opens c = true ∧ rest = c :: r ∧ dwalk f rest 0 = some m) ∨
  (∃ v tail, rest = v ++ tail ∧ v.length = m ∧ v ≠ [] ∧ (∀ c ∈ v, bare c = true) ∧ (tail = [] ∨ ∃ c r, tail = c :: r ∧ delim c = true))

/-- The first byte of a string, an object, an array. -/
def whole (c : Int) : Bool := c == 34 || c == 123 || c == 91

theorem Val.reads {v tail : List Int} (h : Val v) (ht : whole (v.getD 0 0) = true ∨ tail = [] ∨ ∃ c r, tail = c :: r ∧ delim c = true) : Reads (v ++ tail) v.length := by
  rcases h with ⟨hne, h⟩ | ⟨l, rfl⟩ | ⟨o, s, inner, hp, hi, rfl⟩
  · refine .inr (.inr ⟨v, tail, rfl, rfl, hne, h, ?_⟩)
    rcases ht with ht | ht
    · exfalso
      match v, hne with
      | c :: r, _ =>
        have hp := bare_parts (h c (by simp))
        simp only [List.getD_cons_zero] at ht
        unfold whole at ht
        have ho := hp.2.2.1
        unfold opens at ho
        simp only [Bool.or_eq_false_iff, beq_eq_false_iff_ne] at ho
        simp only [Bool.or_eq_true, beq_iff_eq] at ht
        rcases ht with (ht | ht) | ht
        · exact hp.2.1 ht
        · exact ho.1 ht
        · exact ho.2 ht
    · exact ht
  · refine .inl ⟨enc l ++ 34 :: tail, _, by simp, scan_enc l tail, by simp⟩
  · obtain ⟨f, hf⟩ := comp_reads (tail := tail) hp hi
    refine .inr (.inl ⟨o, inner ++ s :: tail, f, ?_, by simp, ?_⟩)
    · rcases hp with ⟨rfl, rfl⟩ | ⟨rfl, rfl⟩ <;> rfl
    · rw [show (o :: (inner ++ [s])) ++ tail = o :: (inner ++ s :: tail) from by simp, hf]; simp

/-- The first byte of a value is no whitespace. -/
theorem Val.head {v : List Int} (h : Val v) : ∃ c r, v = c :: r ∧ isWs c = false := by
  rcases h with ⟨hne, h⟩ | ⟨l, rfl⟩ | ⟨o, s, inner, hp, hi, rfl⟩
  · match v, hne with
    | c :: r, _ => exact ⟨c, r, rfl, (bare_parts (h c (by simp))).2.2.2.2.2⟩
  · exact ⟨_, _, rfl, rfl⟩
  · exact ⟨_, _, rfl, by rcases hp with ⟨rfl, rfl⟩ | ⟨rfl, rfl⟩ <;> rfl⟩

theorem ws_delim {c : Int} (h : isWs c = true) : delim c = true := by unfold delim; rw [h]; simp

/-- From place k at depth d the walk over zs ends at place E. -/
def DW (zs : List Int) (E k : Nat) (d : Int) : Prop := k < E ∧ E ≤ zs.length ∧ ∃ f, dwalk f (zs.drop k) d = some (E - k)

theorem dwalk_pos (f : Nat) : ∀ (l : List Int) (d : Int) (m : Nat), dwalk f l d = some m → 1 ≤ m ∧ m ≤ l.length := by
  induction f with
  | zero => intro l d m h; simp [dwalk] at h
  | succ f ih =>
    intro l d m h
    cases l with
    | nil => simp [dwalk] at h
    | cons c r =>
      by_cases h34 : c = 34
      · subst h34
        cases hs : scan r with
        | none => rw [dwalk, if_pos rfl, hs] at h; cases h
        | some k =>
          rw [dwalk_quote f r d k hs] at h
          cases hd : dwalk f (r.drop k) d with
          | none => rw [hd] at h; cases h
          | some q =>
            rw [hd] at h
            simp only [Option.map_some, Option.some.injEq] at h
            have h1 := ih _ _ _ hd
            have h2 : (r.drop k).length = r.length - k := by simp
            simp only [List.length_cons]
            omega
      · by_cases ht : turn c d = 0
        · rw [dwalk_stop f c r d h34 ht] at h
          simp only [Option.some.injEq] at h
          simp; omega
        · rw [dwalk_next f c r d h34 ht] at h
          cases hd : dwalk f r (turn c d) with
          | none => rw [hd] at h; cases h
          | some q =>
            rw [hd] at h
            simp only [Option.map_some, Option.some.injEq] at h
            have h1 := ih _ _ _ hd
            simp only [List.length_cons]
            omega

theorem DW.quote {zs : List Int} {E k : Nat} {d : Int} (h : DW zs E k d) (hz : zs.getD k 0 = 34) : ∃ q, scanFrom zs (k + 1) = some q ∧ k < q ∧ DW zs E q d := by
  obtain ⟨h1, h2, f, hf⟩ := h
  rw [drop_cons (by omega), hz] at hf
  cases f with
  | zero => simp [dwalk] at hf
  | succ f =>
    cases hs : scan (zs.drop (k + 1)) with
    | none => rw [dwalk, if_pos rfl, hs] at hf; cases hf
    | some q =>
      rw [dwalk_quote f _ d q hs, List.drop_drop] at hf
      cases hd : dwalk f (zs.drop (k + 1 + q)) d with
      | none => rw [hd] at hf; cases hf
      | some m =>
        rw [hd] at hf
        simp only [Option.map_some, Option.some.injEq] at hf
        have hp := dwalk_pos f _ _ _ hd
        refine ⟨q + (k + 1), by unfold scanFrom; rw [hs]; rfl, by omega, by omega, h2, f, ?_⟩
        rw [show q + (k + 1) = k + 1 + q from by omega, hd]
        congr 1; omega

theorem DW.stop {zs : List Int} {E k : Nat} {d : Int} (h : DW zs E k d) (hz : zs.getD k 0 ≠ 34) (ht : turn (zs.getD k 0) d = 0) : E = k + 1 := by
  obtain ⟨h1, h2, f, hf⟩ := h
  rw [drop_cons (by omega)] at hf
  cases f with
  | zero => simp [dwalk] at hf
  | succ f =>
    rw [dwalk_stop f _ _ d hz ht] at hf
    simp only [Option.some.injEq] at hf
    omega

theorem DW.next {zs : List Int} {E k : Nat} {d : Int} (h : DW zs E k d) (hz : zs.getD k 0 ≠ 34) (ht : turn (zs.getD k 0) d ≠ 0) : DW zs E (k + 1) (turn (zs.getD k 0) d) := by
  obtain ⟨h1, h2, f, hf⟩ := h
  rw [drop_cons (by omega)] at hf
  cases f with
  | zero => simp [dwalk] at hf
  | succ f =>
    rw [dwalk_next f _ _ d hz ht] at hf
    cases hd : dwalk f (zs.drop (k + 1)) (turn (zs.getD k 0) d) with
    | none => rw [hd] at hf; cases hf
    | some m =>
      rw [hd] at hf
      simp only [Option.map_some, Option.some.injEq] at hf
      have hp := dwalk_pos f _ _ _ hd
      refine ⟨by omega, h2, f, ?_⟩
      rw [hd]; congr 1; omega

theorem DW.of {zs : List Int} {j m f : Nat} (h : dwalk f (zs.drop j) 0 = some m) : DW zs (j + m) j 0 := by
  have hp := dwalk_pos f _ _ _ h
  have hl : (zs.drop j).length = zs.length - j := by simp
  exact ⟨by omega, by omega, f, by rw [h]; congr 1; omega⟩

end Go.Proofs.Qxb6600131a.Plain
