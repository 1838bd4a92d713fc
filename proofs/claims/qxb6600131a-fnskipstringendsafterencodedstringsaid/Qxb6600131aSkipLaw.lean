/-
  A proof of 'Rows.FnSkipStringEndsAfterEncodedStringSaid'. The frame (the theorems 'lifted', 'over', 'proved') is the given shell's own, but for one argument of 'over'. The walk is filled in.
-/
import Derived.Test.Qxb6600131aRows
import Derived.WalkKit
import Derived.ProofKit
import Derived.OpenShut
import Derived.ShutString
import Derived.ChangeOld
import Derived.Below
import Derived.Test.Qxb6600131aSkip
import Derived.Test.Qxb6600131aEnc
import Derived.Test.Qxb6600131aMade
namespace Go.Proofs.Qxb6600131a.fnSkipStringEndsAfterEncodedString
open Go.ChangeShapes Go.WideShapes Go.ChangeAt Go.RowKit
open Go.ChangeMaps (open_string shut_string)
set_option linter.unusedVariables false

theorem own : ownKnob Try.prog.godebug = none := by kernel_rfl
theorem laidOut : laidOutB Try.prog = true := by kernel_rfl

/-- WHAT THE WALK IS TOLD OF A SLICE OF INTEGERS THAT CAME IN: it is nil; or it leads to a row of 'cap' cells, the numbers 'zs' (the first 'len' are its elements, the rest its spare room), each fitting its kind. -/
def IsRow (k : IntKind) (w : World) (a : Option Addr) (len cap : Nat) (zs : List Int) : Prop :=
  (a = none ∧ len = 0 ∧ cap = 0 ∧ zs = []) ∨
  ∃ x, a = some x ∧ len ≤ cap ∧ cap ≤ maxLen ∧ zs.length = cap ∧ (∀ i, i < zs.length → w.cell? (x.add i) = some (.int k (zs.getD i 0))) ∧ ∀ n ∈ zs, (Lit.int k n).wf = true

theorem IsRow.rd {w : World} {a : Option Addr} {len cap : Nat} {zs : List Int} (h : IsRow .u8 w a len cap zs) : Rd w.heap.size w a len cap (zs.take len) := by
  rcases h with ⟨rfl, rfl, rfl, rfl⟩ | ⟨x, rfl, hl, hm, hz, hc, hw⟩
  · exact ⟨rfl, by intro z hz; simp at hz, by simp, by simp, .inl rfl⟩
  · refine ⟨by simp; omega, ?_, by simp, hl, ?_⟩
    · intro z hz
      have := bounds_u8 (hw z (List.mem_of_mem_take hz))
      omega
    · by_cases h0 : len = 0
      · exact .inl h0
      · obtain ⟨b, off, spot⟩ := x
        have hs : spot = none := by simpa [Addr.add] using World.cell?_spot (hc 0 (by omega))
        subst hs
        refine .inr ⟨b, off, rfl, ?_, ?_⟩
        · have := hc 0 (by omega)
          exact World.block_lt_of_cell? _ _ this
        · intro i hi
          have := hc i (by omega)
          rw [Addr.add_lit] at this
          rw [this]
          simp [List.getD, hi]

theorem text_bytes {y0 y1 y2 : List Int} (h0 : Bytes y0) (h1 : Bytes y1) (h2 : Bytes y2) : Bytes (y0 ++ [34] ++ Plain.enc y1 ++ [34] ++ y2) := by
  have he : Bytes (Plain.enc y1) := by
    clear h0 h2
    induction y1 with
    | nil => intro z hz; simp [Plain.enc] at hz
    | cons b r ih =>
      intro z hz
      simp only [Plain.enc, List.mem_append] at hz
      have hb := h1 b (by simp)
      rcases hz with hz | hz
      · unfold Plain.encOne at hz
        split at hz <;> simp at hz <;> omega
      · exact ih (fun z hz => h1 z (by simp [hz])) z hz
  intro z hz
  simp only [List.mem_append, List.mem_singleton] at hz
  rcases hz with (((hz | hz) | hz) | hz) | hz
  · exact h0 z hz
  · omega
  · exact he z hz
  · omega
  · exact h2 z hz

theorem bytes_any (w : World) (a0 a1 a2 : Option Addr) (l0 c0 l1 c1 l2 c2 : Nat) :
    Calls Try.prog 17 #[.slice a0 l0 c0, .slice a1 l1 c1, .slice a2 l2 c2] w fun e w' => ∃ b, e = .returned (.bool b) ∧ w = w' := by
  go_enter Try.func17, Try.ntmps17
  go_wp2
  all_goals
    go_ret
    exact ⟨_, rfl, rfl⟩

theorem walk (a0 : Option Addr) (len0 cap0 : Nat) (z0 : List Int) (a1 : Option Addr) (len1 cap1 : Nat) (z1 : List Int) (a2 : Option Addr) (len2 cap2 : Nat) (z2 : List Int) (w : World) (w0 : IsRow .u8 w a0 len0 cap0 z0) (w1 : IsRow .u8 w a1 len1 cap1 z1) (w2 : IsRow .u8 w a2 len2 cap2 z2) :
    Calls Try.prog 5 #[.slice a0 len0 cap0, .slice a1 len1 cap1, .slice a2 len2 cap2] w fun e w' => e = .returned (.bool true) ∧ Below w.heap.size w w' := by
  have r0 := w0.rd
  have r1 := w1.rd
  have r2 := w2.rd
  clear w0 w1 w2
  generalize z0.take len0 = y0 at r0
  generalize z1.take len1 = y1 at r1
  generalize z2.take len2 = y2 at r2
  clear z0 z1 z2
  go_enter Try.func5, Try.ntmps5
  go_wp2_with fail
  refine (bytes_any _ _ _ _ _ _ _ _ _ _).mono ?_
  rintro e w' ⟨b, rfl, rfl⟩
  cases b with
  | false =>
    go_wp2_with fail
    go_ret
    exact ⟨rfl, Below.refl _ _⟩
  | true =>
    by_cases hbig : len0 ≤ 262144 ∧ len1 ≤ 262144 ∧ len2 ≤ 262144
    · obtain ⟨hb0, hb1, hb2⟩ := hbig
      have hB := Nat.le_refl w.heap.size
      have hel : (Plain.enc y1).length ≤ 2 * len1 := by have := Plain.enc_length y1; rw [r1.len] at this; exact this
      go_wp2_with (first
        | (at_make; refine wpList_make_bytes rfl _ _ rfl _ _ _ (len0 + 2 * len1 + 2 + len2) rfl rfl (by omega) (by omega) ?_; intro x1 hown1 hbel1)
        | (at_builtin; refine wpList_append_rd' rfl (.tmp 40) (.tmp 41) rfl w.heap.size _ _ _ _ rfl hown1 w.heap.size _ _ _ y0 rfl (r0.below hbel1 hB) (by omega) hbel1.size ?_; intro g2 c2 x2 hown2 hbel2; simp only [Nat.zero_add, List.nil_append] at hown2)
        | (at_builtin; refine wpList_append_one' rfl (.tmp 43) (.tmp 44) rfl w.heap.size _ _ _ rfl hown2 _ 1 rfl (by omega) (Nat.le_trans hbel1.size hbel2.size) ?_; intro g3 c3 x3 hown3 hbel3)
        | (go_at_call 18; refine (appendEnc_any _ w.heap.size w.heap.size _ _ _ _ _ _ y1 hown3 (((r1.below hbel1 hB).below hbel2 hB).below hbel3 hB) hB (Nat.le_trans hbel1.size (Nat.le_trans hbel2.size hbel3.size)) (by omega)).mono ?_; rintro e x4 ⟨v4, rfl, hown4, hbel4, hn4⟩; obtain ⟨g4, c4, hv4, hg4⟩ := own_some hown4 (hn4 (by simp)); subst hv4)
        | (at_builtin; refine wpList_append_one' rfl (.tmp 49) (.tmp 50) rfl w.heap.size _ _ _ rfl hown4 _ 1 rfl (by omega) (Nat.le_trans hbel1.size (Nat.le_trans hbel2.size (Nat.le_trans hbel3.size hbel4.size))) ?_; intro g5 c5 x5 hown5 hbel5)
        | (at_builtin; refine wpList_append_rd' rfl (.tmp 54) (.tmp 55) rfl w.heap.size _ _ _ _ rfl hown5 w.heap.size _ _ _ y2 rfl (((((r2.below hbel1 hB).below hbel2 hB).below hbel3 hB).below hbel4 hB).below hbel5 hB) (by omega) (Nat.le_trans hbel1.size (Nat.le_trans hbel2.size (Nat.le_trans hbel3.size (Nat.le_trans hbel4.size hbel5.size)))) ?_; intro g6 c6 x6 hown6 hbel6))
      have hb6 : Below w.heap.size w x6 := ((((hbel1.trans hbel2).trans hbel3).trans hbel4).trans hbel5).trans hbel6
      clear hbel1 hbel2 hbel3 hbel4 hbel5 hbel6 hown1 hown2 hown3 hown4 hown5
      have hby : Bytes (y0 ++ [34] ++ Plain.enc y1 ++ [34] ++ y2) := text_bytes r0.bytes r1.bytes r2.bytes
      have hT := Tx.ofOwn hown6 hby
      obtain ⟨_, _, hgc, _, hlt⟩ := own_some hown6 (by simp)
      simp only [Value.slice.injEq, Option.some.injEq, Addr.mk.injEq, true_and, and_true] at hgc
      obtain ⟨rfl, rfl⟩ := hgc
      have hs : Plain.scanFrom (y0 ++ [34] ++ Plain.enc y1 ++ [34] ++ y2) (len0 + 1) = some (len0 + 1 + (Plain.enc y1).length + 1) := by
        have := Plain.scanFrom_enc y0 y1 y2
        rw [r0.len] at this
        simpa using this
      refine (zzskip_any _ _ _ _ len0 _ hT hlt (by omega) (by omega)).mono ?_
      rintro e x7 ⟨he, hb7⟩
      rw [hs] at he
      simp only [Option.isSome_some, Option.getD_some] at he
      rw [show ((len0 + 1 + (Plain.enc y1).length + 1 : Nat) : Int) = (len0 : Int) + 1 + ((Plain.enc y1).length : Int) + 1 from by omega] at he
      subst he
      clear hs hT hown6 hby r0 r1 r2
      have hb : Below w.heap.size w x7 := hb6.trans (hb7.mono hb6.size)
      go_wp2
      go_ret
      exact ⟨by simp, hb⟩
    · rcases (show 262144 < len0 ∨ (len0 ≤ 262144 ∧ 262144 < len1) ∨ (len0 ≤ 262144 ∧ len1 ≤ 262144 ∧ 262144 < len2) from by omega) with h | ⟨h, h'⟩ | ⟨h, h', h''⟩
      all_goals
        clear hbig
        go_wp2_with fail
        go_ret
        exact ⟨rfl, Below.refl _ _⟩

/-! ### THE ROW's STEP: WRITTEN OUT: LEAVE IT -/
set_option maxRecDepth 100000 in
theorem lifted (os : Os) (started : os.Started) (H : Type) (enc : TypeId × Value → H) :
    ReturnsInHanded {} Try.checked os 5 .any (Rows.fnSkipStringEndsAfterEncodedStringSpec.pre6 enc Try.prog Try.f5 Rows.fnSkipStringEndsAfterEncodedStringRow.domain false) (Rows.fnSkipStringEndsAfterEncodedStringSpec.post enc Try.prog Try.f5 false true false false) := by
  refine returnsInHanded_of_change (C := Try.checked) own started (by kernel_rfl) Try.func5
    (ChangeSpec.witness6 (enc := enc) (C := Try.checked) false ⟨#[], #[.slice none 0 0, .slice none 0 0, .slice none 0 0], []⟩ 8 (by kernel_rfl) (by kernel_rfl) (by kernel_rfl) (by kernel_rfl)) ?_
  intro W base args ds gs before hval0 hW hcnd _
  have hval : ∀ (j : Nat) t v, Try.f5.params[j]? = some t → args[j]? = some v → Value.okWide Try.prog W .any base t v := hval0
  have hW' := hW
  obtain ⟨p, q, hA0, hV, rfl, hfz, hnd⟩ := hW
  have hA : DataW.TrodAll enc Try.prog W 0 (fun _ => true) true Try.f5.params.toList args.toList ds p := hA0
  rw [Try.params5] at hA hval
  obtain ⟨v0, vs0, d0, ds0, p0, q0, hargs, rfl, rfl, h0, r0⟩ := trodAll_cons hA
  obtain ⟨v1, vs1, d1, ds1, p1, q1, rfl, rfl, rfl, h1, r1⟩ := trodAll_cons r0
  obtain ⟨v2, vs2, d2, ds2, p2, q2, rfl, rfl, rfl, h2, r2⟩ := trodAll_cons r1
  obtain ⟨rfl, rfl, rfl⟩ := trodAll_nil r2
  obtain rfl : args = #[v0, v1, v2] := by cases args; simp_all
  obtain ⟨rfl, rfl⟩ := trodVars_none hV
  obtain ⟨a0, len0, cap0, rfl⟩ := okWide_slice Try.underlying22 (hval 0 22 v0 rfl rfl)
  have k0 := h0
  have lt0 : ∀ x ∈ p0, x.block < W.heap.size := by obtain ⟨m, hm⟩ := k0; exact DataW.trod_lt m _ _ _ hm
  obtain ⟨z0, w0⟩ : ∃ zs, IsRow .u8 W a0 len0 cap0 zs := by
    obtain ⟨fuel, hf⟩ := h0
    rcases open_ints Try.underlying22 Try.underlying5 (by kernel_rfl) hf with ⟨hcs, _⟩ | ⟨x, l, c, zs, hcs, _, hl, hm, hz, _, hcell, hwz⟩
    · simp [Value.cells] at hcs
      obtain ⟨rfl, rfl, rfl⟩ := hcs
      exact ⟨[], .inl ⟨rfl, rfl, rfl, rfl⟩⟩
    · simp [Value.cells] at hcs
      obtain ⟨rfl, rfl, rfl⟩ := hcs
      exact ⟨zs, .inr ⟨_, rfl, hl, hm, by simpa using hz, hcell, hwz⟩⟩
  obtain ⟨a1, len1, cap1, rfl⟩ := okWide_slice Try.underlying22 (hval 1 22 v1 rfl rfl)
  have k1 := h1
  have lt1 : ∀ x ∈ p1, x.block < W.heap.size := by obtain ⟨m, hm⟩ := k1; exact DataW.trod_lt m _ _ _ hm
  obtain ⟨z1, w1⟩ : ∃ zs, IsRow .u8 W a1 len1 cap1 zs := by
    obtain ⟨fuel, hf⟩ := h1
    rcases open_ints Try.underlying22 Try.underlying5 (by kernel_rfl) hf with ⟨hcs, _⟩ | ⟨x, l, c, zs, hcs, _, hl, hm, hz, _, hcell, hwz⟩
    · simp [Value.cells] at hcs
      obtain ⟨rfl, rfl, rfl⟩ := hcs
      exact ⟨[], .inl ⟨rfl, rfl, rfl, rfl⟩⟩
    · simp [Value.cells] at hcs
      obtain ⟨rfl, rfl, rfl⟩ := hcs
      exact ⟨zs, .inr ⟨_, rfl, hl, hm, by simpa using hz, hcell, hwz⟩⟩
  obtain ⟨a2, len2, cap2, rfl⟩ := okWide_slice Try.underlying22 (hval 2 22 v2 rfl rfl)
  have k2 := h2
  have lt2 : ∀ x ∈ p2, x.block < W.heap.size := by obtain ⟨m, hm⟩ := k2; exact DataW.trod_lt m _ _ _ hm
  obtain ⟨z2, w2⟩ : ∃ zs, IsRow .u8 W a2 len2 cap2 zs := by
    obtain ⟨fuel, hf⟩ := h2
    rcases open_ints Try.underlying22 Try.underlying5 (by kernel_rfl) hf with ⟨hcs, _⟩ | ⟨x, l, c, zs, hcs, _, hl, hm, hz, _, hcell, hwz⟩
    · simp [Value.cells] at hcs
      obtain ⟨rfl, rfl, rfl⟩ := hcs
      exact ⟨[], .inl ⟨rfl, rfl, rfl, rfl⟩⟩
    · simp [Value.cells] at hcs
      obtain ⟨rfl, rfl, rfl⟩ := hcs
      exact ⟨zs, .inr ⟨_, rfl, hl, hm, by simpa using hz, hcell, hwz⟩⟩
  clear hA0 hval0
  refine (walk a0 len0 cap0 z0 a1 len1 cap1 z1 a2 len2 cap2 z2 W w0 w1 w2).mono fun e W' ⟨he, bel⟩ => ?_
  subst he
  exact ⟨_, rfl, _, _, _, [], _, [], hW', trodAll_mk1 (shut_bool Try.underlying4 _), (trodAll_cons_mk (Below.trod laidOut (by kernel_rfl) (of_decide_eq_true (by kernel_rfl)) k0 bel lt0) (trodAll_cons_mk (Below.trod laidOut (by kernel_rfl) (of_decide_eq_true (by kernel_rfl)) k1 bel lt1) (trodAll_cons_mk (Below.trod laidOut (by kernel_rfl) (of_decide_eq_true (by kernel_rfl)) k2 bel lt2) trodAll_mk0))), rfl, bel.frame _, fun h => by cases h⟩

theorem over : Rows.fnSkipStringEndsAfterEncodedStringRow.holds Try.pinned (OpenSpec.ofChange Rows.fnSkipStringEndsAfterEncodedStringSpec) :=
  OpenClaim.holds_of_wide 5 Try.f5 rfl rfl rfl rfl rfl rfl rfl ⟨rfl, rfl, rfl, rfl, rfl⟩ rfl rfl rfl rfl rfl (by kernel_rfl) Try.func5 (Made.joined (by kernel_rfl) (by kernel_rfl) rfl rfl)
    (of_decide_eq_true (by kernel_rfl)) (by unfold Func.isWrapper; first | (rw [if_pos (by decide +kernel)]; kernel_rfl) | (rw [if_neg (by decide +kernel)]; exact ⟨rfl, rfl⟩))
    (fun os started H enc _ => lifted os started H enc)

/-- ████ THE STATEMENT ████ -/
theorem proved : Rows.FnSkipStringEndsAfterEncodedStringSaid := over
end Go.Proofs.Qxb6600131a.fnSkipStringEndsAfterEncodedString
