/-
  A proof of 'Rows.FnNumberEndMatchesAutomatonSaid'. The frame (the theorems 'lifted', 'over', 'proved') is the given shell's own, but for one argument of 'over'. The walk is filled in.
-/
import Derived.Test.Qxb6601304aRows
import Derived.WalkKit
import Derived.ProofKit
import Derived.OpenShut
import Derived.ShutString
import Derived.ChangeOld
import Derived.Below
import Derived.Test.Qxb6601304aStep
import Derived.Test.Qxb6601304aMade
namespace Go.Proofs.Qxb6601304a.fnNumberEndMatchesAutomaton
open Go.ChangeShapes Go.WideShapes Go.ChangeAt Go.RowKit
open Go.ChangeMaps (open_string shut_string)
set_option linter.unusedVariables false

theorem own : ownKnob Try.prog.godebug = none := by kernel_rfl
theorem laidOut : laidOutB Try.prog = true := by kernel_rfl

theorem bytes_any (w : World) (a0 : Option Addr) (l0 c0 : Nat) (x : Int) :
    Calls Try.prog 8 #[.slice a0 l0 c0, .int .i64 x] w fun e w' => ∃ b, e = .returned (.bool b) ∧ w = w' := by
  go_enter Try.func8, Try.ntmps8
  go_wp2
  all_goals
    go_ret
    exact ⟨_, rfl, rfl⟩

set_option maxRecDepth 100000 in
set_option maxHeartbeats 2000000 in
theorem walk (a0 : Option Addr) (len0 cap0 : Nat) (z0 : List Int) (a1 : Int) (w : World) (w0 : IsRow .u8 w a0 len0 cap0 z0) (w1 : (Lit.int .i64 a1).wf = true) :
    Calls Try.prog 3 #[.slice a0 len0 cap0, .int .i64 a1] w fun e w' => e = .returned (.bool true) ∧ Below w.heap.size w w' := by
  have r0 := w0.rd
  clear w0
  generalize z0.take len0 = y0 at r0
  clear z0
  by_cases hin : len0 ≤ 1048576 ∧ 0 ≤ a1 ∧ a1 < (len0 : Int)
  · obtain ⟨hb0, hlo, hhi⟩ := hin
    obtain ⟨i, rfl⟩ := Int.eq_ofNat_of_zero_le hlo
    have hil : i < len0 := by omega
    cases a0 with
    | none => have := (r0.none rfl).1; omega
    | some x =>
      go_enter Try.func3, Try.ntmps3
      go_wp2_with fail
      refine (bytes_any _ _ _ _ _).mono ?_
      rintro e w' ⟨b, rfl, rfl⟩
      cases b with
      | false =>
        go_wp2_with fail
        go_ret
        exact ⟨rfl, Below.refl _ _⟩
      | true =>
        go_wp2_with fail
        refine (cloneBytes_any _ w.heap.size _ _ _ _ r0 (Nat.le_refl _) (by omega)).mono ?_
        rintro e x1 ⟨g, rfl, hg1, hg2, hT, hbel⟩
        have HT : Hid (Tx .u8 x1 g 0 len0 y0) := hT
        clear hT r0
        go_wp2_with fail
        refine (zznumberEnd_any _ _ _ _ _ i _ HT.out (by omega) hil).mono ?_
        rintro e x2 ⟨rfl, rfl⟩
        rw [← Plain.a0]
        generalize hq : Plain.place i (Plain.autR 0 (y0.drop i)) = q
        have HQ : Hid (Plain.place i (Plain.autR 0 (y0.drop i)) = q) := hq
        clear hq
        go_wp2_with fail
        refine (automaton_any _ _ _ _ _ i _ HT.out (by omega) (by omega)).mono ?_
        rintro e x2 ⟨he, rfl⟩
        rw [HQ.out] at he
        subst he
        have hqq : (q == q) = true := by simp
        go_wp2_with fail
        go_ret
        exact ⟨rfl, hbel⟩
  · go_enter Try.func3, Try.ntmps3
    go_wp2_with fail
    refine (bytes_any _ _ _ _ _).mono ?_
    rintro e w' ⟨b, rfl, rfl⟩
    cases b with
    | false =>
      go_wp2_with fail
      go_ret
      exact ⟨rfl, Below.refl _ _⟩
    | true =>
      rcases (show 1048576 < len0 ∨ (len0 ≤ 1048576 ∧ a1 < 0) ∨ (len0 ≤ 1048576 ∧ 0 ≤ a1 ∧ (len0 : Int) ≤ a1) from by omega) with h | ⟨h, h1⟩ | ⟨h, h1, h2⟩
      all_goals
        clear hin
        go_wp2_with fail
        go_ret
        exact ⟨rfl, Below.refl _ _⟩

/-! ### THE ROW's STEP: WRITTEN OUT: LEAVE IT -/
set_option maxRecDepth 100000 in
theorem lifted (os : Os) (started : os.Started) (H : Type) (enc : TypeId × Value → H) :
    ReturnsInHanded {} Try.checked os 3 .any (Rows.fnNumberEndMatchesAutomatonSpec.pre6 enc Try.prog Try.f3 Rows.fnNumberEndMatchesAutomatonRow.domain false) (Rows.fnNumberEndMatchesAutomatonSpec.post enc Try.prog Try.f3 false true false false) := by
  refine returnsInHanded_of_change (C := Try.checked) own started (by kernel_rfl) Try.func3
    (ChangeSpec.witness6 (enc := enc) (C := Try.checked) false ⟨#[], #[.slice none 0 0, .int .i64 0], []⟩ 8 (by kernel_rfl) (by kernel_rfl) (by kernel_rfl) (by kernel_rfl)) ?_
  intro W base args ds gs before hval0 hW hcnd _
  have hval : ∀ (j : Nat) t v, Try.f3.params[j]? = some t → args[j]? = some v → Value.okWide Try.prog W .any base t v := hval0
  have hW' := hW
  obtain ⟨p, q, hA0, hV, rfl, hfz, hnd⟩ := hW
  have hA : DataW.TrodAll enc Try.prog W 0 (fun _ => true) true Try.f3.params.toList args.toList ds p := hA0
  rw [Try.params3] at hA hval
  obtain ⟨v0, vs0, d0, ds0, p0, q0, hargs, rfl, rfl, h0, r0⟩ := trodAll_cons hA
  obtain ⟨v1, vs1, d1, ds1, p1, q1, rfl, rfl, rfl, h1, r1⟩ := trodAll_cons r0
  obtain ⟨rfl, rfl, rfl⟩ := trodAll_nil r1
  obtain rfl : args = #[v0, v1] := by cases args; simp_all
  obtain ⟨rfl, rfl⟩ := trodVars_none hV
  obtain ⟨a0, len0, cap0, rfl⟩ := okWide_slice Try.underlying22 (hval 0 22 v0 rfl rfl)
  have k0 := h0
  have lt0 : ∀ x ∈ p0, x.block < W.heap.size := by obtain ⟨m, hm⟩ := k0; exact DataW.trod_lt m _ _ _ hm
  obtain ⟨z0, w0⟩ : ∃ zs, IsRow .u8 W a0 len0 cap0 zs := by
    obtain ⟨fuel, hf⟩ := h0
    rcases open_ints Try.underlying22 Try.underlying5 (by kernel_rfl) hf with ⟨hcs, _⟩ | ⟨x, l, c, zs, hcs, _, hl, hm, hz, _, hcell, hwz⟩
    · simp [Value.cells] at hcs
      obtain ⟨rfl, rfl, rfl⟩ := hcs
      exact ⟨[], .inl ⟨rfl, rfl, rfl, rfl⟩⟩
    · simp [Value.cells] at hcs
      obtain ⟨rfl, rfl, rfl⟩ := hcs
      exact ⟨zs, .inr ⟨_, rfl, hl, hm, by simpa using hz, hcell, hwz⟩⟩
  obtain ⟨a1, rfl, rfl, rfl, w1⟩ := open_int Try.underlying3 (hval 1 3 v1 rfl rfl) h1
  clear hA0 hval0
  refine (walk a0 len0 cap0 z0 a1 W w0 w1).mono fun e W' ⟨he, bel⟩ => ?_
  subst he
  exact ⟨_, rfl, _, _, _, [], _, [], hW', trodAll_mk1 (shut_bool Try.underlying4 _), (trodAll_cons_mk (Below.trod laidOut (by kernel_rfl) (of_decide_eq_true (by kernel_rfl)) k0 bel lt0) (trodAll_cons_mk (shut_int Try.underlying3 w1) trodAll_mk0)), rfl, bel.frame _, fun h => by cases h⟩

theorem over : Rows.fnNumberEndMatchesAutomatonRow.holds Try.pinned (OpenSpec.ofChange Rows.fnNumberEndMatchesAutomatonSpec) :=
  OpenClaim.holds_of_wide 3 Try.f3 rfl rfl rfl rfl rfl rfl rfl ⟨rfl, rfl, rfl, rfl, rfl⟩ rfl rfl rfl rfl rfl (by kernel_rfl) Try.func3 (Made.joined (by kernel_rfl) (by kernel_rfl) rfl rfl)
    (of_decide_eq_true (by kernel_rfl)) (by unfold Func.isWrapper; first | (rw [if_pos (by decide +kernel)]; kernel_rfl) | (rw [if_neg (by decide +kernel)]; exact ⟨rfl, rfl⟩))
    (fun os started H enc _ => lifted os started H enc)

/-- ████ THE STATEMENT ████ -/
theorem proved : Rows.FnNumberEndMatchesAutomatonSaid := over
end Go.Proofs.Qxb6601304a.fnNumberEndMatchesAutomaton
