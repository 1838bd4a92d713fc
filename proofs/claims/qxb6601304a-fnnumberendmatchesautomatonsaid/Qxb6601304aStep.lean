/-
  The walks of numStep and numAutomaton.
-/
import Derived.Test.Qxb6601304aNumber
import Derived.Test.Qxb6601304aAuto
namespace Go.Proofs.Qxb6601304a
open Go.RowKit
set_option linter.unusedVariables false
set_option linter.unusedSimpArgs false

theorem classes (c : Int) : c = 45 ∨ c = 43 ∨ c = 46 ∨ c = 48 ∨ c = 101 ∨ c = 69 ∨ ((c == 48) = false ∧ (c == 46) = false ∧ (c == 45) = false ∧ (c == 43) = false ∧ (c == 101) = false ∧ (c == 69) = false ∧ 48 ≤ c ∧ c ≤ 57) ∨
    ((c == 48) = false ∧ (c == 46) = false ∧ (c == 45) = false ∧ (c == 43) = false ∧ (c == 101) = false ∧ (c == 69) = false ∧ 48 ≤ c ∧ ¬ c ≤ 57) ∨
    ((c == 48) = false ∧ (c == 46) = false ∧ (c == 45) = false ∧ (c == 43) = false ∧ (c == 101) = false ∧ (c == 69) = false ∧ decide (48 ≤ c) = false) := by
  simp only [beq_eq_false_iff_ne, decide_eq_false_iff_not]
  omega

set_option maxRecDepth 100000 in
set_option maxHeartbeats 4000000 in
theorem step_0 (w : World) (c : Int) : Calls Try.prog 27 #[.int .i64 0, .int .u8 c] w fun e w' => e = .returned (.int .i64 (Plain.stepA 0 c)) ∧ w = w' := by
  rcases classes c with rfl | rfl | rfl | rfl | rfl | rfl | ⟨e1, e2, e3, e4, e5, e6, e7, e8⟩ | ⟨e1, e2, e3, e4, e5, e6, e7, e8⟩ | ⟨e1, e2, e3, e4, e5, e6, e7⟩
  all_goals
    go_enter Try.func27, Try.ntmps27
    go_wp2
    go_ret
    refine ⟨ret_i64 ?_, rfl⟩
  any_goals rfl
  all_goals
    simp only [beq_eq_false_iff_ne, decide_eq_false_iff_not] at *
    simp [Plain.stepA, Plain.isDig, Plain.isExp, *]

set_option maxRecDepth 100000 in
set_option maxHeartbeats 4000000 in
theorem step_1 (w : World) (c : Int) : Calls Try.prog 27 #[.int .i64 1, .int .u8 c] w fun e w' => e = .returned (.int .i64 (Plain.stepA 1 c)) ∧ w = w' := by
  rcases classes c with rfl | rfl | rfl | rfl | rfl | rfl | ⟨e1, e2, e3, e4, e5, e6, e7, e8⟩ | ⟨e1, e2, e3, e4, e5, e6, e7, e8⟩ | ⟨e1, e2, e3, e4, e5, e6, e7⟩
  all_goals
    go_enter Try.func27, Try.ntmps27
    go_wp2
    go_ret
    refine ⟨ret_i64 ?_, rfl⟩
  any_goals rfl
  all_goals
    simp only [beq_eq_false_iff_ne, decide_eq_false_iff_not] at *
    simp [Plain.stepA, Plain.isDig, Plain.isExp, *]

set_option maxRecDepth 100000 in
set_option maxHeartbeats 4000000 in
theorem step_2 (w : World) (c : Int) : Calls Try.prog 27 #[.int .i64 2, .int .u8 c] w fun e w' => e = .returned (.int .i64 (Plain.stepA 2 c)) ∧ w = w' := by
  rcases classes c with rfl | rfl | rfl | rfl | rfl | rfl | ⟨e1, e2, e3, e4, e5, e6, e7, e8⟩ | ⟨e1, e2, e3, e4, e5, e6, e7, e8⟩ | ⟨e1, e2, e3, e4, e5, e6, e7⟩
  all_goals
    go_enter Try.func27, Try.ntmps27
    go_wp2
    go_ret
    refine ⟨ret_i64 ?_, rfl⟩
  any_goals rfl
  all_goals
    simp only [beq_eq_false_iff_ne, decide_eq_false_iff_not] at *
    simp [Plain.stepA, Plain.isDig, Plain.isExp, *]

set_option maxRecDepth 100000 in
set_option maxHeartbeats 4000000 in
theorem step_3 (w : World) (c : Int) : Calls Try.prog 27 #[.int .i64 3, .int .u8 c] w fun e w' => e = .returned (.int .i64 (Plain.stepA 3 c)) ∧ w = w' := by
  rcases classes c with rfl | rfl | rfl | rfl | rfl | rfl | ⟨e1, e2, e3, e4, e5, e6, e7, e8⟩ | ⟨e1, e2, e3, e4, e5, e6, e7, e8⟩ | ⟨e1, e2, e3, e4, e5, e6, e7⟩
  all_goals
    go_enter Try.func27, Try.ntmps27
    go_wp2
    go_ret
    refine ⟨ret_i64 ?_, rfl⟩
  any_goals rfl
  all_goals
    simp only [beq_eq_false_iff_ne, decide_eq_false_iff_not] at *
    simp [Plain.stepA, Plain.isDig, Plain.isExp, *]

set_option maxRecDepth 100000 in
set_option maxHeartbeats 4000000 in
theorem step_4 (w : World) (c : Int) : Calls Try.prog 27 #[.int .i64 4, .int .u8 c] w fun e w' => e = .returned (.int .i64 (Plain.stepA 4 c)) ∧ w = w' := by
  rcases classes c with rfl | rfl | rfl | rfl | rfl | rfl | ⟨e1, e2, e3, e4, e5, e6, e7, e8⟩ | ⟨e1, e2, e3, e4, e5, e6, e7, e8⟩ | ⟨e1, e2, e3, e4, e5, e6, e7⟩
  all_goals
    go_enter Try.func27, Try.ntmps27
    go_wp2
    go_ret
    refine ⟨ret_i64 ?_, rfl⟩
  any_goals rfl
  all_goals
    simp only [beq_eq_false_iff_ne, decide_eq_false_iff_not] at *
    simp [Plain.stepA, Plain.isDig, Plain.isExp, *]

set_option maxRecDepth 100000 in
set_option maxHeartbeats 4000000 in
theorem step_5 (w : World) (c : Int) : Calls Try.prog 27 #[.int .i64 5, .int .u8 c] w fun e w' => e = .returned (.int .i64 (Plain.stepA 5 c)) ∧ w = w' := by
  rcases classes c with rfl | rfl | rfl | rfl | rfl | rfl | ⟨e1, e2, e3, e4, e5, e6, e7, e8⟩ | ⟨e1, e2, e3, e4, e5, e6, e7, e8⟩ | ⟨e1, e2, e3, e4, e5, e6, e7⟩
  all_goals
    go_enter Try.func27, Try.ntmps27
    go_wp2
    go_ret
    refine ⟨ret_i64 ?_, rfl⟩
  any_goals rfl
  all_goals
    simp only [beq_eq_false_iff_ne, decide_eq_false_iff_not] at *
    simp [Plain.stepA, Plain.isDig, Plain.isExp, *]

set_option maxRecDepth 100000 in
set_option maxHeartbeats 4000000 in
theorem step_6 (w : World) (c : Int) : Calls Try.prog 27 #[.int .i64 6, .int .u8 c] w fun e w' => e = .returned (.int .i64 (Plain.stepA 6 c)) ∧ w = w' := by
  rcases classes c with rfl | rfl | rfl | rfl | rfl | rfl | ⟨e1, e2, e3, e4, e5, e6, e7, e8⟩ | ⟨e1, e2, e3, e4, e5, e6, e7, e8⟩ | ⟨e1, e2, e3, e4, e5, e6, e7⟩
  all_goals
    go_enter Try.func27, Try.ntmps27
    go_wp2
    go_ret
    refine ⟨ret_i64 ?_, rfl⟩
  any_goals rfl
  all_goals
    simp only [beq_eq_false_iff_ne, decide_eq_false_iff_not] at *
    simp [Plain.stepA, Plain.isDig, Plain.isExp, *]

set_option maxRecDepth 100000 in
set_option maxHeartbeats 4000000 in
theorem step_7 (w : World) (c : Int) : Calls Try.prog 27 #[.int .i64 7, .int .u8 c] w fun e w' => e = .returned (.int .i64 (Plain.stepA 7 c)) ∧ w = w' := by
  rcases classes c with rfl | rfl | rfl | rfl | rfl | rfl | ⟨e1, e2, e3, e4, e5, e6, e7, e8⟩ | ⟨e1, e2, e3, e4, e5, e6, e7, e8⟩ | ⟨e1, e2, e3, e4, e5, e6, e7⟩
  all_goals
    go_enter Try.func27, Try.ntmps27
    go_wp2
    go_ret
    refine ⟨ret_i64 ?_, rfl⟩
  any_goals rfl
  all_goals
    simp only [beq_eq_false_iff_ne, decide_eq_false_iff_not] at *
    simp [Plain.stepA, Plain.isDig, Plain.isExp, *]

set_option maxRecDepth 100000 in
set_option maxHeartbeats 4000000 in
theorem step_8 (w : World) (c : Int) : Calls Try.prog 27 #[.int .i64 8, .int .u8 c] w fun e w' => e = .returned (.int .i64 (Plain.stepA 8 c)) ∧ w = w' := by
  rcases classes c with rfl | rfl | rfl | rfl | rfl | rfl | ⟨e1, e2, e3, e4, e5, e6, e7, e8⟩ | ⟨e1, e2, e3, e4, e5, e6, e7, e8⟩ | ⟨e1, e2, e3, e4, e5, e6, e7⟩
  all_goals
    go_enter Try.func27, Try.ntmps27
    go_wp2
    go_ret
    refine ⟨ret_i64 ?_, rfl⟩
  any_goals rfl
  all_goals
    simp only [beq_eq_false_iff_ne, decide_eq_false_iff_not] at *
    simp [Plain.stepA, Plain.isDig, Plain.isExp, *]

theorem step_any (w : World) (st c : Int) (h0 : 0 ≤ st) (h8 : st ≤ 8) : Calls Try.prog 27 #[.int .i64 st, .int .u8 c] w fun e w' => e = .returned (.int .i64 (Plain.stepA st c)) ∧ w = w' := by
  rcases (show st = 0 ∨ st = 1 ∨ st = 2 ∨ st = 3 ∨ st = 4 ∨ st = 5 ∨ st = 6 ∨ st = 7 ∨ st = 8 from by omega) with rfl | rfl | rfl | rfl | rfl | rfl | rfl | rfl | rfl
  · exact step_0 w c
  · exact step_1 w c
  · exact step_2 w c
  · exact step_3 w c
  · exact step_4 w c
  · exact step_5 w c
  · exact step_6 w c
  · exact step_7 w c
  · exact step_8 w c

set_option maxRecDepth 100000 in
set_option maxHeartbeats 4000000 in
theorem automaton_any (w : World) (g o n c i : Nat) (zs : List Int) (hT : Tx .u8 w g o n zs) (hn : n ≤ 1000000000) (hi : i ≤ n) :
    Calls Try.prog 11 #[.slice (some ⟨g, o, none⟩) n c, .int .i64 i] w fun e w' => e = .returned (.int .i64 (Plain.place i (Plain.autR 0 (zs.drop i)))) ∧ w = w' := by
  have HT : Hid (Tx .u8 w g o n zs) := hT
  have HL : Hid (zs.length = n) := hT.len
  clear hT
  go_enter Try.func11, Try.ntmps11
  go_wp2_with fail
  go_loop [5, 6] (fun sv pv => ∃ p : Nat, ∃ st : Int, pv = .int .i64 p ∧ sv = .int .i64 st ∧ p ≤ n ∧ 0 ≤ st ∧ st ≤ 8 ∧ Hid (Plain.place i (Plain.autR 0 (zs.drop i)) = Plain.place p (Plain.autR st (zs.drop p)))) (fun _ pv => n - (intOf pv).toNat)
  case atStart => exact ⟨i, 0, rfl, rfl, hi, by omega, by omega, rfl⟩
  case round =>
    obtain ⟨p, st, rfl, rfl, hp, hs0, hs8, H⟩ := hrel
    by_cases hlt : p < n
    · obtain ⟨z, hz⟩ : ∃ z, z = zs.getD p 0 := ⟨_, rfl⟩
      have hc : w.cell? ⟨g, o + p, none⟩ = some (.int .u8 z) := by rw [hz]; exact HT.out.cell p hlt
      have HZ : Hid (z = zs.getD p 0) := hz
      clear hz
      by_cases h9 : Plain.stepA st z = 9
      · have HR : Hid (Plain.place i (Plain.autR 0 (zs.drop i)) = if Plain.acc st = true then (p : Int) else -1) := H.out.trans (Plain.aut_stop (by rw [HL.out]; exact hlt) (by rw [← HZ.out]; exact h9))
        have H9 : Hid (Plain.stepA st z = 9) := h9
        clear h9 H
        rcases (show st = 0 ∨ st = 1 ∨ st = 2 ∨ st = 3 ∨ st = 4 ∨ st = 5 ∨ st = 6 ∨ st = 7 ∨ st = 8 from by omega) with rfl | rfl | rfl | rfl | rfl | rfl | rfl | rfl | rfl
        all_goals
          go_wp2_with (go_at_call 27; refine (step_any _ _ z (by omega) (by omega)).mono ?_; rintro e w' ⟨he, rfl⟩; rw [H9.out] at he; subst he)
          go_ret
          exact ⟨ret_i64 (by rw [HR.out]; rfl), rfl⟩
      · have hr := Plain.step_range st z
        have HN : Hid (Plain.place i (Plain.autR 0 (zs.drop i)) = Plain.place (p + 1) (Plain.autR (Plain.stepA st z) (zs.drop (p + 1)))) := by
          have := Plain.aut_next (st := st) (by rw [HL.out]; exact hlt) (show Plain.stepA st (zs.getD p 0) ≠ 9 from by rw [← HZ.out]; exact h9)
          rw [← HZ.out] at this
          exact H.out.trans this
        obtain ⟨nx, hnx⟩ : ∃ nx, nx = Plain.stepA st z := ⟨_, rfl⟩
        rw [← hnx] at HN hr h9
        have HX : Hid (Plain.stepA st z = nx) := hnx.symm
        clear hnx H
        have hb9 : (nx == 9) = false := by simpa using h9
        have hx0 : 0 ≤ nx := by omega
        have hx8 : nx ≤ 8 := by omega
        clear h9 hr
        go_wp2_with (go_at_call 27; refine (step_any _ _ z hs0 hs8).mono ?_; rintro e w' ⟨he, rfl⟩; rw [HX.out] at he; subst he)
        go_round
        case rel => exact ⟨p + 1, nx, by go_num, rfl, by omega, hx0, hx8, HN⟩
        case measure => simp [intOf]; omega
    · have HR : Hid (Plain.place i (Plain.autR 0 (zs.drop i)) = if Plain.acc st = true then (p : Int) else -1) := H.out.trans (Plain.aut_end (by rw [HL.out]; omega))
      clear H
      rcases (show st = 0 ∨ st = 1 ∨ st = 2 ∨ st = 3 ∨ st = 4 ∨ st = 5 ∨ st = 6 ∨ st = 7 ∨ st = 8 from by omega) with rfl | rfl | rfl | rfl | rfl | rfl | rfl | rfl | rfl
      all_goals
        go_wp2_with fail
        go_ret
        exact ⟨ret_i64 (by rw [HR.out]; rfl), rfl⟩
end Go.Proofs.Qxb6601304a
