/-
  The walks of isDigit, digitsEnd, numberEnd, ZZnumberEnd.
-/
import Derived.Test.Qxb6601304aBase
import Derived.Test.Qxb6601304aPlain
import Derived.Deep.Cut
namespace Go.Proofs.Qxb6601304a
open Go.RowKit
set_option linter.unusedVariables false

theorem ret_i64 {a b : Int} (h : a = b) : Ending.returned (.int .i64 a) = .returned (.int .i64 b) := by rw [h]

theorem isDigit_any (w : World) (b : Int) : Calls Try.prog 34 #[.int .u8 b] w fun e w' => e = .returned (.bool (Plain.isDig b)) ∧ w = w' := by
  by_cases h1 : 48 ≤ b
  · by_cases h2 : b ≤ 57
    · go_enter Try.func34, Try.ntmps34
      go_wp2
      go_ret
      exact ⟨by simp [Plain.isDig, h1, h2], rfl⟩
    · go_enter Try.func34, Try.ntmps34
      go_wp2
      go_ret
      exact ⟨by simp [Plain.isDig]; omega, rfl⟩
  · have hd : decide ((48 : Int) ≤ b) = false := by simpa using h1
    go_enter Try.func34, Try.ntmps34
    go_wp2
    go_ret
    exact ⟨by simp [Plain.isDig]; omega, rfl⟩

set_option maxHeartbeats 1000000 in
theorem digitsEnd_any (w : World) (g o n c i : Nat) (zs : List Int) (hT : Tx .u8 w g o n zs) (hn : n ≤ 1000000000) (hi : i ≤ n) :
    Calls Try.prog 35 #[.slice (some ⟨g, o, none⟩) n c, .int .i64 i] w fun e w' => e = .returned (.int .i64 (Plain.place i (Plain.digO (zs.drop i)))) ∧ w = w' := by
  have HT : Hid (Tx .u8 w g o n zs) := hT
  clear hT
  go_enter Try.func35, Try.ntmps35
  go_wp2
  go_loop [5] (fun t => ∃ k : Nat, t = .int .i64 k ∧ i ≤ k ∧ k ≤ n ∧ Hid (Plain.digs (zs.drop i) = (k - i) + Plain.digs (zs.drop k))) (fun t => n - (intOf t).toNat)
  case atStart => exact ⟨i, rfl, Nat.le_refl _, hi, by unfold Hid; omega⟩
  case round =>
    obtain ⟨k, rfl, hik, hk, H⟩ := hrel
    by_cases hlt : k < n
    · obtain ⟨z, hz⟩ : ∃ z, z = zs.getD k 0 := ⟨_, rfl⟩
      have hc : w.cell? ⟨g, o + k, none⟩ = some (.int .u8 z) := by rw [hz]; exact HT.out.cell k hlt
      have HZ : Hid (z = zs.getD k 0) := hz
      clear hz
      cases hd : Plain.isDig z with
      | true =>
        have H' : Hid (Plain.digs (zs.drop i) = (k + 1 - i) + Plain.digs (zs.drop (k + 1))) := by
          have := Plain.digs_yes (by rw [HT.out.len]; exact hlt) (by rw [← HZ.out]; exact hd)
          have h2 := H.out
          unfold Hid; omega
        go_wp2_with (go_at_call 34; refine (isDigit_any _ _).mono ?_; rintro e w' ⟨he, rfl⟩; rw [hd] at he; subst he)
        go_round
        case rel => exact ⟨k + 1, by go_num, by omega, by omega, H'⟩
        case measure => simp [intOf]; omega
      | false =>
        have H' : Hid (Plain.digs (zs.drop i) = k - i) := by
          have := Plain.digs_no (by rw [HT.out.len]; exact hlt) (by rw [← HZ.out]; exact hd)
          have h2 := H.out
          unfold Hid; omega
        clear H
        by_cases hki : k = i
        · have hb : ((k : Int) == (i : Int)) = true := by simp [hki]
          have HK : Hid (k = i) := hki
          clear hki
          go_wp2_with (go_at_call 34; refine (isDigit_any _ _).mono ?_; rintro e w' ⟨he, rfl⟩; rw [hd] at he; subst he)
          go_ret
          exact ⟨ret_i64 (by rw [Plain.place_dig i k _ hik H'.out, if_pos HK.out]), rfl⟩
        · have hb : ((k : Int) == (i : Int)) = false := by simp; omega
          have HK : Hid (¬ k = i) := hki
          clear hki
          go_wp2_with (go_at_call 34; refine (isDigit_any _ _).mono ?_; rintro e w' ⟨he, rfl⟩; rw [hd] at he; subst he)
          go_ret
          exact ⟨ret_i64 (by rw [Plain.place_dig i k _ hik H'.out, if_neg HK.out]), rfl⟩
    · have H' : Hid (Plain.digs (zs.drop i) = k - i) := by
        have := Plain.digs_end (zs := zs) (k := k) (by rw [HT.out.len]; omega)
        have h2 := H.out
        unfold Hid; omega
      clear H
      by_cases hki : k = i
      · have hb : ((k : Int) == (i : Int)) = true := by simp [hki]
        have HK : Hid (k = i) := hki
        clear hki
        go_wp2_with fail
        go_ret
        exact ⟨ret_i64 (by rw [Plain.place_dig i k _ hik H'.out, if_pos HK.out]), rfl⟩
      · have hb : ((k : Int) == (i : Int)) = false := by simp; omega
        have HK : Hid (¬ k = i) := hki
        clear hki
        go_wp2_with fail
        go_ret
        exact ⟨ret_i64 (by rw [Plain.place_dig i k _ hik H'.out, if_neg HK.out]), rfl⟩

set_option maxRecDepth 100000 in
set_option maxHeartbeats 4000000 in
theorem numberEnd_any (w : World) (g o n c i : Nat) (zs : List Int) (hT : Tx .u8 w g o n zs) (hn : n ≤ 1000000000) (hi : i < n) :
    Calls Try.prog 26 #[.slice (some ⟨g, o, none⟩) n c, .int .i64 i] w fun e w' => e = .returned (.int .i64 (Plain.place i (Plain.numL (zs.drop i)))) ∧ w = w' := by
  have HT : Hid (Tx .u8 w g o n zs) := hT
  have HL : Hid (zs.length = n) := hT.len
  clear hT
  obtain ⟨z0, hz0⟩ : ∃ z, z = zs.getD i 0 := ⟨_, rfl⟩
  have hc0 : w.cell? ⟨g, o + i, none⟩ = some (.int .u8 z0) := by rw [hz0]; exact HT.out.cell i hi
  have HZ0 : Hid (z0 = zs.getD i 0) := hz0
  clear hz0
  go_enter Try.func26, Try.ntmps26
  go_upto_if 9 with fail
  go_cut [1] from 5 (fun s1 wx => ∃ q : Nat, s1 = .int .i64 q ∧ q ≤ n ∧ w = wx ∧ Hid (Plain.place i (Plain.numL (zs.drop i)) = Plain.place q (Plain.intL (zs.drop q))))
  case first =>
    by_cases h45 : z0 = 45
    · subst h45
      go_wp2_with fail
      go_meet
      exact ⟨i + 1, by go_num, by omega, rfl, Plain.num_minus HZ0.out.symm⟩
    · have hb : (z0 == 45) = false := by simpa using h45
      go_wp2_with fail
      go_meet
      exact ⟨i, rfl, by omega, rfl, Plain.num_plain (by rw [← HZ0.out]; exact h45)⟩
  case rest =>
    obtain ⟨q, rfl, hq, rfl, H⟩ := hcut
    by_cases hqn : q < n
    · have hne : ((q : Int) == (n : Int)) = false := by simp; omega
      obtain ⟨z1, hz1⟩ : ∃ z, z = zs.getD q 0 := ⟨_, rfl⟩
      have hc1 : w.cell? ⟨g, o + q, none⟩ = some (.int .u8 z1) := by rw [hz1]; exact HT.out.cell q hqn
      have HZ1 : Hid (z1 = zs.getD q 0) := hz1
      clear hz1 hc0
      cases hd : Plain.isDig z1 with
      | false =>
        go_wp2_with (go_at_call 34; refine (isDigit_any _ _).mono ?_; rintro e w' ⟨he, rfl⟩; rw [hd] at he; subst he)
        go_ret
        exact ⟨ret_i64 (by rw [H.out, Plain.int_none (by rw [← HZ1.out]; exact hd)]), rfl⟩
      | true =>
        go_upto_if 28 with (go_at_call 34; refine (isDigit_any _ _).mono ?_; rintro e w' ⟨he, rfl⟩; rw [hd] at he; subst he)
        go_cut [1] from 5 (fun s1 wx => ∃ q2 : Nat, s1 = .int .i64 q2 ∧ q2 ≤ n ∧ w = wx ∧ Hid (Plain.place q (Plain.intL (zs.drop q)) = Plain.place q2 (Plain.fracL (zs.drop q2))))
        case first =>
          by_cases h48 : z1 = 48
          · subst h48
            go_wp2_with fail
            go_meet
            exact ⟨q + 1, by go_num, by omega, rfl, Plain.int_zero HZ1.out.symm⟩
          · have hb : (z1 == 48) = false := by simpa using h48
            have hdd : Plain.isDig (zs.getD q 0) = true := by rw [← HZ1.out]; exact hd
            have hnz := Plain.dig_at hdd
            have hpl := Plain.place_digO (q := q) hnz
            have hle := Plain.digs_le (zs.drop q)
            have hlen : (zs.drop q).length = n - q := by rw [List.length_drop, HL.out]
            have HM : Hid (Plain.place q (Plain.intL (zs.drop q)) = Plain.place (q + Plain.digs (zs.drop q)) (Plain.fracL (zs.drop (q + Plain.digs (zs.drop q))))) := Plain.int_more hdd (by rw [← HZ1.out]; exact h48)
            have hqd : q + Plain.digs (zs.drop q) ≤ n := by omega
            have HP : Hid (Plain.place q (Plain.digO (zs.drop q)) = ((q + Plain.digs (zs.drop q) : Nat) : Int)) := hpl
            clear hpl hle hlen hdd hnz h48
            go_wp2_with (go_at_call 35; refine (digitsEnd_any _ _ _ _ _ q _ HT.out hn (by omega)).mono ?_; rintro e w' ⟨he, rfl⟩; rw [HP.out] at he; subst he)
            go_meet
            exact ⟨_, rfl, hqd, rfl, HM⟩
        case rest =>
          obtain ⟨q2, rfl, hq2, rfl, H2⟩ := hcut
          have HA : Hid (Plain.place i (Plain.numL (zs.drop i)) = Plain.place q2 (Plain.fracL (zs.drop q2))) := H.out.trans H2.out
          clear H H2 hc1 HZ1 hd hqn hne HZ0 hq
          by_cases hdot : q2 < n ∧ zs.getD q2 0 = 46
          · obtain ⟨hlt2, h46⟩ := hdot
            have hc2 : w.cell? ⟨g, o + q2, none⟩ = some (.int .u8 46) := by rw [← h46]; exact HT.out.cell q2 hlt2
            by_cases hdz : Plain.digs (zs.drop (q2 + 1)) = 0
            · have HR : Hid (Plain.place i (Plain.numL (zs.drop i)) = -1) := HA.out.trans (Plain.frac_dot h46 hdz)
              have HD : Hid (Plain.place (q2 + 1) (Plain.digO (zs.drop (q2 + 1))) = -1) := by unfold Hid Plain.digO; rw [if_pos hdz]; rfl
              clear h46 hdz HA
              go_wp2_with fail
              rw [show ((q2 : Int) + 1) = ((q2 + 1 : Nat) : Int) from by omega]
              refine (digitsEnd_any _ _ _ _ _ (q2 + 1) _ HT.out hn (by omega)).mono ?_
              rintro e w' ⟨he, rfl⟩
              rw [HD.out] at he
              subst he
              go_wp2_with fail
              go_ret
              exact ⟨ret_i64 HR.out.symm, rfl⟩
            · have HB : Hid (Plain.place i (Plain.numL (zs.drop i)) = Plain.place (q2 + 1 + Plain.digs (zs.drop (q2 + 1))) (Plain.expL (zs.drop (q2 + 1 + Plain.digs (zs.drop (q2 + 1)))))) := HA.out.trans (Plain.frac_more h46 hdz)
              have HD : Hid (Plain.place (q2 + 1) (Plain.digO (zs.drop (q2 + 1))) = ((q2 + 1 + Plain.digs (zs.drop (q2 + 1)) : Nat) : Int)) := Plain.place_digO hdz
              have hle := Plain.digs_le (zs.drop (q2 + 1))
              have hlen : (zs.drop (q2 + 1)).length = n - (q2 + 1) := by rw [List.length_drop, HL.out]
              have hq3 : q2 + 1 + Plain.digs (zs.drop (q2 + 1)) ≤ n := by omega
              clear h46 hdz HA hle hlen
              generalize q2 + 1 + Plain.digs (zs.drop (q2 + 1)) = q3 at HB HD hq3
              have HA : Hid (Plain.place i (Plain.numL (zs.drop i)) = Plain.place q3 (Plain.expL (zs.drop q3))) := HB
              clear HB
              go_wp2_with fail
              rw [show ((q2 : Int) + 1) = ((q2 + 1 : Nat) : Int) from by omega]
              refine (digitsEnd_any _ _ _ _ _ (q2 + 1) _ HT.out hn (by omega)).mono ?_
              rintro e w' ⟨he, rfl⟩
              rw [HD.out] at he
              subst he
              go_upto_region 12 with fail
              by_cases hq3n : q3 < n
              · obtain ⟨z3, hz3⟩ : ∃ z, z = zs.getD (q3) 0 := ⟨_, rfl⟩
                have hc3 : w.cell? ⟨g, o + (q3), none⟩ = some (.int .u8 z3) := by rw [hz3]; exact HT.out.cell _ hq3n
                have HZ3 : Hid (z3 = zs.getD (q3) 0) := hz3
                clear hz3
                by_cases he : z3 = 101 ∨ z3 = 69
                · have HE : Hid (zs.getD (q3) 0 = 101 ∨ zs.getD (q3) 0 = 69) := by rw [← HZ3.out]; exact he
                  by_cases hq4n : q3 + 1 < n
                  · obtain ⟨z4, hz4⟩ : ∃ z, z = zs.getD (q3 + 1) 0 := ⟨_, rfl⟩
                    have hc4 : w.cell? ⟨g, o + (q3 + 1), none⟩ = some (.int .u8 z4) := by rw [hz4]; exact HT.out.cell _ hq4n
                    have HZ4 : Hid (z4 = zs.getD (q3 + 1) 0) := hz4
                    clear hz4
                    rcases (show (z4 = 43) ∨ (z4 = 45) ∨ ((z4 == 43) = false ∧ (z4 == 45) = false) from by simp; omega) with h4 | h4 | ⟨e1, e2⟩
                    · subst h4
                      have HR := HA.out.trans (Plain.exp_sign HE.out (.inl HZ4.out.symm))
                      have HR' : Hid (Plain.place i (Plain.numL (zs.drop i)) = Plain.place (q3 + 2) (Plain.digO (zs.drop (q3 + 2)))) := HR
                      clear HR
                      rcases he with rfl | rfl
                      all_goals
                        go_wp2_with fail
                        rw [show (((q3 : Int)) + 1 + 1 : Int) = ((q3 + 2 : Nat) : Int) from by omega]
                        refine (digitsEnd_any _ _ _ _ _ (q3 + 2) _ HT.out hn (by omega)).mono ?_
                        rintro e w' ⟨rfl, rfl⟩
                        go_wp2_with fail
                        go_ret
                        exact ⟨ret_i64 HR'.out.symm, rfl⟩
                    · subst h4
                      have HR := HA.out.trans (Plain.exp_sign HE.out (.inr HZ4.out.symm))
                      have HR' : Hid (Plain.place i (Plain.numL (zs.drop i)) = Plain.place (q3 + 2) (Plain.digO (zs.drop (q3 + 2)))) := HR
                      clear HR
                      rcases he with rfl | rfl
                      all_goals
                        go_wp2_with fail
                        rw [show (((q3 : Int)) + 1 + 1 : Int) = ((q3 + 2 : Nat) : Int) from by omega]
                        refine (digitsEnd_any _ _ _ _ _ (q3 + 2) _ HT.out hn (by omega)).mono ?_
                        rintro e w' ⟨rfl, rfl⟩
                        go_wp2_with fail
                        go_ret
                        exact ⟨ret_i64 HR'.out.symm, rfl⟩
                    · have HR := HA.out.trans (Plain.exp_bare HE.out (by rw [← HZ4.out]; simp at e1 e2; omega))
                      have HR' : Hid (Plain.place i (Plain.numL (zs.drop i)) = Plain.place (q3 + 1) (Plain.digO (zs.drop (q3 + 1)))) := HR
                      clear HR
                      rcases he with rfl | rfl
                      all_goals
                        go_wp2_with fail
                        rw [show (((q3 : Int)) + 1 : Int) = ((q3 + 1 : Nat) : Int) from by omega]
                        refine (digitsEnd_any _ _ _ _ _ (q3 + 1) _ HT.out hn (by omega)).mono ?_
                        rintro e w' ⟨rfl, rfl⟩
                        go_wp2_with fail
                        go_ret
                        exact ⟨ret_i64 HR'.out.symm, rfl⟩
                  · have HR := HA.out.trans (Plain.exp_bare HE.out (by rw [Plain.getD_end (by rw [HL.out]; omega)]; omega))
                    have HR' : Hid (Plain.place i (Plain.numL (zs.drop i)) = Plain.place (q3 + 1) (Plain.digO (zs.drop (q3 + 1)))) := HR
                    clear HR
                    rcases he with rfl | rfl
                    all_goals
                      go_wp2_with fail
                      rw [show (((q3 : Int)) + 1 : Int) = ((q3 + 1 : Nat) : Int) from by omega]
                      refine (digitsEnd_any _ _ _ _ _ (q3 + 1) _ HT.out hn (by omega)).mono ?_
                      rintro e w' ⟨rfl, rfl⟩
                      go_wp2_with fail
                      go_ret
                      exact ⟨ret_i64 HR'.out.symm, rfl⟩
                · have e1 : (z3 == 101) = false := by simp; omega
                  have e2 : (z3 == 69) = false := by simp; omega
                  have HR := HA.out.trans (Plain.exp_plain (by rw [← HZ3.out]; exact he))
                  have HR' : Hid (Plain.place i (Plain.numL (zs.drop i)) = ((q3 : Nat) : Int)) := HR
                  clear HR he
                  go_wp2_with fail
                  go_ret
                  exact ⟨ret_i64 (by rw [HR'.out]; try omega), rfl⟩
              · have HR := HA.out.trans (Plain.exp_plain (by rw [Plain.getD_end (by rw [HL.out]; omega)]; omega))
                have HR' : Hid (Plain.place i (Plain.numL (zs.drop i)) = ((q3 : Nat) : Int)) := HR
                clear HR
                go_wp2_with fail
                go_ret
                exact ⟨ret_i64 (by rw [HR'.out]; try omega), rfl⟩
          · have HB : Hid (Plain.place i (Plain.numL (zs.drop i)) = Plain.place q2 (Plain.expL (zs.drop q2))) := by
              refine HA.out.trans (Plain.frac_plain ?_)
              intro h
              by_cases hq2n : q2 < n
              · exact hdot ⟨hq2n, h⟩
              · rw [Plain.getD_end (by rw [HL.out]; omega)] at h; omega
            clear HA
            have HA := HB
            clear HB
            by_cases hq2n : q2 < n
            · obtain ⟨z2, hz2⟩ : ∃ z, z = zs.getD q2 0 := ⟨_, rfl⟩
              have hc2 : w.cell? ⟨g, o + q2, none⟩ = some (.int .u8 z2) := by rw [hz2]; exact HT.out.cell q2 hq2n
              have h46 : (z2 == 46) = false := by simp; intro h; exact hdot ⟨hq2n, by rw [← hz2]; exact h⟩
              clear hdot hz2
              go_upto_region 12 with fail
              clear hc2 h46
              have hq3n := hq2n
              obtain ⟨z3, hz3⟩ : ∃ z, z = zs.getD (q2) 0 := ⟨_, rfl⟩
              have hc3 : w.cell? ⟨g, o + (q2), none⟩ = some (.int .u8 z3) := by rw [hz3]; exact HT.out.cell _ hq3n
              have HZ3 : Hid (z3 = zs.getD (q2) 0) := hz3
              clear hz3
              by_cases he : z3 = 101 ∨ z3 = 69
              · have HE : Hid (zs.getD (q2) 0 = 101 ∨ zs.getD (q2) 0 = 69) := by rw [← HZ3.out]; exact he
                by_cases hq4n : q2 + 1 < n
                · obtain ⟨z4, hz4⟩ : ∃ z, z = zs.getD (q2 + 1) 0 := ⟨_, rfl⟩
                  have hc4 : w.cell? ⟨g, o + (q2 + 1), none⟩ = some (.int .u8 z4) := by rw [hz4]; exact HT.out.cell _ hq4n
                  have HZ4 : Hid (z4 = zs.getD (q2 + 1) 0) := hz4
                  clear hz4
                  rcases (show (z4 = 43) ∨ (z4 = 45) ∨ ((z4 == 43) = false ∧ (z4 == 45) = false) from by simp; omega) with h4 | h4 | ⟨e1, e2⟩
                  · subst h4
                    have HR := HA.out.trans (Plain.exp_sign HE.out (.inl HZ4.out.symm))
                    have HR' : Hid (Plain.place i (Plain.numL (zs.drop i)) = Plain.place (q2 + 2) (Plain.digO (zs.drop (q2 + 2)))) := HR
                    clear HR
                    rcases he with rfl | rfl
                    all_goals
                      go_wp2_with fail
                      rw [show (((q2 : Int)) + 1 + 1 : Int) = ((q2 + 2 : Nat) : Int) from by omega]
                      refine (digitsEnd_any _ _ _ _ _ (q2 + 2) _ HT.out hn (by omega)).mono ?_
                      rintro e w' ⟨rfl, rfl⟩
                      go_wp2_with fail
                      go_ret
                      exact ⟨ret_i64 HR'.out.symm, rfl⟩
                  · subst h4
                    have HR := HA.out.trans (Plain.exp_sign HE.out (.inr HZ4.out.symm))
                    have HR' : Hid (Plain.place i (Plain.numL (zs.drop i)) = Plain.place (q2 + 2) (Plain.digO (zs.drop (q2 + 2)))) := HR
                    clear HR
                    rcases he with rfl | rfl
                    all_goals
                      go_wp2_with fail
                      rw [show (((q2 : Int)) + 1 + 1 : Int) = ((q2 + 2 : Nat) : Int) from by omega]
                      refine (digitsEnd_any _ _ _ _ _ (q2 + 2) _ HT.out hn (by omega)).mono ?_
                      rintro e w' ⟨rfl, rfl⟩
                      go_wp2_with fail
                      go_ret
                      exact ⟨ret_i64 HR'.out.symm, rfl⟩
                  · have HR := HA.out.trans (Plain.exp_bare HE.out (by rw [← HZ4.out]; simp at e1 e2; omega))
                    have HR' : Hid (Plain.place i (Plain.numL (zs.drop i)) = Plain.place (q2 + 1) (Plain.digO (zs.drop (q2 + 1)))) := HR
                    clear HR
                    rcases he with rfl | rfl
                    all_goals
                      go_wp2_with fail
                      rw [show (((q2 : Int)) + 1 : Int) = ((q2 + 1 : Nat) : Int) from by omega]
                      refine (digitsEnd_any _ _ _ _ _ (q2 + 1) _ HT.out hn (by omega)).mono ?_
                      rintro e w' ⟨rfl, rfl⟩
                      go_wp2_with fail
                      go_ret
                      exact ⟨ret_i64 HR'.out.symm, rfl⟩
                · have HR := HA.out.trans (Plain.exp_bare HE.out (by rw [Plain.getD_end (by rw [HL.out]; omega)]; omega))
                  have HR' : Hid (Plain.place i (Plain.numL (zs.drop i)) = Plain.place (q2 + 1) (Plain.digO (zs.drop (q2 + 1)))) := HR
                  clear HR
                  rcases he with rfl | rfl
                  all_goals
                    go_wp2_with fail
                    rw [show (((q2 : Int)) + 1 : Int) = ((q2 + 1 : Nat) : Int) from by omega]
                    refine (digitsEnd_any _ _ _ _ _ (q2 + 1) _ HT.out hn (by omega)).mono ?_
                    rintro e w' ⟨rfl, rfl⟩
                    go_wp2_with fail
                    go_ret
                    exact ⟨ret_i64 HR'.out.symm, rfl⟩
              · have e1 : (z3 == 101) = false := by simp; omega
                have e2 : (z3 == 69) = false := by simp; omega
                have HR := HA.out.trans (Plain.exp_plain (by rw [← HZ3.out]; exact he))
                have HR' : Hid (Plain.place i (Plain.numL (zs.drop i)) = ((q2 : Nat) : Int)) := HR
                clear HR he
                go_wp2_with fail
                go_ret
                exact ⟨ret_i64 (by rw [HR'.out]; try omega), rfl⟩
            · clear hdot
              go_upto_region 12 with fail
              have HR := HA.out.trans (Plain.exp_plain (by rw [Plain.getD_end (by rw [HL.out]; omega)]; omega))
              have HR' : Hid (Plain.place i (Plain.numL (zs.drop i)) = ((q2 : Nat) : Int)) := HR
              clear HR
              go_wp2_with fail
              go_ret
              exact ⟨ret_i64 (by rw [HR'.out]; try omega), rfl⟩
    · have hqe : ((q : Int) == (n : Int)) = true := by simp; omega
      have HR : Hid (Plain.place i (Plain.numL (zs.drop i)) = -1) := H.out.trans (Plain.int_none (by rw [Plain.getD_end (by rw [HL.out]; omega)]; rfl))
      go_wp2_with fail
      go_ret
      exact ⟨ret_i64 HR.out.symm, rfl⟩

/-- ZZnumberEnd. -/
theorem zznumberEnd_any (w : World) (g o n c i : Nat) (zs : List Int) (hT : Tx .u8 w g o n zs) (hn : n ≤ 1000000000) (hi : i < n) :
    Calls Try.prog 10 #[.slice (some ⟨g, o, none⟩) n c, .int .i64 i] w fun e w' => e = .returned (.int .i64 (Plain.place i (Plain.numL (zs.drop i)))) ∧ w = w' := by
  go_enter Try.func10, Try.ntmps10
  go_wp2_with (go_at_call 26; refine (numberEnd_any _ _ _ _ _ i _ hT hn hi).mono ?_; rintro e w' ⟨rfl, rfl⟩)
  go_ret
  exact ⟨rfl, rfl⟩
end Go.Proofs.Qxb6601304a
