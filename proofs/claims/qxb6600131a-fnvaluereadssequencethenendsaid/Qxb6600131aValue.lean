/-
  The walk of (*splitter).value, case by case; ZZValue.
-/
import Derived.Test.Qxb6600131aPeek
import Derived.Test.Qxb6600131aPlainV
namespace Go.Proofs.Qxb6600131a
open Go.RowKit
set_option linter.unusedVariables false

/-- What a call of value leaves that reads m bytes at place j. -/
def Read (w : World) (p g n c j m : Nat) (e : Ending) (w' : World) : Prop :=
  e = .returned (.slice (some ⟨g, j, none⟩) m (c - j)) ∧ Spl w' p (.slice (some ⟨g, 0, none⟩) n c) ((j + m : Nat) : Int) ∧ w.grownBy w' (some p)

theorem Tx.drew {w : World} {g n : Nat} {zs : List Int} (h : Tx w g n zs) : Tx w.drew g n zs := ⟨h.len, h.bytes, h.cell⟩
theorem slice_at {g j n m c : Nat} (h : n = m) : Ending.returned (Value.slice (some ⟨g, j, none⟩) n c) = .returned (.slice (some ⟨g, j, none⟩) m c) := by rw [h]
theorem Spl.at {w : World} {p : Nat} {v : Value} {i j : Int} (h : Spl w p v i) (e : i = j) : Spl w p v j := by subst e; exact h

/-- At the text's end. -/
theorem value_end (w : World) (p g n c i : Nat) (zs : List Int) (hS : Spl w p (.slice (some ⟨g, 0, none⟩) n c) i) (hT : Tx w g n zs) (hgp : g ≠ p) (hn : n ≤ 1000000000000) (hi : i ≤ n) (hj : Plain.wsEnd zs i = n) :
    Calls Try.prog 34 #[.pointer (some ⟨p, 0, none⟩)] w fun e w' => e = .returned (.slice none 0 0) ∧ Spl w' p (.slice (some ⟨g, 0, none⟩) n c) (n : Int) ∧ w.grownBy w' (some p) := by
  go_enter Try.func34, Try.ntmps34
  go_wp2_with fail
  refine (peek_any _ _ g n c i zs hS hT hgp hn hi).mono ?_
  rintro e w1 ⟨he, hS1, hg1⟩
  rw [hj] at he hS1
  rw [show zs.getD n 0 = 0 from by rw [List.getD_eq_getElem?_getD, List.getElem?_eq_none (by rw [hT.len]; omega)]; rfl] at he
  subst he
  have h1 := hS1.text
  have h2 := hS1.off
  have h3 := hS1.free
  clear hS hT hj
  go_wp2
  go_ret
  exact ⟨rfl, hS1, hg1⟩

set_option maxHeartbeats 1000000 in
/-- A string. -/
theorem value_str (w : World) (p g n c i j E : Nat) (zs : List Int) (hS : Spl w p (.slice (some ⟨g, 0, none⟩) n c) i) (hT : Tx w g n zs) (hgp : g ≠ p) (hn : n ≤ 1000000000000) (hnc : n ≤ c) (hi : i ≤ n) (hj : Plain.wsEnd zs i = j) (hlt : j < n)
    (h34 : zs.getD j 0 = 34) (hE : Plain.scanFrom zs (j + 1) = some E) :
    Calls Try.prog 34 #[.pointer (some ⟨p, 0, none⟩)] w (Read w p g n c j (E - j)) := by
  have hEl := Plain.scanFrom_le hE
  rw [hT.len] at hEl
  obtain ⟨hE1, hE2⟩ := hEl
  go_enter Try.func34, Try.ntmps34
  go_wp2_with fail
  refine (peek_any _ _ g n c i zs hS hT hgp hn hi).mono ?_
  rintro e w1 ⟨he, hS1, hg1⟩
  rw [hj] at he hS1
  rw [h34] at he
  subst he
  have h1 := hS1.text
  have h2 := hS1.off
  have h3 := hS1.free
  have hT1 := hT.grown hg1 hgp
  have HE : Hid (Plain.scanFrom zs (j + 1) = some E) := hE
  clear hS hT hj h34 hE
  go_wp2_with fail
  refine (skip_any _ _ g n c j zs hS1 hT1 hgp hn (by omega)).mono ?_
  rintro e w2 ⟨he, hS2, hg2⟩
  rw [HE.out] at he hS2
  simp only [Option.isSome_some, Option.getD_some] at he hS2
  subst he
  clear h1 h2 h3 hS1 hT1
  have h1 := hS2.text
  have h2 := hS2.off
  have h3 := hS2.free
  have k1 : (j : Int) ≤ (E : Int) := by omega
  have k2 : (E : Int) ≤ (c : Int) := by omega
  have k3 : (0 : Int) ≤ (j : Int) := by omega
  go_wp2_with fail
  go_region
  all_goals
    go_wp2
    go_ret
    refine ⟨rfl, ?_, grown_trans hg1 (grown_drew hg2)⟩
    rw [show j + (E - j) = E from by omega]
    exact hS2

set_option maxRecDepth 100000 in
set_option maxHeartbeats 4000000 in
/-- An object or an array. -/
theorem value_comp (w : World) (p g n c i j E : Nat) (o : Int) (zs : List Int) (hS : Spl w p (.slice (some ⟨g, 0, none⟩) n c) i) (hT : Tx w g n zs) (hgp : g ≠ p) (hn : n ≤ 1000000000000) (hnc : n ≤ c) (hi : i ≤ n) (hj : Plain.wsEnd zs i = j)
    (ho : zs.getD j 0 = o) (hop : o = 123 ∨ o = 91) (hD : Plain.DW zs E j 0) :
    Calls Try.prog 34 #[.pointer (some ⟨p, 0, none⟩)] w (Read w p g n c j (E - j)) := by
  have HD0 : Hid (Plain.DW zs E j 0) := hD
  have hjE := hD.1
  have hEn := hD.2.1
  rw [hT.len] at hEn
  clear hD
  rcases hop with rfl | rfl
  all_goals
    go_enter Try.func34, Try.ntmps34
    go_wp2_with fail
    refine (peek_any _ _ g n c i zs hS hT hgp hn hi).mono ?_
    rintro e w1 ⟨he, hS1, hg1⟩
    rw [hj] at he hS1
    rw [ho] at he
    subst he
    have h1 := hS1.text
    have h2 := hS1.off
    have h3 := hS1.free
    have HT : Hid (Tx w g n zs) := hT
    clear hS hT hj ho
    go_wp2_with fail
    go_loopg [5] (n - j) (fun gk dv wr => ∃ k : Nat, ∃ d : Int, gk = n - k ∧ dv = .int .i64 d ∧ j ≤ k ∧ k < n ∧ -(k : Int) ≤ d ∧ d ≤ (k : Int) ∧ Spl wr p (.slice (some ⟨g, 0, none⟩) n c) k ∧ w.grownBy wr (some p) ∧ Hid (Plain.DW zs E k d))
    case atStart => exact ⟨j, 0, rfl, rfl, Nat.le_refl _, by omega, by omega, by omega, hS1, hg1, HD0⟩
    case round =>
      obtain ⟨k, d, rfl, rfl, hjk, hkn, hd1, hd2, hSr, hgr, HD⟩ := hrel
      clear h1 h2 h3 hS1 HD0
      have h1 := hSr.text
      have h2 := hSr.off
      have h3 := hSr.free
      have hTr := HT.out.grown hgr hgp
      obtain ⟨z, hz⟩ : ∃ z, z = zs.getD k 0 := ⟨_, rfl⟩
      have hc : wr.cell? ⟨g, k, none⟩ = some (.int .u8 z) := by rw [hz]; exact hTr.cell k hkn
      have HZ : Hid (z = zs.getD k 0) := hz
      have HTr : Hid (Tx wr g n zs) := hTr
      clear hz hTr
      have i0 : (0 : Int) ≤ (k : Int) := by omega
      have i1 : (k : Int) < (n : Int) := by omega
      by_cases h34 : z = 34
      · subst h34
        obtain ⟨q, hq, hkq, hDq⟩ := HD.out.quote HZ.out.symm
        have HQ : Hid (Plain.scanFrom zs (k + 1) = some q) := hq
        have HDq : Hid (Plain.DW zs E q d) := hDq
        have hqE := hDq.1
        clear hq hDq
        go_wp2_with fail
        go_region
        go_wp2_with fail
        go_region
        go_wp2_with fail
        refine (skip_any _ _ g n c k zs hSr.drew.drew HTr.out.drew.drew hgp hn (by omega)).mono ?_
        rintro e w2 ⟨he, hS2, hg2⟩
        rw [HQ.out] at he hS2
        simp only [Option.isSome_some, Option.getD_some] at he hS2
        subst he
        have hg3 : w.grownBy w2 (some p) := grown_trans (grown_drew (grown_drew hgr)) hg2
        clear h1 h2 h3 hSr hc
        go_wp2_with fail
        go_roundg (n - q)
        case measure => omega
        case rel => exact ⟨q, d, rfl, rfl, by omega, by omega, by omega, by omega, hS2, hg3, HDq⟩
      · have hne : zs.getD k 0 ≠ 34 := by rw [← HZ.out]; exact h34
        have b34 : (z == 34) = false := by simpa using h34
        have HNE : Hid (zs.getD k 0 ≠ 34) := hne
        clear h34 hne
        rcases (show (z = 123) ∨ (z = 91) ∨ (z = 125) ∨ (z = 93) ∨ ((z == 123) = false ∧ (z == 91) = false ∧ (z == 125) = false ∧ (z == 93) = false) from by simp; omega) with rfl | rfl | rfl | rfl | ⟨e1, e2, e3, e4⟩
        · have HT1 : Hid (Plain.turn (zs.getD k 0) d = d + 1) := by unfold Hid; rw [← HZ.out]; rfl
          by_cases hd0 : d + 1 = 0
          · have hE : E = k + 1 := HD.out.stop HNE.out (HT1.out.trans hd0)
            subst hE
            have bd : (d + 1 == 0) = true := by simpa using hd0
            have k1 : (j : Int) ≤ (k : Int) + 1 := by omega
            have k2 : (k : Int) + 1 ≤ (c : Int) := by omega
            clear hd0
            go_wp2_with fail
            go_region
            go_wp2_with fail
            go_region
            go_wp2_with fail
            go_region
            all_goals
              go_wp2_with fail
              go_ret
              refine ⟨slice_at (by omega), ?_, grown_drew (grown_drew (grown_drew (grown_set hgr _ _)))⟩
              exact (hSr.set' (by omega))
          · have hDn := HD.out.next HNE.out (by rw [HT1.out]; exact hd0)
            rw [HT1.out] at hDn
            have HDn : Hid (Plain.DW zs E (k + 1) (d + 1)) := hDn
            have hEk := hDn.1
            have bd : (d + 1 == 0) = false := by simpa using hd0
            clear hd0 hDn
            go_wp2_with fail
            go_region
            go_wp2_with fail
            go_region
            go_wp2_with fail
            go_roundg (n - (k + 1))
            case measure => omega
            case rel => exact ⟨k + 1, d + 1, rfl, rfl, by omega, by omega, by omega, by omega, (hSr.set' (by omega)), grown_drew (grown_drew (grown_set hgr _ _)), HDn⟩
        · have HT1 : Hid (Plain.turn (zs.getD k 0) d = d + 1) := by unfold Hid; rw [← HZ.out]; rfl
          by_cases hd0 : d + 1 = 0
          · have hE : E = k + 1 := HD.out.stop HNE.out (HT1.out.trans hd0)
            subst hE
            have bd : (d + 1 == 0) = true := by simpa using hd0
            have k1 : (j : Int) ≤ (k : Int) + 1 := by omega
            have k2 : (k : Int) + 1 ≤ (c : Int) := by omega
            clear hd0
            go_wp2_with fail
            go_region
            go_wp2_with fail
            go_region
            go_wp2_with fail
            go_region
            all_goals
              go_wp2_with fail
              go_ret
              refine ⟨slice_at (by omega), ?_, grown_drew (grown_drew (grown_drew (grown_set hgr _ _)))⟩
              exact (hSr.set' (by omega))
          · have hDn := HD.out.next HNE.out (by rw [HT1.out]; exact hd0)
            rw [HT1.out] at hDn
            have HDn : Hid (Plain.DW zs E (k + 1) (d + 1)) := hDn
            have hEk := hDn.1
            have bd : (d + 1 == 0) = false := by simpa using hd0
            clear hd0 hDn
            go_wp2_with fail
            go_region
            go_wp2_with fail
            go_region
            go_wp2_with fail
            go_roundg (n - (k + 1))
            case measure => omega
            case rel => exact ⟨k + 1, d + 1, rfl, rfl, by omega, by omega, by omega, by omega, (hSr.set' (by omega)), grown_drew (grown_drew (grown_set hgr _ _)), HDn⟩
        · have HT1 : Hid (Plain.turn (zs.getD k 0) d = d - 1) := by unfold Hid; rw [← HZ.out]; rfl
          by_cases hd0 : d - 1 = 0
          · have hE : E = k + 1 := HD.out.stop HNE.out (HT1.out.trans hd0)
            subst hE
            have bd : (d - 1 == 0) = true := by simpa using hd0
            have k1 : (j : Int) ≤ (k : Int) + 1 := by omega
            have k2 : (k : Int) + 1 ≤ (c : Int) := by omega
            clear hd0
            go_wp2_with fail
            go_region
            go_wp2_with fail
            go_region
            go_wp2_with fail
            go_region
            all_goals
              go_wp2_with fail
              go_ret
              refine ⟨slice_at (by omega), ?_, grown_drew (grown_drew (grown_drew (grown_set hgr _ _)))⟩
              exact (hSr.set' (by omega))
          · have hDn := HD.out.next HNE.out (by rw [HT1.out]; exact hd0)
            rw [HT1.out] at hDn
            have HDn : Hid (Plain.DW zs E (k + 1) (d - 1)) := hDn
            have hEk := hDn.1
            have bd : (d - 1 == 0) = false := by simpa using hd0
            clear hd0 hDn
            go_wp2_with fail
            go_region
            go_wp2_with fail
            go_region
            go_wp2_with fail
            go_roundg (n - (k + 1))
            case measure => omega
            case rel => exact ⟨k + 1, d - 1, rfl, rfl, by omega, by omega, by omega, by omega, (hSr.set' (by omega)), grown_drew (grown_drew (grown_set hgr _ _)), HDn⟩
        · have HT1 : Hid (Plain.turn (zs.getD k 0) d = d - 1) := by unfold Hid; rw [← HZ.out]; rfl
          by_cases hd0 : d - 1 = 0
          · have hE : E = k + 1 := HD.out.stop HNE.out (HT1.out.trans hd0)
            subst hE
            have bd : (d - 1 == 0) = true := by simpa using hd0
            have k1 : (j : Int) ≤ (k : Int) + 1 := by omega
            have k2 : (k : Int) + 1 ≤ (c : Int) := by omega
            clear hd0
            go_wp2_with fail
            go_region
            go_wp2_with fail
            go_region
            go_wp2_with fail
            go_region
            all_goals
              go_wp2_with fail
              go_ret
              refine ⟨slice_at (by omega), ?_, grown_drew (grown_drew (grown_drew (grown_set hgr _ _)))⟩
              exact (hSr.set' (by omega))
          · have hDn := HD.out.next HNE.out (by rw [HT1.out]; exact hd0)
            rw [HT1.out] at hDn
            have HDn : Hid (Plain.DW zs E (k + 1) (d - 1)) := hDn
            have hEk := hDn.1
            have bd : (d - 1 == 0) = false := by simpa using hd0
            clear hd0 hDn
            go_wp2_with fail
            go_region
            go_wp2_with fail
            go_region
            go_wp2_with fail
            go_roundg (n - (k + 1))
            case measure => omega
            case rel => exact ⟨k + 1, d - 1, rfl, rfl, by omega, by omega, by omega, by omega, (hSr.set' (by omega)), grown_drew (grown_drew (grown_set hgr _ _)), HDn⟩
        · have HT1 : Hid (Plain.turn (zs.getD k 0) d = d) := by unfold Hid; rw [← HZ.out]; simp [Plain.turn, Plain.opens, Plain.shuts, e1, e2, e3, e4]
          by_cases hd0 : d = 0
          · have hE : E = k + 1 := HD.out.stop HNE.out (HT1.out.trans hd0)
            subst hE
            have bd : (d == 0) = true := by simpa using hd0
            have k1 : (j : Int) ≤ (k : Int) + 1 := by omega
            have k2 : (k : Int) + 1 ≤ (c : Int) := by omega
            clear hd0
            go_wp2_with fail
            go_region
            go_wp2_with fail
            go_region
            go_wp2_with fail
            go_region
            all_goals
              go_wp2_with fail
              go_ret
              refine ⟨slice_at (by omega), ?_, grown_drew (grown_drew (grown_drew (grown_set hgr _ _)))⟩
              exact (hSr.set' (by omega))
          · have hDn := HD.out.next HNE.out (by rw [HT1.out]; exact hd0)
            rw [HT1.out] at hDn
            have HDn : Hid (Plain.DW zs E (k + 1) (d)) := hDn
            have hEk := hDn.1
            have bd : (d == 0) = false := by simpa using hd0
            clear hd0 hDn
            go_wp2_with fail
            go_region
            go_wp2_with fail
            go_region
            go_wp2_with fail
            go_roundg (n - (k + 1))
            case measure => omega
            case rel => exact ⟨k + 1, d, rfl, rfl, by omega, by omega, by omega, by omega, (hSr.set' (by omega)), grown_drew (grown_drew (grown_set hgr _ _)), HDn⟩
end Go.Proofs.Qxb6600131a
