/-
  The walks of (*splitter).skipString and ZZSkipString.
-/
import Derived.Test.Qxb6600131aBase
import Derived.Test.Qxb6600131aPlain
namespace Go.Proofs.Qxb6600131a
open Go.RowKit
set_option linter.unusedVariables false

/-- The text: a slice at the head of block g, its bytes zs. -/
structure Tx (w : World) (g n : Nat) (zs : List Int) : Prop where
  len : zs.length = n
  bytes : Bytes zs
  cell : ∀ i, i < n → w.cell? ⟨g, i, none⟩ = some (.int .u8 (zs.getD i 0))

theorem Tx.grown {w w' : World} {g n p : Nat} {zs : List Int} (h : Tx w g n zs) (hg : w.grownBy w' (some p)) (hp : g ≠ p) : Tx w' g n zs :=
  ⟨h.len, h.bytes, fun i hi => hg.cell (h.cell i hi) (by simp; exact hp)⟩

theorem Tx.ofOwn {w : World} {base g n c : Nat} {zs : List Int} (h : w.ownsRow base 5 1 (.slice (some ⟨g, 0, none⟩) n c) n (cells zs)) (hb : Bytes zs) : Tx w g n zs := by
  have hr := Rd.ofOwn h hb (Nat.le_refl _)
  refine ⟨hr.len, hb, fun i hi => ?_⟩
  rcases hr.lie with h0 | ⟨b, off, ha, _, hc⟩
  · omega
  · simp at ha
    obtain ⟨rfl, rfl⟩ := ha
    have := hc i hi
    rwa [Nat.zero_add] at this

set_option maxHeartbeats 400000 in
theorem skip_any (w : World) (p g n c i : Nat) (zs : List Int) (hS : Spl w p (.slice (some ⟨g, 0, none⟩) n c) i) (hT : Tx w g n zs) (hgp : g ≠ p) (hn : n ≤ 1000000000000) (hi : i ≤ n) :
    Calls Try.prog 32 #[.pointer (some ⟨p, 0, none⟩)] w fun e w' => e = .returned (.bool (Plain.scanFrom zs (i + 1)).isSome) ∧
      Spl w' p (.slice (some ⟨g, 0, none⟩) n c) ((Plain.scanFrom zs (i + 1)).getD i : Nat) ∧ w.grownBy w' (some p) := by
  have h1 := hS.text
  have h2 := hS.off
  have h3 := hS.free
  go_enter Try.func32, Try.ntmps32
  go_wp2
  go_loop [3] (fun t => ∃ k : Nat, t = .int .i64 k ∧ k ≤ n + 1 ∧ Hid (Plain.scanFrom zs k = Plain.scanFrom zs (i + 1))) (fun t => n + 2 - (intOf t).toNat)
  case atStart => exact ⟨i + 1, by go_num, by omega, rfl⟩
  case round =>
    obtain ⟨k, rfl, hk, H⟩ := hrel
    by_cases hlt : k < n
    · have hc := hT.cell k hlt
      have hb := hT.bytes.at k
      go_wp2
      · have h92 : (zs[k]?.getD 0 == 92) = true := by assumption
        go_round
        case rel => exact ⟨k + 2, by go_num, by omega, (Plain.scanFrom_esc (by rw [hT.len]; exact hlt) (by simpa using h92)).symm.trans H.out⟩
        case measure => simp [intOf]; omega
      · have h34 : (zs[k]?.getD 0 == 34) = true := by assumption
        have hs : Plain.scanFrom zs (i + 1) = some (k + 1) := H.out.symm.trans (Plain.scanFrom_quote (by rw [hT.len]; exact hlt) (by simpa using h34))
        go_ret
        rw [hs]
        exact ⟨rfl, hS.set _, grown_set (World.grownBy.refl _ _) _ _⟩
      · have h92 : (zs[k]?.getD 0 == 92) = false := by assumption
        have h34 : (zs[k]?.getD 0 == 34) = false := by assumption
        go_round
        case rel => exact ⟨k + 1, by go_num, by omega, (Plain.scanFrom_else (by rw [hT.len]; exact hlt) (by simpa using h92) (by simpa using h34)).symm.trans H.out⟩
        case measure => simp [intOf]; omega
    · go_wp2
      have hs : Plain.scanFrom zs (i + 1) = none := H.out.symm.trans (Plain.scanFrom_end (by rw [hT.len]; omega))
      go_ret
      rw [hs]
      exact ⟨rfl, hS, World.grownBy.refl _ _⟩

/-- ZZSkipString: a splitter is laid over the text. -/
theorem zzskip_any (w : World) (g n c i : Nat) (zs : List Int) (hT : Tx w g n zs) (hg : g < w.heap.size) (hn : n ≤ 1000000000000) (hi : i ≤ n) :
    Calls Try.prog 19 #[.slice (some ⟨g, 0, none⟩) n c, .int .i64 i] w fun e w' => e = .returned (.tuple #[.bool (Plain.scanFrom zs (i + 1)).isSome, .int .i64 ((Plain.scanFrom zs (i + 1)).getD i : Nat)]) ∧
      Below w.heap.size w w' := by
  have hS : Spl (w.alloc (.cells #[.slice (some ⟨g, 0, none⟩) n c, .int .i64 i] 42)) w.heap.size (.slice (some ⟨g, 0, none⟩) n c) i := heap_alloc_new w _
  have hT' : Tx (w.alloc (.cells #[.slice (some ⟨g, 0, none⟩) n c, .int .i64 i] 42)) g n zs := hT.grown (World.grownBy_alloc w _ _) (p := w.heap.size) (by omega)
  go_enter Try.func19, Try.ntmps19
  go_wp2_with fail
  refine (skip_any _ _ g n c i zs hS hT' (by omega) hn hi).mono ?_
  rintro e w1 ⟨rfl, hS1, hg1⟩
  have ho := hS1.off
  have hb : Below w.heap.size w w1 := ((Below.refl _ _).alloc (Nat.le_refl _) _).grown hg1 (by simp) (by intro k hk; cases hk; exact Nat.le_refl _)
  clear hS hT' hg1 hS1 hT
  go_wp2
  go_region
  all_goals
    go_wp2
    go_ret2
    exact ⟨rfl, hb.drew⟩
end Go.Proofs.Qxb6600131a
