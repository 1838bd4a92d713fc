/-
  The walk of zzAppendEnc.
-/
import Derived.Test.Qxb6600131aBase
import Derived.Test.Qxb6600131aPlain
namespace Go.Proofs.Qxb6600131a
open Go.RowKit
set_option linter.unusedVariables false

theorem step_two {w2 : World} {base n k : Nat} {v2 : Value} {ys zs : List Int} {z : Int} (hk : k < zs.length) (hz : z = zs.getD k 0) (he : z = 34 ∨ z = 92 ∨ z < 32)
    (h : w2.ownsRow base 5 1 v2 (n + (Plain.enc (zs.take k)).length + 1 + 1) (cells (ys ++ Plain.enc (zs.take k) ++ [92] ++ [z]))) :
    w2.ownsRow base 5 1 v2 (n + (Plain.enc (zs.take (k + 1))).length) (cells (ys ++ Plain.enc (zs.take (k + 1)))) := by
  rw [Plain.enc_take hk hz, Plain.encOne_yes he]
  simpa [Nat.add_assoc] using h

theorem step_one {w2 : World} {base n k : Nat} {v2 : Value} {ys zs : List Int} {z : Int} (hk : k < zs.length) (hz : z = zs.getD k 0) (he : ¬ (z = 34 ∨ z = 92 ∨ z < 32))
    (h : w2.ownsRow base 5 1 v2 (n + (Plain.enc (zs.take k)).length + 1) (cells (ys ++ Plain.enc (zs.take k) ++ [z]))) :
    w2.ownsRow base 5 1 v2 (n + (Plain.enc (zs.take (k + 1))).length) (cells (ys ++ Plain.enc (zs.take (k + 1)))) := by
  rw [Plain.enc_take hk hz, Plain.encOne_no he]
  simpa [Nat.add_assoc] using h

set_option maxHeartbeats 1000000 in
theorem appendEnc_any (w : World) (B base : Nat) (v0 : Value) (n : Nat) (ys : List Int) (a : Option Addr) (len cap : Nat) (zs : List Int)
    (hown0 : w.ownsRow base 5 1 v0 n (cells ys)) (hR : Rd B w a len cap zs) (hB : B ≤ base) (hbase : base ≤ w.heap.size) (hbd : n + 2 * len ≤ 1000000000000) :
    Calls Try.prog 18 #[v0, .slice a len cap] w fun e w' => ∃ v', e = .returned v' ∧ w'.ownsRow base 5 1 v' (n + (Plain.enc zs).length) (cells (ys ++ Plain.enc zs)) ∧ Below base w w' ∧ (v0 ≠ .slice none 0 0 → v' ≠ .slice none 0 0) := by
  have hzl := hR.len
  have hlie : len = 0 ∨ ∃ b off, a = some ⟨b, off, none⟩ ∧ b < B ∧ ∀ i, i < len → w.cell? ⟨b, off + i, none⟩ = some (.int .u8 (zs.getD i 0)) := hR.lie
  clear hR
  rcases hlie with h0 | ⟨b, off, rfl, hbB, hcell⟩
  · subst h0
    have hz : zs = [] := List.eq_nil_of_length_eq_zero hzl
    subst hz
    clear hzl
    go_enter Try.func18, Try.ntmps18
    go_wp2
    refine wp_loop_rounds 1 ?_
    rw [rounds_succ]
    go_wp2
    go_ret
    exact ⟨_, rfl, by simpa [Plain.enc] using hown0, Below.refl _ _, id⟩
  · go_enter Try.func18, Try.ntmps18
    go_wp2
    go_loopw [0, 5] (fun v t wr => ∃ k : Nat, t = .int .i64 k ∧ k ≤ len ∧ wr.ownsRow base 5 1 v (n + (Plain.enc (zs.take k)).length) (cells (ys ++ Plain.enc (zs.take k))) ∧ Below base w wr ∧ (v0 ≠ .slice none 0 0 → v ≠ .slice none 0 0)) (fun _ t _ => len - (intOf t).toNat)
    case atStart => exact ⟨0, rfl, Nat.zero_le _, by simpa [Plain.enc] using hown0, Below.refl _ _, id⟩
    case round =>
      obtain ⟨k, rfl, hk, hown, hbel, hnil⟩ := hrel
      have hel := Plain.enc_length (zs.take k)
      have hel2 : (zs.take k).length ≤ k := List.length_take_le _ _
      have hsz := hbel.size
      clear hown0
      by_cases hlt : k < len
      · obtain ⟨z, hz⟩ : ∃ z, z = zs.getD k 0 := ⟨_, rfl⟩
        have hc : wr.cell? ⟨b, off + k, none⟩ = some (.int .u8 z) := by rw [hz]; exact (hbel.cell (p := ⟨b, off + k, none⟩) (by simp; omega)).trans (hcell k hlt)
        clear hcell
        have HZ : Hid (z = zs.getD k 0) := hz
        clear hz
        by_cases hesc : z = 34 ∨ z = 92 ∨ z < 32
        · have HE : Hid (z = 34 ∨ z = 92 ∨ z < 32) := hesc
          rcases (show (z = 34) ∨ (z = 92) ∨ ((z == 34) = false ∧ (z == 92) = false ∧ z < 32) from by simp; omega) with rfl | rfl | ⟨h1, h2, h3⟩
          all_goals
            clear hesc
            go_wp2_with (first
              | (at_builtin; refine wpList_append_one rfl (.tmp 27) (.tmp 28) rfl base _ _ _ rfl hown 92 1 rfl (by omega) (by omega) ?_; intro v1 w1 hown1 hgr1 hnn1)
              | (at_builtin; refine wpList_append_one rfl (.tmp 30) (.tmp 32) rfl base _ _ _ rfl hown1 _ 1 rfl (by omega) (by have := hgr1.size; omega) ?_; intro v2 w2 hown2 hgr2 hnn2))
            go_roundw
            case rel => exact ⟨k + 1, by go_num, by omega, step_two (by omega) HZ.out HE.out hown2, (hbel.trans hgr1).trans hgr2, fun _ => hnn2⟩
            case measure => simp [intOf]; omega
        · have HE : Hid (¬ (z = 34 ∨ z = 92 ∨ z < 32)) := hesc
          have h1 : (z == 34) = false := by simp; omega
          have h2 : (z == 92) = false := by simp; omega
          have h3 : ¬ z < 32 := by omega
          clear hesc
          go_wp2_with (at_builtin; refine wpList_append_one rfl (.tmp 30) (.tmp 32) rfl base _ _ _ rfl hown _ 1 rfl (by omega) (by omega) ?_; intro v2 w2 hown2 hgr2 hnn2)
          go_roundw
          case rel => exact ⟨k + 1, by go_num, by omega, step_one (by omega) HZ.out HE.out hown2, hbel.trans hgr2, fun _ => hnn2⟩
          case measure => simp [intOf]; omega
      · go_wp2
        go_ret
        have : k = len := by omega
        subst this
        rw [List.take_of_length_le (by omega)] at hown
        exact ⟨_, rfl, hown, hbel, hnil⟩
end Go.Proofs.Qxb6600131a
