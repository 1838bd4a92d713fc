/-
  The walks of (*splitter).peek, ZZPeek, zzWS, zzAppendWS, zzIsWS.
-/
import Derived.Test.Qxb6600131aSkip
import Derived.Deep.LoopGhost
namespace Go.Proofs.Qxb6600131a
open Go.RowKit
set_option linter.unusedVariables false

theorem ret_u8 {a b : Int} (h : a = b) : Ending.returned (.int .u8 a) = .returned (.int .u8 b) := by rw [h]

theorem Spl.drew {w : World} {p : Nat} {v : Value} {i : Int} (h : Spl w p v i) : Spl w.drew p v i := h
theorem Spl.set' {w : World} {p : Nat} {v : Value} {i : Int} (h : Spl w p v i) {j j' : Int} (e : j = j') : Spl (w.setCell ⟨p, 1, none⟩ (.int .i64 j)) p v j' := by subst e; exact h.set j
theorem grown_drew {w w' : World} {row : Option Nat} (h : w.grownBy w' row) : w.grownBy w'.drew row := ⟨h.os, h.tape, h.output, h.size, h.block⟩

set_option maxHeartbeats 1000000 in
theorem peek_any (w : World) (p g n c i : Nat) (zs : List Int) (hS : Spl w p (.slice (some ⟨g, 0, none⟩) n c) i) (hT : Tx w g n zs) (hgp : g ≠ p) (hn : n ≤ 1000000000000) (hi : i ≤ n) :
    Calls Try.prog 31 #[.pointer (some ⟨p, 0, none⟩)] w fun e w' => e = .returned (.int .u8 (zs.getD (Plain.wsEnd zs i) 0)) ∧
      Spl w' p (.slice (some ⟨g, 0, none⟩) n c) (Plain.wsEnd zs i : Nat) ∧ w.grownBy w' (some p) := by
  go_enter Try.func31, Try.ntmps31
  go_wp2
  go_loopg [] (n - i) (fun gk wr => ∃ k : Nat, gk = n - k ∧ k ≤ n ∧ Spl wr p (.slice (some ⟨g, 0, none⟩) n c) k ∧ w.grownBy wr (some p) ∧ Hid (Plain.wsEnd zs k = Plain.wsEnd zs i))
  case atStart => exact ⟨i, rfl, hi, hS, World.grownBy.refl _ _, rfl⟩
  case round =>
    obtain ⟨k, rfl, hk, hSr, hgr, H⟩ := hrel
    have h1 := hSr.text
    have h2 := hSr.off
    have h3 := hSr.free
    have hTr := hT.grown hgr hgp
    clear hS hT
    by_cases hlt : k < n
    · obtain ⟨z, hz⟩ : ∃ z, z = zs.getD k 0 := ⟨_, rfl⟩
      have hc : wr.cell? ⟨g, k, none⟩ = some (.int .u8 z) := by rw [hz]; exact hTr.cell k hlt
      have HZ : Hid (z = zs.getD k 0) := hz
      have HT : Hid (Tx wr g n zs) := hTr
      clear hz hTr
      have hi0 : (0 : Int) ≤ (k : Int) := by omega
      have hi1 : (k : Int) < (n : Int) := by omega
      rcases (show (z = 32) ∨ (z = 9) ∨ (z = 10) ∨ (z = 13) ∨ ((z == 32) = false ∧ (z == 9) = false ∧ (z == 10) = false ∧ (z == 13) = false) from by simp; omega) with rfl | rfl | rfl | rfl | ⟨e1, e2, e3, e4⟩
      all_goals
        go_wp2
        go_region
        go_wp2
        go_region
        go_wp2
      rotate_right
      · have hw : Plain.wsEnd zs i = k := H.out.symm.trans (Plain.wsEnd_no (by rw [HT.out.len]; exact hlt) (by rw [← HZ.out]; simp [Plain.isWs, e1, e2, e3, e4]))
        go_ret
        rw [hw]
        exact ⟨ret_u8 HZ.out, hSr, grown_drew (grown_drew hgr)⟩
      all_goals
        go_roundg (n - (k + 1))
        case measure => omega
        case rel => exact ⟨k + 1, rfl, by omega, (hSr.set' (by omega)), grown_drew (grown_drew (grown_set hgr _ _)), (Plain.wsEnd_yes (by rw [HT.out.len]; exact hlt) (by rw [← HZ.out]; rfl)).symm.trans H.out⟩
    · have hw : Plain.wsEnd zs i = k := H.out.symm.trans (Plain.wsEnd_end (by rw [hTr.len]; omega))
      have HW : Hid (Plain.wsEnd zs i = k) := hw
      have hz0 : zs.getD k 0 = 0 := by rw [List.getD_eq_getElem?_getD, List.getElem?_eq_none (by rw [hTr.len]; omega)]; rfl
      have HZ : Hid (zs.getD k 0 = 0) := hz0
      clear hw hTr hz0
      go_wp2
      go_region
      go_wp2
      go_ret
      rw [HW.out]
      exact ⟨ret_u8 HZ.out.symm, hSr, grown_drew hgr⟩

/-- ZZPeek: a splitter is laid over the text. -/
theorem zzpeek_any (w : World) (g n c i : Nat) (zs : List Int) (hT : Tx w g n zs) (hg : g < w.heap.size) (hn : n ≤ 1000000000000) (hi : i ≤ n) :
    Calls Try.prog 14 #[.slice (some ⟨g, 0, none⟩) n c, .int .i64 i] w fun e w' => e = .returned (.tuple #[.int .u8 (zs.getD (Plain.wsEnd zs i) 0), .int .i64 (Plain.wsEnd zs i : Nat)]) ∧
      Below w.heap.size w w' := by
  have hS : Spl (w.alloc (.cells #[.slice (some ⟨g, 0, none⟩) n c, .int .i64 i] 42)) w.heap.size (.slice (some ⟨g, 0, none⟩) n c) i := heap_alloc_new w _
  have hT' : Tx (w.alloc (.cells #[.slice (some ⟨g, 0, none⟩) n c, .int .i64 i] 42)) g n zs := hT.grown (World.grownBy_alloc w _ _) (p := w.heap.size) (by omega)
  go_enter Try.func14, Try.ntmps14
  go_wp2_with fail
  refine (peek_any _ _ g n c i zs hS hT' (by omega) hn hi).mono ?_
  rintro e w1 ⟨rfl, hS1, hg1⟩
  have ho := hS1.off
  have hb : Below w.heap.size w w1 := ((Below.refl _ _).alloc (Nat.le_refl _) _).grown hg1 (by simp) (by intro k hk; cases hk; exact Nat.le_refl _)
  clear hS hT' hg1 hS1 hT
  go_wp2
  go_region
  all_goals
    go_wp2
    go_ret2
    exact ⟨rfl, hb.drew⟩

theorem ws_any (w : World) (b : Int) (h0 : 0 ≤ b) (h1 : b ≤ 255) : Calls Try.prog 30 #[.int .u8 b] w fun e w' => e = .returned (.int .u8 (Plain.ws b)) ∧ w = w' := by
  go_enter Try.func30, Try.ntmps30
  go_wp2
  all_goals
    go_ret
    refine ⟨ret_u8 ?_, rfl⟩
    simp_all [Plain.ws]

/-- zzAppendWS: one byte of whitespace for each byte of the source. -/
theorem map_take {zs : List Int} {k : Nat} {z : Int} (h : k < zs.length) (hz : z = zs.getD k 0) : (zs.take (k + 1)).map Plain.ws = (zs.take k).map Plain.ws ++ [Plain.ws z] := by
  rw [Plain.take_snoc h, hz]; simp

theorem step_ws {w2 : World} {base n k : Nat} {v2 : Value} {ys zs : List Int} {z : Int} (hk : k < zs.length) (hz : z = zs.getD k 0)
    (h : w2.ownsRow base 5 1 v2 (n + k + 1) (cells (ys ++ (zs.take k).map Plain.ws ++ [Plain.ws z]))) :
    w2.ownsRow base 5 1 v2 (n + (k + 1)) (cells (ys ++ (zs.take (k + 1)).map Plain.ws)) := by
  rw [map_take hk hz, ← List.append_assoc]; exact h

set_option maxHeartbeats 1000000 in
theorem appendWS_any (w : World) (B base : Nat) (v0 : Value) (n : Nat) (ys : List Int) (a : Option Addr) (len cap : Nat) (zs : List Int)
    (hown0 : w.ownsRow base 5 1 v0 n (cells ys)) (hR : Rd B w a len cap zs) (hB : B ≤ base) (hbase : base ≤ w.heap.size) (hbd : n + len ≤ 1000000000000) :
    Calls Try.prog 13 #[v0, .slice a len cap] w fun e w' => ∃ v', e = .returned v' ∧ w'.ownsRow base 5 1 v' (n + len) (cells (ys ++ zs.map Plain.ws)) ∧ Below base w w' ∧ (v0 ≠ .slice none 0 0 → v' ≠ .slice none 0 0) := by
  have hzl := hR.len
  have hby := hR.bytes
  have hlie : len = 0 ∨ ∃ b off, a = some ⟨b, off, none⟩ ∧ b < B ∧ ∀ i, i < len → w.cell? ⟨b, off + i, none⟩ = some (.int .u8 (zs.getD i 0)) := hR.lie
  clear hR
  rcases hlie with h0 | ⟨b, off, rfl, hbB, hcell⟩
  · subst h0
    have hz : zs = [] := List.eq_nil_of_length_eq_zero hzl
    subst hz
    clear hzl
    go_enter Try.func13, Try.ntmps13
    go_wp2
    refine wp_loop_rounds 1 ?_
    rw [rounds_succ]
    go_wp2
    go_ret
    exact ⟨_, rfl, by simpa using hown0, Below.refl _ _, id⟩
  · go_enter Try.func13, Try.ntmps13
    go_wp2
    go_loopw [0, 5] (fun v t wr => ∃ k : Nat, t = .int .i64 k ∧ k ≤ len ∧ wr.ownsRow base 5 1 v (n + k) (cells (ys ++ (zs.take k).map Plain.ws)) ∧ Below base w wr ∧ (v0 ≠ .slice none 0 0 → v ≠ .slice none 0 0)) (fun _ t _ => len - (intOf t).toNat)
    case atStart => exact ⟨0, rfl, Nat.zero_le _, by simpa using hown0, Below.refl _ _, id⟩
    case round =>
      obtain ⟨k, rfl, hk, hown, hbel, hnil⟩ := hrel
      have hsz := hbel.size
      clear hown0
      by_cases hlt : k < len
      · obtain ⟨z, hz⟩ : ∃ z, z = zs.getD k 0 := ⟨_, rfl⟩
        have hc : wr.cell? ⟨b, off + k, none⟩ = some (.int .u8 z) := by rw [hz]; exact (hbel.cell (p := ⟨b, off + k, none⟩) (by simp; omega)).trans (hcell k hlt)
        have hzb : 0 ≤ z ∧ z ≤ 255 := by rw [hz]; exact hby.at k
        obtain ⟨hz0, hz1⟩ := hzb
        clear hcell hby
        have HZ : Hid (z = zs.getD k 0) := hz
        clear hz
        go_wp2_with (first
          | (go_at_call 30; refine (ws_any _ z hz0 hz1).mono ?_; rintro e w' ⟨rfl, rfl⟩)
          | (at_builtin; refine wpList_append_one rfl (.tmp 12) (.tmp 18) rfl base _ _ _ rfl hown _ 1 rfl (by omega) (by omega) ?_; intro v2 w2 hown2 hgr2 hnn2))
        go_roundw
        case rel => exact ⟨k + 1, by go_num, by omega, step_ws (by omega) HZ.out hown2, hbel.trans hgr2, fun _ => hnn2⟩
        case measure => simp [intOf]; omega
      · go_wp2
        go_ret
        have : k = len := by omega
        subst this
        rw [List.take_of_length_le (by omega)] at hown
        exact ⟨_, rfl, hown, hbel, hnil⟩

theorem isWS_any (w : World) (b : Int) : Calls Try.prog 12 #[.int .u8 b] w fun e w' => e = .returned (.bool (Plain.isWs b)) ∧ w = w' := by
  rcases (show (b = 32) ∨ (b = 9) ∨ (b = 10) ∨ (b = 13) ∨ ((b == 32) = false ∧ (b == 9) = false ∧ (b == 10) = false ∧ (b == 13) = false) from by simp; omega) with rfl | rfl | rfl | rfl | ⟨e1, e2, e3, e4⟩
  all_goals
    go_enter Try.func12, Try.ntmps12
    go_wp2
    go_ret
  · exact ⟨rfl, rfl⟩
  · exact ⟨rfl, rfl⟩
  · exact ⟨rfl, rfl⟩
  · exact ⟨rfl, rfl⟩
  · exact ⟨by simp [Plain.isWs, e1, e2, e3, e4], rfl⟩

end Go.Proofs.Qxb6600131a
