/-
  The walk of (*splitter).value at a scalar; value whole; ZZValue.
-/
import Derived.Test.Qxb6600131aValue
namespace Go.Proofs.Qxb6600131a
open Go.RowKit
set_option linter.unusedVariables false

theorem delim_cases {z : Int} (h : Plain.delim z = true) : z = 44 ∨ z = 58 ∨ z = 125 ∨ z = 93 ∨ z = 32 ∨ z = 9 ∨ z = 10 ∨ z = 13 := by
  unfold Plain.delim Plain.isWs at h
  simp only [Bool.or_eq_true, beq_iff_eq] at h
  omega
theorem delim_none {z : Int} (h : Plain.delim z = false) : (z == 44) = false ∧ (z == 58) = false ∧ (z == 125) = false ∧ (z == 93) = false ∧ (z == 32) = false ∧ (z == 9) = false ∧ (z == 10) = false ∧ (z == 13) = false := by
  unfold Plain.delim Plain.isWs at h
  simp only [Bool.or_eq_false_iff] at h
  obtain ⟨⟨⟨⟨h1, h2⟩, h3⟩, h4⟩, ⟨⟨h5, h6⟩, h7⟩, h8⟩ := h
  exact ⟨h1, h2, h3, h4, h5, h6, h7, h8⟩

set_option maxRecDepth 100000 in
set_option maxHeartbeats 4000000 in
theorem value_scalar (w : World) (p g n c i j E : Nat) (o : Int) (zs : List Int) (hS : Spl w p (.slice (some ⟨g, 0, none⟩) n c) i) (hT : Tx w g n zs) (hgp : g ≠ p) (hn : n ≤ 1000000000000) (hnc : n ≤ c) (hi : i ≤ n) (hj : Plain.wsEnd zs i = j)
    (ho : zs.getD j 0 = o) (hob : Plain.bare o = true) (hjE : j < E) (hEn : E ≤ n) (hin : ∀ k, j ≤ k → k < E → Plain.delim (zs.getD k 0) = false) (hend : E < n → Plain.delim (zs.getD E 0) = true) :
    Calls Try.prog 34 #[.pointer (some ⟨p, 0, none⟩)] w (Read w p g n c j (E - j)) := by
  obtain ⟨_, p34, popen, p0, _, _⟩ := Plain.bare_parts hob
  have b0 : (o == 0) = false := by simpa using p0
  have b34 : (o == 34) = false := by simpa using p34
  have b123 : (o == 123) = false := by unfold Plain.opens at popen; simp only [Bool.or_eq_false_iff] at popen; exact popen.1
  have b91 : (o == 91) = false := by unfold Plain.opens at popen; simp only [Bool.or_eq_false_iff] at popen; exact popen.2
  clear p34 popen p0 hob
  have HI : Hid (∀ k, j ≤ k → k < E → Plain.delim (zs.getD k 0) = false) := hin
  have HX : Hid (E < n → Plain.delim (zs.getD E 0) = true) := hend
  clear hin hend
  go_enter Try.func34, Try.ntmps34
  go_wp2_with fail
  refine (peek_any _ _ g n c i zs hS hT hgp hn hi).mono ?_
  rintro e w1 ⟨he, hS1, hg1⟩
  rw [hj] at he hS1
  rw [ho] at he
  subst he
  have h1 := hS1.text
  have h2 := hS1.off
  have h3 := hS1.free
  have HT : Hid (Tx w g n zs) := hT
  clear hS hT hj ho
  go_wp2_with fail
  go_loopg [] (n - j) (fun gk wr => ∃ k : Nat, gk = n - k ∧ j ≤ k ∧ k ≤ E ∧ Spl wr p (.slice (some ⟨g, 0, none⟩) n c) k ∧ w.grownBy wr (some p))
  case atStart => exact ⟨j, rfl, Nat.le_refl _, by omega, hS1, hg1⟩
  case round =>
    obtain ⟨k, rfl, hjk, hkE, hSr, hgr⟩ := hrel
    clear h1 h2 h3 hS1
    have h1 := hSr.text
    have h2 := hSr.off
    have h3 := hSr.free
    by_cases hkn : k < n
    · have hTr := HT.out.grown hgr hgp
      obtain ⟨z, hz⟩ : ∃ z, z = zs.getD k 0 := ⟨_, rfl⟩
      have hc : wr.cell? ⟨g, k, none⟩ = some (.int .u8 z) := by rw [hz]; exact hTr.cell k hkn
      have HZ : Hid (z = zs.getD k 0) := hz
      clear hz hTr
      have i0 : (0 : Int) ≤ (k : Int) := by omega
      have i1 : (k : Int) < (n : Int) := by omega
      by_cases hlt : k < E
      · have hd := HI.out k hjk hlt
        rw [← HZ.out] at hd
        obtain ⟨e1, e2, e3, e4, e5, e6, e7, e8⟩ := delim_none hd
        clear hd
        go_wp2_with fail
        go_region
        go_wp2_with fail
        go_region
        go_wp2_with fail
        go_roundg (n - (k + 1))
        case measure => omega
        case rel => exact ⟨k + 1, rfl, by omega, by omega, (hSr.set' (by omega)), grown_drew (grown_drew (grown_set hgr _ _))⟩
      · have hkeq : E = k := by omega
        subst hkeq
        have hd := HX.out hkn
        rw [← HZ.out] at hd
        have hjk' : ((E : Int) == (j : Int)) = false := by simp; omega
        have k1 : (j : Int) ≤ (E : Int) := by omega
        have k2 : (E : Int) ≤ (c : Int) := by omega
        rcases delim_cases hd with rfl | rfl | rfl | rfl | rfl | rfl | rfl | rfl
        all_goals
          clear hd
          go_wp2_with fail
          go_region
          go_wp2_with fail
          go_region
          go_wp2_with fail
          go_region
          all_goals
            go_wp2_with fail
            go_ret
            refine ⟨rfl, ?_, grown_drew (grown_drew (grown_drew hgr))⟩
            exact hSr.at (by omega)
    · have hkeq : E = k := by omega
      subst hkeq
      have hEeq : n = E := by omega
      subst hEeq
      go_wp2_with fail
      go_region
      go_wp2_with fail
      go_ret
      refine ⟨rfl, ?_, grown_drew hgr⟩
      exact hSr.at (by omega)

theorem getD_drop {zs v tail : List Int} {j : Nat} (h : zs.drop j = v ++ tail) (k : Nat) (hk : k < v.length) : zs.getD (j + k) 0 = v.getD k 0 := by
  rw [List.getD_eq_getElem?_getD, ← List.getElem?_drop, h, List.getElem?_append_left hk, List.getD_eq_getElem?_getD]
theorem getD_drop_tail {zs v tail : List Int} {j : Nat} {c : Int} {r : List Int} (h : zs.drop j = v ++ tail) (ht : tail = c :: r) : zs.getD (j + v.length) 0 = c := by
  rw [List.getD_eq_getElem?_getD, ← List.getElem?_drop, h, List.getElem?_append_right (Nat.le_refl _), Nat.sub_self, ht]; rfl

/-- value, whole. -/
theorem value_any (w : World) (p g n c i j m : Nat) (zs : List Int) (hS : Spl w p (.slice (some ⟨g, 0, none⟩) n c) i) (hT : Tx w g n zs) (hgp : g ≠ p) (hn : n ≤ 1000000000000) (hnc : n ≤ c) (hi : i ≤ n) (hj : Plain.wsEnd zs i = j)
    (hr : Plain.Reads (zs.drop j) m) : Calls Try.prog 34 #[.pointer (some ⟨p, 0, none⟩)] w (Read w p g n c j m) := by
  have hl : (zs.drop j).length = n - j := by simp [hT.len]
  rcases hr with ⟨r, k, h1, h2, rfl⟩ | ⟨o, r, f, h1, h2, h3⟩ | ⟨v, tail, h1, h2, h3, h4, h5⟩
  · rw [h1] at hl
    simp only [List.length_cons] at hl
    have hz : zs.getD j 0 = 34 := by
      rw [List.getD_eq_getElem?_getD, show j = j + 0 from rfl, ← List.getElem?_drop, h1]; rfl
    have hs : Plain.scanFrom zs (j + 1) = some (k + (j + 1)) := by
      unfold Plain.scanFrom
      rw [← List.drop_drop, h1, List.drop_one, List.tail_cons, h2]; rfl
    have := value_str w p g n c i j (k + (j + 1)) zs hS hT hgp hn hnc hi hj (by omega) hz hs
    rwa [show k + (j + 1) - j = k + 1 from by omega] at this
  · have hz : zs.getD j 0 = o := by
      rw [List.getD_eq_getElem?_getD, show j = j + 0 from rfl, ← List.getElem?_drop, h2]; rfl
    have := value_comp w p g n c i j (j + m) o zs hS hT hgp hn hnc hi hj hz (by unfold Plain.opens at h1; simpa using h1) (Plain.DW.of h3)
    rwa [show j + m - j = m from by omega] at this
  · have hvl : 0 < v.length := List.length_pos_iff.2 h3
    rw [h1, List.length_append] at hl
    have hin : ∀ k, j ≤ k → k < j + m → Plain.delim (zs.getD k 0) = false := by
      intro k hk1 hk2
      have := getD_drop h1 (k - j) (by omega)
      rw [show j + (k - j) = k from by omega] at this
      rw [this]
      have hm : v.getD (k - j) 0 ∈ v := by
        rw [List.getD_eq_getElem?_getD, List.getElem?_eq_getElem (show k - j < v.length by omega)]; exact List.getElem_mem _
      exact (Plain.bare_parts (h4 _ hm)).1
    have hob : Plain.bare (zs.getD j 0) = true := by
      have := getD_drop h1 0 hvl
      rw [Nat.add_zero] at this
      rw [this]
      apply h4
      rw [List.getD_eq_getElem?_getD, List.getElem?_eq_getElem hvl]; exact List.getElem_mem _
    have hend : j + m < n → Plain.delim (zs.getD (j + m) 0) = true := by
      intro hlt
      rcases h5 with rfl | ⟨c, r, h6, h7⟩
      · simp only [List.length_nil] at hl; omega
      · have := getD_drop_tail h1 h6
        rw [h2] at this
        rw [this]; exact h7
    have := value_scalar w p g n c i j (j + m) _ zs hS hT hgp hn hnc hi hj rfl hob (by omega) (by omega) hin hend
    rwa [show j + m - j = m from by omega] at this

/-- ZZValue: a splitter is laid over the text. -/
theorem zzvalue_any (w : World) (g n c i j m : Nat) (zs : List Int) (hT : Tx w g n zs) (hg : g < w.heap.size) (hn : n ≤ 1000000000000) (hnc : n ≤ c) (hi : i ≤ n) (hj : Plain.wsEnd zs i = j) (hr : Plain.Reads (zs.drop j) m) :
    Calls Try.prog 26 #[.slice (some ⟨g, 0, none⟩) n c, .int .i64 i] w fun e w' => e = .returned (.tuple #[.slice (some ⟨g, j, none⟩) m (c - j), .int .i64 ((j + m : Nat) : Int)]) ∧ Below w.heap.size w w' := by
  have hS : Spl (w.alloc (.cells #[.slice (some ⟨g, 0, none⟩) n c, .int .i64 i] 42)) w.heap.size (.slice (some ⟨g, 0, none⟩) n c) i := heap_alloc_new w _
  have hT' : Tx (w.alloc (.cells #[.slice (some ⟨g, 0, none⟩) n c, .int .i64 i] 42)) g n zs := hT.grown (World.grownBy_alloc w _ _) (p := w.heap.size) (by omega)
  go_enter Try.func26, Try.ntmps26
  go_wp2_with fail
  refine (value_any _ _ g n c i j m zs hS hT' (by omega) hn hnc hi hj hr).mono ?_
  rintro e w1 ⟨rfl, hS1, hg1⟩
  have ho := hS1.off
  have hb : Below w.heap.size w w1 := ((Below.refl _ _).alloc (Nat.le_refl _) _).grown hg1 (by simp) (by intro k hk; cases hk; exact Nat.le_refl _)
  clear hS hT' hg1 hS1 hT hj hr
  go_wp2
  go_region
  all_goals
    go_wp2
    go_ret2
    exact ⟨rfl, hb.drew⟩

theorem zzvalue_end (w : World) (g n c i : Nat) (zs : List Int) (hT : Tx w g n zs) (hg : g < w.heap.size) (hn : n ≤ 1000000000000) (hi : i ≤ n) (hj : Plain.wsEnd zs i = n) :
    Calls Try.prog 26 #[.slice (some ⟨g, 0, none⟩) n c, .int .i64 i] w fun e w' => e = .returned (.tuple #[.slice none 0 0, .int .i64 (n : Int)]) ∧ Below w.heap.size w w' := by
  have hS : Spl (w.alloc (.cells #[.slice (some ⟨g, 0, none⟩) n c, .int .i64 i] 42)) w.heap.size (.slice (some ⟨g, 0, none⟩) n c) i := heap_alloc_new w _
  have hT' : Tx (w.alloc (.cells #[.slice (some ⟨g, 0, none⟩) n c, .int .i64 i] 42)) g n zs := hT.grown (World.grownBy_alloc w _ _) (p := w.heap.size) (by omega)
  go_enter Try.func26, Try.ntmps26
  go_wp2_with fail
  refine (value_end _ _ g n c i zs hS hT' (by omega) hn hi hj).mono ?_
  rintro e w1 ⟨rfl, hS1, hg1⟩
  have ho := hS1.off
  have hb : Below w.heap.size w w1 := ((Below.refl _ _).alloc (Nat.le_refl _) _).grown hg1 (by simp) (by intro k hk; cases hk; exact Nat.le_refl _)
  clear hS hT' hg1 hS1 hT hj
  go_wp2
  go_region
  all_goals
    go_wp2
    go_ret2
    exact ⟨rfl, hb.drew⟩

set_option maxHeartbeats 1000000 in
/-- zzEqual at two slices of the same bytes. -/
theorem equal_any (w : World) (b off n c b' off' c' : Nat) (zs : List Int) (hn : n ≤ 1000000000000)
    (h1 : ∀ i, i < n → w.cell? ⟨b, off + i, none⟩ = some (.int .u8 (zs.getD i 0))) (h2 : ∀ i, i < n → w.cell? ⟨b', off' + i, none⟩ = some (.int .u8 (zs.getD i 0))) :
    Calls Try.prog 27 #[.slice (some ⟨b, off, none⟩) n c, .slice (some ⟨b', off', none⟩) n c'] w fun e w' => e = .returned (.bool true) ∧ Below w.heap.size w w' := by
  have H1 : Hid (∀ i, i < n → w.cell? ⟨b, off + i, none⟩ = some (.int .u8 (zs.getD i 0))) := h1
  have H2 : Hid (∀ i, i < n → w.cell? ⟨b', off' + i, none⟩ = some (.int .u8 (zs.getD i 0))) := h2
  clear h1 h2
  have hnn : ((n : Int) != (n : Int)) = false := by simp
  go_enter Try.func27, Try.ntmps27
  go_wp2
  go_loopw [5] (fun t wr => ∃ k : Nat, t = .int .i64 k ∧ k ≤ n ∧ (∀ a, Hid (wr.cell? a = w.cell? a)) ∧ Below w.heap.size w wr) (fun t _ => n - (intOf t).toNat)
  case atStart => exact ⟨0, rfl, by omega, fun _ => rfl, Below.refl _ _⟩
  case round =>
    obtain ⟨k, rfl, hk, hcs, hbel⟩ := hrel
    by_cases hlt : k < n
    · obtain ⟨z, hz⟩ : ∃ z, z = zs.getD k 0 := ⟨_, rfl⟩
      have c1 : wr.cell? ⟨b, off + k, none⟩ = some (.int .u8 z) := by rw [(hcs _).out, hz]; exact H1.out k hlt
      have c2 : wr.cell? ⟨b', off' + k, none⟩ = some (.int .u8 z) := by rw [(hcs _).out, hz]; exact H2.out k hlt
      clear hz
      have i0 : (0 : Int) ≤ (k : Int) := by omega
      have i1 : (k : Int) < (n : Int) := by omega
      have hzz : (z != z) = false := by simp
      go_wp2
      go_region
      all_goals
        go_wp2
        go_roundw
        case rel => exact ⟨k + 1, by go_num, by omega, hcs, hbel.drew⟩
        case measure => simp [intOf]; omega
    · go_wp2
      go_ret
      exact ⟨rfl, hbel⟩

theorem opensWhole_any (w : World) (b : Int) : Calls Try.prog 24 #[.int .u8 b] w fun e w' => e = .returned (.bool (Plain.whole b)) ∧ w = w' := by
  rcases (show (b = 34) ∨ (b = 123) ∨ (b = 91) ∨ ((b == 34) = false ∧ (b == 123) = false ∧ (b == 91) = false) from by simp; omega) with rfl | rfl | rfl | ⟨e1, e2, e3⟩
  all_goals
    go_enter Try.func24, Try.ntmps24
    go_wp2
    go_ret
  · exact ⟨rfl, rfl⟩
  · exact ⟨rfl, rfl⟩
  · exact ⟨rfl, rfl⟩
  · exact ⟨by simp [Plain.whole, e1, e2, e3], rfl⟩

theorem isDelim_any (w : World) (b : Int) : Calls Try.prog 25 #[.int .u8 b] w fun e w' => e = .returned (.bool (Plain.delim b)) ∧ w = w' := by
  rcases (show (b = 44) ∨ (b = 58) ∨ (b = 125) ∨ (b = 93) ∨ ((b == 44) = false ∧ (b == 58) = false ∧ (b == 125) = false ∧ (b == 93) = false) from by simp; omega) with rfl | rfl | rfl | rfl | ⟨e1, e2, e3, e4⟩
  all_goals
    go_enter Try.func25, Try.ntmps25
    go_wp2_with (go_at_call 12; refine (isWS_any _ _).mono ?_; rintro e w' ⟨rfl, rfl⟩)
    go_ret
  · exact ⟨rfl, rfl⟩
  · exact ⟨rfl, rfl⟩
  · exact ⟨rfl, rfl⟩
  · exact ⟨rfl, rfl⟩
  · exact ⟨by simp [Plain.delim, e1, e2, e3, e4], rfl⟩
end Go.Proofs.Qxb6600131a
