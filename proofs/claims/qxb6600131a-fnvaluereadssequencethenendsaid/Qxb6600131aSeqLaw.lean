/-
  A proof of 'Rows.FnValueReadsSequenceThenEndSaid'. The frame (the theorems 'lifted', 'over', 'proved') is the given shell's own, but for one argument of 'over'. The walk is filled in.
-/
import Derived.Test.Qxb6600131aRows
import Derived.WalkKit
import Derived.ProofKit
import Derived.OpenShut
import Derived.ShutString
import Derived.ChangeOld
import Derived.Below
import Derived.Test.Qxb6600131aCommon
import Derived.WalkSpells
import Derived.Test.Qxb6600131aMade
namespace Go.Proofs.Qxb6600131a.fnValueReadsSequenceThenEnd
open Go.ChangeShapes Go.WideShapes Go.ChangeAt Go.RowKit
open Go.ChangeMaps (open_string shut_string)
set_option linter.unusedVariables false

theorem own : ownKnob Try.prog.godebug = none := by kernel_rfl
theorem laidOut : laidOutB Try.prog = true := by kernel_rfl

/-- What the text is, place by place. -/
structure Facts (xa xb y0 y2 y4 : List Int) (len0 len2 len4 : Nat) : Prop where
  w1 : Plain.wsEnd (y0.map Plain.ws ++ xa ++ y2.map Plain.ws ++ xb ++ y4.map Plain.ws) 0 = len0
  r1 : Plain.Reads ((y0.map Plain.ws ++ xa ++ y2.map Plain.ws ++ xb ++ y4.map Plain.ws).drop len0) xa.length
  p1 : y0.map Plain.ws ++ xa ++ y2.map Plain.ws ++ xb ++ y4.map Plain.ws = y0.map Plain.ws ++ (xa ++ (y2.map Plain.ws ++ xb ++ y4.map Plain.ws))
  l1 : (y0.map Plain.ws).length = len0
  w2 : Plain.wsEnd (y0.map Plain.ws ++ xa ++ y2.map Plain.ws ++ xb ++ y4.map Plain.ws) (len0 + xa.length) = len0 + xa.length + len2
  r2 : Plain.Reads ((y0.map Plain.ws ++ xa ++ y2.map Plain.ws ++ xb ++ y4.map Plain.ws).drop (len0 + xa.length + len2)) xb.length
  p2 : y0.map Plain.ws ++ xa ++ y2.map Plain.ws ++ xb ++ y4.map Plain.ws = (y0.map Plain.ws ++ xa ++ y2.map Plain.ws) ++ (xb ++ y4.map Plain.ws)
  l2 : (y0.map Plain.ws ++ xa ++ y2.map Plain.ws).length = len0 + xa.length + len2
  w3 : Plain.wsEnd (y0.map Plain.ws ++ xa ++ y2.map Plain.ws ++ xb ++ y4.map Plain.ws) (len0 + xa.length + len2 + xb.length) = len0 + xa.length + len2 + xb.length + len4

theorem ws_tail (y rest : List Int) (h : 0 < y.length) : ∃ c r, y.map Plain.ws ++ rest = c :: r ∧ Plain.delim c = true := by
  match y, h with
  | b :: r, _ => exact ⟨_, _, rfl, Plain.ws_delim (Plain.ws_isWs b)⟩

theorem facts (xa xb y0 y2 y4 : List Int) {len0 len2 len4 : Nat} (h0 : y0.length = len0) (h2 : y2.length = len2) (h4 : y4.length = len4) (ha : Plain.Val xa) (hb : Plain.Val xb) (ht : Plain.whole (xa.getD 0 0) = true ∨ 0 < len2) : Facts xa xb y0 y2 y4 len0 len2 len4 := by
  have l1 : (y0.map Plain.ws).length = len0 := by rw [List.length_map]; exact h0
  have l2' : (y2.map Plain.ws).length = len2 := by rw [List.length_map]; exact h2
  have l4' : (y4.map Plain.ws).length = len4 := by rw [List.length_map]; exact h4
  have l2 : (y0.map Plain.ws ++ xa ++ y2.map Plain.ws).length = len0 + xa.length + len2 := by rw [List.length_append, List.length_append, l1, l2']
  have p1 : y0.map Plain.ws ++ xa ++ y2.map Plain.ws ++ xb ++ y4.map Plain.ws = y0.map Plain.ws ++ (xa ++ (y2.map Plain.ws ++ xb ++ y4.map Plain.ws)) := by simp only [List.append_assoc]
  have p2 : y0.map Plain.ws ++ xa ++ y2.map Plain.ws ++ xb ++ y4.map Plain.ws = (y0.map Plain.ws ++ xa ++ y2.map Plain.ws) ++ (xb ++ y4.map Plain.ws) := by simp only [List.append_assoc]
  refine ⟨?_, ?_, p1, l1, ?_, ?_, p2, l2, ?_⟩
  · have := Plain.wsEnd_run [] (y0.map Plain.ws) (xa ++ (y2.map Plain.ws ++ xb ++ y4.map Plain.ws)) (ws_all y0) (head_of ha _)
    rw [p1]
    simpa [l1] using this
  · rw [p1, ← l1, List.drop_left]
    refine ha.reads ?_
    rcases ht with ht | ht
    · exact .inl ht
    · refine .inr (.inr ?_)
      rw [List.append_assoc]
      exact ws_tail y2 _ (by omega)
  · have := Plain.wsEnd_run (y0.map Plain.ws ++ xa) (y2.map Plain.ws) (xb ++ y4.map Plain.ws) (ws_all y2) (head_of hb _)
    rw [List.length_append, l1, l2'] at this
    rw [show y0.map Plain.ws ++ xa ++ y2.map Plain.ws ++ xb ++ y4.map Plain.ws = (y0.map Plain.ws ++ xa) ++ (y2.map Plain.ws ++ (xb ++ y4.map Plain.ws)) from by simp only [List.append_assoc]]
    exact this
  · rw [p2, ← l2, List.drop_left]
    refine hb.reads ?_
    by_cases hz : 0 < y4.length
    · refine .inr (.inr ?_)
      have := ws_tail y4 [] hz
      rwa [List.append_nil] at this
    · refine .inr (.inl ?_)
      have : y4 = [] := List.eq_nil_of_length_eq_zero (by omega)
      subst this; rfl
  · have := Plain.wsEnd_run (y0.map Plain.ws ++ xa ++ y2.map Plain.ws ++ xb) (y4.map Plain.ws) [] (ws_all y4) (by intro c r h; cases h)
    rw [List.length_append, l2, l4', List.append_nil] at this
    exact this

theorem rd_cells {B : Nat} {w w' : World} {g n c : Nat} {zs : List Int} (h : Rd B w (some ⟨g, 0, none⟩) n c zs) (hb : Below B w w') : ∀ i, i < n → w'.cell? ⟨g, 0 + i, none⟩ = some (.int .u8 (zs.getD i 0)) := by
  intro i hi
  rcases h.lie with h0 | ⟨bb, oo, hab, hlt, hcc⟩
  · omega
  · simp only [Option.some.injEq, Addr.mk.injEq, and_true] at hab
    obtain ⟨rfl, rfl⟩ := hab
    rw [hb.cell (p := ⟨g, 0 + i, none⟩) hlt]
    exact hcc i hi

theorem bytes_any (w : World) (a0 a1 a2 a3 a4 : Option Addr) (l0 c0 l1 c1 l2 c2 l3 c3 l4 c4 : Nat) :
    Calls Try.prog 29 #[.slice a0 l0 c0, .slice a1 l1 c1, .slice a2 l2 c2, .slice a3 l3 c3, .slice a4 l4 c4] w fun e w' => ∃ b, e = .returned (.bool b) ∧ w = w' := by
  go_enter Try.func29, Try.ntmps29
  go_wp2
  all_goals
    go_ret
    exact ⟨_, rfl, rfl⟩

set_option maxRecDepth 100000 in
set_option maxHeartbeats 4000000 in
theorem walk (a0 : Option Addr) (len0 cap0 : Nat) (z0 : List Int) (a1 : Option Addr) (len1 cap1 : Nat) (z1 : List Int) (a2 : Option Addr) (len2 cap2 : Nat) (z2 : List Int) (a3 : Option Addr) (len3 cap3 : Nat) (z3 : List Int) (a4 : Option Addr) (len4 cap4 : Nat) (z4 : List Int) (w : World) (w0 : IsRow .u8 w a0 len0 cap0 z0) (w1 : IsRow .u8 w a1 len1 cap1 z1) (w2 : IsRow .u8 w a2 len2 cap2 z2) (w3 : IsRow .u8 w a3 len3 cap3 z3) (w4 : IsRow .u8 w a4 len4 cap4 z4) :
    Calls Try.prog 10 #[.slice a0 len0 cap0, .slice a1 len1 cap1, .slice a2 len2 cap2, .slice a3 len3 cap3, .slice a4 len4 cap4] w fun e w' => e = .returned (.bool true) ∧ Below w.heap.size w w' := by
  have r0 := w0.rd
  have r1 := w1.rd
  have r2 := w2.rd
  have r3 := w3.rd
  have r4 := w4.rd
  clear w0 w1 w2 w3 w4
  generalize z0.take len0 = y0 at r0
  generalize z1.take len1 = y1 at r1
  generalize z2.take len2 = y2 at r2
  generalize z3.take len3 = y3 at r3
  generalize z4.take len4 = y4 at r4
  clear z0 z1 z2 z3 z4
  by_cases hbig : len0 ≤ 131072 ∧ len1 ≤ 8192 ∧ len2 ≤ 131072 ∧ len3 ≤ 8192 ∧ len4 ≤ 131072
  · obtain ⟨hb0, hb1, hb2, hb3, hb4⟩ := hbig
    go_enter Try.func10, Try.ntmps10
    go_wp2_with fail
    refine (bytes_any _ _ _ _ _ _ _ _ _ _ _ _ _ _ _ _).mono ?_
    rintro e w' ⟨b, rfl, rfl⟩
    cases b with
    | false =>
      go_wp2_with fail
      go_ret
      exact ⟨rfl, Below.refl _ _⟩
    | true =>
      go_wp2_with fail
      refine (valueOf_any w w.heap.size y1 a1 len1 cap1 r1 (Nat.le_refl _) (by omega)).mono ?_
      rintro e x1 ⟨g1, c1, xa, rfl, hxal, hvala, hxab, howna, hbela⟩
      have r3' : Rd w.heap.size x1 a3 len3 cap3 y3 := r3.below hbela (Nat.le_refl _)
      go_wp2_with fail
      refine (valueOf_any x1 w.heap.size y3 a3 len3 cap3 r3' hbela.size (by omega)).mono ?_
      rintro e x2 ⟨g2, c2, xb, rfl, hxbl, hvalb, hxbb, hownb, hbelb⟩
      have hbel : Below w.heap.size w x2 := hbela.trans (hbelb.mono hbela.size)
      have s0 : Rd x2.heap.size x2 a0 len0 cap0 y0 := (r0.below hbel (Nat.le_refl _)).mono hbel.size
      have s2 : Rd x2.heap.size x2 a2 len2 cap2 y2 := (r2.below hbel (Nat.le_refl _)).mono hbel.size
      have s4 : Rd x2.heap.size x2 a4 len4 cap4 y4 := (r4.below hbel (Nat.le_refl _)).mono hbel.size
      have sa : Rd x2.heap.size x2 (some ⟨g1, 0, none⟩) xa.length c1 xa := ((Rd.ofOwn howna hxab (Nat.le_refl _)).below hbelb (Nat.le_refl _)).mono hbelb.size
      have sb : Rd x2.heap.size x2 (some ⟨g2, 0, none⟩) xb.length c2 xb := Rd.ofOwn hownb hxbb (Nat.le_refl _)
      have hx0 := val_ne hvala
      have hx0b := val_ne hvalb
      have HV : Hid (Plain.Val xa) := hvala
      have HVb : Hid (Plain.Val xb) := hvalb
      have hB := Nat.le_refl x2.heap.size
      clear r0 r1 r2 r3 r4 r3' hvala hvalb howna hownb hbela hbelb
      obtain ⟨o, ho⟩ : ∃ o, o = xa.getD 0 0 := ⟨_, rfl⟩
      have hc0 : x2.cell? ⟨g1, 0, none⟩ = some (.int .u8 o) := by
        rw [ho]
        rcases sa.lie with h0 | ⟨bb, oo, hab, _, hcc⟩
        · omega
        · simp only [Option.some.injEq, Addr.mk.injEq, and_true] at hab
          obtain ⟨rfl, rfl⟩ := hab
          exact hcc 0 hx0
      have HO : Hid (o = xa.getD 0 0) := ho
      clear ho
      have hx0' : (0 : Int) < (xa.length : Int) := by omega
      have hcase : Plain.whole o = true ∨ (Plain.whole o = false ∧ ((len2 : Int) == 0) = true) ∨ (Plain.whole o = false ∧ ((len2 : Int) == 0) = false) := by
        cases Plain.whole o with
        | true => exact .inl rfl
        | false => exact .inr (by cases ((len2 : Int) == 0) <;> simp)
      rcases hcase with hwh | ⟨hwh, hm0⟩ | ⟨hwh, hm0⟩
      · have HTAIL : Hid (Plain.whole (xa.getD 0 0) = true ∨ 0 < len2) := by rw [← HO.out]; exact .inl hwh
        go_wp2_with (first
          | (go_at_call 24; refine (opensWhole_any _ _).mono ?_; rintro e w' ⟨he, rfl⟩; rw [hwh] at he; subst he)
          | (at_make; refine wpList_make_bytes rfl _ _ rfl _ _ _ (len0 + xa.length + len2 + xb.length + len4) rfl rfl (by omega) (by omega) ?_; intro t1 hown1 hbel1))
        refine (appendWS_any _ x2.heap.size x2.heap.size _ _ _ _ _ _ y0 hown1 (s0.below hbel1 hB) hB hbel1.size (by omega)).mono ?_
        rintro e t2 ⟨v2, rfl, hown2, hbel2, hn2⟩
        obtain ⟨g2', c2', hv2, hg2'⟩ := own_some hown2 (hn2 (by simp))
        subst hv2
        simp only [Nat.zero_add, List.nil_append] at hown2
        rw [Nat.zero_add]
        go_wp2_with (at_builtin; refine wpList_append_rd' rfl (.tmp 82) (.tmp 83) rfl x2.heap.size _ _ _ _ rfl hown2 x2.heap.size _ _ _ xa rfl ((sa.below hbel1 hB).below hbel2 hB) (by omega) (Nat.le_trans hbel1.size hbel2.size) ?_; intro g3 c3 t3 hown3 hbel3)
        refine (appendWS_any _ x2.heap.size x2.heap.size _ _ _ _ _ _ y2 hown3 (((s2.below hbel1 hB).below hbel2 hB).below hbel3 hB) hB (Nat.le_trans hbel1.size (Nat.le_trans hbel2.size hbel3.size)) (by omega)).mono ?_
        rintro e t4 ⟨v4, rfl, hown4, hbel4, hn4⟩
        obtain ⟨g4', c4', hv4, hg4'⟩ := own_some hown4 (hn4 (by simp))
        subst hv4
        go_wp2_with (at_builtin; refine wpList_append_rd' rfl (.tmp 88) (.tmp 89) rfl x2.heap.size _ _ _ _ rfl hown4 x2.heap.size _ _ _ xb rfl ((((sb.below hbel1 hB).below hbel2 hB).below hbel3 hB).below hbel4 hB) (by omega) (Nat.le_trans hbel1.size (Nat.le_trans hbel2.size (Nat.le_trans hbel3.size hbel4.size))) ?_; intro g5 c5 t5 hown5 hbel5)
        refine (appendWS_any _ x2.heap.size x2.heap.size _ _ _ _ _ _ y4 hown5 (((((s4.below hbel1 hB).below hbel2 hB).below hbel3 hB).below hbel4 hB).below hbel5 hB) hB (Nat.le_trans hbel1.size (Nat.le_trans hbel2.size (Nat.le_trans hbel3.size (Nat.le_trans hbel4.size hbel5.size)))) (by omega)).mono ?_
        rintro e t6 ⟨v6, rfl, hown6, hbel6, hn6⟩
        obtain ⟨g6, c6, hv6, hg6⟩ := own_some hown6 (hn6 (by simp))
        subst hv6
        have hb6 : Below x2.heap.size x2 t6 := ((((hbel1.trans hbel2).trans hbel3).trans hbel4).trans hbel5).trans hbel6
        clear hbel1 hbel2 hbel3 hbel4 hbel5 hbel6 hown1 hown2 hown3 hown4 hown5 hg2' hg4' hn2 hn4 hn6
        obtain ⟨hcap, hlt⟩ := own_cap hown6
        have hT : Tx t6 g6 _ (y0.map Plain.ws ++ xa ++ y2.map Plain.ws ++ xb ++ y4.map Plain.ws) := Tx.ofOwn hown6 (bytes_append (bytes_append (bytes_append (bytes_append (ws_bytes y0) hxab) (ws_bytes y2)) hxbb) (ws_bytes y4))
        have F := facts xa xb y0 y2 y4 s0.len s2.len s4.len HV.out HVb.out HTAIL.out
        have HF : Hid (Facts xa xb y0 y2 y4 len0 len2 len4) := F
        have HT : Hid (Tx t6 g6 (len0 + xa.length + len2 + xb.length + len4) (y0.map Plain.ws ++ xa ++ y2.map Plain.ws ++ xb ++ y4.map Plain.ws)) := hT
        have HA : Hid (Rd x2.heap.size x2 (some ⟨g1, 0, none⟩) xa.length c1 xa) := sa
        have HB : Hid (Rd x2.heap.size x2 (some ⟨g2, 0, none⟩) xb.length c2 xb) := sb
        clear F hT hown6 sa sb s0 s2 s4
        go_wp2_with fail
        refine (zzvalue_any _ _ _ _ 0 len0 xa.length _ HT.out hlt (by omega) hcap (by omega) HF.out.w1 HF.out.r1).mono ?_
        rintro e t7 ⟨he, hb7⟩
        rw [show ((len0 + xa.length : Nat) : Int) = (len0 : Int) + (xa.length : Int) from by omega] at he
        subst he
        have HT7 : Hid (Tx t7 g6 (len0 + xa.length + len2 + xb.length + len4) (y0.map Plain.ws ++ xa ++ y2.map Plain.ws ++ xb ++ y4.map Plain.ws)) := HT.out.below hb7 hlt
        have hb7' : Below x2.heap.size x2 t7 := hb6.trans (hb7.mono hb6.size)
        have hlt7 : g6 < t7.heap.size := Nat.lt_of_lt_of_le hlt hb7.size
        have E1 : Hid (∀ i, i < xa.length → t7.cell? ⟨g6, len0 + i, none⟩ = some (.int .u8 (xa.getD i 0))) := part_cells HT7.out HF.out.p1 HF.out.l1 rfl
        have E2 : Hid (∀ i, i < xa.length → t7.cell? ⟨g1, 0 + i, none⟩ = some (.int .u8 (xa.getD i 0))) := rd_cells HA.out hb7'
        clear hb7 HT hlt
        go_wp2_with (go_at_call 27; refine (equal_any _ _ _ _ _ _ _ _ xa (by omega) E1.out E2.out).mono ?_; rintro e t8 ⟨rfl, hb8⟩)
        have HT8 : Hid (Tx t8 g6 (len0 + xa.length + len2 + xb.length + len4) (y0.map Plain.ws ++ xa ++ y2.map Plain.ws ++ xb ++ y4.map Plain.ws)) := HT7.out.below hb8 hlt7
        have hb8' : Below x2.heap.size x2 t8 := hb7'.trans (hb8.mono hb7'.size)
        have hlt8 : g6 < t8.heap.size := Nat.lt_of_lt_of_le hlt7 hb8.size
        clear hb8 HT7 hlt7 hb7' E1 E2
        rw [show ((len0 : Int) + (xa.length : Int)) = ((len0 + xa.length : Nat) : Int) from by omega]
        refine (zzvalue_any _ _ _ _ (len0 + xa.length) (len0 + xa.length + len2) xb.length _ HT8.out hlt8 (by omega) hcap (by omega) HF.out.w2 HF.out.r2).mono ?_
        rintro e t9 ⟨he, hb9⟩
        rw [show ((len0 + xa.length + len2 + xb.length : Nat) : Int) = (len0 : Int) + (xa.length : Int) + (len2 : Int) + (xb.length : Int) from by omega] at he
        rw [show ((len0 + xa.length : Nat) : Int) = (len0 : Int) + (xa.length : Int) from by omega]
        subst he
        have HT9 : Hid (Tx t9 g6 (len0 + xa.length + len2 + xb.length + len4) (y0.map Plain.ws ++ xa ++ y2.map Plain.ws ++ xb ++ y4.map Plain.ws)) := HT8.out.below hb9 hlt8
        have hb9' : Below x2.heap.size x2 t9 := hb8'.trans (hb9.mono hb8'.size)
        have hlt9 : g6 < t9.heap.size := Nat.lt_of_lt_of_le hlt8 hb9.size
        have E1 : Hid (∀ i, i < xb.length → t9.cell? ⟨g6, len0 + xa.length + len2 + i, none⟩ = some (.int .u8 (xb.getD i 0))) := part_cells HT9.out HF.out.p2 HF.out.l2 rfl
        have E2 : Hid (∀ i, i < xb.length → t9.cell? ⟨g2, 0 + i, none⟩ = some (.int .u8 (xb.getD i 0))) := rd_cells HB.out hb9'
        clear hb9 HT8 hlt8 hb8'
        go_wp2_with (go_at_call 27; refine (equal_any _ _ _ _ _ _ _ _ xb (by omega) E1.out E2.out).mono ?_; rintro e t10 ⟨rfl, hb10⟩)
        have HT10 : Hid (Tx t10 g6 (len0 + xa.length + len2 + xb.length + len4) (y0.map Plain.ws ++ xa ++ y2.map Plain.ws ++ xb ++ y4.map Plain.ws)) := HT9.out.below hb10 hlt9
        have hb10' : Below x2.heap.size x2 t10 := hb9'.trans (hb10.mono hb9'.size)
        have hlt10 : g6 < t10.heap.size := Nat.lt_of_lt_of_le hlt9 hb10.size
        clear hb10 HT9 hlt9 hb9' E1 E2
        rw [show ((len0 : Int) + (xa.length : Int) + (len2 : Int) + (xb.length : Int)) = ((len0 + xa.length + len2 + xb.length : Nat) : Int) from by omega]
        refine (zzvalue_end _ _ _ _ (len0 + xa.length + len2 + xb.length) _ HT10.out hlt10 (by omega) (by omega) HF.out.w3).mono ?_
        rintro e t11 ⟨rfl, hb11⟩
        have hb : Below w.heap.size w t11 := hbel.trans ((hb10'.trans (hb11.mono hb10'.size)).mono hbel.size)
        clear hb11 HT10 hb10'
        have q22 : ∀ (w : World) (a : Option Addr) (n c n' c' : Nat), (binOp .eql 22 (.slice a n c) (.slice none n' c')).run Try.prog w = .ok (.bool a.isNone) w := fun w a n c n' c' => Lib.run_eql_slice_nil w _ _ a n c n' c' Try.underlying22
        go_wp2
        go_ret
        exact ⟨by simp, hb⟩
      · go_wp2_with (go_at_call 24; refine (opensWhole_any _ _).mono ?_; rintro e w' ⟨he, rfl⟩; rw [hwh] at he; subst he)
        go_ret
        exact ⟨rfl, hbel⟩
      · have HTAIL : Hid (Plain.whole (xa.getD 0 0) = true ∨ 0 < len2) := .inr (by simp at hm0; omega)
        go_wp2_with (first
          | (go_at_call 24; refine (opensWhole_any _ _).mono ?_; rintro e w' ⟨he, rfl⟩; rw [hwh] at he; subst he)
          | (at_make; refine wpList_make_bytes rfl _ _ rfl _ _ _ (len0 + xa.length + len2 + xb.length + len4) rfl rfl (by omega) (by omega) ?_; intro t1 hown1 hbel1))
        refine (appendWS_any _ x2.heap.size x2.heap.size _ _ _ _ _ _ y0 hown1 (s0.below hbel1 hB) hB hbel1.size (by omega)).mono ?_
        rintro e t2 ⟨v2, rfl, hown2, hbel2, hn2⟩
        obtain ⟨g2', c2', hv2, hg2'⟩ := own_some hown2 (hn2 (by simp))
        subst hv2
        simp only [Nat.zero_add, List.nil_append] at hown2
        rw [Nat.zero_add]
        go_wp2_with (at_builtin; refine wpList_append_rd' rfl (.tmp 82) (.tmp 83) rfl x2.heap.size _ _ _ _ rfl hown2 x2.heap.size _ _ _ xa rfl ((sa.below hbel1 hB).below hbel2 hB) (by omega) (Nat.le_trans hbel1.size hbel2.size) ?_; intro g3 c3 t3 hown3 hbel3)
        refine (appendWS_any _ x2.heap.size x2.heap.size _ _ _ _ _ _ y2 hown3 (((s2.below hbel1 hB).below hbel2 hB).below hbel3 hB) hB (Nat.le_trans hbel1.size (Nat.le_trans hbel2.size hbel3.size)) (by omega)).mono ?_
        rintro e t4 ⟨v4, rfl, hown4, hbel4, hn4⟩
        obtain ⟨g4', c4', hv4, hg4'⟩ := own_some hown4 (hn4 (by simp))
        subst hv4
        go_wp2_with (at_builtin; refine wpList_append_rd' rfl (.tmp 88) (.tmp 89) rfl x2.heap.size _ _ _ _ rfl hown4 x2.heap.size _ _ _ xb rfl ((((sb.below hbel1 hB).below hbel2 hB).below hbel3 hB).below hbel4 hB) (by omega) (Nat.le_trans hbel1.size (Nat.le_trans hbel2.size (Nat.le_trans hbel3.size hbel4.size))) ?_; intro g5 c5 t5 hown5 hbel5)
        refine (appendWS_any _ x2.heap.size x2.heap.size _ _ _ _ _ _ y4 hown5 (((((s4.below hbel1 hB).below hbel2 hB).below hbel3 hB).below hbel4 hB).below hbel5 hB) hB (Nat.le_trans hbel1.size (Nat.le_trans hbel2.size (Nat.le_trans hbel3.size (Nat.le_trans hbel4.size hbel5.size)))) (by omega)).mono ?_
        rintro e t6 ⟨v6, rfl, hown6, hbel6, hn6⟩
        obtain ⟨g6, c6, hv6, hg6⟩ := own_some hown6 (hn6 (by simp))
        subst hv6
        have hb6 : Below x2.heap.size x2 t6 := ((((hbel1.trans hbel2).trans hbel3).trans hbel4).trans hbel5).trans hbel6
        clear hbel1 hbel2 hbel3 hbel4 hbel5 hbel6 hown1 hown2 hown3 hown4 hown5 hg2' hg4' hn2 hn4 hn6
        obtain ⟨hcap, hlt⟩ := own_cap hown6
        have hT : Tx t6 g6 _ (y0.map Plain.ws ++ xa ++ y2.map Plain.ws ++ xb ++ y4.map Plain.ws) := Tx.ofOwn hown6 (bytes_append (bytes_append (bytes_append (bytes_append (ws_bytes y0) hxab) (ws_bytes y2)) hxbb) (ws_bytes y4))
        have F := facts xa xb y0 y2 y4 s0.len s2.len s4.len HV.out HVb.out HTAIL.out
        have HF : Hid (Facts xa xb y0 y2 y4 len0 len2 len4) := F
        have HT : Hid (Tx t6 g6 (len0 + xa.length + len2 + xb.length + len4) (y0.map Plain.ws ++ xa ++ y2.map Plain.ws ++ xb ++ y4.map Plain.ws)) := hT
        have HA : Hid (Rd x2.heap.size x2 (some ⟨g1, 0, none⟩) xa.length c1 xa) := sa
        have HB : Hid (Rd x2.heap.size x2 (some ⟨g2, 0, none⟩) xb.length c2 xb) := sb
        clear F hT hown6 sa sb s0 s2 s4
        go_wp2_with fail
        refine (zzvalue_any _ _ _ _ 0 len0 xa.length _ HT.out hlt (by omega) hcap (by omega) HF.out.w1 HF.out.r1).mono ?_
        rintro e t7 ⟨he, hb7⟩
        rw [show ((len0 + xa.length : Nat) : Int) = (len0 : Int) + (xa.length : Int) from by omega] at he
        subst he
        have HT7 : Hid (Tx t7 g6 (len0 + xa.length + len2 + xb.length + len4) (y0.map Plain.ws ++ xa ++ y2.map Plain.ws ++ xb ++ y4.map Plain.ws)) := HT.out.below hb7 hlt
        have hb7' : Below x2.heap.size x2 t7 := hb6.trans (hb7.mono hb6.size)
        have hlt7 : g6 < t7.heap.size := Nat.lt_of_lt_of_le hlt hb7.size
        have E1 : Hid (∀ i, i < xa.length → t7.cell? ⟨g6, len0 + i, none⟩ = some (.int .u8 (xa.getD i 0))) := part_cells HT7.out HF.out.p1 HF.out.l1 rfl
        have E2 : Hid (∀ i, i < xa.length → t7.cell? ⟨g1, 0 + i, none⟩ = some (.int .u8 (xa.getD i 0))) := rd_cells HA.out hb7'
        clear hb7 HT hlt
        go_wp2_with (go_at_call 27; refine (equal_any _ _ _ _ _ _ _ _ xa (by omega) E1.out E2.out).mono ?_; rintro e t8 ⟨rfl, hb8⟩)
        have HT8 : Hid (Tx t8 g6 (len0 + xa.length + len2 + xb.length + len4) (y0.map Plain.ws ++ xa ++ y2.map Plain.ws ++ xb ++ y4.map Plain.ws)) := HT7.out.below hb8 hlt7
        have hb8' : Below x2.heap.size x2 t8 := hb7'.trans (hb8.mono hb7'.size)
        have hlt8 : g6 < t8.heap.size := Nat.lt_of_lt_of_le hlt7 hb8.size
        clear hb8 HT7 hlt7 hb7' E1 E2
        rw [show ((len0 : Int) + (xa.length : Int)) = ((len0 + xa.length : Nat) : Int) from by omega]
        refine (zzvalue_any _ _ _ _ (len0 + xa.length) (len0 + xa.length + len2) xb.length _ HT8.out hlt8 (by omega) hcap (by omega) HF.out.w2 HF.out.r2).mono ?_
        rintro e t9 ⟨he, hb9⟩
        rw [show ((len0 + xa.length + len2 + xb.length : Nat) : Int) = (len0 : Int) + (xa.length : Int) + (len2 : Int) + (xb.length : Int) from by omega] at he
        rw [show ((len0 + xa.length : Nat) : Int) = (len0 : Int) + (xa.length : Int) from by omega]
        subst he
        have HT9 : Hid (Tx t9 g6 (len0 + xa.length + len2 + xb.length + len4) (y0.map Plain.ws ++ xa ++ y2.map Plain.ws ++ xb ++ y4.map Plain.ws)) := HT8.out.below hb9 hlt8
        have hb9' : Below x2.heap.size x2 t9 := hb8'.trans (hb9.mono hb8'.size)
        have hlt9 : g6 < t9.heap.size := Nat.lt_of_lt_of_le hlt8 hb9.size
        have E1 : Hid (∀ i, i < xb.length → t9.cell? ⟨g6, len0 + xa.length + len2 + i, none⟩ = some (.int .u8 (xb.getD i 0))) := part_cells HT9.out HF.out.p2 HF.out.l2 rfl
        have E2 : Hid (∀ i, i < xb.length → t9.cell? ⟨g2, 0 + i, none⟩ = some (.int .u8 (xb.getD i 0))) := rd_cells HB.out hb9'
        clear hb9 HT8 hlt8 hb8'
        go_wp2_with (go_at_call 27; refine (equal_any _ _ _ _ _ _ _ _ xb (by omega) E1.out E2.out).mono ?_; rintro e t10 ⟨rfl, hb10⟩)
        have HT10 : Hid (Tx t10 g6 (len0 + xa.length + len2 + xb.length + len4) (y0.map Plain.ws ++ xa ++ y2.map Plain.ws ++ xb ++ y4.map Plain.ws)) := HT9.out.below hb10 hlt9
        have hb10' : Below x2.heap.size x2 t10 := hb9'.trans (hb10.mono hb9'.size)
        have hlt10 : g6 < t10.heap.size := Nat.lt_of_lt_of_le hlt9 hb10.size
        clear hb10 HT9 hlt9 hb9' E1 E2
        rw [show ((len0 : Int) + (xa.length : Int) + (len2 : Int) + (xb.length : Int)) = ((len0 + xa.length + len2 + xb.length : Nat) : Int) from by omega]
        refine (zzvalue_end _ _ _ _ (len0 + xa.length + len2 + xb.length) _ HT10.out hlt10 (by omega) (by omega) HF.out.w3).mono ?_
        rintro e t11 ⟨rfl, hb11⟩
        have hb : Below w.heap.size w t11 := hbel.trans ((hb10'.trans (hb11.mono hb10'.size)).mono hbel.size)
        clear hb11 HT10 hb10'
        have q22 : ∀ (w : World) (a : Option Addr) (n c n' c' : Nat), (binOp .eql 22 (.slice a n c) (.slice none n' c')).run Try.prog w = .ok (.bool a.isNone) w := fun w a n c n' c' => Lib.run_eql_slice_nil w _ _ a n c n' c' Try.underlying22
        go_wp2
        go_ret
        exact ⟨by simp, hb⟩
  · go_enter Try.func10, Try.ntmps10
    go_wp2_with fail
    refine (bytes_any _ _ _ _ _ _ _ _ _ _ _ _ _ _ _ _).mono ?_
    rintro e w' ⟨b, rfl, rfl⟩
    cases b with
    | false =>
      go_wp2_with fail
      go_ret
      exact ⟨rfl, Below.refl _ _⟩
    | true =>
      rcases (show 131072 < len0 ∨ (len0 ≤ 131072 ∧ 8192 < len1) ∨ (len0 ≤ 131072 ∧ len1 ≤ 8192 ∧ 131072 < len2) ∨ (len0 ≤ 131072 ∧ len1 ≤ 8192 ∧ len2 ≤ 131072 ∧ 8192 < len3) ∨ (len0 ≤ 131072 ∧ len1 ≤ 8192 ∧ len2 ≤ 131072 ∧ len3 ≤ 8192 ∧ 131072 < len4) from by omega) with h | ⟨h, h1⟩ | ⟨h, h1, h2⟩ | ⟨h, h1, h2, h3⟩ | ⟨h, h1, h2, h3, h4⟩
      all_goals
        clear hbig
        go_wp2_with fail
        go_ret
        exact ⟨rfl, Below.refl _ _⟩

/-! ### THE ROW's STEP: WRITTEN OUT: LEAVE IT -/
set_option maxRecDepth 100000 in
theorem lifted (os : Os) (started : os.Started) (H : Type) (enc : TypeId × Value → H) :
    ReturnsInHanded {} Try.checked os 10 .any (Rows.fnValueReadsSequenceThenEndSpec.pre6 enc Try.prog Try.f10 Rows.fnValueReadsSequenceThenEndRow.domain false) (Rows.fnValueReadsSequenceThenEndSpec.post enc Try.prog Try.f10 false true false false) := by
  refine returnsInHanded_of_change (C := Try.checked) own started (by kernel_rfl) Try.func10
    (ChangeSpec.witness6 (enc := enc) (C := Try.checked) false ⟨#[], #[.slice none 0 0, .slice none 0 0, .slice none 0 0, .slice none 0 0, .slice none 0 0], []⟩ 8 (by kernel_rfl) (by kernel_rfl) (by kernel_rfl) (by kernel_rfl)) ?_
  intro W base args ds gs before hval0 hW hcnd _
  have hval : ∀ (j : Nat) t v, Try.f10.params[j]? = some t → args[j]? = some v → Value.okWide Try.prog W .any base t v := hval0
  have hW' := hW
  obtain ⟨p, q, hA0, hV, rfl, hfz, hnd⟩ := hW
  have hA : DataW.TrodAll enc Try.prog W 0 (fun _ => true) true Try.f10.params.toList args.toList ds p := hA0
  rw [Try.params10] at hA hval
  obtain ⟨v0, vs0, d0, ds0, p0, q0, hargs, rfl, rfl, h0, r0⟩ := trodAll_cons hA
  obtain ⟨v1, vs1, d1, ds1, p1, q1, rfl, rfl, rfl, h1, r1⟩ := trodAll_cons r0
  obtain ⟨v2, vs2, d2, ds2, p2, q2, rfl, rfl, rfl, h2, r2⟩ := trodAll_cons r1
  obtain ⟨v3, vs3, d3, ds3, p3, q3, rfl, rfl, rfl, h3, r3⟩ := trodAll_cons r2
  obtain ⟨v4, vs4, d4, ds4, p4, q4, rfl, rfl, rfl, h4, r4⟩ := trodAll_cons r3
  obtain ⟨rfl, rfl, rfl⟩ := trodAll_nil r4
  obtain rfl : args = #[v0, v1, v2, v3, v4] := by cases args; simp_all
  obtain ⟨rfl, rfl⟩ := trodVars_none hV
  obtain ⟨a0, len0, cap0, rfl⟩ := okWide_slice Try.underlying22 (hval 0 22 v0 rfl rfl)
  have k0 := h0
  have lt0 : ∀ x ∈ p0, x.block < W.heap.size := by obtain ⟨m, hm⟩ := k0; exact DataW.trod_lt m _ _ _ hm
  obtain ⟨z0, w0⟩ : ∃ zs, IsRow .u8 W a0 len0 cap0 zs := by
    obtain ⟨fuel, hf⟩ := h0
    rcases open_ints Try.underlying22 Try.underlying5 (by kernel_rfl) hf with ⟨hcs, _⟩ | ⟨x, l, c, zs, hcs, _, hl, hm, hz, _, hcell, hwz⟩
    · simp [Value.cells] at hcs
      obtain ⟨rfl, rfl, rfl⟩ := hcs
      exact ⟨[], .inl ⟨rfl, rfl, rfl, rfl⟩⟩
    · simp [Value.cells] at hcs
      obtain ⟨rfl, rfl, rfl⟩ := hcs
      exact ⟨zs, .inr ⟨_, rfl, hl, hm, by simpa using hz, hcell, hwz⟩⟩
  obtain ⟨a1, len1, cap1, rfl⟩ := okWide_slice Try.underlying22 (hval 1 22 v1 rfl rfl)
  have k1 := h1
  have lt1 : ∀ x ∈ p1, x.block < W.heap.size := by obtain ⟨m, hm⟩ := k1; exact DataW.trod_lt m _ _ _ hm
  obtain ⟨z1, w1⟩ : ∃ zs, IsRow .u8 W a1 len1 cap1 zs := by
    obtain ⟨fuel, hf⟩ := h1
    rcases open_ints Try.underlying22 Try.underlying5 (by kernel_rfl) hf with ⟨hcs, _⟩ | ⟨x, l, c, zs, hcs, _, hl, hm, hz, _, hcell, hwz⟩
    · simp [Value.cells] at hcs
      obtain ⟨rfl, rfl, rfl⟩ := hcs
      exact ⟨[], .inl ⟨rfl, rfl, rfl, rfl⟩⟩
    · simp [Value.cells] at hcs
      obtain ⟨rfl, rfl, rfl⟩ := hcs
      exact ⟨zs, .inr ⟨_, rfl, hl, hm, by simpa using hz, hcell, hwz⟩⟩
  obtain ⟨a2, len2, cap2, rfl⟩ := okWide_slice Try.underlying22 (hval 2 22 v2 rfl rfl)
  have k2 := h2
  have lt2 : ∀ x ∈ p2, x.block < W.heap.size := by obtain ⟨m, hm⟩ := k2; exact DataW.trod_lt m _ _ _ hm
  obtain ⟨z2, w2⟩ : ∃ zs, IsRow .u8 W a2 len2 cap2 zs := by
    obtain ⟨fuel, hf⟩ := h2
    rcases open_ints Try.underlying22 Try.underlying5 (by kernel_rfl) hf with ⟨hcs, _⟩ | ⟨x, l, c, zs, hcs, _, hl, hm, hz, _, hcell, hwz⟩
    · simp [Value.cells] at hcs
      obtain ⟨rfl, rfl, rfl⟩ := hcs
      exact ⟨[], .inl ⟨rfl, rfl, rfl, rfl⟩⟩
    · simp [Value.cells] at hcs
      obtain ⟨rfl, rfl, rfl⟩ := hcs
      exact ⟨zs, .inr ⟨_, rfl, hl, hm, by simpa using hz, hcell, hwz⟩⟩
  obtain ⟨a3, len3, cap3, rfl⟩ := okWide_slice Try.underlying22 (hval 3 22 v3 rfl rfl)
  have k3 := h3
  have lt3 : ∀ x ∈ p3, x.block < W.heap.size := by obtain ⟨m, hm⟩ := k3; exact DataW.trod_lt m _ _ _ hm
  obtain ⟨z3, w3⟩ : ∃ zs, IsRow .u8 W a3 len3 cap3 zs := by
    obtain ⟨fuel, hf⟩ := h3
    rcases open_ints Try.underlying22 Try.underlying5 (by kernel_rfl) hf with ⟨hcs, _⟩ | ⟨x, l, c, zs, hcs, _, hl, hm, hz, _, hcell, hwz⟩
    · simp [Value.cells] at hcs
      obtain ⟨rfl, rfl, rfl⟩ := hcs
      exact ⟨[], .inl ⟨rfl, rfl, rfl, rfl⟩⟩
    · simp [Value.cells] at hcs
      obtain ⟨rfl, rfl, rfl⟩ := hcs
      exact ⟨zs, .inr ⟨_, rfl, hl, hm, by simpa using hz, hcell, hwz⟩⟩
  obtain ⟨a4, len4, cap4, rfl⟩ := okWide_slice Try.underlying22 (hval 4 22 v4 rfl rfl)
  have k4 := h4
  have lt4 : ∀ x ∈ p4, x.block < W.heap.size := by obtain ⟨m, hm⟩ := k4; exact DataW.trod_lt m _ _ _ hm
  obtain ⟨z4, w4⟩ : ∃ zs, IsRow .u8 W a4 len4 cap4 zs := by
    obtain ⟨fuel, hf⟩ := h4
    rcases open_ints Try.underlying22 Try.underlying5 (by kernel_rfl) hf with ⟨hcs, _⟩ | ⟨x, l, c, zs, hcs, _, hl, hm, hz, _, hcell, hwz⟩
    · simp [Value.cells] at hcs
      obtain ⟨rfl, rfl, rfl⟩ := hcs
      exact ⟨[], .inl ⟨rfl, rfl, rfl, rfl⟩⟩
    · simp [Value.cells] at hcs
      obtain ⟨rfl, rfl, rfl⟩ := hcs
      exact ⟨zs, .inr ⟨_, rfl, hl, hm, by simpa using hz, hcell, hwz⟩⟩
  clear hA0 hval0
  refine (walk a0 len0 cap0 z0 a1 len1 cap1 z1 a2 len2 cap2 z2 a3 len3 cap3 z3 a4 len4 cap4 z4 W w0 w1 w2 w3 w4).mono fun e W' ⟨he, bel⟩ => ?_
  subst he
  exact ⟨_, rfl, _, _, _, [], _, [], hW', trodAll_mk1 (shut_bool Try.underlying4 _), (trodAll_cons_mk (Below.trod laidOut (by kernel_rfl) (of_decide_eq_true (by kernel_rfl)) k0 bel lt0) (trodAll_cons_mk (Below.trod laidOut (by kernel_rfl) (of_decide_eq_true (by kernel_rfl)) k1 bel lt1) (trodAll_cons_mk (Below.trod laidOut (by kernel_rfl) (of_decide_eq_true (by kernel_rfl)) k2 bel lt2) (trodAll_cons_mk (Below.trod laidOut (by kernel_rfl) (of_decide_eq_true (by kernel_rfl)) k3 bel lt3) (trodAll_cons_mk (Below.trod laidOut (by kernel_rfl) (of_decide_eq_true (by kernel_rfl)) k4 bel lt4) trodAll_mk0))))), rfl, bel.frame _, fun h => by cases h⟩

theorem over : Rows.fnValueReadsSequenceThenEndRow.holds Try.pinned (OpenSpec.ofChange Rows.fnValueReadsSequenceThenEndSpec) :=
  OpenClaim.holds_of_wide 10 Try.f10 rfl rfl rfl rfl rfl rfl rfl ⟨rfl, rfl, rfl, rfl, rfl⟩ rfl rfl rfl rfl rfl (by kernel_rfl) Try.func10 (Made.joined (by kernel_rfl) (by kernel_rfl) rfl rfl)
    (of_decide_eq_true (by kernel_rfl)) (by unfold Func.isWrapper; first | (rw [if_pos (by decide +kernel)]; kernel_rfl) | (rw [if_neg (by decide +kernel)]; exact ⟨rfl, rfl⟩))
    (fun os started H enc _ => lifted os started H enc)

/-- ████ THE STATEMENT ████ -/
theorem proved : Rows.FnValueReadsSequenceThenEndSaid := over
end Go.Proofs.Qxb6600131a.fnValueReadsSequenceThenEnd
