/-
  A proof of 'Rows.FnValueReadsEncodedValueSaid'. The frame (the theorems 'lifted', 'over', 'proved') is the given shell's own, but for one argument of 'over'. The walk is filled in.
-/
import Derived.Test.Qxb6600131aRows
import Derived.WalkKit
import Derived.ProofKit
import Derived.OpenShut
import Derived.ShutString
import Derived.ChangeOld
import Derived.Below
import Derived.Test.Qxb6600131aCommon
import Derived.Test.Qxb6600131aMade
namespace Go.Proofs.Qxb6600131a.fnValueReadsEncodedValue
open Go.ChangeShapes Go.WideShapes Go.ChangeAt Go.RowKit
open Go.ChangeMaps (open_string shut_string)
set_option linter.unusedVariables false

theorem own : ownKnob Try.prog.godebug = none := by kernel_rfl
theorem laidOut : laidOutB Try.prog = true := by kernel_rfl

theorem bytes_any (w : World) (a0 a1 a2 : Option Addr) (l0 c0 l1 c1 l2 c2 : Nat) :
    Calls Try.prog 22 #[.slice a0 l0 c0, .slice a1 l1 c1, .slice a2 l2 c2] w fun e w' => ∃ b, e = .returned (.bool b) ∧ w = w' := by
  go_enter Try.func22, Try.ntmps22
  go_wp2
  all_goals
    go_ret
    exact ⟨_, rfl, rfl⟩

set_option maxRecDepth 100000 in
set_option maxHeartbeats 4000000 in
theorem walk (a0 : Option Addr) (len0 cap0 : Nat) (z0 : List Int) (a1 : Option Addr) (len1 cap1 : Nat) (z1 : List Int) (a2 : Option Addr) (len2 cap2 : Nat) (z2 : List Int) (w : World) (w0 : IsRow .u8 w a0 len0 cap0 z0) (w1 : IsRow .u8 w a1 len1 cap1 z1) (w2 : IsRow .u8 w a2 len2 cap2 z2) :
    Calls Try.prog 8 #[.slice a0 len0 cap0, .slice a1 len1 cap1, .slice a2 len2 cap2] w fun e w' => e = .returned (.bool true) ∧ Below w.heap.size w w' := by
  have r0 := w0.rd
  have r1 := w1.rd
  have r2 := w2.rd
  clear w0 w1 w2
  generalize z0.take len0 = y0 at r0
  generalize z1.take len1 = y1 at r1
  generalize z2.take len2 = y2 at r2
  clear z0 z1 z2
  by_cases hbig : len0 ≤ 262144 ∧ len1 ≤ 16384 ∧ len2 ≤ 262144
  · obtain ⟨hb0, hb1, hb2⟩ := hbig
    go_enter Try.func8, Try.ntmps8
    go_wp2_with fail
    refine (bytes_any _ _ _ _ _ _ _ _ _ _).mono ?_
    rintro e w' ⟨b, rfl, rfl⟩
    cases b with
    | false =>
      go_wp2_with fail
      go_ret
      exact ⟨rfl, Below.refl _ _⟩
    | true =>
      go_wp2_with fail
      refine (valueOf_any w w.heap.size y1 a1 len1 cap1 r1 (Nat.le_refl _) (by omega)).mono ?_
      rintro e x1 ⟨g1, c1, x, rfl, hxl, hval, hxb, hown1, hbel1⟩
      have s0 : Rd x1.heap.size x1 a0 len0 cap0 y0 := (r0.below hbel1 (Nat.le_refl _)).mono hbel1.size
      have s2 : Rd x1.heap.size x1 a2 len2 cap2 y2 := (r2.below hbel1 (Nat.le_refl _)).mono hbel1.size
      have sv : Rd x1.heap.size x1 (some ⟨g1, 0, none⟩) x.length c1 x := Rd.ofOwn hown1 hxb (Nat.le_refl _)
      have hg1 := (own_cap hown1).2
      have hx0 := val_ne hval
      have HV : Hid (Plain.Val x) := hval
      have hB := Nat.le_refl x1.heap.size
      clear r0 r1 r2 hval
      obtain ⟨o, ho⟩ : ∃ o, o = x.getD 0 0 := ⟨_, rfl⟩
      have hc0 : x1.cell? ⟨g1, 0, none⟩ = some (.int .u8 o) := by
        rw [ho]; have := (Tx.ofOwn hown1 hxb).cell 0 hx0; exact this
      have HO : Hid (o = x.getD 0 0) := ho
      clear ho hown1
      have hx0' : (0 : Int) < (x.length : Int) := by omega
      have hlie : len2 = 0 ∨ ∃ b off, a2 = some ⟨b, off, none⟩ ∧ b < x1.heap.size ∧ ∀ i, i < len2 → x1.cell? ⟨b, off + i, none⟩ = some (.int .u8 (y2.getD i 0)) := s2.lie
      have hcase : Plain.whole o = true ∨ (Plain.whole o = false ∧ len2 ≤ 0) ∨ (Plain.whole o = false ∧ 0 < len2) := by
        cases Plain.whole o with
        | true => exact .inl rfl
        | false => exact .inr (by by_cases h : 0 < len2; exact .inr ⟨rfl, h⟩; exact .inl ⟨rfl, by omega⟩)
      have hfin : (Plain.whole o = true ∨ y2 = [] ∨ ∃ c r, y2 = c :: r ∧ Plain.delim c = true) → Hid (Plain.Reads (x ++ y2) x.length) := by
        intro h; rw [HO.out] at h; exact HV.out.reads h
      have hl2 := s2.len
      rcases hcase with hwh | ⟨hwh, hl0⟩ | ⟨hwh, hl0⟩
      · have HR := hfin (.inl hwh)
        clear hfin hlie hl2
        go_wp2_with (first
          | (go_at_call 24; refine (opensWhole_any _ _).mono ?_; rintro e w' ⟨he, rfl⟩; rw [hwh] at he; subst he)
          | (go_at_call 25; refine (isDelim_any _ _).mono ?_; rintro e w' ⟨he, rfl⟩; rw [hdl] at he; subst he)
          | (at_make; refine wpList_make_bytes rfl _ _ rfl _ _ _ (len0 + x.length + len2) rfl rfl (by omega) (by omega) ?_; intro x2 hown2 hbel2)
          | (go_at_call 13; refine (appendWS_any _ x1.heap.size x1.heap.size _ _ _ _ _ _ y0 hown2 (s0.below hbel2 hB) hB hbel2.size (by omega)).mono ?_; rintro e x3 ⟨v3, rfl, hown3, hbel3, hn3⟩; obtain ⟨g3, c3, hv3, hg3⟩ := own_some hown3 (hn3 (by simp)); subst hv3; simp only [Nat.zero_add, List.nil_append] at hown3)
          | (at_builtin; refine wpList_append_rd' rfl (.tmp 60) (.tmp 61) rfl x1.heap.size _ _ _ _ rfl hown3 x1.heap.size _ _ _ x rfl ((sv.below hbel2 hB).below hbel3 hB) (by omega) (Nat.le_trans hbel2.size hbel3.size) ?_; intro g4 c4 x4 hown4 hbel4)
          | (at_builtin; refine wpList_append_rd' rfl (.tmp 63) (.tmp 64) rfl x1.heap.size _ _ _ _ rfl hown4 x1.heap.size _ _ _ y2 rfl (((s2.below hbel2 hB).below hbel3 hB).below hbel4 hB) (by omega) (Nat.le_trans hbel2.size (Nat.le_trans hbel3.size hbel4.size)) ?_; intro g6 c6 x6 hown6 hbel6))
        have hb6 : Below x1.heap.size x1 x6 := ((hbel2.trans hbel3).trans hbel4).trans hbel6
        clear hbel2 hbel3 hbel4 hbel6 hown2 hown3 hown4
        have hT := Tx.ofOwn hown6 (bytes_append (bytes_append (ws_bytes y0) hxb) s2.bytes)
        obtain ⟨hcap, hlt⟩ := own_cap hown6
        have hl0' : (y0.map Plain.ws).length = len0 := by rw [List.length_map]; exact s0.len
        have hs : Plain.wsEnd (y0.map Plain.ws ++ x ++ y2) 0 = len0 := by
          have := Plain.wsEnd_run [] (y0.map Plain.ws) (x ++ y2) (ws_all y0) (head_of HV.out y2)
          rw [hl0'] at this
          simpa using this
        have hdr : (y0.map Plain.ws ++ x ++ y2).drop len0 = x ++ y2 := by rw [List.append_assoc, ← hl0', List.drop_left]
        refine (zzvalue_any _ _ _ _ 0 len0 x.length _ hT hlt (by omega) hcap (by omega) hs (by rw [hdr]; exact HR.out)).mono ?_
        rintro e x7 ⟨he, hb7⟩
        rw [show ((len0 + x.length : Nat) : Int) = (len0 : Int) + (x.length : Int) from by omega] at he
        subst he
        have hT7 := hT.below hb7 hlt
        have e1 := part_cells hT7 (List.append_assoc _ _ _) hl0' rfl
        have e2 : ∀ i, i < x.length → x7.cell? ⟨g1, 0 + i, none⟩ = some (.int .u8 (x.getD i 0)) := by
          intro i hi
          rcases sv.lie with h0 | ⟨bb, oo, hab, _, hcc⟩
          · omega
          · simp only [Option.some.injEq, Addr.mk.injEq, and_true] at hab
            obtain ⟨rfl, rfl⟩ := hab
            have hq := hb6.size
            rw [hb7.cell (p := ⟨g1, 0 + i, none⟩) (by simp; omega), hb6.cell (p := ⟨g1, 0 + i, none⟩) (by simp; omega)]
            exact hcc i hi
        have E1 : Hid (∀ i, i < x.length → x7.cell? ⟨_, len0 + i, none⟩ = some (.int .u8 (x.getD i 0))) := e1
        have E2 : Hid (∀ i, i < x.length → x7.cell? ⟨g1, 0 + i, none⟩ = some (.int .u8 (x.getD i 0))) := e2
        clear e1 e2 hs hdr hT hT7 hown6 hl0'
        have hb : Below w.heap.size w x7 := hbel1.trans ((hb6.trans (hb7.mono hb6.size)).mono hbel1.size)
        go_wp2_with (go_at_call 27; refine (equal_any _ _ _ _ _ _ _ _ x (by omega) E1.out E2.out).mono ?_; rintro e x8 ⟨rfl, hb8⟩)
        go_ret
        exact ⟨by simp, hb.trans (hb8.mono hb.size)⟩
      · have HR := hfin (.inr (.inl (List.eq_nil_of_length_eq_zero (by omega))))
        clear hfin hlie hl2
        go_wp2_with (first
          | (go_at_call 24; refine (opensWhole_any _ _).mono ?_; rintro e w' ⟨he, rfl⟩; rw [hwh] at he; subst he)
          | (go_at_call 25; refine (isDelim_any _ _).mono ?_; rintro e w' ⟨he, rfl⟩; rw [hdl] at he; subst he)
          | (at_make; refine wpList_make_bytes rfl _ _ rfl _ _ _ (len0 + x.length + len2) rfl rfl (by omega) (by omega) ?_; intro x2 hown2 hbel2)
          | (go_at_call 13; refine (appendWS_any _ x1.heap.size x1.heap.size _ _ _ _ _ _ y0 hown2 (s0.below hbel2 hB) hB hbel2.size (by omega)).mono ?_; rintro e x3 ⟨v3, rfl, hown3, hbel3, hn3⟩; obtain ⟨g3, c3, hv3, hg3⟩ := own_some hown3 (hn3 (by simp)); subst hv3; simp only [Nat.zero_add, List.nil_append] at hown3)
          | (at_builtin; refine wpList_append_rd' rfl (.tmp 60) (.tmp 61) rfl x1.heap.size _ _ _ _ rfl hown3 x1.heap.size _ _ _ x rfl ((sv.below hbel2 hB).below hbel3 hB) (by omega) (Nat.le_trans hbel2.size hbel3.size) ?_; intro g4 c4 x4 hown4 hbel4)
          | (at_builtin; refine wpList_append_rd' rfl (.tmp 63) (.tmp 64) rfl x1.heap.size _ _ _ _ rfl hown4 x1.heap.size _ _ _ y2 rfl (((s2.below hbel2 hB).below hbel3 hB).below hbel4 hB) (by omega) (Nat.le_trans hbel2.size (Nat.le_trans hbel3.size hbel4.size)) ?_; intro g6 c6 x6 hown6 hbel6))
        have hb6 : Below x1.heap.size x1 x6 := ((hbel2.trans hbel3).trans hbel4).trans hbel6
        clear hbel2 hbel3 hbel4 hbel6 hown2 hown3 hown4
        have hT := Tx.ofOwn hown6 (bytes_append (bytes_append (ws_bytes y0) hxb) s2.bytes)
        obtain ⟨hcap, hlt⟩ := own_cap hown6
        have hl0' : (y0.map Plain.ws).length = len0 := by rw [List.length_map]; exact s0.len
        have hs : Plain.wsEnd (y0.map Plain.ws ++ x ++ y2) 0 = len0 := by
          have := Plain.wsEnd_run [] (y0.map Plain.ws) (x ++ y2) (ws_all y0) (head_of HV.out y2)
          rw [hl0'] at this
          simpa using this
        have hdr : (y0.map Plain.ws ++ x ++ y2).drop len0 = x ++ y2 := by rw [List.append_assoc, ← hl0', List.drop_left]
        refine (zzvalue_any _ _ _ _ 0 len0 x.length _ hT hlt (by omega) hcap (by omega) hs (by rw [hdr]; exact HR.out)).mono ?_
        rintro e x7 ⟨he, hb7⟩
        rw [show ((len0 + x.length : Nat) : Int) = (len0 : Int) + (x.length : Int) from by omega] at he
        subst he
        have hT7 := hT.below hb7 hlt
        have e1 := part_cells hT7 (List.append_assoc _ _ _) hl0' rfl
        have e2 : ∀ i, i < x.length → x7.cell? ⟨g1, 0 + i, none⟩ = some (.int .u8 (x.getD i 0)) := by
          intro i hi
          rcases sv.lie with h0 | ⟨bb, oo, hab, _, hcc⟩
          · omega
          · simp only [Option.some.injEq, Addr.mk.injEq, and_true] at hab
            obtain ⟨rfl, rfl⟩ := hab
            have hq := hb6.size
            rw [hb7.cell (p := ⟨g1, 0 + i, none⟩) (by simp; omega), hb6.cell (p := ⟨g1, 0 + i, none⟩) (by simp; omega)]
            exact hcc i hi
        have E1 : Hid (∀ i, i < x.length → x7.cell? ⟨_, len0 + i, none⟩ = some (.int .u8 (x.getD i 0))) := e1
        have E2 : Hid (∀ i, i < x.length → x7.cell? ⟨g1, 0 + i, none⟩ = some (.int .u8 (x.getD i 0))) := e2
        clear e1 e2 hs hdr hT hT7 hown6 hl0'
        have hb : Below w.heap.size w x7 := hbel1.trans ((hb6.trans (hb7.mono hb6.size)).mono hbel1.size)
        go_wp2_with (go_at_call 27; refine (equal_any _ _ _ _ _ _ _ _ x (by omega) E1.out E2.out).mono ?_; rintro e x8 ⟨rfl, hb8⟩)
        go_ret
        exact ⟨by simp, hb.trans (hb8.mono hb.size)⟩
      · obtain ⟨b2, off2, ha2, hlt2, hcell⟩ := hlie.resolve_left (by omega)
        subst ha2
        obtain ⟨t, ht⟩ : ∃ t, t = y2.getD 0 0 := ⟨_, rfl⟩
        have hc2 := hcell 0 (by omega)
        rw [← ht, Nat.add_zero] at hc2
        clear hcell hlie
        have hpos : (0 : Int) < (len2 : Int) := by omega
        cases hdl : Plain.delim t with
        | false =>
          clear ht hfin hl2
          go_wp2_with (first
            | (go_at_call 24; refine (opensWhole_any _ _).mono ?_; rintro e w' ⟨he, rfl⟩; rw [hwh] at he; subst he)
            | (go_at_call 25; refine (isDelim_any _ _).mono ?_; rintro e w' ⟨he, rfl⟩; rw [hdl] at he; subst he))
          go_ret
          exact ⟨rfl, hbel1⟩
        | true =>
          have HR := hfin (.inr (.inr (by
            match y2, hl2 with
            | c :: r, _ => exact ⟨c, r, rfl, by rw [← hdl, ht]; rfl⟩
            | [], h => simp at h; omega)))
          clear ht hfin hl2
          go_wp2_with (first
            | (go_at_call 24; refine (opensWhole_any _ _).mono ?_; rintro e w' ⟨he, rfl⟩; rw [hwh] at he; subst he)
            | (go_at_call 25; refine (isDelim_any _ _).mono ?_; rintro e w' ⟨he, rfl⟩; rw [hdl] at he; subst he)
            | (at_make; refine wpList_make_bytes rfl _ _ rfl _ _ _ (len0 + x.length + len2) rfl rfl (by omega) (by omega) ?_; intro x2 hown2 hbel2)
            | (go_at_call 13; refine (appendWS_any _ x1.heap.size x1.heap.size _ _ _ _ _ _ y0 hown2 (s0.below hbel2 hB) hB hbel2.size (by omega)).mono ?_; rintro e x3 ⟨v3, rfl, hown3, hbel3, hn3⟩; obtain ⟨g3, c3, hv3, hg3⟩ := own_some hown3 (hn3 (by simp)); subst hv3; simp only [Nat.zero_add, List.nil_append] at hown3)
            | (at_builtin; refine wpList_append_rd' rfl (.tmp 60) (.tmp 61) rfl x1.heap.size _ _ _ _ rfl hown3 x1.heap.size _ _ _ x rfl ((sv.below hbel2 hB).below hbel3 hB) (by omega) (Nat.le_trans hbel2.size hbel3.size) ?_; intro g4 c4 x4 hown4 hbel4)
            | (at_builtin; refine wpList_append_rd' rfl (.tmp 63) (.tmp 64) rfl x1.heap.size _ _ _ _ rfl hown4 x1.heap.size _ _ _ y2 rfl (((s2.below hbel2 hB).below hbel3 hB).below hbel4 hB) (by omega) (Nat.le_trans hbel2.size (Nat.le_trans hbel3.size hbel4.size)) ?_; intro g6 c6 x6 hown6 hbel6))
          have hb6 : Below x1.heap.size x1 x6 := ((hbel2.trans hbel3).trans hbel4).trans hbel6
          clear hbel2 hbel3 hbel4 hbel6 hown2 hown3 hown4
          have hT := Tx.ofOwn hown6 (bytes_append (bytes_append (ws_bytes y0) hxb) s2.bytes)
          obtain ⟨hcap, hlt⟩ := own_cap hown6
          have hl0' : (y0.map Plain.ws).length = len0 := by rw [List.length_map]; exact s0.len
          have hs : Plain.wsEnd (y0.map Plain.ws ++ x ++ y2) 0 = len0 := by
            have := Plain.wsEnd_run [] (y0.map Plain.ws) (x ++ y2) (ws_all y0) (head_of HV.out y2)
            rw [hl0'] at this
            simpa using this
          have hdr : (y0.map Plain.ws ++ x ++ y2).drop len0 = x ++ y2 := by rw [List.append_assoc, ← hl0', List.drop_left]
          refine (zzvalue_any _ _ _ _ 0 len0 x.length _ hT hlt (by omega) hcap (by omega) hs (by rw [hdr]; exact HR.out)).mono ?_
          rintro e x7 ⟨he, hb7⟩
          rw [show ((len0 + x.length : Nat) : Int) = (len0 : Int) + (x.length : Int) from by omega] at he
          subst he
          have hT7 := hT.below hb7 hlt
          have e1 := part_cells hT7 (List.append_assoc _ _ _) hl0' rfl
          have e2 : ∀ i, i < x.length → x7.cell? ⟨g1, 0 + i, none⟩ = some (.int .u8 (x.getD i 0)) := by
            intro i hi
            rcases sv.lie with h0 | ⟨bb, oo, hab, _, hcc⟩
            · omega
            · simp only [Option.some.injEq, Addr.mk.injEq, and_true] at hab
              obtain ⟨rfl, rfl⟩ := hab
              have hq := hb6.size
              rw [hb7.cell (p := ⟨g1, 0 + i, none⟩) (by simp; omega), hb6.cell (p := ⟨g1, 0 + i, none⟩) (by simp; omega)]
              exact hcc i hi
          have E1 : Hid (∀ i, i < x.length → x7.cell? ⟨_, len0 + i, none⟩ = some (.int .u8 (x.getD i 0))) := e1
          have E2 : Hid (∀ i, i < x.length → x7.cell? ⟨g1, 0 + i, none⟩ = some (.int .u8 (x.getD i 0))) := e2
          clear e1 e2 hs hdr hT hT7 hown6 hl0'
          have hb : Below w.heap.size w x7 := hbel1.trans ((hb6.trans (hb7.mono hb6.size)).mono hbel1.size)
          go_wp2_with (go_at_call 27; refine (equal_any _ _ _ _ _ _ _ _ x (by omega) E1.out E2.out).mono ?_; rintro e x8 ⟨rfl, hb8⟩)
          go_ret
          exact ⟨by simp, hb.trans (hb8.mono hb.size)⟩
  · go_enter Try.func8, Try.ntmps8
    go_wp2_with fail
    refine (bytes_any _ _ _ _ _ _ _ _ _ _).mono ?_
    rintro e w' ⟨b, rfl, rfl⟩
    cases b with
    | false =>
      go_wp2_with fail
      go_ret
      exact ⟨rfl, Below.refl _ _⟩
    | true =>
      rcases (show 262144 < len0 ∨ (len0 ≤ 262144 ∧ 16384 < len1) ∨ (len0 ≤ 262144 ∧ len1 ≤ 16384 ∧ 262144 < len2) from by omega) with h | ⟨h, h'⟩ | ⟨h, h', h''⟩
      all_goals
        clear hbig
        go_wp2_with fail
        go_ret
        exact ⟨rfl, Below.refl _ _⟩

/-! ### THE ROW's STEP: WRITTEN OUT: LEAVE IT -/
set_option maxRecDepth 100000 in
theorem lifted (os : Os) (started : os.Started) (H : Type) (enc : TypeId × Value → H) :
    ReturnsInHanded {} Try.checked os 8 .any (Rows.fnValueReadsEncodedValueSpec.pre6 enc Try.prog Try.f8 Rows.fnValueReadsEncodedValueRow.domain false) (Rows.fnValueReadsEncodedValueSpec.post enc Try.prog Try.f8 false true false false) := by
  refine returnsInHanded_of_change (C := Try.checked) own started (by kernel_rfl) Try.func8
    (ChangeSpec.witness6 (enc := enc) (C := Try.checked) false ⟨#[], #[.slice none 0 0, .slice none 0 0, .slice none 0 0], []⟩ 8 (by kernel_rfl) (by kernel_rfl) (by kernel_rfl) (by kernel_rfl)) ?_
  intro W base args ds gs before hval0 hW hcnd _
  have hval : ∀ (j : Nat) t v, Try.f8.params[j]? = some t → args[j]? = some v → Value.okWide Try.prog W .any base t v := hval0
  have hW' := hW
  obtain ⟨p, q, hA0, hV, rfl, hfz, hnd⟩ := hW
  have hA : DataW.TrodAll enc Try.prog W 0 (fun _ => true) true Try.f8.params.toList args.toList ds p := hA0
  rw [Try.params8] at hA hval
  obtain ⟨v0, vs0, d0, ds0, p0, q0, hargs, rfl, rfl, h0, r0⟩ := trodAll_cons hA
  obtain ⟨v1, vs1, d1, ds1, p1, q1, rfl, rfl, rfl, h1, r1⟩ := trodAll_cons r0
  obtain ⟨v2, vs2, d2, ds2, p2, q2, rfl, rfl, rfl, h2, r2⟩ := trodAll_cons r1
  obtain ⟨rfl, rfl, rfl⟩ := trodAll_nil r2
  obtain rfl : args = #[v0, v1, v2] := by cases args; simp_all
  obtain ⟨rfl, rfl⟩ := trodVars_none hV
  obtain ⟨a0, len0, cap0, rfl⟩ := okWide_slice Try.underlying22 (hval 0 22 v0 rfl rfl)
  have k0 := h0
  have lt0 : ∀ x ∈ p0, x.block < W.heap.size := by obtain ⟨m, hm⟩ := k0; exact DataW.trod_lt m _ _ _ hm
  obtain ⟨z0, w0⟩ : ∃ zs, IsRow .u8 W a0 len0 cap0 zs := by
    obtain ⟨fuel, hf⟩ := h0
    rcases open_ints Try.underlying22 Try.underlying5 (by kernel_rfl) hf with ⟨hcs, _⟩ | ⟨x, l, c, zs, hcs, _, hl, hm, hz, _, hcell, hwz⟩
    · simp [Value.cells] at hcs
      obtain ⟨rfl, rfl, rfl⟩ := hcs
      exact ⟨[], .inl ⟨rfl, rfl, rfl, rfl⟩⟩
    · simp [Value.cells] at hcs
      obtain ⟨rfl, rfl, rfl⟩ := hcs
      exact ⟨zs, .inr ⟨_, rfl, hl, hm, by simpa using hz, hcell, hwz⟩⟩
  obtain ⟨a1, len1, cap1, rfl⟩ := okWide_slice Try.underlying22 (hval 1 22 v1 rfl rfl)
  have k1 := h1
  have lt1 : ∀ x ∈ p1, x.block < W.heap.size := by obtain ⟨m, hm⟩ := k1; exact DataW.trod_lt m _ _ _ hm
  obtain ⟨z1, w1⟩ : ∃ zs, IsRow .u8 W a1 len1 cap1 zs := by
    obtain ⟨fuel, hf⟩ := h1
    rcases open_ints Try.underlying22 Try.underlying5 (by kernel_rfl) hf with ⟨hcs, _⟩ | ⟨x, l, c, zs, hcs, _, hl, hm, hz, _, hcell, hwz⟩
    · simp [Value.cells] at hcs
      obtain ⟨rfl, rfl, rfl⟩ := hcs
      exact ⟨[], .inl ⟨rfl, rfl, rfl, rfl⟩⟩
    · simp [Value.cells] at hcs
      obtain ⟨rfl, rfl, rfl⟩ := hcs
      exact ⟨zs, .inr ⟨_, rfl, hl, hm, by simpa using hz, hcell, hwz⟩⟩
  obtain ⟨a2, len2, cap2, rfl⟩ := okWide_slice Try.underlying22 (hval 2 22 v2 rfl rfl)
  have k2 := h2
  have lt2 : ∀ x ∈ p2, x.block < W.heap.size := by obtain ⟨m, hm⟩ := k2; exact DataW.trod_lt m _ _ _ hm
  obtain ⟨z2, w2⟩ : ∃ zs, IsRow .u8 W a2 len2 cap2 zs := by
    obtain ⟨fuel, hf⟩ := h2
    rcases open_ints Try.underlying22 Try.underlying5 (by kernel_rfl) hf with ⟨hcs, _⟩ | ⟨x, l, c, zs, hcs, _, hl, hm, hz, _, hcell, hwz⟩
    · simp [Value.cells] at hcs
      obtain ⟨rfl, rfl, rfl⟩ := hcs
      exact ⟨[], .inl ⟨rfl, rfl, rfl, rfl⟩⟩
    · simp [Value.cells] at hcs
      obtain ⟨rfl, rfl, rfl⟩ := hcs
      exact ⟨zs, .inr ⟨_, rfl, hl, hm, by simpa using hz, hcell, hwz⟩⟩
  clear hA0 hval0
  refine (walk a0 len0 cap0 z0 a1 len1 cap1 z1 a2 len2 cap2 z2 W w0 w1 w2).mono fun e W' ⟨he, bel⟩ => ?_
  subst he
  exact ⟨_, rfl, _, _, _, [], _, [], hW', trodAll_mk1 (shut_bool Try.underlying4 _), (trodAll_cons_mk (Below.trod laidOut (by kernel_rfl) (of_decide_eq_true (by kernel_rfl)) k0 bel lt0) (trodAll_cons_mk (Below.trod laidOut (by kernel_rfl) (of_decide_eq_true (by kernel_rfl)) k1 bel lt1) (trodAll_cons_mk (Below.trod laidOut (by kernel_rfl) (of_decide_eq_true (by kernel_rfl)) k2 bel lt2) trodAll_mk0))), rfl, bel.frame _, fun h => by cases h⟩

theorem over : Rows.fnValueReadsEncodedValueRow.holds Try.pinned (OpenSpec.ofChange Rows.fnValueReadsEncodedValueSpec) :=
  OpenClaim.holds_of_wide 8 Try.f8 rfl rfl rfl rfl rfl rfl rfl ⟨rfl, rfl, rfl, rfl, rfl⟩ rfl rfl rfl rfl rfl (by kernel_rfl) Try.func8 (Made.joined (by kernel_rfl) (by kernel_rfl) rfl rfl)
    (of_decide_eq_true (by kernel_rfl)) (by unfold Func.isWrapper; first | (rw [if_pos (by decide +kernel)]; kernel_rfl) | (rw [if_neg (by decide +kernel)]; exact ⟨rfl, rfl⟩))
    (fun os started H enc _ => lifted os started H enc)

/-- ████ THE STATEMENT ████ -/
theorem proved : Rows.FnValueReadsEncodedValueSaid := over
end Go.Proofs.Qxb6600131a.fnValueReadsEncodedValue
