/-
  A proof of 'Rows.FnNodeNextWalksObjectMembersSaid'. The frame (the theorems 'lifted', 'over', 'proved') is the given shell's of this seat's law over array nodes, turned by hand to this function's number and types. The walk is filled in.
-/
import Derived.Test.Qxb6601304aRows
import Derived.WalkKit
import Derived.ProofKit
import Derived.OpenShut
import Derived.ShutString
import Derived.ChangeOld
import Derived.Below
import Derived.Test.Qxb6601304aKeys
import Derived.Test.Qxb6601304aMade
import Derived.Deep.Matrix
namespace Go.Proofs.Qxb6601304a.fnNodeNextWalksObjectMembers
open Go.ChangeShapes Go.WideShapes Go.ChangeAt Go.RowKit
open Go.ChangeMaps (open_string shut_string)
set_option linter.unusedVariables false

theorem own : ownKnob Try.prog.godebug = none := by kernel_rfl
theorem laidOut : laidOutB Try.prog = true := by kernel_rfl

theorem keys_of {W : World} {x : Addr} {len cap : Nat} {A : Nat → Option Addr} {L C : Nat → Nat} {Z : Nat → List Int} {base : Nat} (hl : len ≤ cap)
    (hrow : ∀ r, r < cap → W.cell? (x.add r) = some (.slice (A r) (L r) (C r)) ∧ L r ≤ C r ∧ C r ≤ maxLen ∧ (Z r).length = C r ∧ (∀ n ∈ Z r, (Lit.int .u8 n).wf = true) ∧ (A r = none → C r = 0) ∧
        ∀ a', A r = some a' → base ≤ a'.block ∧ ∀ c, c < C r → W.cell? (a'.add c) = some (.int .u8 ((Z r).getD c 0))) :
    Keys W (some x) len cap A L C (fun r => (Z r).take (L r)) := by
  refine ⟨by simp, ?_, ?_⟩
  · by_cases h0 : len = 0
    · exact .inl h0
    · obtain ⟨b, off, spot⟩ := x
      have hs : spot = none := by simpa [Addr.add] using World.cell?_spot (hrow 0 (by omega)).1
      subst hs
      refine .inr ⟨b, off, rfl, ?_, ?_⟩
      · exact World.block_lt_of_cell? _ _ (hrow 0 (by omega)).1
      · intro r hr
        have := (hrow r (by omega)).1
        rw [Addr.add_lit] at this
        exact this
  · intro r hr
    obtain ⟨_, h1, _, h3, _, h5, h6⟩ := hrow r (by omega)
    refine ⟨by simp; omega, fun e => by have := h5 e; omega, h1, ?_⟩
    by_cases h0 : L r = 0
    · exact .inl h0
    · cases ha : A r with
      | none => have := h5 ha; omega
      | some a' =>
        obtain ⟨b, off, spot⟩ := a'
        have hc := (h6 _ ha).2
        have hs : spot = none := by simpa [Addr.add] using World.cell?_spot (hc 0 (by omega))
        subst hs
        refine .inr ⟨b, off, rfl, World.block_lt_of_cell? _ _ (hc 0 (by omega)), ?_⟩
        intro i hi
        have := hc i (by omega)
        rw [Addr.add_lit] at this
        rw [this]
        simp [List.getD, hi]

theorem info51 : ∃ j, Try.prog.info? 51 = some j := by
  obtain ⟨i, h, _⟩ := info_parts (P := Try.prog) (e := 51) (z := .agg #[.slice none 0 0, .pointer none, .pointer none, .pointer none]) (size := 4) (bytes := 48) (by kernel_rfl)
  exact ⟨i, h⟩

/-- A key's cell in a later world. -/
theorem kt_cell {w w' : World} {b off n : Nat} {A : Nat → Option Addr} {N C : Nat → Nat} (h : ∀ r, r < n → w.cell? ⟨b, off + r, none⟩ = some (.slice (A r) (N r) (C r))) (hb : Below w.heap.size w w') (hlt : b < w.heap.size) {k : Nat} (hk : k < n) :
    w'.cell? ⟨b, off + k, none⟩ = some (.slice (A k) (N k) (C k)) := (hb.cell (p := ⟨b, off + k, none⟩) hlt).trans (h k hk)

set_option maxRecDepth 100000 in
set_option maxHeartbeats 8000000 in
theorem walk (a0 : Option Addr) (len0 cap0 : Nat) (A : Nat → Option Addr) (N C : Nat → Nat) (Z : Nat → List Int) (a1 : Int) (a2 : Int) (w : World) (w0 : Keys w a0 len0 cap0 A N C Z) (hmax : len0 ≤ 9223372036854775807) (w1 : (Lit.int .i64 a1).wf = true) (w2 : (Lit.int .i64 a2).wf = true) :
    Calls Try.prog 6 #[.slice a0 len0 cap0, .int .i64 a1, .int .i64 a2] w fun e w' => e = .returned (.bool true) ∧ Below w.heap.size w w' := by
  obtain ⟨j51, hinfo51⟩ := info51
  have HK : Hid (Keys w a0 len0 cap0 A N C Z) := w0
  clear w0
  by_cases hbig : 24 * len0 ≤ 1048576
  · have hdl : decide ((65536 : Int) < (len0 : Int)) = false := by simp; omega
    have hdl2 : decide ((1048576 : Int) < 24 * (len0 : Int)) = false := by simp; omega
    have hlen : len0 ≤ 65536 := by omega
    go_enter Try.func6, Try.ntmps6
    go_wp2_with fail
    refine (keysBytes_any _ _ _ _ _ _ A N C Z HK.out hmax).mono ?_
    rintro e w' hsaid
    obtain ⟨b, rfl, hN, rfl⟩ := hsaid
    cases b with
    | false =>
      clear hN
      go_wp2_with fail
      go_ret
      exact ⟨rfl, Below.refl _ _⟩
    | true =>
      have HN : Hid (∀ r, r < len0 → N r ≤ 1048576) := hN rfl
      clear hN
      go_wp2_with fail
      go_loop [7, 8] (fun tv cv => ∃ k : Nat, ∃ t : Int, cv = .int .i64 k ∧ tv = .int .i64 t ∧ k ≤ len0 ∧ 0 ≤ t ∧ t ≤ 1048576) (fun _ cv => len0 - (intOf cv).toNat)
      case atStart => exact ⟨0, _, rfl, rfl, by omega, by omega, by omega⟩
      case round =>
        obtain ⟨k, t, rfl, rfl, hk, ht0, ht1⟩ := hrel
        by_cases hlt : k < len0
        · obtain ⟨b, off, ha, hbB, hcell⟩ := HK.out.lie.resolve_left (by omega)
          subst ha
          have hc := hcell k hlt
          have hNk := HN.out k hlt
          clear hcell
          by_cases hs : t + (N k : Int) ≤ 1048576
          · go_wp2_with fail
            go_round
            case rel => exact ⟨k + 1, t + (N k : Int), by go_num, rfl, by omega, by omega, by omega⟩
            case measure => simp [intOf]; omega
          · go_wp2_with fail
            go_ret
            exact ⟨rfl, Below.refl _ _⟩
        · clear ht0 ht1
          by_cases hr : 0 ≤ a1 ∧ a1 ≤ (len0 : Int)
          · obtain ⟨hr0, hr1⟩ := hr
            obtain ⟨i0, rfl⟩ := Int.eq_ofNat_of_zero_le hr0
            have hi0 : i0 ≤ len0 := by omega
            have hdi : decide ((i0 : Int) < 0) = false := by simp
            have hdi2 : decide ((len0 : Int) < (i0 : Int)) = false := by simp; omega
            go_wp2_with fail
            refine (cloneKeys_any _ _ _ _ A N C Z HK.out hlen HN.out).mono ?_
            rintro e x1 ⟨a', c', A', C', rfl, hKT, hb1⟩
            go_wp2_with fail
            refine (objectNode_any _ _ _ _ A' N C' hKT hlen).mono ?_
            rintro e x2 ⟨p, po, gm, rfl, hO, hgm, hb2⟩
            have hbel : Below w.heap.size w x2 := hb1.trans (hb2.mono hb1.size)
            have HO : Hid (Obj x2 p po gm len0 A' N C') := hO
            have HKT : Hid (KT x1 a' len0 A' N C') := hKT
            clear hKT hO hb1
            have q22 : ∀ (w : World) (a : Option Addr) (n c n' c' : Nat), (binOp .eql 22 (.slice a n c) (.slice none n' c')).run Try.prog w = .ok (.bool a.isNone) w := fun w a n c n' c' => Lib.run_eql_slice_nil w _ _ a n c n' c' Try.underlying22
            have q22n : ∀ (w : World) (a : Option Addr) (n c n' c' : Nat), (binOp .neq 22 (.slice a n c) (.slice none n' c')).run Try.prog w = .ok (.bool !a.isNone) w := fun w a n c n' c' => run_neq_slice_nil_any w _ _ a n c n' c' Try.underlying22
            have q33 : ∀ (w : World) (a : Addr), (binOp .neq 33 (.pointer (some a)) (.pointer (some a))).run Try.prog w = .ok (.bool false) w := fun w a => Lib.run_neq_ptr_same w a Try.underlying33 hinfo51
            have haa : (a2 != a2) = false := by simp
            go_wp2_with fail
            go_loopw [10, 11, 12] (fun iv jv cv wr => ∃ i k : Nat, iv = .int .i64 i ∧ jv = .int .i64 a2 ∧ cv = .int .i64 k ∧ i0 ≤ k ∧ k ≤ len0 ∧ i ≤ len0 ∧ Hid (posO A' len0 i = posO A' len0 k) ∧ Below x2.heap.size x2 wr) (fun _ _ cv _ => len0 - (intOf cv).toNat)
            case atStart => exact ⟨i0, i0, rfl, rfl, rfl, Nat.le_refl _, hi0, hi0, rfl, Below.refl _ _⟩
            case round =>
              obtain ⟨i, k, rfl, rfl, rfl, hc0, hcn, hin0, HP, hbr⟩ := hrel
              by_cases hlt2 : k < len0
              · obtain ⟨b2, off2, ha2, hbB2, hcell2⟩ := HKT.out.lie.resolve_left (by omega)
                have HC2 : Hid (∀ r, r < len0 → x1.cell? ⟨b2, off2 + r, none⟩ = some (.slice (A' r) (N r) (C' r))) := hcell2
                subst ha2
                clear hcell2
                have hb12 : Below x1.heap.size x1 wr := hb2.trans (hbr.mono hb2.size)
                have hck := kt_cell HC2.out hb12 hbB2 hlt2
                have hNk := HN.out k hlt2
                obtain ⟨ak, hak⟩ : ∃ v, v = A' k := ⟨_, rfl⟩
                rw [← hak] at hck
                cases ak with
                | none =>
                  have HPN : Hid (posO A' len0 i = posO A' len0 (k + 1)) := HP.out.trans (posO_hole hlt2 hak.symm)
                  clear hak
                  go_wp2_with fail
                  go_roundw
                  case rel => exact ⟨i, k + 1, rfl, rfl, by go_num, by omega, by omega, hin0, HPN, hbr⟩
                  case measure => simp [intOf]; omega
                | some x =>
                  obtain ⟨g, hxg⟩ := HKT.out.sh k hlt2 x hak.symm
                  subst hxg
                  have HAK : Hid (A' k = some ⟨g, 0, none⟩) := hak.symm
                  have HPP : Hid (posO A' len0 i = k) := HP.out.trans (posO_key hlt2 hak.symm)
                  have HOr : Hid (Obj wr p po gm len0 A' N C') := HO.out.below hbr HO.out.lt.1 HO.out.lt.2 hgm
                  have hgmr : gm < wr.heap.size := Nat.lt_of_lt_of_le hgm hbr.size
                  clear hak HP
                  go_wp2_with fail
                  refine (zznext_obj_ok _ p po gm len0 i k a2 _ A' N C' HOr.out hgmr (by omega) hin0 HPP.out hlt2 HAK.out).mono ?_
                  rintro e x5 ⟨rfl, hb5⟩
                  have hbr5 := hbr.trans (hb5.mono hbr.size)
                  have hck5 : x5.cell? ⟨b2, off2 + k, none⟩ = some (.slice (some ⟨g, 0, none⟩) (N k) (C' k)) := by
                    have := kt_cell HC2.out (hb12.trans (hb5.mono hb12.size)) hbB2 hlt2
                    rw [HAK.out] at this
                    exact this
                  clear hb5 hck HOr
                  go_wp2_with (go_at_call 20; refine (same_any _ g 0 _ _ (by omega)).mono ?_; rintro e x6 ⟨rfl, hb6⟩; have hbr6 := hbr5.trans (hb6.mono hbr5.size); have HO6 : Hid (Obj x6 p po gm len0 A' N C') := HO.out.below hbr6 HO.out.lt.1 HO.out.lt.2 hgm)
                  go_wp2_with (go_at_call 21; refine (member_any _ p po gm len0 k A' N C' HO6.out hlt2 (by omega)).mono ?_; rintro e w' ⟨rfl, rfl⟩)
                  go_roundw
                  case rel => exact ⟨k + 1, k + 1, by go_num, rfl, by go_num, by omega, by omega, by omega, rfl, hbr6⟩
                  case measure => simp [intOf]; omega
              · have hke : k = len0 := by omega
                have HPE : Hid (posO A' len0 i = len0) := by
                  have h1 := HP.out
                  rw [hke, posO_end] at h1
                  exact h1
                clear HP hke
                go_wp2_with fail
                go_loopw [10, 11, 18] (fun iv jv tv wq => ∃ i t : Nat, iv = .int .i64 i ∧ jv = .int .i64 a2 ∧ tv = .int .i64 t ∧ t ≤ 2 ∧ i ≤ len0 ∧ Hid (posO A' len0 i = len0) ∧ Below x2.heap.size x2 wq) (fun _ _ tv _ => 2 - (intOf tv).toNat)
                case atStart => exact ⟨i, 0, rfl, rfl, rfl, by omega, hin0, HPE, hbr⟩
                case round =>
                  clear HPE hbr hin0
                  obtain ⟨i, t, rfl, rfl, rfl, ht2, hin0, HPE, hbr⟩ := hrel
                  by_cases htl : t < 2
                  · have HOr : Hid (Obj wr p po gm len0 A' N C') := HO.out.below hbr HO.out.lt.1 HO.out.lt.2 hgm
                    have hgmr : gm < wr.heap.size := Nat.lt_of_lt_of_le hgm hbr.size
                    go_wp2_with fail
                    refine (zznext_obj_end _ p po gm len0 i a2 A' N C' HOr.out hgmr (by omega) hin0 HPE.out).mono ?_
                    rintro e x5 ⟨rfl, hb5⟩
                    have hbr5 := hbr.trans (hb5.mono hbr.size)
                    clear hb5
                    have hnn : ((len0 : Int) != (len0 : Int)) = false := by simp
                    go_wp2_with fail
                    go_roundw
                    case rel => exact ⟨len0, t + 1, rfl, rfl, by go_num, by omega, Nat.le_refl _, posO_end _ _, hbr5⟩
                    case measure => simp [intOf]; omega
                  · go_wp2_with fail
                    go_ret
                    exact ⟨rfl, hbel.trans (hbr.mono hbel.size)⟩
          · rcases (show a1 < 0 ∨ (0 ≤ a1 ∧ (len0 : Int) < a1) from by omega) with h | ⟨h, h'⟩
            all_goals
              clear hr
              go_wp2_with fail
              go_ret
              exact ⟨rfl, Below.refl _ _⟩
  · go_enter Try.func6, Try.ntmps6
    go_wp2_with fail
    refine (keysBytes_any _ _ _ _ _ _ A N C Z HK.out hmax).mono ?_
    rintro e w' hsaid
    obtain ⟨b, rfl, hN, rfl⟩ := hsaid
    clear hN
    cases b with
    | false =>
      go_wp2_with fail
      go_ret
      exact ⟨rfl, Below.refl _ _⟩
    | true =>
      rcases (show 65536 < len0 ∨ (len0 ≤ 65536 ∧ 1048576 < 24 * len0) from by omega) with h | ⟨h, h'⟩
      all_goals
        clear hbig
        go_wp2_with fail
        go_ret
        exact ⟨rfl, Below.refl _ _⟩

/-! ### THE ROW's STEP: WRITTEN OUT: LEAVE IT -/
set_option maxRecDepth 100000 in
theorem lifted (os : Os) (started : os.Started) (H : Type) (enc : TypeId × Value → H) :
    ReturnsInHanded {} Try.checked os 6 .any (Rows.fnNodeNextWalksObjectMembersSpec.pre6 enc Try.prog Try.f6 Rows.fnNodeNextWalksObjectMembersRow.domain false) (Rows.fnNodeNextWalksObjectMembersSpec.post enc Try.prog Try.f6 false true false false) := by
  refine returnsInHanded_of_change (C := Try.checked) own started (by kernel_rfl) Try.func6
    (ChangeSpec.witness6 (enc := enc) (C := Try.checked) false ⟨#[], #[.slice none 0 0, .int .i64 0, .int .i64 0], []⟩ 8 (by kernel_rfl) (by kernel_rfl) (by kernel_rfl) (by kernel_rfl)) ?_
  intro W base args ds gs before hval0 hW hcnd _
  have hval : ∀ (j : Nat) t v, Try.f6.params[j]? = some t → args[j]? = some v → Value.okWide Try.prog W .any base t v := hval0
  have hW' := hW
  obtain ⟨p, q, hA0, hV, rfl, hfz, hnd⟩ := hW
  have hA : DataW.TrodAll enc Try.prog W 0 (fun _ => true) true Try.f6.params.toList args.toList ds p := hA0
  rw [Try.params6] at hA hval
  obtain ⟨v0, vs0, d0, ds0, p0, q0, hargs, rfl, rfl, h0, r0⟩ := trodAll_cons hA
  obtain ⟨v1, vs1, d1, ds1, p1, q1, rfl, rfl, rfl, h1, r1⟩ := trodAll_cons r0
  obtain ⟨v2, vs2, d2, ds2, p2, q2, rfl, rfl, rfl, h2, r2⟩ := trodAll_cons r1
  obtain ⟨rfl, rfl, rfl⟩ := trodAll_nil r2
  obtain rfl : args = #[v0, v1, v2] := by cases args; simp_all
  obtain ⟨rfl, rfl⟩ := trodVars_none hV
  obtain ⟨a0, len0, cap0, rfl⟩ := okWide_slice Try.underlying30 (hval 0 30 v0 rfl rfl)
  have k0 := h0
  have lt0 : ∀ x ∈ p0, x.block < W.heap.size := by obtain ⟨m, hm⟩ := k0; exact DataW.trod_lt m _ _ _ hm
  obtain ⟨A, N, C, Z, w0, hmax⟩ : ∃ A N C Z, Keys W a0 len0 cap0 A N C Z ∧ len0 ≤ 9223372036854775807 := by
    obtain ⟨fuel, hf⟩ := h0
    rcases Deep.open_int_rows Try.underlying30 Try.underlying22 Try.underlying5 (by kernel_rfl) (by kernel_rfl) hf with ⟨hcs, _⟩ | ⟨x, l, c, A, L, C, Z, hcs, _, hl, hm, _, hrow⟩
    · simp [Value.cells] at hcs
      obtain ⟨rfl, rfl, rfl⟩ := hcs
      exact ⟨fun _ => none, fun _ => 0, fun _ => 0, fun _ => [], ⟨fun _ => ⟨rfl, rfl⟩, .inl rfl, fun r hr => by omega⟩, by omega⟩
    · simp [Value.cells] at hcs
      obtain ⟨rfl, rfl, rfl⟩ := hcs
      exact ⟨A, L, C, fun r => (Z r).take (L r), keys_of hl hrow, by unfold maxLen at hm; omega⟩
  obtain ⟨a1, rfl, rfl, rfl, w1⟩ := open_int Try.underlying3 (hval 1 3 v1 rfl rfl) h1
  obtain ⟨a2, rfl, rfl, rfl, w2⟩ := open_int Try.underlying3 (hval 2 3 v2 rfl rfl) h2
  clear hA0 hval0
  refine (walk a0 len0 cap0 A N C Z a1 a2 W w0 hmax w1 w2).mono fun e W' ⟨he, bel⟩ => ?_
  subst he
  exact ⟨_, rfl, _, _, _, [], _, [], hW', trodAll_mk1 (shut_bool Try.underlying4 _), (trodAll_cons_mk (Below.trod laidOut (by kernel_rfl) (of_decide_eq_true (by kernel_rfl)) k0 bel lt0) (trodAll_cons_mk (shut_int Try.underlying3 w1) (trodAll_cons_mk (shut_int Try.underlying3 w2) trodAll_mk0))), rfl, bel.frame _, fun h => by cases h⟩

theorem over : Rows.fnNodeNextWalksObjectMembersRow.holds Try.pinned (OpenSpec.ofChange Rows.fnNodeNextWalksObjectMembersSpec) :=
  OpenClaim.holds_of_wide 6 Try.f6 rfl rfl rfl rfl rfl rfl rfl ⟨rfl, rfl, rfl, rfl, rfl⟩ rfl rfl rfl rfl rfl (by kernel_rfl) Try.func6 (Made.joined (by kernel_rfl) (by kernel_rfl) rfl rfl)
    (of_decide_eq_true (by kernel_rfl)) (by unfold Func.isWrapper; first | (rw [if_pos (by decide +kernel)]; kernel_rfl) | (rw [if_neg (by decide +kernel)]; exact ⟨rfl, rfl⟩))
    (fun os started H enc _ => lifted os started H enc)

/-- ████ THE STATEMENT ████ -/
theorem proved : Rows.FnNodeNextWalksObjectMembersSaid := over
end Go.Proofs.Qxb6601304a.fnNodeNextWalksObjectMembers
