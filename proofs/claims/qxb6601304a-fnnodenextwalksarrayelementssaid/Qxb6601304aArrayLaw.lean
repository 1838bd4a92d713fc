/-
  A proof of 'Rows.FnNodeNextWalksArrayElementsSaid'. The frame (the theorems 'lifted', 'over', 'proved') is the given shell's own, but for one argument of 'over'. The walk is filled in.
-/
import Derived.Test.Qxb6601304aRows
import Derived.WalkKit
import Derived.ProofKit
import Derived.OpenShut
import Derived.ShutString
import Derived.ChangeOld
import Derived.Below
import Derived.Test.Qxb6601304aArray
import Derived.Test.Qxb6601304aMade
import Derived.Lib.Builder
import Derived.Deep.CutRange
namespace Go.Proofs.Qxb6601304a.fnNodeNextWalksArrayElements
open Go.ChangeShapes Go.WideShapes Go.ChangeAt Go.RowKit
open Go.ChangeMaps (open_string shut_string)
set_option linter.unusedVariables false

theorem own : ownKnob Try.prog.godebug = none := by kernel_rfl
theorem laidOut : laidOutB Try.prog = true := by kernel_rfl

theorem bytes_any (w : World) (a0 : Option Addr) (l0 c0 : Nat) (x y : Int) :
    Calls Try.prog 22 #[.slice a0 l0 c0, .int .i64 x, .int .i64 y] w fun e w' => ∃ b, e = .returned (.bool b) ∧ w = w' := by
  go_enter Try.func22, Try.ntmps22
  go_wp2
  all_goals
    go_ret
    exact ⟨_, rfl, rfl⟩

/-- What the lengths are once they have been looked at. -/
def Good (zs : List Int) (k : Nat) : Prop := ∀ i, i < k → 0 ≤ zs.getD i 0 ∧ zs.getD i 0 ≤ 65536
theorem Good.next {zs : List Int} {k : Nat} (h : Good zs k) (h0 : 0 ≤ zs.getD k 0) (h1 : zs.getD k 0 ≤ 65536) : Good zs (k + 1) := by
  intro i hi
  by_cases e : i = k
  · subst e; exact ⟨h0, h1⟩
  · exact h i (by omega)

theorem rd_below {k : IntKind} {w w' : World} {a : Option Addr} {n c : Nat} {zs : List Int} (h : Rd k w.heap.size w a n c zs) (hb : Below w.heap.size w w') : Rd k w'.heap.size w' a n c zs := by
  refine ⟨h.len, h.none, h.cap, ?_⟩
  rcases h.lie with h0 | ⟨b, off, ha, hlt, hc⟩
  · exact .inl h0
  · exact .inr ⟨b, off, ha, Nat.lt_of_lt_of_le hlt hb.size, fun i hi => (hb.cell (p := ⟨b, off + i, none⟩) hlt).trans (hc i hi)⟩

theorem len_bound {zs : List Int} {n : Nat} {L : Nat → Nat} (hl : zs.length = n) (hg : Good zs n) (hL : L = fun i => (zs.getD i 0).toNat) : ∀ c, L c ≤ 1000000 := by
  intro c
  rw [hL]
  dsimp only
  by_cases h : c < n
  · have := hg c h; omega
  · rw [List.getD_eq_getElem?_getD, List.getElem?_eq_none (by omega)]; simp

theorem arr_below {w w' : World} {p pa gc m B : Nat} {G L : Nat → Nat} (h : Arr w p pa gc m G L) (hb : Below B w w') (h1 : p < B) (h2 : pa < B) (h3 : gc < B) : Arr w' p pa gc m G L :=
  ⟨(hb.cell (p := ⟨p, 2, none⟩) h1).trans h.obj, (hb.cell (p := ⟨p, 3, none⟩) h1).trans h.arr, (hb.cell (p := ⟨pa, 0, none⟩) h2).trans h.tab, fun c hc => (hb.cell (p := ⟨gc, c, none⟩) h3).trans (h.chunk c hc)⟩

theorem info51 : ∃ j, Try.prog.info? 51 = some j := by
  obtain ⟨i, h, _⟩ := info_parts Try.info51
  exact ⟨i, h⟩

set_option maxRecDepth 100000 in
set_option maxHeartbeats 8000000 in
theorem walk (a0 : Option Addr) (len0 cap0 : Nat) (z0 : List Int) (a1 : Int) (a2 : Int) (w : World) (w0 : IsRow .i64 w a0 len0 cap0 z0) (w1 : (Lit.int .i64 a1).wf = true) (w2 : (Lit.int .i64 a2).wf = true) :
    Calls Try.prog 7 #[.slice a0 len0 cap0, .int .i64 a1, .int .i64 a2] w fun e w' => e = .returned (.bool true) ∧ Below w.heap.size w w' := by
  obtain ⟨j51, hinfo51⟩ := info51
  have r0 := w0.rd
  clear w0
  generalize z0.take len0 = y0 at r0
  clear z0
  by_cases hbig : len0 ≤ 65536
  · have HR : Hid (Rd .i64 w.heap.size w a0 len0 cap0 y0) := r0
    clear r0
    have hdl : decide ((65536 : Int) < (len0 : Int)) = false := by simp; omega
    go_enter Try.func7, Try.ntmps7
    go_wp2_with fail
    refine (bytes_any _ _ _ _ _ _).mono ?_
    rintro e w' ⟨b, rfl, rfl⟩
    cases b with
    | false =>
      go_wp2_with fail
      go_ret
      exact ⟨rfl, Below.refl _ _⟩
    | true =>
      go_wp2_with fail
      go_loop [7, 8] (fun tv cv => ∃ k : Nat, ∃ t : Int, cv = .int .i64 k ∧ tv = .int .i64 t ∧ k ≤ len0 ∧ 0 ≤ t ∧ t ≤ 65536 ∧ Hid (Good y0 k)) (fun _ cv => len0 - (intOf cv).toNat)
      case atStart => exact ⟨0, 0, rfl, rfl, by omega, by omega, by omega, by intro i hi; omega⟩
      case round =>
        obtain ⟨k, t, rfl, rfl, hk, ht0, ht1, HG⟩ := hrel
        by_cases hlt : k < len0
        · obtain ⟨b, off, ha, hbB, hcell⟩ := HR.out.lie.resolve_left (by omega)
          subst ha
          obtain ⟨z, hz⟩ : ∃ z, z = y0.getD k 0 := ⟨_, rfl⟩
          have hc := hcell k hlt
          rw [← hz] at hc
          have HZ : Hid (z = y0.getD k 0) := hz
          clear hz hcell
          by_cases hz0 : z < 0
          · go_wp2_with fail
            go_ret
            exact ⟨rfl, Below.refl _ _⟩
          · by_cases hz1 : z ≤ 65536
            · have HG2 : Hid (Good y0 (k + 1)) := HG.out.next (by rw [← HZ.out]; omega) (by rw [← HZ.out]; omega)
              have hz0' : 0 ≤ z := by omega
              by_cases hs : t + z ≤ 65536
              · go_wp2_with fail
                go_round
                case rel => exact ⟨k + 1, t + z, by go_num, rfl, by omega, by omega, by omega, HG2⟩
                case measure => simp [intOf]; omega
              · go_wp2_with fail
                go_ret
                exact ⟨rfl, Below.refl _ _⟩
            · have hz0' : 0 ≤ z := by omega
              go_wp2_with fail
              go_ret
              exact ⟨rfl, Below.refl _ _⟩
        · have hke : k = len0 := by omega
          have HG0 : Hid (Good y0 len0) := by rw [← hke]; exact HG
          clear HG hke ht0 ht1
          by_cases hr : 0 ≤ a1 ∧ a1 ≤ (len0 : Int)
          · obtain ⟨hr0, hr1⟩ := hr
            obtain ⟨i0, rfl⟩ := Int.eq_ofNat_of_zero_le hr0
            have hi0 : i0 ≤ len0 := by omega
            have hdi : decide ((i0 : Int) < 0) = false := by simp
            have hdi2 : decide ((len0 : Int) < (i0 : Int)) = false := by simp; omega
            by_cases hin : i0 < len0 → 0 ≤ a2 ∧ a2 ≤ y0.getD i0 0
            · have HIN : Hid (i0 < len0 → 0 ≤ a2 ∧ a2 ≤ y0.getD i0 0) := hin
              clear hin
              go_upto_region 16 with fail
              go_cut [83] from 60 (fun s83 wx => s83 = .bool false ∧ w = wx)
              case first =>
                by_cases hil : i0 < len0
                · obtain ⟨b, off, ha, hbB, hcell⟩ := HR.out.lie.resolve_left (by omega)
                  subst ha
                  obtain ⟨z, hz⟩ : ∃ z, z = y0.getD i0 0 := ⟨_, rfl⟩
                  have hc := hcell i0 hil
                  rw [← hz] at hc
                  have hb := HIN.out hil
                  rw [← hz] at hb
                  obtain ⟨hb0, hb1'⟩ := hb
                  have hda : decide (a2 < 0) = false := by simp; omega
                  have hda2 : decide (z < a2) = false := by simp; omega
                  clear hcell hz
                  go_wp2_with fail
                  go_meet
                  exact ⟨rfl, rfl⟩
                · go_wp2_with fail
                  go_meet
                  exact ⟨rfl, rfl⟩
              case rest =>
                obtain ⟨rfl, rfl⟩ := hcut
                go_wp2_with fail
                refine (cloneInts_any _ w.heap.size _ _ _ _ HR.out (Nat.le_refl _) (by omega)).mono ?_
                rintro e x1 ⟨a', c', rfl, hR1, hb1⟩
                go_wp2_with fail
                refine (arrayNode_any _ x1.heap.size _ _ _ _ hR1 (Nat.le_refl _) hbig HG0.out).mono ?_
                rintro e x2 ⟨p, pa, gc, G, rfl, hA, hgc, hb2⟩
                have HR2 : Hid (Rd .i64 x2.heap.size x2 a' len0 c' y0) := rd_below hR1 hb2
                have hbel : Below w.heap.size w x2 := hb1.trans (hb2.mono hb1.size)
                obtain ⟨L, hL⟩ : ∃ L : Nat → Nat, L = fun i => (y0.getD i 0).toNat := ⟨_, rfl⟩
                rw [← hL] at hA
                have HA : Hid (Arr x2 p pa gc len0 G L) := hA
                have HLZ : Hid (∀ i, i < len0 → y0.getD i 0 = (L i : Int)) := by
                  intro i hi; have := HG0.out i hi; rw [hL]; dsimp only; omega
                have HLB : Hid (∀ c, L c ≤ 1000000) := len_bound HR.out.len HG0.out hL
                have HJ0 : Hid (i0 < len0 → 0 ≤ a2 ∧ a2 ≤ (L i0 : Int)) := by
                  intro h; have h1 := HIN.out h; have h2 := HLZ.out i0 h; omega
                clear hR1 hb1 hb2 hA hL HG0 HR HIN
                have q22 : ∀ (w : World) (a : Option Addr) (n c n' c' : Nat), (binOp .neq 22 (.slice a n c) (.slice none n' c')).run Try.prog w = .ok (.bool !a.isNone) w := fun w a n c n' c' => run_neq_slice_nil_any w _ _ a n c n' c' Try.underlying22
                have q33 : ∀ (w : World) (a : Addr), (binOp .neq 33 (.pointer (some a)) (.pointer (some a))).run Try.prog w = .ok (.bool false) w := fun w a => Lib.run_neq_ptr_same w a Try.underlying33 hinfo51
                go_wp2_with fail
                go_loopw [10, 11, 12] (fun iv jv cv wr => ∃ i c : Nat, ∃ j : Int, iv = .int .i64 i ∧ jv = .int .i64 j ∧ cv = .int .i64 c ∧ i0 ≤ c ∧ c ≤ len0 ∧ i ≤ len0 ∧ Hid (i < len0 → 0 ≤ j ∧ j ≤ (L i : Int)) ∧ Hid (pos L len0 i j = pos L len0 c (if c = i0 then a2 else 0)) ∧ Below x2.heap.size x2 wr) (fun _ _ cv _ => len0 - (intOf cv).toNat)
                case atStart => exact ⟨i0, i0, a2, rfl, rfl, rfl, Nat.le_refl _, hi0, hi0, HJ0, by unfold Hid; rw [if_pos rfl], Below.refl _ _⟩
                case round =>
                  obtain ⟨i, c, j, rfl, rfl, rfl, hc0, hcn, hin0, HJ, HP, hbr⟩ := hrel
                  by_cases hlt2 : c < len0
                  · obtain ⟨b2, off2, ha2, hbB2, hcell2⟩ := HR2.out.lie.resolve_left (by omega)
                    have HC2 : Hid (∀ i, i < len0 → x2.cell? ⟨b2, off2 + i, none⟩ = some (.int .i64 (y0.getD i 0))) := hcell2
                    subst ha2
                    clear hcell2
                    obtain ⟨s, hs, hsL, HPs⟩ : ∃ s : Nat, (if c = i0 then a2 else 0) = (s : Int) ∧ s ≤ L c ∧ Hid (pos L len0 i j = pos L len0 c (s : Int)) := by
                      by_cases h : c = i0
                      · have h1 := HJ0.out (by omega)
                        subst h
                        refine ⟨a2.toNat, by rw [if_pos rfl]; omega, by omega, ?_⟩
                        have := HP.out
                        rw [if_pos rfl] at this
                        rw [show ((a2.toNat : Nat) : Int) = a2 from by omega]
                        exact this
                      · refine ⟨0, by rw [if_neg h]; rfl, by omega, ?_⟩
                        have := HP.out
                        rw [if_neg h] at this
                        exact this
                    have hLc := HLB.out c
                    have hslot : (c = i0 ∧ a2 = (s : Int)) ∨ (¬ c = i0 ∧ s = 0) := by
                      by_cases h : c = i0
                      · rw [if_pos h] at hs; exact .inl ⟨h, hs⟩
                      · rw [if_neg h] at hs; exact .inr ⟨h, by omega⟩
                    clear hs HP
                    go_upto_if 99 with fail
                    go_cut [13] from 91 to 145 (fun s13 wx => s13 = .int .i64 (s : Int) ∧ wr = wx)
                    case first =>
                      rcases hslot with ⟨he1, he2⟩ | ⟨he1, he2⟩
                      · have hce : ((c : Int) == (i0 : Int)) = true := by simp; omega
                        have HE2 : Hid (a2 = (s : Int)) := he2
                        clear he1 he2
                        go_wp2_with fail
                        go_meet
                        exact ⟨by rw [HE2.out], rfl⟩
                      · have hce : ((c : Int) == (i0 : Int)) = false := by simp; omega
                        have HE2 : Hid (s = 0) := he2
                        clear he1 he2
                        go_wp2_with fail
                        go_meet
                        exact ⟨by rw [HE2.out]; rfl, rfl⟩
                    case rest =>
                      obtain ⟨rfl, rfl⟩ := hcut
                      clear hslot
                      go_wp2_with fail
                      go_loopw [10, 11, 13] (fun iv jv ev wq => ∃ i t : Nat, ∃ j : Int, iv = .int .i64 i ∧ jv = .int .i64 j ∧ ev = .int .i64 t ∧ t ≤ L c ∧ i ≤ len0 ∧ Hid (i < len0 → 0 ≤ j ∧ j ≤ (L i : Int)) ∧ Hid (pos L len0 i j = pos L len0 c (t : Int)) ∧ Below x2.heap.size x2 wq) (fun _ _ ev _ => L c - (intOf ev).toNat)
                      case atStart => exact ⟨i, _, j, rfl, rfl, rfl, hsL, hin0, HJ, HPs, hbr⟩
                      case round =>
                        clear HJ HPs hbr hin0
                        obtain ⟨i, t, j, rfl, rfl, rfl, htL, hin0, HJ, HPt, hbr⟩ := hrel
                        have hcz : wr.cell? ⟨b2, off2 + c, none⟩ = some (.int .i64 (L c : Int)) := by
                          rw [hbr.cell (p := ⟨b2, off2 + c, none⟩) hbB2, HC2.out c hlt2, HLZ.out c hlt2]
                        have hAr := arr_below HA.out hbr HA.out.lt.1 HA.out.lt.2 hgc
                        have HAr : Hid (Arr wr p pa gc len0 G L) := hAr
                        clear hAr
                        have hgcr : gc < wr.heap.size := Nat.lt_of_lt_of_le hgc hbr.size
                        by_cases htl : t < L c
                        · have hp : pos L len0 i j = (c, (t : Int)) := HPt.out.trans (pos_stay hlt2 (by omega))
                          have HPP : Hid (pos L len0 i j = (c, (t : Int))) := hp
                          clear hp
                          go_wp2_with fail
                          refine (zznext_arr_ok _ p pa gc len0 i c t j G L HAr.out hgcr (by omega) HLB.out hin0 HJ.out HPP.out hlt2 htl).mono ?_
                          rintro e x5 ⟨rfl, hb5⟩
                          have hbr5 := hbr.trans (hb5.mono hbr.size)
                          have HA5 : Hid (Arr x5 p pa gc len0 G L) := arr_below HA.out hbr5 HA.out.lt.1 HA.out.lt.2 hgc
                          clear hcz hb5
                          go_wp2_with (go_at_call 25; refine (elem_any _ p pa gc len0 c t G L HA5.out hlt2 htl (by omega) hLc).mono ?_; rintro e w' ⟨rfl, rfl⟩)
                          go_roundw
                          case rel => exact ⟨c, t + 1, (t : Int) + 1, rfl, rfl, by go_num, by omega, by omega, fun _ => ⟨by omega, by omega⟩, by unfold Hid; rw [show ((t + 1 : Nat) : Int) = (t : Int) + 1 from by omega], hbr5⟩
                          case measure => simp [intOf]; omega
                        · have hte : t = L c := by omega
                          have HPN : Hid (pos L len0 i j = pos L len0 (c + 1) (if c + 1 = i0 then a2 else 0)) := by
                            have h1 := HPt.out
                            rw [hte, pos_skip hlt2 rfl] at h1
                            unfold Hid
                            rw [h1, if_neg (by omega)]
                          clear hte
                          go_wp2_with fail
                          go_roundw
                          case rel => exact ⟨i, c + 1, j, rfl, rfl, by go_num, by omega, by omega, hin0, HJ, HPN, hbr⟩
                          case measure => simp [intOf]; omega
                  · have hce : c = len0 := by omega
                    obtain ⟨S, hS⟩ : ∃ S : Int, S = if len0 = i0 then a2 else 0 := ⟨_, rfl⟩
                    have HPE : Hid (pos L len0 i j = (len0, S)) := by
                      have h1 := HP.out
                      rw [hce, pos_end, ← hS] at h1
                      exact h1
                    have hslot : (len0 = i0 ∧ S = a2) ∨ (¬ len0 = i0 ∧ S = 0) := by
                      by_cases h : len0 = i0
                      · rw [if_pos h] at hS; exact .inl ⟨h, hS⟩
                      · rw [if_neg h] at hS; exact .inr ⟨h, hS⟩
                    clear hS HP hce
                    go_upto_if 149 with fail
                    go_cut [19] from 91 (fun s19 wx => s19 = .int .i64 S ∧ wr = wx)
                    case first =>
                      rcases hslot with ⟨he1, he2⟩ | ⟨he1, he2⟩
                      · have hce : ((i0 : Int) == (len0 : Int)) = true := by simp; omega
                        have HE2 : Hid (S = a2) := he2
                        clear he1 he2
                        go_wp2_with fail
                        go_meet
                        exact ⟨by rw [HE2.out], rfl⟩
                      · have hce : ((i0 : Int) == (len0 : Int)) = false := by simp; omega
                        have HE2 : Hid (S = 0) := he2
                        clear he1 he2
                        go_wp2_with fail
                        go_meet
                        exact ⟨by rw [HE2.out], rfl⟩
                    case rest =>
                      obtain ⟨rfl, rfl⟩ := hcut
                      clear hslot
                      go_wp2_with fail
                      go_loopw [10, 11, 20] (fun iv jv tv wq => ∃ i t : Nat, ∃ j : Int, iv = .int .i64 i ∧ jv = .int .i64 j ∧ tv = .int .i64 t ∧ t ≤ 2 ∧ i ≤ len0 ∧ Hid (i < len0 → 0 ≤ j ∧ j ≤ (L i : Int)) ∧ Hid (pos L len0 i j = (len0, S)) ∧ Below x2.heap.size x2 wq) (fun _ _ tv _ => 2 - (intOf tv).toNat)
                      case atStart => exact ⟨i, 0, j, rfl, rfl, rfl, by omega, hin0, HJ, HPE, hbr⟩
                      case round =>
                        clear HJ HPE hbr hin0
                        obtain ⟨i, t, j, rfl, rfl, rfl, ht2, hin0, HJ, HPE, hbr⟩ := hrel
                        by_cases htl : t < 2
                        · have HAr : Hid (Arr wr p pa gc len0 G L) := arr_below HA.out hbr HA.out.lt.1 HA.out.lt.2 hgc
                          have hgcr : gc < wr.heap.size := Nat.lt_of_lt_of_le hgc hbr.size
                          go_wp2_with fail
                          refine (zznext_arr_end _ p pa gc len0 i j S G L HAr.out hgcr (by omega) HLB.out hin0 HJ.out HPE.out).mono ?_
                          rintro e x5 ⟨rfl, hb5⟩
                          have hbr5 := hbr.trans (hb5.mono hbr.size)
                          clear hb5
                          have hnn : ((len0 : Int) != (len0 : Int)) = false := by simp
                          have hss : (S != S) = false := by simp
                          go_wp2_with fail
                          go_roundw
                          case rel => exact ⟨len0, t + 1, S, rfl, rfl, by go_num, by omega, Nat.le_refl _, fun h => absurd h (Nat.lt_irrefl _), pos_end _ _ _, hbr5⟩
                          case measure => simp [intOf]; omega
                        · go_wp2_with fail
                          go_ret
                          exact ⟨rfl, hbel.trans (hbr.mono hbel.size)⟩
            · have hlt0 : i0 < len0 := by
                by_cases h : i0 < len0
                · exact h
                · exact absurd (fun h' => absurd h' h) hin
              obtain ⟨b, off, ha, hbB, hcell⟩ := HR.out.lie.resolve_left (by omega)
              subst ha
              obtain ⟨z, hz⟩ : ∃ z, z = y0.getD i0 0 := ⟨_, rfl⟩
              have hc := hcell i0 hlt0
              rw [← hz] at hc
              have hbad : a2 < 0 ∨ (0 ≤ a2 ∧ z < a2) := by
                by_cases h : a2 < 0
                · exact .inl h
                · refine .inr ⟨by omega, ?_⟩
                  rw [hz]
                  by_cases h' : a2 ≤ y0.getD i0 0
                  · exact absurd (fun _ => ⟨by omega, h'⟩) hin
                  · omega
              clear hin hz hcell
              rcases hbad with hb | ⟨hb, hb'⟩
              all_goals
                go_wp2_with fail
                go_ret
                exact ⟨rfl, Below.refl _ _⟩
          · rcases (show a1 < 0 ∨ (0 ≤ a1 ∧ (len0 : Int) < a1) from by omega) with h | ⟨h, h'⟩
            all_goals
              clear hr
              go_wp2_with fail
              go_ret
              exact ⟨rfl, Below.refl _ _⟩
  · go_enter Try.func7, Try.ntmps7
    go_wp2_with fail
    refine (bytes_any _ _ _ _ _ _).mono ?_
    rintro e w' ⟨b, rfl, rfl⟩
    cases b with
    | false =>
      go_wp2_with fail
      go_ret
      exact ⟨rfl, Below.refl _ _⟩
    | true =>
      have h : 65536 < len0 := by omega
      clear hbig
      go_wp2_with fail
      go_ret
      exact ⟨rfl, Below.refl _ _⟩

/-! ### THE ROW's STEP: WRITTEN OUT: LEAVE IT -/
set_option maxRecDepth 100000 in
theorem lifted (os : Os) (started : os.Started) (H : Type) (enc : TypeId × Value → H) :
    ReturnsInHanded {} Try.checked os 7 .any (Rows.fnNodeNextWalksArrayElementsSpec.pre6 enc Try.prog Try.f7 Rows.fnNodeNextWalksArrayElementsRow.domain false) (Rows.fnNodeNextWalksArrayElementsSpec.post enc Try.prog Try.f7 false true false false) := by
  refine returnsInHanded_of_change (C := Try.checked) own started (by kernel_rfl) Try.func7
    (ChangeSpec.witness6 (enc := enc) (C := Try.checked) false ⟨#[], #[.slice none 0 0, .int .i64 0, .int .i64 0], []⟩ 8 (by kernel_rfl) (by kernel_rfl) (by kernel_rfl) (by kernel_rfl)) ?_
  intro W base args ds gs before hval0 hW hcnd _
  have hval : ∀ (j : Nat) t v, Try.f7.params[j]? = some t → args[j]? = some v → Value.okWide Try.prog W .any base t v := hval0
  have hW' := hW
  obtain ⟨p, q, hA0, hV, rfl, hfz, hnd⟩ := hW
  have hA : DataW.TrodAll enc Try.prog W 0 (fun _ => true) true Try.f7.params.toList args.toList ds p := hA0
  rw [Try.params7] at hA hval
  obtain ⟨v0, vs0, d0, ds0, p0, q0, hargs, rfl, rfl, h0, r0⟩ := trodAll_cons hA
  obtain ⟨v1, vs1, d1, ds1, p1, q1, rfl, rfl, rfl, h1, r1⟩ := trodAll_cons r0
  obtain ⟨v2, vs2, d2, ds2, p2, q2, rfl, rfl, rfl, h2, r2⟩ := trodAll_cons r1
  obtain ⟨rfl, rfl, rfl⟩ := trodAll_nil r2
  obtain rfl : args = #[v0, v1, v2] := by cases args; simp_all
  obtain ⟨rfl, rfl⟩ := trodVars_none hV
  obtain ⟨a0, len0, cap0, rfl⟩ := okWide_slice Try.underlying39 (hval 0 39 v0 rfl rfl)
  have k0 := h0
  have lt0 : ∀ x ∈ p0, x.block < W.heap.size := by obtain ⟨m, hm⟩ := k0; exact DataW.trod_lt m _ _ _ hm
  obtain ⟨z0, w0⟩ : ∃ zs, IsRow .i64 W a0 len0 cap0 zs := by
    obtain ⟨fuel, hf⟩ := h0
    rcases open_ints Try.underlying39 Try.underlying3 (by kernel_rfl) hf with ⟨hcs, _⟩ | ⟨x, l, c, zs, hcs, _, hl, hm, hz, _, hcell, hwz⟩
    · simp [Value.cells] at hcs
      obtain ⟨rfl, rfl, rfl⟩ := hcs
      exact ⟨[], .inl ⟨rfl, rfl, rfl, rfl⟩⟩
    · simp [Value.cells] at hcs
      obtain ⟨rfl, rfl, rfl⟩ := hcs
      exact ⟨zs, .inr ⟨_, rfl, hl, hm, by simpa using hz, hcell, hwz⟩⟩
  obtain ⟨a1, rfl, rfl, rfl, w1⟩ := open_int Try.underlying3 (hval 1 3 v1 rfl rfl) h1
  obtain ⟨a2, rfl, rfl, rfl, w2⟩ := open_int Try.underlying3 (hval 2 3 v2 rfl rfl) h2
  clear hA0 hval0
  refine (walk a0 len0 cap0 z0 a1 a2 W w0 w1 w2).mono fun e W' ⟨he, bel⟩ => ?_
  subst he
  exact ⟨_, rfl, _, _, _, [], _, [], hW', trodAll_mk1 (shut_bool Try.underlying4 _), (trodAll_cons_mk (Below.trod laidOut (by kernel_rfl) (of_decide_eq_true (by kernel_rfl)) k0 bel lt0) (trodAll_cons_mk (shut_int Try.underlying3 w1) (trodAll_cons_mk (shut_int Try.underlying3 w2) trodAll_mk0))), rfl, bel.frame _, fun h => by cases h⟩

theorem over : Rows.fnNodeNextWalksArrayElementsRow.holds Try.pinned (OpenSpec.ofChange Rows.fnNodeNextWalksArrayElementsSpec) :=
  OpenClaim.holds_of_wide 7 Try.f7 rfl rfl rfl rfl rfl rfl rfl ⟨rfl, rfl, rfl, rfl, rfl⟩ rfl rfl rfl rfl rfl (by kernel_rfl) Try.func7 (Made.joined (by kernel_rfl) (by kernel_rfl) rfl rfl)
    (of_decide_eq_true (by kernel_rfl)) (by unfold Func.isWrapper; first | (rw [if_pos (by decide +kernel)]; kernel_rfl) | (rw [if_neg (by decide +kernel)]; exact ⟨rfl, rfl⟩))
    (fun os started H enc _ => lifted os started H enc)

/-- ████ THE STATEMENT ████ -/
theorem proved : Rows.FnNodeNextWalksArrayElementsSaid := over
end Go.Proofs.Qxb6601304a.fnNodeNextWalksArrayElements
