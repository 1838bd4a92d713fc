/-
  The walk of (*node).next over an array node; ZZNext, ZZArrayElem.
-/
import Derived.Test.Qxb6601304aBase
import Derived.Deep.LoopGhost
import Derived.Deep.QuietTactic
import Derived.BigQuiet
namespace Go.Proofs.Qxb6601304a
open Go.RowKit
set_option linter.unusedVariables false

/-- The cursor's own block. -/
def Cur (w : World) (q : Nat) (i j : Int) : Prop := w.heap[q]? = some (.cells #[.int .i64 i, .int .i64 j] 58 (0, 0))
theorem Cur.i {w : World} {q : Nat} {i j : Int} (h : Cur w q i j) : w.cell? ⟨q, 0, none⟩ = some (.int .i64 i) := by unfold Cur at h; simp [World.cell?, h]
theorem Cur.j {w : World} {q : Nat} {i j : Int} (h : Cur w q i j) : w.cell? ⟨q, 1, none⟩ = some (.int .i64 j) := by unfold Cur at h; simp [World.cell?, h]
theorem Cur.free {w : World} {q : Nat} {i j : Int} (h : Cur w q i j) (o : Nat) : w.frozen? ⟨q, o, none⟩ = false := by unfold Cur at h; simp [World.frozen?, h]
theorem Cur.setI {w : World} {q : Nat} {i j i1 i2 : Int} (h : Cur w q i j) (e : i1 = i2) : Cur (w.setCell ⟨q, 0, none⟩ (.int .i64 i1)) q i2 j := by
  subst e
  unfold Cur at h ⊢
  simp [World.setCell, Array.getElem?_modify, h]
theorem Cur.setJ {w : World} {q : Nat} {i j j1 j2 : Int} (h : Cur w q i j) (e : j1 = j2) : Cur (w.setCell ⟨q, 1, none⟩ (.int .i64 j1)) q i j2 := by
  subst e
  unfold Cur at h ⊢
  simp [World.setCell, Array.getElem?_modify, h]
theorem Cur.at {w : World} {q : Nat} {i j i2 j2 : Int} (h : Cur w q i j) (e1 : i = i2) (e2 : j = j2) : Cur w q i2 j2 := by subst e1; subst e2; exact h
theorem grown_set {w w' : World} {p : Nat} (h : w.grownBy w' (some p)) (o : Nat) (u : Value) : w.grownBy (w'.setCell ⟨p, o, none⟩ u) (some p) :=
  ⟨h.os, h.tape, h.output, Nat.le_trans h.size (by simp [World.setCell]), fun k hk hne => (Below.heap_setCell _ _ _ _ (by intro e; exact hne (by rw [e]))).trans (h.block k hk hne)⟩
theorem grown_drewN {w w' : World} {row : Option Nat} (h : w.grownBy w' row) (n : Nat) : w.grownBy (w'.drewN n) row := ⟨h.os, h.tape, h.output, h.size, h.block⟩
theorem grown_drew {w w' : World} {row : Option Nat} (h : w.grownBy w' row) : w.grownBy w'.drew row := ⟨h.os, h.tape, h.output, h.size, h.block⟩

/-- An array node: the node at p, its arrayNode at pa, its table of chunks at gc: chunk c lies in block G c and has L c elements. -/
structure Arr (w : World) (p pa gc m : Nat) (G L : Nat → Nat) : Prop where
  obj : w.cell? ⟨p, 2, none⟩ = some (.pointer none)
  arr : w.cell? ⟨p, 3, none⟩ = some (.pointer (some ⟨pa, 0, none⟩))
  tab : w.cell? ⟨pa, 0, none⟩ = some (.slice (some ⟨gc, 0, none⟩) m m)
  chunk : ∀ c, c < m → w.cell? ⟨gc, c, none⟩ = some (.slice (some ⟨G c, 0, none⟩) (L c) (L c))

theorem Arr.grown {w w' : World} {p pa gc m q : Nat} {G L : Nat → Nat} (h : Arr w p pa gc m G L) (hg : w.grownBy w' (some q)) (h1 : p ≠ q) (h2 : pa ≠ q) (h3 : gc ≠ q) : Arr w' p pa gc m G L :=
  ⟨hg.cell h.obj (by simp; exact h1), hg.cell h.arr (by simp; exact h1), hg.cell h.tab (by simp; exact h2), fun c hc => hg.cell (h.chunk c hc) (by simp; exact h3)⟩

/-- Where the cursor stands behind empty rests of chunks: f chunks at most are left. -/
def skp (L : Nat → Nat) : Nat → Nat → Int → Nat × Int
  | 0, i, j => (i, j)
  | f + 1, i, j => if j = (L i : Int) then skp L f (i + 1) 0 else (i, j)
/-- The same in a table of m chunks. -/
def pos (L : Nat → Nat) (m i : Nat) (j : Int) : Nat × Int := skp L (m - i) i j
theorem pos_end (L : Nat → Nat) (m : Nat) (j : Int) : pos L m m j = (m, j) := by unfold pos; rw [Nat.sub_self]; rfl
theorem pos_skip {L : Nat → Nat} {m i : Nat} {j : Int} (hi : i < m) (h : j = (L i : Int)) : pos L m i j = pos L m (i + 1) 0 := by
  unfold pos; rw [show m - i = (m - (i + 1)) + 1 from by omega, skp, if_pos h]
theorem pos_stay {L : Nat → Nat} {m i : Nat} {j : Int} (hi : i < m) (h : j ≠ (L i : Int)) : pos L m i j = (i, j) := by
  unfold pos; rw [show m - i = (m - (i + 1)) + 1 from by omega, skp, if_neg h]

set_option maxRecDepth 100000 in
set_option maxHeartbeats 2000000 in
/-- No element is left. -/
theorem next_arr_end (w : World) (p pa gc m q i : Nat) (j j' : Int) (G L : Nat → Nat) (hA : Arr w p pa gc m G L) (hC : Cur w q i j) (h1 : p ≠ q) (h2 : pa ≠ q) (h3 : gc ≠ q) (hm : m ≤ 1000000) (hL : ∀ c, L c ≤ 1000000) (hi : i ≤ m) (hj : i < m → 0 ≤ j ∧ j ≤ (L i : Int)) (hp : pos L m i j = (m, j')) :
    Calls Try.prog 33 #[.pointer (some ⟨p, 0, none⟩), .pointer (some ⟨q, 0, none⟩)] w fun e w' => e = .returned (.tuple #[.slice none 0 0, .pointer none, .bool false]) ∧ Cur w' q (m : Int) j' ∧ w.grownBy w' (some q) := by
  have HA : Hid (Arr w p pa gc m G L) := hA
  have n2 := hA.obj
  have n3 := hA.arr
  have n4 := hA.tab
  have HL : Hid (∀ c, L c ≤ 1000000) := hL
  have HJ : Hid (i < m → 0 ≤ j ∧ j ≤ (L i : Int)) := hj
  have HP : Hid (pos L m i j = (m, j')) := hp
  clear hA hL hj hp
  go_enter Try.func33, Try.ntmps33
  go_wp2
  go_loopg [] (m - i) (fun gk wr => ∃ k : Nat, ∃ d : Int, gk = m - k ∧ k ≤ m ∧ (k < m → Hid (0 ≤ d ∧ d ≤ (L k : Int))) ∧ Cur wr q k d ∧ w.grownBy wr (some q) ∧ Hid (pos L m k d = (m, j')))
  case atStart => exact ⟨i, j, rfl, hi, HJ.out, hC, World.grownBy.refl _ _, HP⟩
  case round =>
    obtain ⟨k, d, rfl, hk, hdb, hCr, hgr, HPr⟩ := hrel
    have c0 := hCr.i
    have c1 := hCr.j
    have f0 := hCr.free 0
    have f1 := hCr.free 1
    have hAr := HA.out.grown hgr h1 h2 h3
    by_cases hkm : k < m
    · have hch := hAr.chunk k hkm
      have hLk := HL.out k
      obtain ⟨hd0, hd1⟩ := (hdb hkm).out
      clear hdb hAr n2 n3 n4 hC
      have hlt : (k : Int) < (m : Int) := by omega
      have hnn : (0 : Int) ≤ (k : Int) := by omega
      by_cases hdl : d = (L k : Int)
      · have hb : (d == (L k : Int)) = true := by simpa using hdl
        have HN : Hid (pos L m (k + 1) 0 = (m, j')) := (pos_skip hkm hdl).symm.trans HPr.out
        clear hdl
        go_wp2
        go_quiet (fail)
        go_wp2
        go_roundg (m - (k + 1))
        case measure => omega
        case rel => exact ⟨k + 1, 0, rfl, by omega, fun _ => ⟨by omega, by omega⟩, (hCr.setI (by omega)).setJ rfl, grown_set (grown_set (grown_drewN hgr _) _ _) _ _, HN⟩
      · exfalso
        have := (pos_stay hkm hdl).symm.trans HPr.out
        simp only [Prod.mk.injEq] at this
        omega
    · have hke : k = m := by omega
      have hdec : decide ((k : Int) < (m : Int)) = false := by simp; omega
      have hjj : d = j' := by
        have := HPr.out
        rw [hke, pos_end] at this
        simp only [Prod.mk.injEq, true_and] at this
        exact this
      have HK : Hid (k = m) := hke
      have HD : Hid (d = j') := hjj
      have heq : ((k : Int) == (m : Int)) = true := by simp; omega
      clear hdb hAr n2 n3 n4 hC hke hjj
      go_wp2
      go_quiet (fail)
      go_wp2
      go_ret3
      exact ⟨rfl, hCr.at (by have := HK.out; omega) HD.out, grown_drewN hgr _⟩

set_option maxRecDepth 100000 in
set_option maxHeartbeats 2000000 in
/-- The next element is element t of chunk c. -/
theorem next_arr_ok (w : World) (p pa gc m q i c t : Nat) (j : Int) (G L : Nat → Nat) (hA : Arr w p pa gc m G L) (hC : Cur w q i j) (h1 : p ≠ q) (h2 : pa ≠ q) (h3 : gc ≠ q) (hm : m ≤ 1000000) (hL : ∀ c, L c ≤ 1000000) (hi : i ≤ m) (hj : i < m → 0 ≤ j ∧ j ≤ (L i : Int)) (hp : pos L m i j = (c, (t : Int))) (hc : c < m) (ht : t < L c) :
    Calls Try.prog 33 #[.pointer (some ⟨p, 0, none⟩), .pointer (some ⟨q, 0, none⟩)] w fun e w' => e = .returned (.tuple #[.slice none 0 0, .pointer (some ⟨G c, t * 4, none⟩), .bool true]) ∧ Cur w' q (c : Int) ((t : Int) + 1) ∧ w.grownBy w' (some q) := by
  have HA : Hid (Arr w p pa gc m G L) := hA
  have n2 := hA.obj
  have n3 := hA.arr
  have n4 := hA.tab
  have HL : Hid (∀ c, L c ≤ 1000000) := hL
  have HJ : Hid (i < m → 0 ≤ j ∧ j ≤ (L i : Int)) := hj
  have HP : Hid (pos L m i j = (c, (t : Int))) := hp
  clear hA hL hj hp
  go_enter Try.func33, Try.ntmps33
  go_wp2
  go_loopg [] (m - i) (fun gk wr => ∃ k : Nat, ∃ d : Int, gk = m - k ∧ k ≤ m ∧ (k < m → Hid (0 ≤ d ∧ d ≤ (L k : Int))) ∧ Cur wr q k d ∧ w.grownBy wr (some q) ∧ Hid (pos L m k d = (c, (t : Int))))
  case atStart => exact ⟨i, j, rfl, hi, HJ.out, hC, World.grownBy.refl _ _, HP⟩
  case round =>
    obtain ⟨k, d, rfl, hk, hdb, hCr, hgr, HPr⟩ := hrel
    have c0 := hCr.i
    have c1 := hCr.j
    have f0 := hCr.free 0
    have f1 := hCr.free 1
    have hAr := HA.out.grown hgr h1 h2 h3
    have hkm : k < m := by
      by_cases hkm : k < m
      · exact hkm
      · exfalso
        have hke : k = m := by omega
        have := HPr.out
        rw [hke, pos_end] at this
        simp only [Prod.mk.injEq] at this
        omega
    have hch := hAr.chunk k hkm
    have hLk := HL.out k
    obtain ⟨hd0, hd1⟩ := (hdb hkm).out
    clear hdb hAr n2 n3 n4 hC
    have hlt : (k : Int) < (m : Int) := by omega
    have hnn : (0 : Int) ≤ (k : Int) := by omega
    by_cases hdl : d = (L k : Int)
    · have hb : (d == (L k : Int)) = true := by simpa using hdl
      have HN : Hid (pos L m (k + 1) 0 = (c, (t : Int))) := (pos_skip hkm hdl).symm.trans HPr.out
      clear hdl
      go_wp2
      go_quiet (fail)
      go_wp2
      go_roundg (m - (k + 1))
      case measure => omega
      case rel => exact ⟨k + 1, 0, rfl, by omega, fun _ => ⟨by omega, by omega⟩, (hCr.setI (by omega)).setJ rfl, grown_set (grown_set (grown_drewN hgr _) _ _) _ _, HN⟩
    · have hb : (d == (L k : Int)) = false := by simpa using hdl
      have hpp := (pos_stay hkm hdl).symm.trans HPr.out
      simp only [Prod.mk.injEq] at hpp
      obtain ⟨hkc, hdt⟩ := hpp
      subst hkc
      subst hdt
      have hne : ((k : Int) == (m : Int)) = false := by simp; omega
      have ht1 : (t : Int) < (L k : Int) := by omega
      have ht0 : (0 : Int) ≤ (t : Int) := by omega
      clear hdl
      go_wp2
      go_quiet (fail)
      go_wp2
      go_quiet (fail)
      go_wp2
      go_ret3
      exact ⟨rfl, hCr.setJ rfl, grown_drewN (grown_set (grown_drewN hgr _) _ _) _⟩

theorem Arr.alloc {w : World} {p pa gc m : Nat} {G L : Nat → Nat} (h : Arr w p pa gc m G L) (o : Obj) : Arr (w.alloc o) p pa gc m G L :=
  have hg : w.grownBy (w.alloc o) none := World.grownBy_alloc w o none
  ⟨hg.cell h.obj (by simp), hg.cell h.arr (by simp), hg.cell h.tab (by simp), fun c hc => hg.cell (h.chunk c hc) (by simp)⟩

theorem Arr.lt {w : World} {p pa gc m : Nat} {G L : Nat → Nat} (h : Arr w p pa gc m G L) : p < w.heap.size ∧ pa < w.heap.size :=
  ⟨World.block_lt_of_cell? _ _ h.obj, World.block_lt_of_cell? _ _ h.tab⟩

set_option maxRecDepth 100000 in
set_option maxHeartbeats 1000000 in
theorem zznext_arr_end (w : World) (p pa gc m i : Nat) (j j' : Int) (G L : Nat → Nat) (hA : Arr w p pa gc m G L) (hgc : gc < w.heap.size) (hm : m ≤ 1000000) (hL : ∀ c, L c ≤ 1000000) (hi : i ≤ m) (hj : i < m → 0 ≤ j ∧ j ≤ (L i : Int)) (hp : pos L m i j = (m, j')) :
    Calls Try.prog 19 #[.pointer (some ⟨p, 0, none⟩), .int .i64 i, .int .i64 j] w fun e w' => e = .returned (.tuple #[.slice none 0 0, .pointer none, .bool false, .int .i64 m, .int .i64 j']) ∧ Below w.heap.size w w' := by
  have hC : Cur (w.alloc (.cells #[.int .i64 i, .int .i64 j] 58)) w.heap.size i j := heap_alloc_new w _
  have hA' := hA.alloc (.cells #[.int .i64 i, .int .i64 j] 58)
  obtain ⟨l1, l2⟩ := hA.lt
  go_enter Try.func19, Try.ntmps19
  go_wp2_with fail
  refine (next_arr_end _ p pa gc m _ i j j' G L hA' hC (by omega) (by omega) (by omega) hm hL hi hj hp).mono ?_
  rintro e w1 ⟨rfl, hC1, hg1⟩
  have c0 := hC1.i
  have c1 := hC1.j
  have hb : Below w.heap.size w w1 := ((Below.refl _ _).alloc (Nat.le_refl _) _).grown hg1 (by simp) (by intro k hk; cases hk; exact Nat.le_refl _)
  clear hC hA' hA hC1 hg1 hj hL hp
  go_wp2
  go_region
  all_goals
    go_wp2
    refine bodyPost_ret (v := .tuple #[.slice none 0 0, .pointer none, .bool false, .int .i64 m, .int .i64 j']) (by simp [results, Try.results19, go_sem]) rfl ⟨rfl, hb.drew⟩

set_option maxRecDepth 100000 in
set_option maxHeartbeats 1000000 in
theorem zznext_arr_ok (w : World) (p pa gc m i c t : Nat) (j : Int) (G L : Nat → Nat) (hA : Arr w p pa gc m G L) (hgc : gc < w.heap.size) (hm : m ≤ 1000000) (hL : ∀ c, L c ≤ 1000000) (hi : i ≤ m) (hj : i < m → 0 ≤ j ∧ j ≤ (L i : Int)) (hp : pos L m i j = (c, (t : Int))) (hc : c < m) (ht : t < L c) :
    Calls Try.prog 19 #[.pointer (some ⟨p, 0, none⟩), .int .i64 i, .int .i64 j] w fun e w' => e = .returned (.tuple #[.slice none 0 0, .pointer (some ⟨G c, t * 4, none⟩), .bool true, .int .i64 c, .int .i64 ((t : Int) + 1)]) ∧ Below w.heap.size w w' := by
  have hC : Cur (w.alloc (.cells #[.int .i64 i, .int .i64 j] 58)) w.heap.size i j := heap_alloc_new w _
  have hA' := hA.alloc (.cells #[.int .i64 i, .int .i64 j] 58)
  obtain ⟨l1, l2⟩ := hA.lt
  go_enter Try.func19, Try.ntmps19
  go_wp2_with fail
  refine (next_arr_ok _ p pa gc m _ i c t j G L hA' hC (by omega) (by omega) (by omega) hm hL hi hj hp hc ht).mono ?_
  rintro e w1 ⟨rfl, hC1, hg1⟩
  have c0 := hC1.i
  have c1 := hC1.j
  have hb : Below w.heap.size w w1 := ((Below.refl _ _).alloc (Nat.le_refl _) _).grown hg1 (by simp) (by intro k hk; cases hk; exact Nat.le_refl _)
  clear hC hA' hA hC1 hg1 hj hL hp
  go_wp2
  go_region
  all_goals
    go_wp2
    refine bodyPost_ret (v := .tuple #[.slice none 0 0, .pointer (some ⟨G c, t * 4, none⟩), .bool true, .int .i64 c, .int .i64 ((t : Int) + 1)]) (by simp [results, Try.results19, go_sem]) rfl ⟨rfl, hb.drew⟩

/-- ZZArrayElem. -/
theorem elem_any (w : World) (p pa gc m c t : Nat) (G L : Nat → Nat) (hA : Arr w p pa gc m G L) (hc : c < m) (ht : t < L c) (hm : m ≤ 1000000) (hL : L c ≤ 1000000) :
    Calls Try.prog 25 #[.pointer (some ⟨p, 0, none⟩), .int .i64 c, .int .i64 t] w fun e w' => e = .returned (.pointer (some ⟨G c, t * 4, none⟩)) ∧ w = w' := by
  have n3 := hA.arr
  have n4 := hA.tab
  have hch := hA.chunk c hc
  clear hA
  go_enter Try.func25, Try.ntmps25
  go_wp2
  go_ret
  exact ⟨rfl, rfl⟩
end Go.Proofs.Qxb6601304a
