/-
  The walk of (*node).next over an object node; ZZNext, ZZMemberValue, sameSlice.
-/
import Derived.Test.Qxb6601304aNext
import Derived.Lib.Builder
namespace Go.Proofs.Qxb6601304a
open Go.RowKit
set_option linter.unusedVariables false

/-- An object node: the node at p, its objectNode at po, its members in block gm: member r has the key '.slice (A r) (N r) (C r)'. -/
structure Obj (w : World) (p po gm m : Nat) (A : Nat → Option Addr) (N C : Nat → Nat) : Prop where
  obj : w.cell? ⟨p, 2, none⟩ = some (.pointer (some ⟨po, 0, none⟩))
  tab : w.cell? ⟨po, 0, none⟩ = some (.slice (some ⟨gm, 0, none⟩) m m)
  key : ∀ r, r < m → w.cell? ⟨gm, r * 5, none⟩ = some (.slice (A r) (N r) (C r))

theorem Obj.grown {w w' : World} {p po gm m q : Nat} {A : Nat → Option Addr} {N C : Nat → Nat} (h : Obj w p po gm m A N C) (hg : w.grownBy w' (some q)) (h1 : p ≠ q) (h2 : po ≠ q) (h3 : gm ≠ q) : Obj w' p po gm m A N C :=
  ⟨hg.cell h.obj (by simp; exact h1), hg.cell h.tab (by simp; exact h2), fun c hc => hg.cell (h.key c hc) (by simp; exact h3)⟩
theorem Obj.alloc {w : World} {p po gm m : Nat} {A : Nat → Option Addr} {N C : Nat → Nat} (h : Obj w p po gm m A N C) (o : Go.Obj) : Obj (w.alloc o) p po gm m A N C :=
  have hg : w.grownBy (w.alloc o) none := World.grownBy_alloc w o none
  ⟨hg.cell h.obj (by simp), hg.cell h.tab (by simp), fun c hc => hg.cell (h.key c hc) (by simp)⟩
theorem Obj.lt {w : World} {p po gm m : Nat} {A : Nat → Option Addr} {N C : Nat → Nat} (h : Obj w p po gm m A N C) : p < w.heap.size ∧ po < w.heap.size :=
  ⟨World.block_lt_of_cell? _ _ h.obj, World.block_lt_of_cell? _ _ h.tab⟩
theorem Obj.below {w w' : World} {p po gm m B : Nat} {A : Nat → Option Addr} {N C : Nat → Nat} (h : Obj w p po gm m A N C) (hb : Below B w w') (h1 : p < B) (h2 : po < B) (h3 : gm < B) : Obj w' p po gm m A N C :=
  ⟨(hb.cell (p := ⟨p, 2, none⟩) h1).trans h.obj, (hb.cell (p := ⟨po, 0, none⟩) h2).trans h.tab, fun c hc => (hb.cell (p := ⟨gm, c * 5, none⟩) h3).trans (h.key c hc)⟩

/-- The first member from i on that is no hole; f members at most are left. -/
def skO (A : Nat → Option Addr) : Nat → Nat → Nat
  | 0, i => i
  | f + 1, i => match A i with
    | none => skO A f (i + 1)
    | some _ => i
def posO (A : Nat → Option Addr) (m i : Nat) : Nat := skO A (m - i) i
theorem posO_end (A : Nat → Option Addr) (m : Nat) : posO A m m = m := by unfold posO; rw [Nat.sub_self]; rfl
theorem posO_hole {A : Nat → Option Addr} {m i : Nat} (hi : i < m) (h : A i = none) : posO A m i = posO A m (i + 1) := by
  unfold posO; rw [show m - i = (m - (i + 1)) + 1 from by omega, skO, h]
theorem posO_key {A : Nat → Option Addr} {m i : Nat} {x : Addr} (hi : i < m) (h : A i = some x) : posO A m i = i := by
  unfold posO; rw [show m - i = (m - (i + 1)) + 1 from by omega, skO, h]

set_option maxRecDepth 100000 in
set_option maxHeartbeats 2000000 in
/-- No member is left. -/
theorem next_obj_end (w : World) (p po gm m q i : Nat) (j : Int) (A : Nat → Option Addr) (N C : Nat → Nat) (hO : Obj w p po gm m A N C) (hC : Cur w q i j) (h1 : p ≠ q) (h2 : po ≠ q) (h3 : gm ≠ q) (hm : m ≤ 1000000) (hi : i ≤ m) (hp : posO A m i = m) :
    Calls Try.prog 33 #[.pointer (some ⟨p, 0, none⟩), .pointer (some ⟨q, 0, none⟩)] w fun e w' => e = .returned (.tuple #[.slice none 0 0, .pointer none, .bool false]) ∧ Cur w' q (m : Int) j ∧ w.grownBy w' (some q) := by
  have q22 : ∀ (w : World) (a : Option Addr) (n c n' c' : Nat), (binOp .eql 22 (.slice a n c) (.slice none n' c')).run Try.prog w = .ok (.bool a.isNone) w := fun w a n c n' c' => Lib.run_eql_slice_nil w _ _ a n c n' c' Try.underlying22
  have HO : Hid (Obj w p po gm m A N C) := hO
  have n2 := hO.obj
  have n4 := hO.tab
  have HP : Hid (posO A m i = m) := hp
  clear hO hp
  go_enter Try.func33, Try.ntmps33
  go_wp2
  go_loopg [] (m - i) (fun gk wr => ∃ k : Nat, gk = m - k ∧ k ≤ m ∧ Cur wr q k j ∧ w.grownBy wr (some q) ∧ Hid (posO A m k = m))
  case atStart => exact ⟨i, rfl, hi, hC, World.grownBy.refl _ _, HP⟩
  case round =>
    obtain ⟨k, rfl, hk, hCr, hgr, HPr⟩ := hrel
    have c0 := hCr.i
    have f0 := hCr.free 0
    have hOr := HO.out.grown hgr h1 h2 h3
    by_cases hkm : k < m
    · have hch := hOr.key k hkm
      obtain ⟨ak, hak⟩ : ∃ v, v = A k := ⟨_, rfl⟩
      rw [← hak] at hch
      clear hOr n2 n4 hC
      have hlt : (k : Int) < (m : Int) := by omega
      have hnn : (0 : Int) ≤ (k : Int) := by omega
      cases ak with
      | some x =>
        exfalso
        have h := HPr.out
        rw [posO_key hkm hak.symm] at h
        omega
      | none =>
        have HN : Hid (posO A m (k + 1) = m) := (posO_hole hkm hak.symm).symm.trans HPr.out
        clear hak
        go_wp2
        go_roundg (m - (k + 1))
        case measure => omega
        case rel => exact ⟨k + 1, rfl, by omega, hCr.setI (by omega), grown_set hgr _ _, HN⟩
    · have hke : k = m := by omega
      have HK : Hid (k = m) := hke
      have heq : ((k : Int) == (m : Int)) = true := by simp; omega
      clear hOr n2 n4 hC hke
      go_wp2
      go_ret3
      exact ⟨rfl, hCr.at (by have := HK.out; omega) rfl, hgr⟩

set_option maxRecDepth 100000 in
set_option maxHeartbeats 2000000 in
/-- The next member is member r. -/
theorem next_obj_ok (w : World) (p po gm m q i r : Nat) (j : Int) (x : Addr) (A : Nat → Option Addr) (N C : Nat → Nat) (hO : Obj w p po gm m A N C) (hC : Cur w q i j) (h1 : p ≠ q) (h2 : po ≠ q) (h3 : gm ≠ q) (hm : m ≤ 1000000) (hi : i ≤ m) (hp : posO A m i = r) (hr : r < m) (hx : A r = some x) :
    Calls Try.prog 33 #[.pointer (some ⟨p, 0, none⟩), .pointer (some ⟨q, 0, none⟩)] w fun e w' => e = .returned (.tuple #[.slice (some x) (N r) (C r), .pointer (some ⟨gm, r * 5 + 1, none⟩), .bool true]) ∧ Cur w' q ((r : Int) + 1) j ∧ w.grownBy w' (some q) := by
  have q22 : ∀ (w : World) (a : Option Addr) (n c n' c' : Nat), (binOp .eql 22 (.slice a n c) (.slice none n' c')).run Try.prog w = .ok (.bool a.isNone) w := fun w a n c n' c' => Lib.run_eql_slice_nil w _ _ a n c n' c' Try.underlying22
  have HO : Hid (Obj w p po gm m A N C) := hO
  have n2 := hO.obj
  have n4 := hO.tab
  have HP : Hid (posO A m i = r) := hp
  have HX : Hid (A r = some x) := hx
  clear hO hp hx
  go_enter Try.func33, Try.ntmps33
  go_wp2
  go_loopg [] (m - i) (fun gk wr => ∃ k : Nat, gk = m - k ∧ k ≤ m ∧ Cur wr q k j ∧ w.grownBy wr (some q) ∧ Hid (posO A m k = r))
  case atStart => exact ⟨i, rfl, hi, hC, World.grownBy.refl _ _, HP⟩
  case round =>
    obtain ⟨k, rfl, hk, hCr, hgr, HPr⟩ := hrel
    have c0 := hCr.i
    have f0 := hCr.free 0
    have hOr := HO.out.grown hgr h1 h2 h3
    have hkm : k < m := by
      by_cases hkm : k < m
      · exact hkm
      · exfalso
        have hke : k = m := by omega
        have := HPr.out
        rw [hke, posO_end] at this
        omega
    have hch := hOr.key k hkm
    obtain ⟨ak, hak⟩ : ∃ v, v = A k := ⟨_, rfl⟩
    rw [← hak] at hch
    clear hOr n2 n4 hC
    have hlt : (k : Int) < (m : Int) := by omega
    have hnn : (0 : Int) ≤ (k : Int) := by omega
    cases ak with
    | none =>
      have HN : Hid (posO A m (k + 1) = r) := (posO_hole hkm hak.symm).symm.trans HPr.out
      clear hak
      go_wp2
      go_roundg (m - (k + 1))
      case measure => omega
      case rel => exact ⟨k + 1, rfl, by omega, hCr.setI (by omega), grown_set hgr _ _, HN⟩
    | some y =>
      have hkr : k = r := by
        have h := HPr.out
        rw [posO_key hkm hak.symm] at h
        exact h
      subst hkr
      have hxy : x = y := by
        have h := HX.out
        rw [← hak] at h
        exact (Option.some.inj h).symm
      subst hxy
      have hne : ((k : Int) == (m : Int)) = false := by simp; omega
      clear hak
      go_wp2
      go_quiet (fail)
      go_wp2
      go_ret3
      exact ⟨rfl, hCr.setI rfl, grown_drewN (grown_set hgr _ _) _⟩

set_option maxRecDepth 100000 in
set_option maxHeartbeats 1000000 in
theorem zznext_obj_end (w : World) (p po gm m i : Nat) (j : Int) (A : Nat → Option Addr) (N C : Nat → Nat) (hO : Obj w p po gm m A N C) (hgm : gm < w.heap.size) (hm : m ≤ 1000000) (hi : i ≤ m) (hp : posO A m i = m) :
    Calls Try.prog 19 #[.pointer (some ⟨p, 0, none⟩), .int .i64 i, .int .i64 j] w fun e w' => e = .returned (.tuple #[.slice none 0 0, .pointer none, .bool false, .int .i64 m, .int .i64 j]) ∧ Below w.heap.size w w' := by
  have hC : Cur (w.alloc (.cells #[.int .i64 i, .int .i64 j] 58)) w.heap.size i j := heap_alloc_new w _
  have hO' := hO.alloc (.cells #[.int .i64 i, .int .i64 j] 58)
  obtain ⟨l1, l2⟩ := hO.lt
  go_enter Try.func19, Try.ntmps19
  go_wp2_with fail
  refine (next_obj_end _ p po gm m _ i j A N C hO' hC (by omega) (by omega) (by omega) hm hi hp).mono ?_
  rintro e w1 ⟨rfl, hC1, hg1⟩
  have c0 := hC1.i
  have c1 := hC1.j
  have hb : Below w.heap.size w w1 := ((Below.refl _ _).alloc (Nat.le_refl _) _).grown hg1 (by simp) (by intro k hk; cases hk; exact Nat.le_refl _)
  clear hC hO' hO hC1 hg1 hp
  go_wp2
  go_region
  all_goals
    go_wp2
    refine bodyPost_ret (v := .tuple #[.slice none 0 0, .pointer none, .bool false, .int .i64 m, .int .i64 j]) (by simp [results, Try.results19, go_sem]) rfl ⟨rfl, hb.drew⟩

set_option maxRecDepth 100000 in
set_option maxHeartbeats 1000000 in
theorem zznext_obj_ok (w : World) (p po gm m i r : Nat) (j : Int) (x : Addr) (A : Nat → Option Addr) (N C : Nat → Nat) (hO : Obj w p po gm m A N C) (hgm : gm < w.heap.size) (hm : m ≤ 1000000) (hi : i ≤ m) (hp : posO A m i = r) (hr : r < m) (hx : A r = some x) :
    Calls Try.prog 19 #[.pointer (some ⟨p, 0, none⟩), .int .i64 i, .int .i64 j] w fun e w' => e = .returned (.tuple #[.slice (some x) (N r) (C r), .pointer (some ⟨gm, r * 5 + 1, none⟩), .bool true, .int .i64 ((r : Int) + 1), .int .i64 j]) ∧ Below w.heap.size w w' := by
  have hC : Cur (w.alloc (.cells #[.int .i64 i, .int .i64 j] 58)) w.heap.size i j := heap_alloc_new w _
  have hO' := hO.alloc (.cells #[.int .i64 i, .int .i64 j] 58)
  obtain ⟨l1, l2⟩ := hO.lt
  go_enter Try.func19, Try.ntmps19
  go_wp2_with fail
  refine (next_obj_ok _ p po gm m _ i r j x A N C hO' hC (by omega) (by omega) (by omega) hm hi hp hr hx).mono ?_
  rintro e w1 ⟨rfl, hC1, hg1⟩
  have c0 := hC1.i
  have c1 := hC1.j
  have hb : Below w.heap.size w w1 := ((Below.refl _ _).alloc (Nat.le_refl _) _).grown hg1 (by simp) (by intro k hk; cases hk; exact Nat.le_refl _)
  clear hC hO' hO hC1 hg1 hp hx
  go_wp2
  go_region
  all_goals
    go_wp2
    refine bodyPost_ret (v := .tuple #[.slice (some x) (N r) (C r), .pointer (some ⟨gm, r * 5 + 1, none⟩), .bool true, .int .i64 ((r : Int) + 1), .int .i64 j]) (by simp [results, Try.results19, go_sem]) rfl ⟨rfl, hb.drew⟩

/-- ZZMemberValue. -/
theorem member_any (w : World) (p po gm m r : Nat) (A : Nat → Option Addr) (N C : Nat → Nat) (hO : Obj w p po gm m A N C) (hr : r < m) (hm : m ≤ 1000000) :
    Calls Try.prog 21 #[.pointer (some ⟨p, 0, none⟩), .int .i64 r] w fun e w' => e = .returned (.pointer (some ⟨gm, r * 5 + 1, none⟩)) ∧ w = w' := by
  have n2 := hO.obj
  have n4 := hO.tab
  clear hO
  go_enter Try.func21, Try.ntmps21
  go_wp2
  go_ret
  exact ⟨rfl, rfl⟩

theorem info5' : ∃ j, Try.prog.info? 5 = some j := by
  obtain ⟨i, h, _⟩ := info_parts Try.info5
  exact ⟨i, h⟩

/-- sameSlice at one slice. -/
theorem same_any (w : World) (g o n c : Nat) (hn : n ≤ 1000000000) :
    Calls Try.prog 20 #[.slice (some ⟨g, o, none⟩) n c, .slice (some ⟨g, o, none⟩) n c] w fun e w' => e = .returned (.bool true) ∧ Below w.heap.size w w' := by
  obtain ⟨j5, hinfo5⟩ := info5'
  have q62 : ∀ (w : World) (a : Addr), (binOp .eql 62 (.pointer (some a)) (.pointer (some a))).run Try.prog w = .ok (.bool true) w := fun w a => run_eql_ptr_same w a Try.underlying62 hinfo5
  have hnn : ((n : Int) != (n : Int)) = false := by simp
  by_cases h0 : n = 0
  · subst h0
    go_enter Try.func20, Try.ntmps20
    go_wp2
    go_ret
    exact ⟨rfl, Below.refl _ _⟩
  · have hne : ((n : Int) == 0) = false := by simp; omega
    have hpos : (0 : Int) < (n : Int) := by omega
    go_enter Try.func20, Try.ntmps20
    go_wp2
    go_quiet (fail)
    go_wp2
    go_ret
    exact ⟨rfl, (Below.refl w.heap.size w).trans ⟨rfl, rfl, rfl, Nat.le_refl _, fun _ _ => rfl⟩⟩
end Go.Proofs.Qxb6601304a
