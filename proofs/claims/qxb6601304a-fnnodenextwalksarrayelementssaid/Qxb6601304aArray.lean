/-
  The walks of cloneInts and ZZArrayNode.
-/
import Derived.Test.Qxb6601304aNext
namespace Go.Proofs.Qxb6601304a
open Go.RowKit
set_option linter.unusedVariables false

theorem Try.info64 : (Try.prog.info? 64).map (fun i => (i.zero, i.size, i.bytes)) = some (some (.slice none 0 0), 1, 24) := by kernel_rfl
theorem Try.info51 : (Try.prog.info? 51).map (fun i => (i.zero, i.size, i.bytes)) = some (some (.agg #[.slice none 0 0, .pointer none, .pointer none, .pointer none]), 4, 48) := by kernel_rfl

theorem rd_ofTx {k : IntKind} {w : World} {g n c : Nat} {zs : List Int} (h : Tx k w g 0 n zs) (hg : g < w.heap.size) (hc : n ≤ c) : Rd k w.heap.size w (some ⟨g, 0, none⟩) n c zs := by
  refine ⟨h.len, by simp, hc, ?_⟩
  by_cases h0 : n = 0
  · exact .inl h0
  · exact .inr ⟨g, 0, rfl, hg, h.cell⟩

set_option maxHeartbeats 1000000 in
/-- cloneInts at a slice that is not nil. -/
theorem cloneInts_some (w : World) (B : Nat) (x : Addr) (n c : Nat) (zs : List Int) (hR : Rd .i64 B w (some x) n c zs) (hB : B ≤ w.heap.size) (hn : n ≤ 1000000000) :
    Calls Try.prog 23 #[.slice (some x) n c] w fun e w' => ∃ g, e = .returned (.slice (some ⟨g, 0, none⟩) n n) ∧ w.heap.size ≤ g ∧ g < w'.heap.size ∧ Tx .i64 w' g 0 n zs ∧ Below w.heap.size w w' := by
  have q39 : ∀ (w : World) (a : Option Addr) (n c n' c' : Nat), (binOp .eql 39 (.slice a n c) (.slice none n' c')).run Try.prog w = .ok (.bool a.isNone) w := fun w a n c n' c' => Lib.run_eql_slice_nil w _ _ a n c n' c' Try.underlying39
  have hzl := hR.len
  have hlie : n = 0 ∨ ∃ b off, some x = some (⟨b, off, none⟩ : Addr) ∧ b < B ∧ ∀ i, i < n → w.cell? ⟨b, off + i, none⟩ = some (.int .i64 (zs.getD i 0)) := hR.lie
  clear hR
  go_enter Try.func23, Try.ntmps23
  go_wp2_with (at_make; refine wpList_make_ints rfl _ _ 39 3 .i64 8 rfl Try.underlying39 Try.info3 (by decide) _ _ _ _ n rfl rfl rfl rfl (by omega) ?_; intro w1 hown1 hbel1)
  go_loopw [4] (fun t wr => ∃ k : Nat, t = .int .i64 k ∧ k ≤ n ∧ wr.ownsRow w.heap.size 3 1 (.slice (some ⟨w.heap.size, 0, none⟩) n n) n (cells .i64 (zs.take k ++ List.replicate (n - k) 0)) ∧ Below w.heap.size w wr) (fun t _ => n - (intOf t).toNat)
  case atStart => exact ⟨0, rfl, Nat.zero_le _, by simpa using hown1, hbel1⟩
  case round =>
    obtain ⟨k, rfl, hk, hown, hbel⟩ := hrel
    clear hown1 hbel1
    by_cases hlt : k < n
    · obtain ⟨b, off, hx, hbB, hcell⟩ := hlie.resolve_left (by omega)
      obtain ⟨z, hz⟩ : ∃ z, z = zs.getD k 0 := ⟨_, rfl⟩
      have hc : wr.cell? ⟨b, off + k, none⟩ = some (.int .i64 z) := by rw [hz]; exact (hbel.cell (p := ⟨b, off + k, none⟩) (by simp; omega)).trans (hcell k hlt)
      have hd : ∃ v, wr.cell? ⟨w.heap.size, k, none⟩ = some v := by rw [hown.cellAt k (by omega)]; exact ⟨_, List.getElem?_eq_getElem (by rw [cells_length]; simp; omega)⟩
      obtain ⟨vd, hd⟩ := hd
      have hf := hown.frozenAt k
      have HZ : Hid (z = zs.getD k 0) := hz
      clear hz hcell hlie
      obtain rfl := Option.some.inj hx
      clear hx
      go_wp2
      have hst := hown.stored k (.int .i64 z)
      rw [HZ.out, replicate_step hzl hlt] at hst
      go_roundw
      case rel => exact ⟨k + 1, by go_num, by omega, by rw [HZ.out]; exact hst.1, by rw [HZ.out]; exact hbel.grown hst.2 hbel.size (by intro q hq; cases hq; exact Nat.le_refl _)⟩
      case measure => simp [intOf]; omega
    · clear hlie
      go_wp2
      go_ret
      have hkn : k = n := by omega
      subst hkn
      rw [List.take_of_length_le (by omega), Nat.sub_self, List.replicate_zero, List.append_nil] at hown
      exact ⟨w.heap.size, rfl, Nat.le_refl _, (own_lt hown).2, Tx.ofOwn hzl hown, hbel⟩

/-- cloneInts. -/
theorem cloneInts_any (w : World) (B : Nat) (a : Option Addr) (n c : Nat) (zs : List Int) (hR : Rd .i64 B w a n c zs) (hB : B ≤ w.heap.size) (hn : n ≤ 1000000000) :
    Calls Try.prog 23 #[.slice a n c] w fun e w' => ∃ a' c', e = .returned (.slice a' n c') ∧ Rd .i64 w'.heap.size w' a' n c' zs ∧ Below w.heap.size w w' := by
  cases a with
  | some x =>
    refine (cloneInts_some w B x n c zs hR hB hn).mono ?_
    rintro e w' ⟨g, rfl, hg1, hg2, hT, hb⟩
    exact ⟨_, _, rfl, rd_ofTx hT hg2 (Nat.le_refl _), hb⟩
  | none =>
    obtain ⟨rfl, rfl⟩ := hR.none rfl
    have hl := hR.len
    have hz : zs = [] := List.eq_nil_of_length_eq_zero hl
    subst hz
    clear hR hl
    have q39 : ∀ (w : World) (a : Option Addr) (n c n' c' : Nat), (binOp .eql 39 (.slice a n c) (.slice none n' c')).run Try.prog w = .ok (.bool a.isNone) w := fun w a n c n' c' => Lib.run_eql_slice_nil w _ _ a n c n' c' Try.underlying39
    go_enter Try.func23, Try.ntmps23
    go_wp2_with fail
    go_ret
    exact ⟨none, 0, rfl, ⟨rfl, by simp, by simp, .inl rfl⟩, Below.refl _ _⟩

/-- The table of chunks at a round's head: the first k are laid. -/
def Tab (base n k : Nat) (L G : Nat → Nat) (gc : Nat) (wr : World) : Prop :=
  ∃ xs, wr.ownsRow base 64 1 (.slice (some ⟨gc, 0, none⟩) n n) n xs ∧ xs.length = n ∧ ∀ c, c < k → xs[c]? = some (.slice (some ⟨G c, 0, none⟩) (L c) (L c))

theorem Tab.step {base n k : Nat} {L G : Nat → Nat} {gc g z : Nat} {wr w1 : World} (h : Tab base n k L G gc wr) (hg : wr.grownBy w1 none) (hk : k < n) (hz : z = L k) :
    Tab base n (k + 1) L (fun c => if c = k then g else G c) gc (w1.setCell ⟨gc, k, none⟩ (.slice (some ⟨g, 0, none⟩) z z)) ∧ w1.grownBy (w1.setCell ⟨gc, k, none⟩ (.slice (some ⟨g, 0, none⟩) z z)) (some gc) := by
  obtain ⟨xs, hown, hl, hx⟩ := h
  have h1 := hown.kept hg (.inr (by simp [Value.ownBlock]))
  have hs := h1.stored k (.slice (some ⟨g, 0, none⟩) z z)
  refine ⟨⟨_, hs.1, by simpa using hl, ?_⟩, hs.2⟩
  intro c hc
  rw [List.getElem?_set]
  by_cases e : k = c
  · subst e
    rw [if_pos rfl, if_pos (by omega)]
    simp [hz]
  · rw [if_neg e]
    dsimp only
    rw [if_neg (fun h => e h.symm)]
    exact hx c (by omega)

theorem Tab.cell {base n k : Nat} {L G : Nat → Nat} {gc : Nat} {wr w1 : World} (h : Tab base n k L G gc wr) (hg : wr.grownBy w1 none) (hk : k < n) : (∃ v, w1.cell? ⟨gc, k, none⟩ = some v) ∧ w1.frozen? ⟨gc, k, none⟩ = false := by
  obtain ⟨xs, hown, hl, hx⟩ := h
  have h1 := hown.kept hg (.inr (by simp [Value.ownBlock]))
  exact ⟨by rw [h1.cellAt k (by omega)]; exact ⟨_, List.getElem?_eq_getElem (by omega)⟩, h1.frozenAt k⟩

set_option maxRecDepth 100000 in
set_option maxHeartbeats 2000000 in
theorem arrayNode_any (w : World) (B : Nat) (a : Option Addr) (n c : Nat) (zs : List Int) (hR : Rd .i64 B w a n c zs) (hB : B ≤ w.heap.size) (hn : n ≤ 65536) (hz : ∀ i, i < n → 0 ≤ zs.getD i 0 ∧ zs.getD i 0 ≤ 65536) :
    Calls Try.prog 24 #[.slice a n c] w fun e w' => ∃ p pa gc G, e = .returned (.pointer (some ⟨p, 0, none⟩)) ∧ Arr w' p pa gc n G (fun i => (zs.getD i 0).toNat) ∧ gc < w'.heap.size ∧ Below w.heap.size w w' := by
  have hlie : n = 0 ∨ ∃ b off, a = some (⟨b, off, none⟩ : Addr) ∧ b < B ∧ ∀ i, i < n → w.cell? ⟨b, off + i, none⟩ = some (.int .i64 (zs.getD i 0)) := hR.lie
  clear hR
  obtain ⟨i64, h64, z64, s64, b64⟩ := info_parts Try.info64
  obtain ⟨i51, h51, z51, s51, b51⟩ := info_parts Try.info51
  have HZ : Hid (∀ i, i < n → 0 ≤ zs.getD i 0 ∧ zs.getD i 0 ≤ 65536) := hz
  have HLIE : Hid (n = 0 ∨ ∃ b off, a = some (⟨b, off, none⟩ : Addr) ∧ b < B ∧ ∀ i, i < n → w.cell? ⟨b, off + i, none⟩ = some (.int .i64 (zs.getD i 0))) := hlie
  clear hz hlie
  go_enter Try.func24, Try.ntmps24
  go_wp2_with (at_make; refine wpList_make_full _ rfl _ _ 63 rfl w.heap.size 64 i64 (.slice none 0 0) 1 Try.underlying63 h64 z64 s64 _ _ _ _ n rfl rfl rfl rfl (by rw [b64]; omega) (by unfold maxLen; omega) (Nat.le_refl _) ?_; intro w1 hown1 hgr1)
  have hbel1 : Below w.heap.size w w1 := (Below.refl _ _).grown hgr1 (Nat.le_refl _) (by intro k hk; cases hk)
  have ht1 : Tab w.heap.size n 0 (fun i => (zs.getD i 0).toNat) (fun _ => 0) w.heap.size w1 := ⟨_, hown1, by have := hown1.1; omega, by intro c hc; omega⟩
  clear hown1 hgr1
  go_loopw [4, 5] (fun nv t wr => ∃ k : Nat, ∃ x : Int, ∃ G : Nat → Nat, t = .int .i64 k ∧ nv = .int .i64 x ∧ k ≤ n ∧ Tab w.heap.size n k (fun i => (zs.getD i 0).toNat) G w.heap.size wr ∧ Below w.heap.size w wr) (fun _ t _ => n - (intOf t).toNat)
  case atStart => exact ⟨0, 0, _, rfl, rfl, Nat.zero_le _, ht1, hbel1⟩
  case round =>
    obtain ⟨k, x, G, rfl, rfl, hk, htr, hbel⟩ := hrel
    clear ht1 hbel1
    by_cases hlt : k < n
    · obtain ⟨b, off, ha, hbB, hcell⟩ := HLIE.out.resolve_left (by omega)
      subst ha
      obtain ⟨z, hz⟩ : ∃ z, z = zs.getD k 0 := ⟨_, rfl⟩
      have hc : wr.cell? ⟨b, off + k, none⟩ = some (.int .i64 z) := by rw [hz]; exact (hbel.cell (p := ⟨b, off + k, none⟩) (by simp; omega)).trans (hcell k hlt)
      have hzb := HZ.out k hlt
      rw [← hz] at hzb
      obtain ⟨hz0, hz1⟩ := hzb
      have HZK : Hid (z.toNat = (zs.getD k 0).toNat) := by rw [hz]; rfl
      clear hz hcell HLIE
      have hsz := hbel.size
      go_wp2_with (at_make; refine wpList_make_full _ rfl _ _ 64 rfl wr.heap.size 51 i51 _ 4 Try.underlying64 h51 z51 s51 _ _ _ _ z.toNat rfl rfl (by omega) (by omega) (by rw [b51]; omega) (by unfold maxLen; omega) (Nat.le_refl _) ?_; intro w2 hown2 hgr2; obtain ⟨⟨vd, hd⟩, hf⟩ := htr.cell hgr2 hlt; have hst := htr.step (g := wr.heap.size) (z := z.toNat) hgr2 hlt HZK.out; have hc2 : w2.cell? ⟨b, off + k, none⟩ = some (.int .i64 z) := hgr2.cell hc (by simp); have hbw : b ≠ w.heap.size := by omega)
      have hb2 := hbel.grown hgr2 hsz (by intro q hq; cases hq)
      have hb3 := hb2.grown hst.2 (Nat.le_trans hsz hgr2.size) (by intro q hq; cases hq; exact Nat.le_refl _)
      go_roundw
      case rel => exact ⟨k + 1, _, _, by go_num, rfl, by omega, hst.1, hb3⟩
      case measure => simp [intOf]; omega
    · have hkn : k = n := by omega
      have HK : Hid (k = n) := hkn
      clear hkn
      go_wp2
      go_ret
      have hk := HK.out
      subst hk
      obtain ⟨xs, hown, hl, hx⟩ := htr
      have hgc := (own_lt hown).2
      refine ⟨wr.heap.size + 1, wr.heap.size, w.heap.size, G, rfl, ?_, by simp; omega, (hbel.alloc hbel.size _).alloc (by have := hbel.size; simp; omega) _⟩
      refine ⟨?_, ?_, ?_, ?_⟩
      · simp [go_sem]
      · simp [go_sem]
      · simp [go_sem]
      · intro c hc
        have h1 : wr.cell? ⟨w.heap.size, c, none⟩ = some (.slice (some ⟨G c, 0, none⟩) (zs.getD c 0).toNat (zs.getD c 0).toNat) := by rw [hown.cellAt c (by omega)]; exact hx c hc
        exact (World.grownBy_alloc _ _ none).cell ((World.grownBy_alloc _ _ none).cell h1 (by simp)) (by simp)
end Go.Proofs.Qxb6601304a
