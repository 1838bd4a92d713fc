/-
  The walks of cloneBytes at whatever slice, cloneKeys, ZZObjectNode and the law's own bound on the arguments' bytes.
-/
import Derived.Test.Qxb6601304aObj
namespace Go.Proofs.Qxb6601304a
open Go.RowKit
set_option linter.unusedVariables false

theorem Try.info22 : (Try.prog.info? 22).map (fun i => (i.zero, i.size, i.bytes)) = some (some (.slice none 0 0), 1, 24) := by kernel_rfl
theorem Try.info53 : (Try.prog.info? 53).map (fun i => (i.zero, i.size, i.bytes)) = some (some (.agg #[.slice none 0 0, .slice none 0 0, .pointer none, .pointer none, .pointer none]), 5, 72) := by kernel_rfl

theorem grown_of_below {w w' : World} (h : Below w.heap.size w w') : w.grownBy w' none := ⟨h.os, h.tape, h.output, h.size, fun k hk _ => h.block k hk⟩
theorem rd_keep {k : IntKind} {B : Nat} {w w' : World} {a : Option Addr} {n c : Nat} {zs : List Int} (h : Rd k B w a n c zs) (hb : Below B w w') : Rd k B w' a n c zs := by
  refine ⟨h.len, h.none, h.cap, ?_⟩
  rcases h.lie with h0 | ⟨b, off, ha, hlt, hc⟩
  · exact .inl h0
  · exact .inr ⟨b, off, ha, hlt, fun i hi => (hb.cell (p := ⟨b, off + i, none⟩) hlt).trans (hc i hi)⟩

/-- cloneBytes at whatever slice: what its caller here asks of it. -/
theorem cloneBytes_all (w : World) (B : Nat) (a : Option Addr) (n c : Nat) (zs : List Int) (hR : Rd .u8 B w a n c zs) (hB : B ≤ w.heap.size) (hn : n ≤ 1000000000) :
    Calls Try.prog 9 #[.slice a n c] w fun e w' => ∃ a' c', e = .returned (.slice a' n c') ∧ (∀ x, a' = some x → ∃ g, x = ⟨g, 0, none⟩) ∧ Below w.heap.size w w' := by
  cases a with
  | some x =>
    refine (cloneBytes_any w B x n c zs hR hB hn).mono ?_
    rintro e w' ⟨g, rfl, _, _, _, hb⟩
    exact ⟨_, _, rfl, fun x hx => ⟨g, (Option.some.inj hx).symm⟩, hb⟩
  | none =>
    obtain ⟨rfl, rfl⟩ := hR.none rfl
    clear hR
    have q22 : ∀ (w : World) (a : Option Addr) (n c n' c' : Nat), (binOp .eql 22 (.slice a n c) (.slice none n' c')).run Try.prog w = .ok (.bool a.isNone) w := fun w a n c n' c' => Lib.run_eql_slice_nil w _ _ a n c n' c' Try.underlying22
    go_enter Try.func9, Try.ntmps9
    go_wp2_with fail
    go_ret
    exact ⟨none, 0, rfl, (fun x hx => by cases hx), Below.refl _ _⟩

/-- A slice of byte slices that came in. -/
structure Keys (w : World) (a : Option Addr) (n c : Nat) (A : Nat → Option Addr) (N C : Nat → Nat) (Z : Nat → List Int) : Prop where
  none : a = Option.none → n = 0 ∧ c = 0
  lie : n = 0 ∨ ∃ b off, a = some ⟨b, off, Option.none⟩ ∧ b < w.heap.size ∧ ∀ r, r < n → w.cell? ⟨b, off + r, Option.none⟩ = some (.slice (A r) (N r) (C r))
  row : ∀ r, r < n → Rd .u8 w.heap.size w (A r) (N r) (C r) (Z r)

/-- A slice of byte slices, each nil or at the head of a block. -/
structure KT (w : World) (a : Option Addr) (n : Nat) (A : Nat → Option Addr) (N C : Nat → Nat) : Prop where
  lie : n = 0 ∨ ∃ b off, a = some ⟨b, off, none⟩ ∧ b < w.heap.size ∧ ∀ r, r < n → w.cell? ⟨b, off + r, none⟩ = some (.slice (A r) (N r) (C r))
  sh : ∀ r, r < n → ∀ x, A r = some x → ∃ g, x = ⟨g, 0, none⟩

/-- The clone's table at a round's head: the first k are laid. -/
def KTab (base n k : Nat) (N C : Nat → Nat) (A : Nat → Option Addr) (gt : Nat) (wr : World) : Prop :=
  ∃ xs, wr.ownsRow base 22 1 (.slice (some ⟨gt, 0, none⟩) n n) n xs ∧ xs.length = n ∧ ∀ r, r < k → xs[r]? = some (.slice (A r) (N r) (C r)) ∧ ∀ x, A r = some x → ∃ g, x = ⟨g, 0, none⟩

theorem KTab.cell {base n k : Nat} {N C : Nat → Nat} {A : Nat → Option Addr} {gt : Nat} {wr w1 : World} (h : KTab base n k N C A gt wr) (hg : wr.grownBy w1 none) (hk : k < n) : (∃ v, w1.cell? ⟨gt, k, none⟩ = some v) ∧ w1.frozen? ⟨gt, k, none⟩ = false := by
  obtain ⟨xs, hown, hl, hx⟩ := h
  have h1 := hown.kept hg (.inr (by simp [Value.ownBlock]))
  exact ⟨by rw [h1.cellAt k (by omega)]; exact ⟨_, List.getElem?_eq_getElem (by omega)⟩, h1.frozenAt k⟩

theorem KTab.step {base n k : Nat} {N C : Nat → Nat} {A : Nat → Option Addr} {gt c' z : Nat} {a' : Option Addr} {wr w1 : World} (h : KTab base n k N C A gt wr) (hg : wr.grownBy w1 none) (hk : k < n) (hz : z = N k) (ha : ∀ x, a' = some x → ∃ g, x = ⟨g, 0, none⟩) :
    KTab base n (k + 1) N (fun r => if r = k then c' else C r) (fun r => if r = k then a' else A r) gt (w1.setCell ⟨gt, k, none⟩ (.slice a' z c')) ∧ w1.grownBy (w1.setCell ⟨gt, k, none⟩ (.slice a' z c')) (some gt) := by
  obtain ⟨xs, hown, hl, hx⟩ := h
  have h1 := hown.kept hg (.inr (by simp [Value.ownBlock]))
  have hs := h1.stored k (.slice a' z c')
  refine ⟨⟨_, hs.1, by simpa using hl, ?_⟩, hs.2⟩
  intro r hr
  by_cases e : k = r
  · subst e
    rw [List.getElem?_set, if_pos rfl, if_pos (by omega)]
    exact ⟨by simp [hz], by simpa using ha⟩
  · rw [List.getElem?_set, if_neg e]
    dsimp only
    rw [if_neg (fun h => e h.symm), if_neg (fun h => e h.symm)]
    exact hx r (by omega)

set_option maxRecDepth 100000 in
set_option maxHeartbeats 2000000 in
theorem cloneKeys_any (w : World) (a : Option Addr) (n c : Nat) (A : Nat → Option Addr) (N C : Nat → Nat) (Z : Nat → List Int) (hK : Keys w a n c A N C Z) (hn : n ≤ 65536) (hN : ∀ r, r < n → N r ≤ 1048576) :
    Calls Try.prog 17 #[.slice a n c] w fun e w' => ∃ a' c' A' C', e = .returned (.slice a' n c') ∧ KT w' a' n A' N C' ∧ Below w.heap.size w w' := by
  have q30 : ∀ (w : World) (a : Option Addr) (n c n' c' : Nat), (binOp .eql 30 (.slice a n c) (.slice none n' c')).run Try.prog w = .ok (.bool a.isNone) w := fun w a n c n' c' => Lib.run_eql_slice_nil w _ _ a n c n' c' Try.underlying30
  have HK : Hid (Keys w a n c A N C Z) := hK
  have HN : Hid (∀ r, r < n → N r ≤ 1048576) := hN
  clear hN
  obtain ⟨i22, h22, z22, s22, b22⟩ := info_parts Try.info22
  cases a with
  | none =>
    obtain ⟨rfl, rfl⟩ := hK.none rfl
    clear hK
    go_enter Try.func17, Try.ntmps17
    go_wp2_with fail
    go_ret
    exact ⟨none, 0, A, C, rfl, ⟨.inl rfl, fun r hr => by omega⟩, Below.refl _ _⟩
  | some x =>
    clear hK
    go_enter Try.func17, Try.ntmps17
    go_wp2_with (at_make; refine wpList_make_full _ rfl _ _ 30 rfl w.heap.size 22 i22 (.slice none 0 0) 1 Try.underlying30 h22 z22 s22 _ _ _ _ n rfl rfl rfl rfl (by rw [b22]; omega) (by unfold maxLen; omega) (Nat.le_refl _) ?_; intro w1 hown1 hgr1)
    have hbel1 : Below w.heap.size w w1 := (Below.refl _ _).grown hgr1 (Nat.le_refl _) (by intro k hk; cases hk)
    have ht1 : KTab w.heap.size n 0 N (fun _ => 0) (fun _ => none) w.heap.size w1 := ⟨_, hown1, by have := hown1.1; omega, by intro c hc; omega⟩
    clear hown1 hgr1
    go_loopw [4] (fun t wr => ∃ k : Nat, ∃ A' : Nat → Option Addr, ∃ C' : Nat → Nat, t = .int .i64 k ∧ k ≤ n ∧ KTab w.heap.size n k N C' A' w.heap.size wr ∧ Below w.heap.size w wr) (fun t _ => n - (intOf t).toNat)
    case atStart => exact ⟨0, _, _, rfl, Nat.zero_le _, ht1, hbel1⟩
    case round =>
      obtain ⟨k, A', C', rfl, hk, htr, hbel⟩ := hrel
      clear ht1 hbel1
      by_cases hlt : k < n
      · obtain ⟨b, off, ha, hbB, hcell⟩ := HK.out.lie.resolve_left (by omega)
        obtain rfl := Option.some.inj ha
        clear ha
        have hc : wr.cell? ⟨b, off + k, none⟩ = some (.slice (A k) (N k) (C k)) := (hbel.cell (p := ⟨b, off + k, none⟩) (by simp; omega)).trans (hcell k hlt)
        have HR : Hid (Rd .u8 w.heap.size wr (A k) (N k) (C k) (Z k)) := rd_keep (HK.out.row k hlt) hbel
        have hNk := HN.out k hlt
        have hsz := hbel.size
        clear hcell
        go_wp2_with (go_at_call 9; refine (cloneBytes_all _ w.heap.size _ _ _ _ HR.out hsz (by omega)).mono ?_; rintro e w2 ⟨a', c', rfl, hsh, hb2⟩; have hg2 := grown_of_below hb2; obtain ⟨⟨vd, hd⟩, hf⟩ := htr.cell hg2 hlt; have hst := htr.step (c' := c') hg2 hlt rfl hsh; have HST : Hid (KTab w.heap.size n (k + 1) N (fun r => if r = k then c' else C' r) (fun r => if r = k then a' else A' r) w.heap.size (w2.setCell ⟨w.heap.size, k, none⟩ (.slice a' (N k) c')) ∧ w2.grownBy (w2.setCell ⟨w.heap.size, k, none⟩ (.slice a' (N k) c')) (some w.heap.size)) := hst; clear hst)
        have hb3 := (hbel.trans (hb2.mono hsz)).grown HST.out.2 (Nat.le_trans hsz hb2.size) (by intro q hq; cases hq; exact Nat.le_refl _)
        go_roundw
        case rel => exact ⟨k + 1, _, _, by go_num, by omega, HST.out.1, hb3⟩
        case measure => simp [intOf]; omega
      · have hkn : k = n := by omega
        have HKN : Hid (k = n) := hkn
        clear hkn
        go_wp2
        go_ret
        have hk := HKN.out
        subst hk
        obtain ⟨xs, hown, hl, hx⟩ := htr
        refine ⟨_, _, A', C', rfl, ⟨.inr ⟨w.heap.size, 0, rfl, (own_lt hown).2, ?_⟩, fun r hr => (hx r hr).2⟩, hbel⟩
        intro r hr
        rw [Nat.zero_add, hown.cellAt r (by omega)]
        exact (hx r hr).1

/-- The members at a round's head: the first k keys are laid. -/
def MTab (base n k : Nat) (N C : Nat → Nat) (A : Nat → Option Addr) (gm : Nat) (wr : World) : Prop :=
  ∃ xs, wr.ownsRow base 53 5 (.slice (some ⟨gm, 0, none⟩) n n) n xs ∧ xs.length = n * 5 ∧ ∀ r, r < k → xs[r * 5]? = some (.slice (A r) (N r) (C r))

theorem MTab.cell {base n k : Nat} {N C : Nat → Nat} {A : Nat → Option Addr} {gm : Nat} {wr : World} (h : MTab base n k N C A gm wr) (hk : k < n) : (∃ v, wr.cell? ⟨gm, k * 5, none⟩ = some v) ∧ wr.frozen? ⟨gm, k * 5, none⟩ = false := by
  obtain ⟨xs, hown, hl, hx⟩ := h
  exact ⟨by rw [hown.cellAt (k * 5) (by omega)]; exact ⟨_, List.getElem?_eq_getElem (by omega)⟩, hown.frozenAt (k * 5)⟩

theorem MTab.step {base n k : Nat} {N C : Nat → Nat} {A : Nat → Option Addr} {gm : Nat} {wr : World} (h : MTab base n k N C A gm wr) (hk : k < n) :
    MTab base n (k + 1) N C A gm (wr.setCell ⟨gm, k * 5, none⟩ (.slice (A k) (N k) (C k))) ∧ wr.grownBy (wr.setCell ⟨gm, k * 5, none⟩ (.slice (A k) (N k) (C k))) (some gm) := by
  obtain ⟨xs, hown, hl, hx⟩ := h
  have hs := hown.stored (k * 5) (.slice (A k) (N k) (C k))
  refine ⟨⟨_, hs.1, by simpa using hl, ?_⟩, hs.2⟩
  intro r hr
  by_cases e : k = r
  · subst e
    rw [List.getElem?_set, if_pos rfl, if_pos (by omega)]
  · rw [List.getElem?_set, if_neg (by omega)]
    exact hx r (by omega)

set_option maxRecDepth 100000 in
set_option maxHeartbeats 2000000 in
theorem objectNode_any (w : World) (a : Option Addr) (n c : Nat) (A : Nat → Option Addr) (N C : Nat → Nat) (hK : KT w a n A N C) (hn : n ≤ 65536) :
    Calls Try.prog 18 #[.slice a n c] w fun e w' => ∃ p po gm, e = .returned (.pointer (some ⟨p, 0, none⟩)) ∧ Obj w' p po gm n A N C ∧ gm < w'.heap.size ∧ Below w.heap.size w w' := by
  have HK : Hid (KT w a n A N C) := hK
  clear hK
  obtain ⟨i53, h53, z53, s53, b53⟩ := info_parts Try.info53
  go_enter Try.func18, Try.ntmps18
  go_wp2_with (at_make; refine wpList_make_full _ rfl _ _ 46 rfl w.heap.size 53 i53 _ 5 Try.underlying46 h53 z53 s53 _ _ _ _ n rfl rfl rfl rfl (by rw [b53]; omega) (by unfold maxLen; omega) (Nat.le_refl _) ?_; intro w1 hown1 hgr1)
  have hbel1 : Below w.heap.size w w1 := (Below.refl _ _).grown hgr1 (Nat.le_refl _) (by intro k hk; cases hk)
  have ht1 : MTab w.heap.size n 0 N C A w.heap.size w1 := ⟨_, hown1, hown1.1, by intro c hc; omega⟩
  clear hown1 hgr1
  go_loopw [4] (fun t wr => ∃ k : Nat, t = .int .i64 k ∧ k ≤ n ∧ MTab w.heap.size n k N C A w.heap.size wr ∧ Below w.heap.size w wr) (fun t _ => n - (intOf t).toNat)
  case atStart => exact ⟨0, rfl, Nat.zero_le _, ht1, hbel1⟩
  case round =>
    obtain ⟨k, rfl, hk, htr, hbel⟩ := hrel
    clear ht1 hbel1
    by_cases hlt : k < n
    · obtain ⟨b, off, ha, hbB, hcell⟩ := HK.out.lie.resolve_left (by omega)
      subst ha
      have hc : wr.cell? ⟨b, off + k, none⟩ = some (.slice (A k) (N k) (C k)) := (hbel.cell (p := ⟨b, off + k, none⟩) (by simp; omega)).trans (hcell k hlt)
      obtain ⟨⟨vd, hd⟩, hf⟩ := htr.cell hlt
      have hst := htr.step hlt
      have HST : Hid (MTab w.heap.size n (k + 1) N C A w.heap.size (wr.setCell ⟨w.heap.size, k * 5, none⟩ (.slice (A k) (N k) (C k))) ∧ wr.grownBy (wr.setCell ⟨w.heap.size, k * 5, none⟩ (.slice (A k) (N k) (C k))) (some w.heap.size)) := hst
      have hsz := hbel.size
      clear hcell hst
      go_wp2
      have hb3 := hbel.grown HST.out.2 hsz (by intro q hq; cases hq; exact Nat.le_refl _)
      go_roundw
      case rel => exact ⟨k + 1, by go_num, by omega, HST.out.1, hb3⟩
      case measure => simp [intOf]; omega
    · have hkn : k = n := by omega
      have HKN : Hid (k = n) := hkn
      clear hkn
      go_wp2
      go_ret
      have hk := HKN.out
      subst hk
      obtain ⟨xs, hown, hl, hx⟩ := htr
      have hgm := (hown.lt w.heap.size rfl).2
      refine ⟨wr.heap.size + 1, wr.heap.size, w.heap.size, rfl, ?_, by simp; omega, (hbel.alloc hbel.size _).alloc (by have := hbel.size; simp; omega) _⟩
      refine ⟨?_, ?_, ?_⟩
      · simp [go_sem]
      · simp [go_sem]
      · intro r hr
        have h1 : wr.cell? ⟨w.heap.size, r * 5, none⟩ = some (.slice (A r) (N r) (C r)) := by rw [hown.cellAt (r * 5) (by omega)]; exact hx r hr
        exact (World.grownBy_alloc _ _ none).cell ((World.grownBy_alloc _ _ none).cell h1 (by simp)) (by simp)

/-- What the bound's answer says. -/
def BytesSaid (n : Nat) (N : Nat → Nat) (w : World) (e : Ending) (w' : World) : Prop := ∃ b : Bool, e = .returned (.bool b) ∧ (b = true → ∀ r, r < n → N r ≤ 1048576) ∧ w = w'

set_option maxRecDepth 100000 in
set_option maxHeartbeats 2000000 in
/-- The law's bound on its arguments' bytes: where it says yes, no key is longer than 1 << 20. -/
theorem keysBytes_any (w : World) (a : Option Addr) (n c : Nat) (x y : Int) (A : Nat → Option Addr) (N C : Nat → Nat) (Z : Nat → List Int) (hK : Keys w a n c A N C Z) (hn : n ≤ 9223372036854775807) :
    Calls Try.prog 16 #[.slice a n c, .int .i64 x, .int .i64 y] w (BytesSaid n N w) := by
  have HK : Hid (Keys w a n c A N C Z) := hK
  clear hK
  by_cases hbig : n ≤ 1048576
  · go_enter Try.func16, Try.ntmps16
    go_wp2_with fail
    go_loop [7, 8] (fun tv cv => ∃ k : Nat, ∃ t : Int, cv = .int .i64 k ∧ tv = .int .i64 t ∧ k ≤ n ∧ Hid (∀ r, r < k → N r ≤ 1048576)) (fun _ cv => n - (intOf cv).toNat)
    case atStart => exact ⟨0, _, rfl, rfl, Nat.zero_le _, by intro r hr; omega⟩
    case round =>
      obtain ⟨k, t, rfl, rfl, hk, HS⟩ := hrel
      by_cases hlt : k < n
      · obtain ⟨b, off, ha, hbB, hcell⟩ := HK.out.lie.resolve_left (by omega)
        subst ha
        have hc := hcell k hlt
        clear hcell
        by_cases hNk : N k ≤ 1048576
        · have HS2 : Hid (∀ r, r < k + 1 → N r ≤ 1048576) := by
            intro r hr
            by_cases e : r = k
            · subst e; exact hNk
            · exact HS.out r (by omega)
          go_wp2_with fail
          · go_ret
            exact ⟨false, rfl, (fun h => by cases h), rfl⟩
          · go_round
            case rel => exact ⟨k + 1, _, by go_num, rfl, by omega, HS2⟩
            case measure => simp [intOf]; omega
        · have hNk' : (1048576 : Int) < (N k : Int) := by omega
          go_wp2_with fail
          go_ret
          exact ⟨false, rfl, (fun h => by cases h), rfl⟩
      · go_wp2_with fail
        go_ret
        exact ⟨true, rfl, fun _ r hr => HS.out r (by omega), rfl⟩
  · have hb : 1048576 < n := by omega
    clear hbig
    go_enter Try.func16, Try.ntmps16
    go_wp2_with fail
    go_ret
    exact ⟨false, rfl, (fun h => by cases h), rfl⟩
end Go.Proofs.Qxb6601304a
