/-
  Shared predicates on memory for the seat's walks: a slice of integers that is only read; the clone that a law makes of it.
-/
import Derived.Test.Qxb6601304aRows
import Derived.WalkKit
import Derived.ProofKit
import Derived.OpenShut
import Derived.ShutString
import Derived.ChangeOld
import Derived.Below
import Derived.WalkSpells
namespace Go.Proofs.Qxb6601304a
open Go.RowKit
set_option linter.unusedVariables false

theorem Try.info5 : (Try.prog.info? 5).map (fun i => (i.zero, i.size, i.bytes)) = some (some (.int .u8 0), 1, 1) := by kernel_rfl
theorem Try.info3 : (Try.prog.info? 3).map (fun i => (i.zero, i.size, i.bytes)) = some (some (.int .i64 0), 1, 8) := by kernel_rfl

/-- Numbers as cells. -/
def cells (k : IntKind) (zs : List Int) : List Value := zs.map (Value.int k)
theorem cells_length (k : IntKind) (zs : List Int) : (cells k zs).length = zs.length := by simp [cells]

/-- A slice of integers that lies below block B, its elements the numbers zs. -/
structure Rd (k : IntKind) (B : Nat) (w : World) (a : Option Addr) (n c : Nat) (zs : List Int) : Prop where
  len : zs.length = n
  none : a = Option.none → n = 0 ∧ c = 0
  cap : n ≤ c
  lie : n = 0 ∨ ∃ b off, a = some ⟨b, off, Option.none⟩ ∧ b < B ∧ ∀ i, i < n → w.cell? ⟨b, off + i, Option.none⟩ = some (.int k (zs.getD i 0))

/-- What the walk is told of a slice of integers that came in. -/
def IsRow (k : IntKind) (w : World) (a : Option Addr) (len cap : Nat) (zs : List Int) : Prop :=
  (a = none ∧ len = 0 ∧ cap = 0 ∧ zs = []) ∨
  ∃ x, a = some x ∧ len ≤ cap ∧ cap ≤ maxLen ∧ zs.length = cap ∧ (∀ i, i < zs.length → w.cell? (x.add i) = some (.int k (zs.getD i 0))) ∧ ∀ n ∈ zs, (Lit.int k n).wf = true

theorem IsRow.rd {k : IntKind} {w : World} {a : Option Addr} {len cap : Nat} {zs : List Int} (h : IsRow k w a len cap zs) : Rd k w.heap.size w a len cap (zs.take len) := by
  rcases h with ⟨rfl, rfl, rfl, rfl⟩ | ⟨x, rfl, hl, hm, hz, hc, hw⟩
  · exact ⟨rfl, by simp, by simp, .inl rfl⟩
  · refine ⟨by simp; omega, by simp, hl, ?_⟩
    by_cases h0 : len = 0
    · exact .inl h0
    · obtain ⟨b, off, spot⟩ := x
      have hs : spot = none := by simpa [Addr.add] using World.cell?_spot (hc 0 (by omega))
      subst hs
      refine .inr ⟨b, off, rfl, ?_, ?_⟩
      · have := hc 0 (by omega)
        exact World.block_lt_of_cell? _ _ this
      · intro i hi
        have := hc i (by omega)
        rw [Addr.add_lit] at this
        rw [this]
        simp [List.getD, hi]
theorem IsRow.wf {k : IntKind} {w : World} {a : Option Addr} {len cap : Nat} {zs : List Int} (h : IsRow k w a len cap zs) : ∀ n ∈ zs.take len, (Lit.int k n).wf = true := by
  rcases h with ⟨rfl, rfl, rfl, rfl⟩ | ⟨x, rfl, hl, hm, hz, hc, hw⟩
  · intro n hn; simp at hn
  · intro n hn; exact hw n (List.mem_of_mem_take hn)
theorem IsRow.max {k : IntKind} {w : World} {a : Option Addr} {len cap : Nat} {zs : List Int} (h : IsRow k w a len cap zs) : len ≤ maxLen := by
  rcases h with ⟨rfl, rfl, rfl, rfl⟩ | ⟨x, rfl, hl, hm, hz, hc, hw⟩
  · unfold maxLen; omega
  · omega

/-- Every number is a byte. -/
def Bytes (zs : List Int) : Prop := ∀ z ∈ zs, 0 ≤ z ∧ z ≤ 255
theorem Bytes.at {zs : List Int} (h : Bytes zs) (i : Nat) : 0 ≤ zs.getD i 0 ∧ zs.getD i 0 ≤ 255 := by
  by_cases hi : i < zs.length
  · rw [List.getD_eq_getElem?_getD, List.getElem?_eq_getElem hi]; exact h _ (List.getElem_mem hi)
  · rw [List.getD_eq_getElem?_getD, List.getElem?_eq_none (by omega)]; simp
theorem IsRow.bytes {w : World} {a : Option Addr} {len cap : Nat} {zs : List Int} (h : IsRow .u8 w a len cap zs) : Bytes (zs.take len) := fun z hz => bounds_u8 (h.wf z hz)

/-- The numbers zs lie in block g from place o on. -/
structure Tx (k : IntKind) (w : World) (g o n : Nat) (zs : List Int) : Prop where
  len : zs.length = n
  cell : ∀ i, i < n → w.cell? ⟨g, o + i, none⟩ = some (.int k (zs.getD i 0))

theorem Tx.below {k : IntKind} {w w' : World} {B g o n : Nat} {zs : List Int} (h : Tx k w g o n zs) (hb : Below B w w') (hg : g < B) : Tx k w' g o n zs :=
  ⟨h.len, fun i hi => (hb.cell (p := ⟨g, o + i, none⟩) hg).trans (h.cell i hi)⟩

/-- 'make([]T, n)' of integers. -/
theorem replicate_step {k : IntKind} {zs : List Int} {j n : Nat} (hn : zs.length = n) (hj : j < n) :
    (cells k (zs.take j ++ List.replicate (n - j) 0)).set j (.int k (zs.getD j 0)) = cells k (zs.take (j + 1) ++ List.replicate (n - (j + 1)) 0) := by
  unfold cells
  rw [← List.map_set]
  congr 1
  have ht : (zs.take j).length = j := by simp; omega
  rw [List.set_append_right _ _ (by omega), ht, Nat.sub_self, show n - j = (n - (j + 1)) + 1 from by omega, List.replicate_succ, List.set_cons_zero]
  rw [List.take_succ_eq_append_getElem (by omega), List.append_assoc]
  congr 1
  rw [List.getD_eq_getElem?_getD, List.getElem?_eq_getElem (by omega)]; rfl

theorem Tx.ofOwn {k : IntKind} {w : World} {base e g n c : Nat} {zs : List Int} (hl : zs.length = n) (h : w.ownsRow base e 1 (.slice (some ⟨g, 0, none⟩) n c) n (cells k zs)) : Tx k w g 0 n zs := by
  refine ⟨hl, fun i hi => ?_⟩
  rw [Nat.zero_add, h.cellAt i (by omega)]
  unfold cells
  rw [List.getElem?_map, List.getElem?_eq_getElem (by omega)]
  simp [List.getD, show i < zs.length by omega]

theorem own_lt {w : World} {base e g n c : Nat} {xs : List Value} (h : w.ownsRow base e 1 (.slice (some ⟨g, 0, none⟩) n c) n xs) : base ≤ g ∧ g < w.heap.size := h.lt g rfl

theorem wpList_make_ints {w : World} {ops : Array Oper} {rest : List Oper} {o : Oper} {a : Act} {Q : Exit → Act → World → Prop} (hgd : o.guard = none) (l c : Operand) (t e : TypeId) (k : IntKind) (bytes : Nat) (ho : o.op = Op.makeSlice t l c)
    (hu : Try.prog.underlying t = some (.slice e)) (hinf : (Try.prog.info? e).map (fun i => (i.zero, i.size, i.bytes)) = some (some (.int k 0), 1, bytes)) (hby : bytes ≤ 8)
    (kl kc : IntKind) (L C : Int) (n : Nat) (hl : a.eval l = .int kl L) (hc : a.eval c = .int kc C) (hL : L = (n : Int)) (hC : C = (n : Int)) (hn : n ≤ 1000000000000)
    (h : ∀ w', w'.ownsRow w.heap.size e 1 (.slice (some ⟨w.heap.size, 0, none⟩) n n) n (cells k (List.replicate n 0)) → Below w.heap.size w w' → wpList Try.prog ops Q rest (a.put o.dst (.slice (some ⟨w.heap.size, 0, none⟩) n n)) w') : wpList Try.prog ops Q (o :: rest) a w := by
  obtain ⟨i0, hi, hz0, hz1, hz2⟩ := info_parts hinf
  refine wpList_make_full w hgd l c t ho w.heap.size e i0 (.int k 0) 1 hu hi hz0 hz1 kl kc L C n hl hc hL hC (by rw [hz2]; have := Nat.mul_le_mul_right n hby; omega) (by unfold maxLen; omega) (Nat.le_refl _) ?_
  intro w' h1 h2
  refine h w' ?_ ((Below.refl _ _).grown h2 (Nat.le_refl _) (by intro k hk; cases hk))
  have e : (madeCells (Value.int k 0).cells (n * 1)).toList = cells k (List.replicate n 0) := by
    rw [Nat.mul_one]; unfold cells; rw [List.map_replicate]; exact toList_madeCells_one _ _
  rw [e] at h1
  exact h1

set_option maxHeartbeats 1000000 in
/-- cloneBytes at a slice that is not nil. -/
theorem cloneBytes_any (w : World) (B : Nat) (x : Addr) (n c : Nat) (zs : List Int) (hR : Rd .u8 B w (some x) n c zs) (hB : B ≤ w.heap.size) (hn : n ≤ 1000000000) :
    Calls Try.prog 9 #[.slice (some x) n c] w fun e w' => ∃ g, e = .returned (.slice (some ⟨g, 0, none⟩) n n) ∧ w.heap.size ≤ g ∧ g < w'.heap.size ∧ Tx .u8 w' g 0 n zs ∧ Below w.heap.size w w' := by
  have q22 : ∀ (w : World) (a : Option Addr) (n c n' c' : Nat), (binOp .eql 22 (.slice a n c) (.slice none n' c')).run Try.prog w = .ok (.bool a.isNone) w := fun w a n c n' c' => Lib.run_eql_slice_nil w _ _ a n c n' c' Try.underlying22
  have hzl := hR.len
  have hlie : n = 0 ∨ ∃ b off, some x = some (⟨b, off, none⟩ : Addr) ∧ b < B ∧ ∀ i, i < n → w.cell? ⟨b, off + i, none⟩ = some (.int .u8 (zs.getD i 0)) := hR.lie
  clear hR
  go_enter Try.func9, Try.ntmps9
  go_wp2_with (at_make; refine wpList_make_ints rfl _ _ 22 5 .u8 1 rfl Try.underlying22 Try.info5 (by decide) _ _ _ _ n rfl rfl rfl rfl (by omega) ?_; intro w1 hown1 hbel1)
  go_loopw [4] (fun t wr => ∃ k : Nat, t = .int .i64 k ∧ k ≤ n ∧ wr.ownsRow w.heap.size 5 1 (.slice (some ⟨w.heap.size, 0, none⟩) n n) n (cells .u8 (zs.take k ++ List.replicate (n - k) 0)) ∧ Below w.heap.size w wr) (fun t _ => n - (intOf t).toNat)
  case atStart => exact ⟨0, rfl, Nat.zero_le _, by simpa using hown1, hbel1⟩
  case round =>
    obtain ⟨k, rfl, hk, hown, hbel⟩ := hrel
    clear hown1 hbel1
    by_cases hlt : k < n
    · obtain ⟨b, off, hx, hbB, hcell⟩ := hlie.resolve_left (by omega)
      obtain ⟨z, hz⟩ : ∃ z, z = zs.getD k 0 := ⟨_, rfl⟩
      have hc : wr.cell? ⟨b, off + k, none⟩ = some (.int .u8 z) := by rw [hz]; exact (hbel.cell (p := ⟨b, off + k, none⟩) (by simp; omega)).trans (hcell k hlt)
      have hd : ∃ v, wr.cell? ⟨w.heap.size, k, none⟩ = some v := by rw [hown.cellAt k (by omega)]; exact ⟨_, List.getElem?_eq_getElem (by rw [cells_length]; simp; omega)⟩
      obtain ⟨vd, hd⟩ := hd
      have hf := hown.frozenAt k
      have HZ : Hid (z = zs.getD k 0) := hz
      clear hz hcell hlie
      obtain rfl := Option.some.inj hx
      clear hx
      go_wp2
      have hst := hown.stored k (.int .u8 z)
      rw [HZ.out, replicate_step hzl hlt] at hst
      go_roundw
      case rel => exact ⟨k + 1, by go_num, by omega, by rw [HZ.out]; exact hst.1, by rw [HZ.out]; exact hbel.grown hst.2 hbel.size (by intro q hq; cases hq; exact Nat.le_refl _)⟩
      case measure => simp [intOf]; omega
    · clear hlie
      go_wp2
      go_ret
      have hkn : k = n := by omega
      subst hkn
      rw [List.take_of_length_le (by omega), Nat.sub_self, List.replicate_zero, List.append_nil] at hown
      exact ⟨w.heap.size, rfl, Nat.le_refl _, (own_lt hown).2, Tx.ofOwn hzl hown, hbel⟩

end Go.Proofs.Qxb6601304a
