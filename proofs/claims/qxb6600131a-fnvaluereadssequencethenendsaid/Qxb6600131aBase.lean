/-
  Shared predicates on memory for the seat's walks: a slice of bytes that is only read, a slice that the call itself builds, the splitter's own block.
-/
import Derived.Test.Qxb6600131aRows
import Derived.WalkKit
import Derived.ProofKit
import Derived.OpenShut
import Derived.ShutString
import Derived.ChangeOld
import Derived.Below
import Derived.Laws.AppendOwnNone
namespace Go.Proofs.Qxb6600131a
open Go.RowKit
set_option linter.unusedVariables false

theorem Try.info5 : (Try.prog.info? 5).map (fun i => (i.zero, i.size, i.bytes)) = some (some (.int .u8 0), 1, 1) := by kernel_rfl

/-- Numbers as cells of bytes. -/
def cells (zs : List Int) : List Value := zs.map (Value.int .u8)
theorem cells_length (zs : List Int) : (cells zs).length = zs.length := by simp [cells]
theorem cells_append (a b : List Int) : cells (a ++ b) = cells a ++ cells b := by simp [cells]
theorem cells_get {zs : List Int} {j : Nat} {u : Value} (h : (cells zs)[j]? = some u) : j < zs.length ∧ u = .int .u8 (zs.getD j 0) := by
  unfold cells at h
  rw [List.getElem?_map] at h
  cases hz : zs[j]? with
  | none => simp [hz] at h
  | some z =>
    have := (List.getElem?_eq_some_iff.1 hz).1
    simp [hz] at h
    exact ⟨this, by simp [List.getD, hz, h]⟩
theorem cells_one (zs : List Int) : ∀ u ∈ cells zs, u.oneCell' = true := ints_oneCell .u8 zs

/-- Every number is a byte. -/
def Bytes (zs : List Int) : Prop := ∀ z ∈ zs, 0 ≤ z ∧ z ≤ 255
theorem Bytes.at {zs : List Int} (h : Bytes zs) (i : Nat) : 0 ≤ zs.getD i 0 ∧ zs.getD i 0 ≤ 255 := by
  by_cases hi : i < zs.length
  · rw [List.getD_eq_getElem?_getD, List.getElem?_eq_getElem hi]; exact h _ (List.getElem_mem hi)
  · rw [List.getD_eq_getElem?_getD, List.getElem?_eq_none (by omega)]; simp

/-- A slice of bytes that lies below block B, its elements the numbers zs. -/
structure Rd (B : Nat) (w : World) (a : Option Addr) (n c : Nat) (zs : List Int) : Prop where
  len : zs.length = n
  bytes : Bytes zs
  none : a = Option.none → n = 0 ∧ c = 0
  cap : n ≤ c
  lie : n = 0 ∨ ∃ b off, a = some ⟨b, off, Option.none⟩ ∧ b < B ∧ ∀ i, i < n → w.cell? ⟨b, off + i, Option.none⟩ = some (.int .u8 (zs.getD i 0))

theorem Rd.below {B B' : Nat} {w w' : World} {a : Option Addr} {len cap : Nat} {zs : List Int} (h : Rd B w a len cap zs) (hb : Below B' w w') (hB : B ≤ B') : Rd B w' a len cap zs := by
  refine ⟨h.len, h.bytes, h.none, h.cap, ?_⟩
  rcases h.lie with h0 | ⟨b, off, ha, hlt, hc⟩
  · exact .inl h0
  · exact .inr ⟨b, off, ha, hlt, fun i hi => (hb.cell (p := ⟨b, off + i, Option.none⟩) (by simp; omega)).trans (hc i hi)⟩

theorem Rd.mono {B B' : Nat} {w : World} {a : Option Addr} {len cap : Nat} {zs : List Int} (h : Rd B w a len cap zs) (hB : B ≤ B') : Rd B' w a len cap zs := by
  refine ⟨h.len, h.bytes, h.none, h.cap, ?_⟩
  rcases h.lie with h0 | ⟨b, off, ha, hlt, hc⟩
  · exact .inl h0
  · exact .inr ⟨b, off, ha, by omega, hc⟩

/-- What the append laws ask of a source. -/
theorem Rd.src {B : Nat} {w : World} {a : Option Addr} {len cap : Nat} {zs : List Int} (h : Rd B w a len cap zs) : ∀ ad, a = some ad → ∀ j u, (cells zs)[j]? = some u → w.cell? (ad.add j) = some u := by
  intro ad had j u hu
  obtain ⟨hj, rfl⟩ := cells_get hu
  rw [h.len] at hj
  rcases h.lie with h0 | ⟨b, off, ha, hlt, hc⟩
  · omega
  · rw [ha] at had
    obtain rfl := Option.some.inj had
    rw [Addr.add_lit]; exact hc j hj

/-- A slice that the call itself built is one that can be read. -/
theorem Rd.ofOwn {B : Nat} {w : World} {base : Nat} {a : Option Addr} {len cap n : Nat} {zs : List Int} (h : w.ownsRow base 5 1 (.slice a len cap) n (cells zs)) (hb : Bytes zs) (hB : w.heap.size ≤ B) : Rd B w a len cap zs := by
  obtain ⟨h1, h2⟩ := h
  rw [cells_length] at h1
  rcases h2 with ⟨hv, rfl⟩ | ⟨g, c, cur, hv, hb1, hg, hn, hm, hs, ht⟩
  · simp at hv
    obtain ⟨rfl, rfl, rfl⟩ := hv
    exact ⟨by omega, hb, by simp, by simp, .inl rfl⟩
  · simp at hv
    obtain ⟨rfl, rfl, rfl⟩ := hv
    refine ⟨by omega, hb, by simp, hn, .inr ⟨g, 0, rfl, ?_, ?_⟩⟩
    · have := (Array.getElem?_eq_some_iff.1 hg).1; omega
    · intro i hi
      have := World.ownsRow.cells (w := w) (base := base) (e := 5) (size := 1) (v := .slice (some ⟨g, 0, Option.none⟩) len cap) (n := len) (xs := cells zs) ⟨by rw [cells_length]; omega, .inr ⟨g, cap, cur, rfl, hb1, hg, hn, hm, hs, ht⟩⟩ (g := g) rfl i (.int .u8 (zs.getD i 0)) (by
        unfold cells
        rw [List.getElem?_map, List.getElem?_eq_getElem (by omega)]
        simp [List.getD, show i < zs.length by omega])
      rwa [Addr.add_lit] at this

/-- 'append(v, src...)', v the call's own, src whatever can be read. -/
theorem wpList_append_rd {w : World} {ops : Array Oper} {rest : List Oper} {o : Oper} {a : Act} {Q : Exit → Act → World → Prop} (hgd : o.guard = none) (s x : Operand)
    (ho : o.op = .call { callee := .builtin .append, args := #[s, x], argTypes := #[22, 22] })
    (base : Nat) (v : Value) (n : Nat) (ys : List Int) (hs : a.eval s = v) (hown : w.ownsRow base 5 1 v n (cells ys))
    (B : Nat) (ad : Option Addr) (m c : Nat) (zs : List Int) (hx : a.eval x = .slice ad m c) (hr : Rd B w ad m c zs)
    (hbd : n + m ≤ 140737488355328) (hbase : base ≤ w.heap.size)
    (h : ∀ v' w', w'.ownsRow base 5 1 v' (n + m) (cells (ys ++ zs)) → Below base w w' → (v ≠ .slice none 0 0 → v' ≠ .slice none 0 0) → wpList Try.prog ops Q rest (a.put o.dst v') w') : wpList Try.prog ops Q (o :: rest) a w := by
  obtain ⟨i0, hi, hz0, hz1, hz2⟩ := info_parts Try.info5
  cases ad with
  | none =>
    obtain ⟨rfl, rfl⟩ := hr.none rfl
    have hz : zs = [] := List.eq_nil_of_length_eq_zero hr.len
    subst hz
    exact wpList_append_own_none hgd s x 22 ho base 5 i0 1 Try.underlying22 hi v n (cells ys) hs hown hx (h v w (by simpa using hown) (Below.refl _ _) id)
  | some ad =>
    refine wpList_append_own w hgd s x 22 ho base 5 i0 (.int .u8 0) 1 1 Try.underlying22 hi hz0 hz1 hz2 rfl (by decide) v n (cells ys) hs hown ad m c (cells zs) hx (by rw [cells_length, hr.len]; omega) (hr.src ad rfl) (cells_one zs) (by unfold maxLen; omega) (by omega) hbase ?_
    intro v' w' h1 h2 h3
    exact h v' w' (by rw [cells_append]; exact h1) ((Below.refl _ _).grown h2 hbase (fun k hk => (hown.lt k hk).1)) (fun hv e => hv (h3.1 e).1)

/-- 'append(v, x)': the one element lies in a block of its own, just laid. -/
theorem wpList_append_one {w : World} {ops : Array Oper} {rest : List Oper} {o : Oper} {a : Act} {Q : Exit → Act → World → Prop} (hgd : o.guard = none) (s x : Operand)
    (ho : o.op = .call { callee := .builtin .append, args := #[s, x], argTypes := #[22, 22] })
    (base : Nat) (v : Value) (n : Nat) (ys : List Int) (hs : a.eval s = v) (hown : w.ownsRow base 5 1 v n (cells ys))
    (z : Int) (c : Nat) (hx : a.eval x = .slice (some ⟨w.heap.size, 0, none⟩) 1 c)
    (hbd : n + 1 ≤ 140737488355328) (hbase : base ≤ w.heap.size)
    (h : ∀ v' w', w'.ownsRow base 5 1 v' (n + 1) (cells (ys ++ [z])) → Below base w w' → v' ≠ .slice none 0 0 → wpList Try.prog ops Q rest (a.put o.dst v') w') : wpList Try.prog ops Q (o :: rest) a (w.alloc (.cells #[.int .u8 z] 5)) := by
  obtain ⟨i0, hi, hz0, hz1, hz2⟩ := info_parts Try.info5
  refine wpList_append_own _ hgd s x 22 ho base 5 i0 (.int .u8 0) 1 1 Try.underlying22 hi hz0 hz1 hz2 rfl (by decide) v n (cells ys) hs (hown.alloc _) ⟨w.heap.size, 0, none⟩ 1 c (cells [z]) hx (by simp [cells]) ?_ (cells_one [z]) (by unfold maxLen; omega) (by omega) (by simp; omega) ?_
  · intro j u hu
    obtain ⟨hj, rfl⟩ := cells_get hu
    simp at hj
    subst hj
    simp [Addr.add]
  · intro v' w' h1 h2 h3
    refine h v' w' (by rw [cells_append]; exact h1) (((Below.refl _ _).alloc hbase _).grown h2 (by simp; omega) (fun k hk => (hown.lt k hk).1)) ?_
    intro e
    have := (h3.1 e).2
    omega

/-- A slice of the call's own that is not nil: its shape. -/
theorem own_some {w : World} {base n : Nat} {v : Value} {xs : List Value} (h : w.ownsRow base 5 1 v n xs) (hv : v ≠ .slice none 0 0) : ∃ g c, v = .slice (some ⟨g, 0, none⟩) n c ∧ base ≤ g ∧ g < w.heap.size := by
  rcases h.2 with ⟨h1, _⟩ | ⟨g, c, cur, rfl, hb, hg, _⟩
  · exact absurd h1 hv
  · exact ⟨g, c, rfl, hb, (Array.getElem?_eq_some_iff.1 hg).1⟩

/-- 'make([]byte, 0, n)'. -/
theorem wpList_make_bytes {w : World} {ops : Array Oper} {rest : List Oper} {o : Oper} {a : Act} {Q : Exit → Act → World → Prop} (hgd : o.guard = none) (l c : Operand) (ho : o.op = Op.makeSlice 22 l c)
    (kl kc : IntKind) (C : Int) (n : Nat) (hl : a.eval l = .int kl 0) (hc : a.eval c = .int kc C) (hC : C = (n : Int)) (hn : n ≤ 140737488355328)
    (h : ∀ w', w'.ownsRow w.heap.size 5 1 (.slice (some ⟨w.heap.size, 0, none⟩) 0 n) 0 (cells []) → Below w.heap.size w w' → wpList Try.prog ops Q rest (a.put o.dst (.slice (some ⟨w.heap.size, 0, none⟩) 0 n)) w') : wpList Try.prog ops Q (o :: rest) a w := by
  obtain ⟨i0, hi, hz0, hz1, hz2⟩ := info_parts Try.info5
  refine wpList_make_own w hgd l c 22 ho w.heap.size 5 i0 (.int .u8 0) 1 Try.underlying22 hi hz0 hz1 kl kc C n hl hc hC (by rw [hz2]; omega) (by unfold maxLen; omega) (Nat.le_refl _) ?_
  intro w' h1 h2
  exact h w' h1 ((Below.refl _ _).grown h2 (Nat.le_refl _) (by intro k hk; cases hk))

/-- The same two laws on append where the slice that is appended to is not nil: the result's shape is told. -/
theorem wpList_append_rd' {w : World} {ops : Array Oper} {rest : List Oper} {o : Oper} {a : Act} {Q : Exit → Act → World → Prop} (hgd : o.guard = none) (s x : Operand)
    (ho : o.op = .call { callee := .builtin .append, args := #[s, x], argTypes := #[22, 22] })
    (base : Nat) (g0 c0 : Nat) (n : Nat) (ys : List Int) (hs : a.eval s = .slice (some ⟨g0, 0, none⟩) n c0) (hown : w.ownsRow base 5 1 (.slice (some ⟨g0, 0, none⟩) n c0) n (cells ys))
    (B : Nat) (ad : Option Addr) (m c : Nat) (zs : List Int) (hx : a.eval x = .slice ad m c) (hr : Rd B w ad m c zs)
    (hbd : n + m ≤ 140737488355328) (hbase : base ≤ w.heap.size)
    (h : ∀ g c' w', w'.ownsRow base 5 1 (.slice (some ⟨g, 0, none⟩) (n + m) c') (n + m) (cells (ys ++ zs)) → Below base w w' → wpList Try.prog ops Q rest (a.put o.dst (.slice (some ⟨g, 0, none⟩) (n + m) c')) w') : wpList Try.prog ops Q (o :: rest) a w := by
  refine wpList_append_rd hgd s x ho base _ n ys hs hown B ad m c zs hx hr hbd hbase ?_
  intro v' w' h1 h2 h3
  obtain ⟨g, c', rfl, _⟩ := own_some h1 (h3 (by simp))
  exact h g c' w' h1 h2

theorem wpList_append_one' {w : World} {ops : Array Oper} {rest : List Oper} {o : Oper} {a : Act} {Q : Exit → Act → World → Prop} (hgd : o.guard = none) (s x : Operand)
    (ho : o.op = .call { callee := .builtin .append, args := #[s, x], argTypes := #[22, 22] })
    (base : Nat) (v : Value) (n : Nat) (ys : List Int) (hs : a.eval s = v) (hown : w.ownsRow base 5 1 v n (cells ys))
    (z : Int) (c : Nat) (hx : a.eval x = .slice (some ⟨w.heap.size, 0, none⟩) 1 c)
    (hbd : n + 1 ≤ 140737488355328) (hbase : base ≤ w.heap.size)
    (h : ∀ g c' w', w'.ownsRow base 5 1 (.slice (some ⟨g, 0, none⟩) (n + 1) c') (n + 1) (cells (ys ++ [z])) → Below base w w' → wpList Try.prog ops Q rest (a.put o.dst (.slice (some ⟨g, 0, none⟩) (n + 1) c')) w') : wpList Try.prog ops Q (o :: rest) a (w.alloc (.cells #[.int .u8 z] 5)) := by
  refine wpList_append_one hgd s x ho base v n ys hs hown z c hx hbd hbase ?_
  intro v' w' h1 h2 h3
  obtain ⟨g, c', rfl, _⟩ := own_some h1 h3
  exact h g c' w' h1 h2

/-- The splitter's own block: its text and its offset. -/
def Spl (w : World) (p : Nat) (v : Value) (i : Int) : Prop := w.heap[p]? = some (.cells #[v, .int .i64 i] 42 (0, 0))
theorem Spl.text {w : World} {p : Nat} {v : Value} {i : Int} (h : Spl w p v i) : w.cell? ⟨p, 0, none⟩ = some v := by unfold Spl at h; simp [World.cell?, h]
theorem Spl.off {w : World} {p : Nat} {v : Value} {i : Int} (h : Spl w p v i) : w.cell? ⟨p, 1, none⟩ = some (.int .i64 i) := by unfold Spl at h; simp [World.cell?, h]
theorem Spl.free {w : World} {p : Nat} {v : Value} {i : Int} (h : Spl w p v i) : w.frozen? ⟨p, 1, none⟩ = false := by unfold Spl at h; simp [World.frozen?, h]
theorem Spl.lt {w : World} {p : Nat} {v : Value} {i : Int} (h : Spl w p v i) : p < w.heap.size := lt_of_block h
theorem Spl.set {w : World} {p : Nat} {v : Value} {i : Int} (h : Spl w p v i) (j : Int) : Spl (w.setCell ⟨p, 1, none⟩ (.int .i64 j)) p v j := by
  unfold Spl at h ⊢
  simp [World.setCell, Array.getElem?_modify, h]
theorem grown_set {w w' : World} {p : Nat} (h : w.grownBy w' (some p)) (o : Nat) (u : Value) : w.grownBy (w'.setCell ⟨p, o, none⟩ u) (some p) :=
  ⟨h.os, h.tape, h.output, Nat.le_trans h.size (by simp [World.setCell]), fun k hk hne => (Below.heap_setCell _ _ _ _ (by intro e; exact hne (by rw [e]))).trans (h.block k hk hne)⟩
theorem Spl.keep {w w' : World} {p : Nat} {v : Value} {i : Int} (h : Spl w p v i) {row : Option Nat} (hg : w.grownBy w' row) (hne : row ≠ some p) : Spl w' p v i := by
  unfold Spl at h ⊢
  rw [hg.block p (lt_of_block h) (fun e => hne e.symm)]; exact h
theorem grown_trans {w w1 w2 : World} {row : Option Nat} (h : w.grownBy w1 row) (k : w1.grownBy w2 row) : w.grownBy w2 row :=
  ⟨k.os.trans h.os, k.tape.trans h.tape, k.output.trans h.output, Nat.le_trans h.size k.size, fun i hi hne => (k.block i (Nat.lt_of_lt_of_le hi h.size) hne).trans (h.block i hi hne)⟩
theorem below_of_grown {B : Nat} {w w' : World} {row : Option Nat} (h : w.grownBy w' row) (hB : B ≤ w.heap.size) (hr : ∀ k, row = some k → B ≤ k) : Below B w w' := (Below.refl B w).grown h hB hr
theorem Rd.grown {B : Nat} {w w' : World} {a : Option Addr} {len cap : Nat} {zs : List Int} (h : Rd B w a len cap zs) {p : Nat} (hg : w.grownBy w' (some p)) (hB : B ≤ w.heap.size) (hp : B ≤ p) : Rd B w' a len cap zs :=
  h.below (below_of_grown hg hB (by intro k hk; cases hk; exact hp)) (Nat.le_refl _)

end Go.Proofs.Qxb6600131a
