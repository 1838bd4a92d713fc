/-
  What the two laws over whole values share: the arguments as they come in; the text as it is put together.
-/
import Derived.Test.Qxb6600131aBuild
import Derived.Test.Qxb6600131aValueS
namespace Go.Proofs.Qxb6600131a
open Go.RowKit
set_option linter.unusedVariables false

def IsRow (k : IntKind) (w : World) (a : Option Addr) (len cap : Nat) (zs : List Int) : Prop :=
  (a = none ∧ len = 0 ∧ cap = 0 ∧ zs = []) ∨
  ∃ x, a = some x ∧ len ≤ cap ∧ cap ≤ maxLen ∧ zs.length = cap ∧ (∀ i, i < zs.length → w.cell? (x.add i) = some (.int k (zs.getD i 0))) ∧ ∀ n ∈ zs, (Lit.int k n).wf = true

theorem IsRow.rd {w : World} {a : Option Addr} {len cap : Nat} {zs : List Int} (h : IsRow .u8 w a len cap zs) : Rd w.heap.size w a len cap (zs.take len) := by
  rcases h with ⟨rfl, rfl, rfl, rfl⟩ | ⟨x, rfl, hl, hm, hz, hc, hw⟩
  · exact ⟨rfl, by intro z hz; simp at hz, by simp, by simp, .inl rfl⟩
  · refine ⟨by simp; omega, ?_, by simp, hl, ?_⟩
    · intro z hz
      have := bounds_u8 (hw z (List.mem_of_mem_take hz))
      omega
    · by_cases h0 : len = 0
      · exact .inl h0
      · obtain ⟨b, off, spot⟩ := x
        have hs : spot = none := by simpa [Addr.add] using World.cell?_spot (hc 0 (by omega))
        subst hs
        refine .inr ⟨b, off, rfl, ?_, ?_⟩
        · have := hc 0 (by omega)
          exact World.block_lt_of_cell? _ _ this
        · intro i hi
          have := hc i (by omega)
          rw [Addr.add_lit] at this
          rw [this]
          simp [List.getD, hi]

theorem ws_bytes (y : List Int) : Bytes (y.map Plain.ws) := by
  intro z hz
  obtain ⟨b, _, rfl⟩ := List.mem_map.1 hz
  unfold Plain.ws; repeat' split
  all_goals omega
theorem bytes_append {a b : List Int} (ha : Bytes a) (hb : Bytes b) : Bytes (a ++ b) := by
  intro z hz
  simp only [List.mem_append] at hz
  rcases hz with hz | hz
  · exact ha z hz
  · exact hb z hz
theorem ws_all (y : List Int) : ∀ c ∈ y.map Plain.ws, Plain.isWs c = true := by
  intro c hc; obtain ⟨b, _, rfl⟩ := List.mem_map.1 hc; exact Plain.ws_isWs b

/-- The cells of a part of the text. -/
theorem part_cells {w : World} {g n : Nat} {zs pre x tail : List Int} {j m : Nat} (hT : Tx w g n zs) (hz : zs = pre ++ (x ++ tail)) (hj : pre.length = j) (hm : x.length = m) :
    ∀ i, i < m → w.cell? ⟨g, j + i, none⟩ = some (.int .u8 (x.getD i 0)) := by
  intro i hi
  have hl := hT.len
  rw [hz] at hl
  simp only [List.length_append] at hl
  rw [hT.cell (j + i) (by omega)]
  congr 2
  rw [hz, List.getD_eq_getElem?_getD, List.getElem?_append_right (by omega), show j + i - pre.length = i from by omega, List.getElem?_append_left (by omega), List.getD_eq_getElem?_getD]

theorem own_cap {w : World} {base g n c : Nat} {xs : List Value} (h : w.ownsRow base 5 1 (.slice (some ⟨g, 0, none⟩) n c) n xs) : n ≤ c ∧ g < w.heap.size := by
  rcases h.2 with ⟨h1, _⟩ | ⟨g', c', cur, h1, _, hg, hn, _⟩
  · simp at h1
  · simp only [Value.slice.injEq, Option.some.injEq, Addr.mk.injEq, true_and, and_true] at h1
    obtain ⟨rfl, rfl⟩ := h1
    exact ⟨hn, (Array.getElem?_eq_some_iff.1 hg).1⟩

theorem Tx.below {w w' : World} {B g n : Nat} {zs : List Int} (h : Tx w g n zs) (hb : Below B w w') (hg : g < B) : Tx w' g n zs :=
  ⟨h.len, h.bytes, fun i hi => (hb.cell (p := ⟨g, i, none⟩) hg).trans (h.cell i hi)⟩
theorem val_ne {x : List Int} (h : Plain.Val x) : 0 < x.length := by
  obtain ⟨c, r, rfl, _⟩ := h.head; simp
theorem head_of {x : List Int} (h : Plain.Val x) (tail : List Int) : ∀ c r, x ++ tail = c :: r → Plain.isWs c = false := by
  obtain ⟨c, r, rfl, hc⟩ := h.head
  intro c' r' e
  simp only [List.cons_append, List.cons.injEq] at e
  rw [← e.1]; exact hc
end Go.Proofs.Qxb6600131a
