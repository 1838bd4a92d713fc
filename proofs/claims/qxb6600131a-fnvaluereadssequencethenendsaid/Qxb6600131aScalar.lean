/-
  The walks of zzScalar and zzString.
-/
import Derived.Test.Qxb6600131aBase
import Derived.Test.Qxb6600131aPlainV
namespace Go.Proofs.Qxb6600131a
open Go.RowKit
set_option linter.unusedVariables false

/-- 'append(v, x, y, ..)': the elements lie in a block of their own, just laid. -/
theorem wpList_append_lits {w : World} {ops : Array Oper} {rest : List Oper} {o : Oper} {a : Act} {Q : Exit → Act → World → Prop} (hgd : o.guard = none) (s x : Operand)
    (ho : o.op = .call { callee := .builtin .append, args := #[s, x], argTypes := #[22, 22] })
    (base : Nat) (v : Value) (n : Nat) (ys : List Int) (hs : a.eval s = v) (hown : w.ownsRow base 5 1 v n (cells ys))
    (zs : List Int) (m c : Nat) (hx : a.eval x = .slice (some ⟨w.heap.size, 0, none⟩) m c) (hm : zs.length = m) (hm0 : 0 < m)
    (hbd : n + m ≤ 140737488355328) (hbase : base ≤ w.heap.size) (arr : Array Value) (harr : arr = (cells zs).toArray)
    (h : ∀ g c' w', w'.ownsRow base 5 1 (.slice (some ⟨g, 0, none⟩) (n + m) c') (n + m) (cells (ys ++ zs)) → Below base w w' → wpList Try.prog ops Q rest (a.put o.dst (.slice (some ⟨g, 0, none⟩) (n + m) c')) w') : wpList Try.prog ops Q (o :: rest) a (w.alloc (.cells arr 5)) := by
  obtain ⟨i0, hi, hz0, hz1, hz2⟩ := info_parts Try.info5
  subst harr
  refine wpList_append_own _ hgd s x 22 ho base 5 i0 (.int .u8 0) 1 1 Try.underlying22 hi hz0 hz1 hz2 rfl (by decide) v n (cells ys) hs (hown.alloc _) ⟨w.heap.size, 0, none⟩ m c (cells zs) hx (by rw [cells_length]; omega) ?_ (cells_one zs) (by unfold maxLen; omega) (by omega) (by simp; omega) ?_
  · intro j u hu
    rw [Addr.add_lit, Nat.zero_add]
    have := cell_of_row (w.alloc (.cells (cells zs).toArray 5)) w.heap.size j (cells zs).toArray 5 (0, 0) (heap_alloc_new w _)
    rw [this]; simpa using hu
  · intro v' w' h1 h2 h3
    have hv : v' ≠ .slice none 0 0 := fun e => by have := (h3.1 e).2; omega
    rw [← cells_append] at h1
    obtain ⟨g, c', rfl, _⟩ := own_some h1 hv
    exact h g c' w' h1 (((Below.refl _ _).alloc hbase _).grown h2 (by simp; omega) (fun k hk => (hown.lt k hk).1))

set_option maxHeartbeats 2000000 in
theorem scalar_any (w : World) (base : Nat) (v0 : Value) (n : Nat) (ys : List Int) (b : Int) (h0 : 0 ≤ b) (h255 : b ≤ 255)
    (hown : w.ownsRow base 5 1 v0 n (cells ys)) (hbase : base ≤ w.heap.size) (hbd : n ≤ 1000000000000) :
    Calls Try.prog 35 #[.int .u8 b, v0] w fun e w' => ∃ g c x, e = .returned (.slice (some ⟨g, 0, none⟩) (n + x.length) c) ∧ w'.ownsRow base 5 1 (.slice (some ⟨g, 0, none⟩) (n + x.length) c) (n + x.length) (cells (ys ++ x)) ∧ Below base w w' ∧ x ≠ [] ∧ x.length ≤ 8 ∧ ∀ z ∈ x, Plain.bare z = true ∧ 0 ≤ z ∧ z ≤ 255 := by
  rcases (show b % 8 = 0 ∨ b % 8 = 1 ∨ b % 8 = 2 ∨ b % 8 = 3 ∨ b % 8 = 4 ∨ b % 8 = 5 ∨ b % 8 = 6 ∨ b % 8 = 7 from by omega) with h | h | h | h | h | h | h | h
  · go_enter Try.func35, Try.ntmps35
    go_wp2_with (at_builtin; refine wpList_append_lits rfl _ _ rfl base _ _ _ rfl hown [48] 1 _ rfl rfl (by omega) (by omega) hbase _ rfl ?_; intro g c w1 ho hb)
    go_ret
    exact ⟨g, c, [48], rfl, ho, hb, by decide, by decide, by decide⟩
  · go_enter Try.func35, Try.ntmps35
    go_wp2_with (at_builtin; refine wpList_append_lits rfl _ _ rfl base _ _ _ rfl hown [45, 49, 55] 3 _ rfl rfl (by omega) (by omega) hbase _ rfl ?_; intro g c w1 ho hb)
    go_ret
    exact ⟨g, c, [45, 49, 55], rfl, ho, hb, by decide, by decide, by decide⟩
  · go_enter Try.func35, Try.ntmps35
    go_wp2_with (at_builtin; refine wpList_append_lits rfl _ _ rfl base _ _ _ rfl hown [51, 46, 50, 53] 4 _ rfl rfl (by omega) (by omega) hbase _ rfl ?_; intro g c w1 ho hb)
    go_ret
    exact ⟨g, c, [51, 46, 50, 53], rfl, ho, hb, by decide, by decide, by decide⟩
  · go_enter Try.func35, Try.ntmps35
    go_wp2_with (at_builtin; refine wpList_append_lits rfl _ _ rfl base _ _ _ rfl hown [49, 101, 43, 57] 4 _ rfl rfl (by omega) (by omega) hbase _ rfl ?_; intro g c w1 ho hb)
    go_ret
    exact ⟨g, c, [49, 101, 43, 57], rfl, ho, hb, by decide, by decide, by decide⟩
  · go_enter Try.func35, Try.ntmps35
    go_wp2_with (at_builtin; refine wpList_append_lits rfl _ _ rfl base _ _ _ rfl hown [116, 114, 117, 101] 4 _ rfl rfl (by omega) (by omega) hbase _ rfl ?_; intro g c w1 ho hb)
    go_ret
    exact ⟨g, c, [116, 114, 117, 101], rfl, ho, hb, by decide, by decide, by decide⟩
  · go_enter Try.func35, Try.ntmps35
    go_wp2_with (at_builtin; refine wpList_append_lits rfl _ _ rfl base _ _ _ rfl hown [102, 97, 108, 115, 101] 5 _ rfl rfl (by omega) (by omega) hbase _ rfl ?_; intro g c w1 ho hb)
    go_ret
    exact ⟨g, c, [102, 97, 108, 115, 101], rfl, ho, hb, by decide, by decide, by decide⟩
  · go_enter Try.func35, Try.ntmps35
    go_wp2_with (at_builtin; refine wpList_append_lits rfl _ _ rfl base _ _ _ rfl hown [110, 117, 108, 108] 4 _ rfl rfl (by omega) (by omega) hbase _ rfl ?_; intro g c w1 ho hb)
    go_ret
    exact ⟨g, c, [110, 117, 108, 108], rfl, ho, hb, by decide, by decide, by decide⟩
  · go_enter Try.func35, Try.ntmps35
    go_wp2_with (at_builtin; refine wpList_append_lits rfl _ _ rfl base _ _ _ rfl hown [45, 48, 46, 53, 69, 45, 49, 50] 8 _ rfl rfl (by omega) (by omega) hbase _ rfl ?_; intro g c w1 ho hb)
    go_ret
    exact ⟨g, c, [45, 48, 46, 53, 69, 45, 49, 50], rfl, ho, hb, by decide, by decide, by decide⟩

theorem str_snoc_two {w : World} {base n : Nat} {v : Value} {ys l : List Int} {z : Int} (he : z = 34 ∨ z = 92 ∨ z < 32)
    (h : w.ownsRow base 5 1 v (n + 1 + (Plain.enc l).length + 1 + 1) (cells (ys ++ 34 :: Plain.enc l ++ [92] ++ [z]))) :
    w.ownsRow base 5 1 v (n + 1 + (Plain.enc (l ++ [z])).length) (cells (ys ++ 34 :: Plain.enc (l ++ [z]))) := by
  rw [Plain.enc_snoc, Plain.encOne_yes he]
  simpa [Nat.add_assoc] using h
theorem str_snoc_one {w : World} {base n : Nat} {v : Value} {ys l : List Int} {z : Int} (he : ¬ (z = 34 ∨ z = 92 ∨ z < 32))
    (h : w.ownsRow base 5 1 v (n + 1 + (Plain.enc l).length + 1) (cells (ys ++ 34 :: Plain.enc l ++ [z]))) :
    w.ownsRow base 5 1 v (n + 1 + (Plain.enc (l ++ [z])).length) (cells (ys ++ 34 :: Plain.enc (l ++ [z]))) := by
  rw [Plain.enc_snoc, Plain.encOne_no he]
  simpa [Nat.add_assoc] using h
theorem bytes_snoc {l : List Int} {z : Int} (h : Bytes l) (h0 : 0 ≤ z) (h1 : z ≤ 255) : Bytes (l ++ [z]) := by
  intro c hc
  simp only [List.mem_append, List.mem_singleton] at hc
  rcases hc with hc | rfl
  · exact h c hc
  · exact ⟨h0, h1⟩
theorem str_end {w : World} {base n : Nat} {g c : Nat} {ys l : List Int}
    (h : w.ownsRow base 5 1 (.slice (some ⟨g, 0, none⟩) (n + 1 + (Plain.enc l).length + 1) c) (n + 1 + (Plain.enc l).length + 1) (cells (ys ++ 34 :: Plain.enc l ++ [34]))) :
    w.ownsRow base 5 1 (.slice (some ⟨g, 0, none⟩) (n + ((34 :: (Plain.enc l ++ [34])) : List Int).length) c) (n + ((34 :: (Plain.enc l ++ [34])) : List Int).length) (cells (ys ++ 34 :: (Plain.enc l ++ [34]))) := by
  have e : n + ((34 :: (Plain.enc l ++ [34])) : List Int).length = n + 1 + (Plain.enc l).length + 1 := by simp; omega
  rw [e]
  simpa using h
theorem enc_bytes {l : List Int} (h : Bytes l) : Bytes (Plain.enc l) := by
  induction l with
  | nil => intro z hz; simp [Plain.enc] at hz
  | cons b r ih =>
    intro z hz
    simp only [Plain.enc, List.mem_append] at hz
    have hb := h b (by simp)
    rcases hz with hz | hz
    · unfold Plain.encOne at hz
      split at hz <;> simp at hz <;> omega
    · exact ih (fun z hz => h z (by simp [hz])) z hz
theorem str_bytes {l : List Int} (h : Bytes l) : Bytes (34 :: (Plain.enc l ++ [34])) := by
  intro z hz
  simp only [List.mem_cons, List.mem_append, List.not_mem_nil, or_false] at hz
  rcases hz with hz | hz | hz
  · omega
  · exact enc_bytes h z hz
  · omega
theorem slice_len {g n m c : Nat} (h : n = m) : Value.slice (some ⟨g, 0, none⟩) n c = .slice (some ⟨g, 0, none⟩) m c := by rw [h]

set_option maxHeartbeats 2000000 in
theorem string_any (w : World) (B base : Nat) (v0 : Value) (n : Nat) (ys : List Int) (a : Option Addr) (len cap pos : Nat) (zs : List Int)
    (hown : w.ownsRow base 5 1 v0 n (cells ys)) (hR : Rd B w a len cap zs) (hB : B ≤ base) (hbase : base ≤ w.heap.size) (hpos : pos ≤ len) (hlen : len ≤ 1000000000) (hbd : n + 2 * (len - pos) + 10 ≤ 1000000000000) :
    Calls Try.prog 36 #[.slice a len cap, .int .i64 pos, v0] w fun e w' => ∃ g c l, ∃ pos' : Nat, e = .returned (.tuple #[.slice (some ⟨g, 0, none⟩) (n + 1 + (Plain.enc l).length + 1) c, .int .i64 pos']) ∧
      pos ≤ pos' ∧ pos' ≤ len ∧ l.length ≤ pos' - pos ∧ Bytes l ∧ w'.ownsRow base 5 1 (.slice (some ⟨g, 0, none⟩) (n + 1 + (Plain.enc l).length + 1) c) (n + 1 + (Plain.enc l).length + 1) (cells (ys ++ 34 :: Plain.enc l ++ [34])) ∧ Below base w w' := by
  have hby := hR.bytes
  have hlie : len = 0 ∨ ∃ b off, a = some ⟨b, off, none⟩ ∧ b < B ∧ ∀ i, i < len → w.cell? ⟨b, off + i, none⟩ = some (.int .u8 (zs.getD i 0)) := hR.lie
  clear hR
  by_cases hlt : pos < len
  · obtain ⟨b, off, rfl, hbB, hcell⟩ := hlie.resolve_left (by omega)
    clear hlie
    obtain ⟨z0, hz0⟩ : ∃ z, z = zs.getD pos 0 := ⟨_, rfl⟩
    have hc0 := hcell pos hlt
    rw [← hz0] at hc0
    have hzb : 0 ≤ z0 ∧ z0 ≤ 255 := by rw [hz0]; exact hby.at pos
    clear hz0
    obtain ⟨hzb0, hzb1⟩ := hzb
    have hm0 : 0 ≤ z0 % 8 := by omega
    have hm1 : z0 % 8 < 8 := by omega
    have HC : Hid (∀ i, i < len → w.cell? ⟨b, off + i, none⟩ = some (.int .u8 (zs.getD i 0))) := hcell
    have HB : Hid (Bytes zs) := hby
    clear hcell hby
    go_enter Try.func36, Try.ntmps36
    go_wp2_with (at_builtin; refine wpList_append_one' rfl (.tmp 23) (.tmp 24) rfl base _ _ _ rfl hown _ 1 rfl (by omega) hbase ?_; intro g1 c1 x1 hown1 hbel1)
    go_loopw [1, 2, 9] (fun pv v kv wr => ∃ k q g c : Nat, ∃ l : List Int, kv = .int .i64 k ∧ pv = .int .i64 q ∧ q = pos + 1 + k ∧ q ≤ len ∧ (k : Int) ≤ z0 % 8 ∧ l.length = k ∧ Hid (Bytes l) ∧ v = .slice (some ⟨g, 0, none⟩) (n + 1 + (Plain.enc l).length) c ∧ wr.ownsRow base 5 1 (.slice (some ⟨g, 0, none⟩) (n + 1 + (Plain.enc l).length) c) (n + 1 + (Plain.enc l).length) (cells (ys ++ 34 :: Plain.enc l)) ∧ Below base w wr) (fun _ _ kv _ => 8 - (intOf kv).toNat)
    case atStart => exact ⟨0, pos + 1, g1, c1, [], rfl, by go_num, rfl, by omega, by omega, rfl, (by intro z hz; simp at hz), by simp [Plain.enc], by simpa [Plain.enc] using hown1, hbel1⟩
    case round =>
      obtain ⟨k, q, g, c, l, rfl, rfl, hq, hql, hkz, hll, HL, rfl, hownr, hbelr⟩ := hrel
      have hel := Plain.enc_length l
      have hsz := hbelr.size
      clear hown1 hbel1 hown hc0
      have HQ : Hid (q = pos + 1 + k) := hq
      have HLL : Hid (l.length = k) := hll
      have hel2 : (Plain.enc l).length ≤ 2 * (len - pos) := by omega
      have hq2 : pos < q := by omega
      clear hq hll hel
      by_cases hk : (k : Int) < z0 % 8
      · by_cases hqn : q < len
        · obtain ⟨z, hz⟩ : ∃ z, z = zs.getD q 0 := ⟨_, rfl⟩
          have hc : wr.cell? ⟨b, off + q, none⟩ = some (.int .u8 z) := by rw [hz]; exact (hbelr.cell (p := ⟨b, off + q, none⟩) (by simp; omega)).trans (HC.out q hqn)
          have hzb : 0 ≤ z ∧ z ≤ 255 := by rw [hz]; exact HB.out.at q
          clear hz
          obtain ⟨hz0, hz1⟩ := hzb
          by_cases hesc : z = 34 ∨ z = 92 ∨ z < 32
          · have HE : Hid (z = 34 ∨ z = 92 ∨ z < 32) := hesc
            rcases (show (z = 34) ∨ (z = 92) ∨ ((z == 34) = false ∧ (z == 92) = false ∧ z < 32) from by simp; omega) with rfl | rfl | ⟨h1, h2, h3⟩
            all_goals
              clear hesc
              go_wp2_with (first
                | (at_builtin; refine wpList_append_one' rfl (.tmp 53) (.tmp 54) rfl base _ _ _ rfl hownr 92 1 rfl (by omega) (by omega) ?_; intro g2 c2 x2 hown2 hbel2)
                | (at_builtin; refine wpList_append_one' rfl (.tmp 56) (.tmp 58) rfl base _ _ _ rfl hown2 _ 1 rfl (by omega) (by have := hbel2.size; omega) ?_; intro g3 c3 x3 hown3 hbel3))
              have hown4 := str_snoc_two HE.out hown3
              have hq := HQ.out
              have hll := HLL.out
              go_roundw
              case rel => exact ⟨k + 1, q + 1, g3, c3, l ++ [_], by go_num, by go_num, by omega, by omega, by omega, by simp; omega, bytes_snoc HL.out hz0 hz1, slice_len (by rw [Plain.enc_snoc, Plain.encOne_yes HE.out]; simp; omega), by simpa using (by have e : n + 1 + (Plain.enc l).length + 1 + 1 = n + 1 + (Plain.enc (l ++ [_])).length := (by rw [Plain.enc_snoc, Plain.encOne_yes HE.out]; simp; omega); rw [e] at hown4; exact hown4), (hbelr.trans hbel2).trans hbel3⟩
              case measure => simp [intOf]; omega
          · have HE : Hid (¬ (z = 34 ∨ z = 92 ∨ z < 32)) := hesc
            have h1 : (z == 34) = false := by simp; omega
            have h2 : (z == 92) = false := by simp; omega
            have h3 : ¬ z < 32 := by omega
            clear hesc
            go_wp2_with (at_builtin; refine wpList_append_one' rfl (.tmp 56) (.tmp 58) rfl base _ _ _ rfl hownr _ 1 rfl (by omega) (by omega) ?_; intro g3 c3 x3 hown3 hbel3)
            have hown4 := str_snoc_one HE.out hown3
            have hq := HQ.out
            have hll := HLL.out
            go_roundw
            case rel => exact ⟨k + 1, q + 1, g3, c3, l ++ [_], by go_num, by go_num, by omega, by omega, by omega, by simp; omega, bytes_snoc HL.out hz0 hz1, slice_len (by rw [Plain.enc_snoc, Plain.encOne_no HE.out]; simp; omega), by simpa using (by have e : n + 1 + (Plain.enc l).length + 1 = n + 1 + (Plain.enc (l ++ [z])).length := (by rw [Plain.enc_snoc, Plain.encOne_no HE.out]; simp; omega); rw [e] at hown4; exact hown4), hbelr.trans hbel3⟩
            case measure => simp [intOf]; omega
        · go_wp2_with (at_builtin; refine wpList_append_one' rfl (.tmp 60) (.tmp 61) rfl base _ _ _ rfl hownr _ 1 rfl (by omega) (by omega) ?_; intro g2 c2 x2 hown2 hbel2)
          go_ret2
          exact ⟨g2, c2, l, q, rfl, by omega, by omega, by have := HQ.out; have := HLL.out; omega, HL.out, by simpa using hown2, hbelr.trans hbel2⟩
      · go_wp2_with (at_builtin; refine wpList_append_one' rfl (.tmp 60) (.tmp 61) rfl base _ _ _ rfl hownr _ 1 rfl (by omega) (by omega) ?_; intro g2 c2 x2 hown2 hbel2)
        go_ret2
        exact ⟨g2, c2, l, q, rfl, by omega, by omega, by have := HQ.out; have := HLL.out; omega, HL.out, by simpa using hown2, hbelr.trans hbel2⟩
  · have hpl : pos = len := by omega
    clear hlie
    have hd : ¬ ((pos : Int) < (len : Int)) := by omega
    clear hpl
    go_enter Try.func36, Try.ntmps36
    go_wp2_with (at_builtin; refine wpList_append_one' rfl (.tmp 23) (.tmp 24) rfl base _ _ _ rfl hown _ 1 rfl (by omega) hbase ?_; intro g1 c1 x1 hown1 hbel1)
    refine wp_loop_rounds 1 ?_
    rw [rounds_succ]
    go_wp2_with (at_builtin; refine wpList_append_one' rfl (.tmp 60) (.tmp 61) rfl base _ _ _ rfl hown1 _ 1 rfl (by omega) (by have := hbel1.size; omega) ?_; intro g2 c2 x2 hown2 hbel2)
    go_ret2
    exact ⟨g2, c2, [], pos, rfl, by omega, by omega, by simp, (by intro z hz; simp at hz), by simpa [Plain.enc] using hown2, hbel1.trans hbel2⟩
end Go.Proofs.Qxb6600131a
