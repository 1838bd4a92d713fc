/-
  The walk of zzBuild, by induction on what is left of the tape.
-/
import Derived.Test.Qxb6600131aScalar
namespace Go.Proofs.Qxb6600131a
open Go.RowKit
set_option linter.unusedVariables false

/-- What a call of zzBuild leaves. -/
def Built (base : Nat) (n : Nat) (ys : List Int) (len pos : Nat) (w : World) (e : Ending) (w' : World) : Prop :=
  ∃ g c x, ∃ pos' : Nat, e = .returned (.tuple #[.slice (some ⟨g, 0, none⟩) (n + x.length) c, .int .i64 pos']) ∧ pos ≤ pos' ∧ pos' ≤ len ∧ x.length ≤ 23 * (pos' - pos) + 1 ∧ Plain.Val x ∧ Bytes x ∧
    w'.ownsRow base 5 1 (.slice (some ⟨g, 0, none⟩) (n + x.length) c) (n + x.length) (cells (ys ++ x)) ∧ Below base w w'

/-- The call's contract where at most k bytes of the tape are left. -/
def BuildOk (k : Nat) : Prop := ∀ (w : World) (B base : Nat) (v0 : Value) (n : Nat) (ys zs : List Int) (a : Option Addr) (len cap pos : Nat) (depth : Int),
  len - pos ≤ k → w.ownsRow base 5 1 v0 n (cells ys) → Rd B w a len cap zs → B ≤ base → base ≤ w.heap.size → pos ≤ len → len ≤ 1000000000 → 0 ≤ depth → depth ≤ 32 → n + 23 * (len - pos) + 100 ≤ 1000000000000 →
  Calls Try.prog 33 #[.slice a len cap, .int .i64 pos, .int .i64 depth, v0] w (Built base n ys len pos w)

theorem val_scalar {x : List Int} (h1 : x ≠ []) (h2 : ∀ z ∈ x, Plain.bare z = true ∧ 0 ≤ z ∧ z ≤ 255) : Plain.Val x ∧ Bytes x :=
  ⟨.inl ⟨h1, fun z hz => (h2 z hz).1⟩, fun z hz => (h2 z hz).2⟩

/-- The tape is at its end. -/
theorem build_end (w : World) (B base : Nat) (v0 : Value) (n : Nat) (ys zs : List Int) (a : Option Addr) (len cap pos : Nat) (depth : Int)
    (hown : w.ownsRow base 5 1 v0 n (cells ys)) (hbase : base ≤ w.heap.size) (hpos : pos = len) (hlen : len ≤ 1000000000) (hbd : n + 23 * (len - pos) + 100 ≤ 1000000000000) :
    Calls Try.prog 33 #[.slice a len cap, .int .i64 pos, .int .i64 depth, v0] w (Built base n ys len pos w) := by
  have hle : len ≤ pos := by omega
  have hle2 : pos ≤ len := by omega
  clear hpos
  go_enter Try.func33, Try.ntmps33
  go_wp2_with (at_builtin; refine wpList_append_one' rfl (.tmp 21) (.tmp 22) rfl base _ _ _ rfl hown _ 1 rfl (by omega) hbase ?_; intro g1 c1 x1 hown1 hbel1)
  go_ret2
  have hv := val_scalar (x := [48]) (by decide) (by decide)
  exact ⟨g1, c1, [48], pos, rfl, by omega, by omega, by simp, hv.1, hv.2, hown1, hbel1⟩

set_option maxHeartbeats 1000000 in
/-- A scalar or a string. -/
theorem build_plain (w : World) (B base : Nat) (v0 : Value) (n : Nat) (ys zs : List Int) (b off : Nat) (len cap pos : Nat) (depth z : Int)
    (hown : w.ownsRow base 5 1 v0 n (cells ys)) (hR : Rd B w (some ⟨b, off, none⟩) len cap zs) (hB : B ≤ base) (hbase : base ≤ w.heap.size) (hpos : pos < len) (hlen : len ≤ 1000000000) (hbd : n + 23 * (len - pos) + 100 ≤ 1000000000000)
    (hc : w.cell? ⟨b, off + pos, none⟩ = some (.int .u8 z)) (hz0 : 0 ≤ z) (hz1 : z ≤ 255) (hd0 : 0 ≤ depth) (hd : depth ≤ 32) (hcase : depth = 32 ∨ z % 4 = 0 ∨ z % 4 = 1) :
    Calls Try.prog 33 #[.slice (some ⟨b, off, none⟩) len cap, .int .i64 pos, .int .i64 depth, v0] w (Built base n ys len pos w) := by
  by_cases h32 : depth = 32
  · subst h32
    clear hcase
    go_enter Try.func33, Try.ntmps33
    go_wp2_with (go_at_call 35; refine (scalar_any _ base _ _ _ z hz0 hz1 hown hbase (by omega)).mono ?_; rintro e x1 ⟨g, c, x, rfl, hown1, hbel1, hne, hl, hx⟩)
    go_ret2
    have hv := val_scalar hne hx
    exact ⟨g, c, x, pos + 1, by simp, by omega, by omega, by omega, hv.1, hv.2, hown1, hbel1⟩
  · have hlt : depth < 32 := by omega
    clear hd
    rcases hcase.resolve_left h32 with h | h
    · clear h32 hcase
      go_enter Try.func33, Try.ntmps33
      go_wp2_with (go_at_call 35; refine (scalar_any _ base _ _ _ (z / 4) (by omega) (by omega) hown hbase (by omega)).mono ?_; rintro e x1 ⟨g, c, x, rfl, hown1, hbel1, hne, hl, hx⟩)
      go_ret2
      have hv := val_scalar hne hx
      exact ⟨g, c, x, pos + 1, by simp, by omega, by omega, by omega, hv.1, hv.2, hown1, hbel1⟩
    · clear h32 hcase
      go_enter Try.func33, Try.ntmps33
      go_wp2_with fail
      rw [show ((pos : Int) + 1) = ((pos + 1 : Nat) : Int) from by omega]
      refine (string_any _ B base _ _ _ _ _ _ (pos + 1) zs hown hR hB hbase (by omega) hlen (by omega)).mono ?_
      rintro e x1 ⟨g, c, l, pos', rfl, hp1, hp2, hll, hby, hown1, hbel1⟩
      go_wp2
      go_ret2
      have hel := Plain.enc_length l
      refine ⟨g, c, 34 :: (Plain.enc l ++ [34]), pos', ?_, by omega, by omega, by simp; omega, .inr (.inl ⟨l, rfl⟩), str_bytes hby, str_end hown1, hbel1⟩
      rw [slice_len (show n + ((34 :: (Plain.enc l ++ [34])) : List Int).length = n + 1 + (Plain.enc l).length + 1 from by simp; omega)]
      rfl

/-- What holds of a list of members at a round's head. -/
def Inner (base n : Nat) (ys : List Int) (o : Int) (w : World) (len pos : Nat) (N : Int) (pv v kv : Value) (wr : World) : Prop :=
  ∃ k q g c : Nat, ∃ inner : List Int, kv = .int .i64 k ∧ pv = .int .i64 q ∧ pos + 1 ≤ q ∧ q ≤ len ∧ (k : Int) ≤ N ∧ Hid (Plain.Flat inner ∧ Bytes inner) ∧ inner.length ≤ 7 * k + 23 * (q - (pos + 1)) ∧
    v = .slice (some ⟨g, 0, none⟩) (n + 1 + inner.length) c ∧ wr.ownsRow base 5 1 (.slice (some ⟨g, 0, none⟩) (n + 1 + inner.length) c) (n + 1 + inner.length) (cells (ys ++ o :: inner)) ∧ Below base w wr

theorem Inner.start {base n : Nat} {ys : List Int} {o : Int} {w wr : World} {len pos g c : Nat} {N : Int} (hpos : pos < len) (hN : 0 ≤ N)
    (hown : wr.ownsRow base 5 1 (.slice (some ⟨g, 0, none⟩) (n + 1) c) (n + 1) (cells (ys ++ [o]))) (hbel : Below base w wr) :
    Inner base n ys o w len pos N (.int .i64 ((pos : Int) + 1)) (.slice (some ⟨g, 0, none⟩) (n + 1) c) (.int .i64 0) wr :=
  ⟨0, pos + 1, g, c, [], rfl, by go_num, by omega, by omega, by omega, ⟨Plain.flat_nil, by intro z hz; simp at hz⟩, by simp, rfl, hown, hbel⟩

theorem Inner.next {base n : Nat} {ys : List Int} {o : Int} {w wr : World} {len pos k q q' g c m : Nat} {N : Int} {inner add L : List Int}
    (hq0 : pos + 1 ≤ q) (hk : (k : Int) < N) (hin : Plain.Flat inner ∧ Bytes inner) (hil : inner.length ≤ 7 * k + 23 * (q - (pos + 1)))
    (hadd : Plain.Flat add ∧ Bytes add) (hal : add.length ≤ 7 + 23 * (q' - q)) (hq1 : q ≤ q') (hq2 : q' ≤ len) (hm : m = n + 1 + inner.length + add.length)
    (hown : wr.ownsRow base 5 1 (.slice (some ⟨g, 0, none⟩) m c) m (cells L)) (hL : L = ys ++ o :: (inner ++ add)) (hbel : Below base w wr) :
    Inner base n ys o w len pos N (.int .i64 q') (.slice (some ⟨g, 0, none⟩) m c) (.int .i64 ((k : Int) + 1)) wr := by
  subst hL
  have e : m = n + 1 + (inner ++ add).length := by simp; omega
  refine ⟨k + 1, q', g, c, inner ++ add, by go_num, rfl, by omega, hq2, by omega, ⟨Plain.flat_append hin.1 hadd.1, ?_⟩, by simp; omega, by rw [e], by rw [e] at hown; exact hown, hbel⟩
  intro z hz
  simp only [List.mem_append] at hz
  rcases hz with hz | hz
  · exact hin.2 z hz
  · exact hadd.2 z hz

/-- Behind the last member. -/
theorem built_of {base n : Nat} {ys : List Int} {o s : Int} {w wr : World} {len pos k q g c m : Nat} {inner L : List Int} {e : Ending} (hp : Plain.Pair o s)
    (hq0 : pos + 1 ≤ q) (hq2 : q ≤ len) (hk : k ≤ 3) (hin : Plain.Flat inner ∧ Bytes inner) (hil : inner.length ≤ 7 * k + 23 * (q - (pos + 1)))
    (hm : m = n + 1 + inner.length + 1) (hown : wr.ownsRow base 5 1 (.slice (some ⟨g, 0, none⟩) m c) m (cells L)) (hL : L = ys ++ o :: (inner ++ [s])) (hbel : Below base w wr)
    (he : e = .returned (.tuple #[.slice (some ⟨g, 0, none⟩) m c, .int .i64 q])) : Built base n ys len pos w e wr := by
  subst hL
  have em : m = n + (o :: (inner ++ [s])).length := by simp; omega
  rw [em] at he hown
  refine ⟨g, c, o :: (inner ++ [s]), q, he, by omega, hq2, by simp; omega, .inr (.inr ⟨o, s, inner, hp, hin.1, rfl⟩), ?_, hown, hbel⟩
  intro z hz
  simp only [List.mem_cons, List.mem_append, List.not_mem_nil, or_false] at hz
  have hos : 0 ≤ o ∧ o ≤ 255 ∧ 0 ≤ s ∧ s ≤ 255 := by rcases hp with ⟨rfl, rfl⟩ | ⟨rfl, rfl⟩ <;> decide
  rcases hz with rfl | hz | rfl
  · exact ⟨hos.1, hos.2.1⟩
  · exact hin.2 z hz
  · exact hos.2.2

theorem small_one {c : Int} (h : c = 44 ∨ c = 32 ∨ c = 58) : Plain.Flat [c] ∧ Bytes [c] := by
  refine ⟨?_, ?_⟩
  · rcases h with rfl | rfl | rfl <;> exact Plain.flat_one (by decide) rfl rfl
  · intro z hz; simp only [List.mem_singleton] at hz; omega
theorem small_append {a b : List Int} (ha : Plain.Flat a ∧ Bytes a) (hb : Plain.Flat b ∧ Bytes b) : Plain.Flat (a ++ b) ∧ Bytes (a ++ b) := by
  refine ⟨Plain.flat_append ha.1 hb.1, ?_⟩
  intro z hz
  simp only [List.mem_append] at hz
  rcases hz with hz | hz
  · exact ha.2 z hz
  · exact hb.2 z hz
theorem small_str {l : List Int} (h : Bytes l) : Plain.Flat (34 :: (Plain.enc l ++ [34])) ∧ Bytes (34 :: (Plain.enc l ++ [34])) := ⟨Plain.flat_str l, str_bytes h⟩

set_option maxHeartbeats 4000000 in
theorem build_arr_sp (k : Nat) (ih : BuildOk k) (w : World) (B base : Nat) (v0 : Value) (n : Nat) (ys zs : List Int) (b off : Nat) (len cap pos : Nat) (depth z : Int)
    (hkl : len - (pos + 1) ≤ k) (hown0 : w.ownsRow base 5 1 v0 n (cells ys)) (hR : Rd B w (some ⟨b, off, none⟩) len cap zs) (hB : B ≤ base) (hbase : base ≤ w.heap.size) (hpos : pos < len) (hlen : len ≤ 1000000000) (hbd : n + 23 * (len - pos) + 100 ≤ 1000000000000)
    (hc : w.cell? ⟨b, off + pos, none⟩ = some (.int .u8 z)) (hz0 : 0 ≤ z) (hz1 : z ≤ 255) (hd0 : 0 ≤ depth) (hd : depth < 32) (h4 : z % 4 = 2) (hsp : 128 ≤ z) :
    Calls Try.prog 33 #[.slice (some ⟨b, off, none⟩) len cap, .int .i64 pos, .int .i64 depth, v0] w (Built base n ys len pos w) := by
  have hN0 : 0 ≤ z / 4 % 4 := by omega
  have hN1 : z / 4 % 4 ≤ 3 := by omega
  have hdd : decide ((32 : Int) ≤ depth) = false := by simp; omega
  go_enter Try.func33, Try.ntmps33
  go_wp2_with (at_builtin; refine wpList_append_one' rfl (.tmp 62) (.tmp 64) rfl base _ _ _ rfl hown0 _ 1 rfl (by omega) hbase ?_; intro g1 c1 x1 hown1 hbel1)
  go_loopw [1, 3, 16] (fun pv v kv wr => Inner base n ys 91 w len pos (z / 4 % 4) pv v kv wr) (fun _ _ kv _ => 4 - (intOf kv).toNat)
  case atStart => exact Inner.start hpos hN0 hown1 hbel1
  case round =>
    obtain ⟨k1, q, g, c, inner, rfl, rfl, hq0, hq2, hkN, HF, hil, rfl, hownr, hbelr⟩ := hrel
    clear hown1 hbel1 hown0 hc
    by_cases hk : (k1 : Int) < z / 4 % 4
    · by_cases hk0 : k1 = 0
      · subst hk0
        go_wp2_with (first
          | (at_builtin; refine wpList_append_one' rfl (.tmp 77) (.tmp 78) rfl base _ _ _ rfl hownr _ 1 rfl (by omega) (by have := hbelr.size; omega) ?_; intro g2 c2 x2 hown2 hbel2))
        refine (ih _ B base _ _ _ zs _ _ _ q (depth + 1) (by omega) hown2 (hR.below ((hbelr).trans hbel2) hB) hB (by have := Nat.le_trans (hbelr.size) hbel2.size; omega) (by omega) hlen (by omega) (by omega) (by omega)).mono ?_
        rintro e x3 hbuilt
        obtain ⟨g3, c3, x, qv, rfl, hv1, hv2, hxl, hval, hxb, hown3, hbel3⟩ := hbuilt
        have hadd : Plain.Flat (([32] ++ x)) ∧ Bytes (([32] ++ x)) := (small_append (small_one (by decide)) ⟨hval.flat, hxb⟩)
        have hbel := ((hbelr).trans hbel2).trans hbel3
        have hown := hown3
        clear hR ih
        go_wp2
        go_roundw
        case rel => exact Inner.next (q := q) (q' := qv) (add := ([32] ++ x)) hq0 hk HF.out hil hadd (by first | omega | (simp; omega)) (by omega) hv2 (by first | omega | (simp; omega)) hown (by simp) hbel
        case measure => simp [intOf] <;> omega
      · have hkp : (0 : Int) < (k1 : Int) := by omega
        clear hk0
        go_wp2_with (first
          | (at_builtin; refine wpList_append_one' rfl (.tmp 73) (.tmp 74) rfl base _ _ _ rfl hownr _ 1 rfl (by omega) (by have := hbelr.size; omega) ?_; intro g2 c2 x2 hown2 hbel2)
          | (at_builtin; refine wpList_append_one' rfl (.tmp 77) (.tmp 78) rfl base _ _ _ rfl hown2 _ 1 rfl (by omega) (by have := Nat.le_trans (hbelr.size) hbel2.size; omega) ?_; intro g3 c3 x3 hown3 hbel3))
        refine (ih _ B base _ _ _ zs _ _ _ q (depth + 1) (by omega) hown3 (hR.below (((hbelr).trans hbel2).trans hbel3) hB) hB (by have := Nat.le_trans (Nat.le_trans (hbelr.size) hbel2.size) hbel3.size; omega) (by omega) hlen (by omega) (by omega) (by omega)).mono ?_
        rintro e x4 hbuilt
        obtain ⟨g4, c4, x, qv, rfl, hv1, hv2, hxl, hval, hxb, hown4, hbel4⟩ := hbuilt
        have hadd : Plain.Flat ((([44] ++ [32]) ++ x)) ∧ Bytes ((([44] ++ [32]) ++ x)) := (small_append (small_append (small_one (by decide)) (small_one (by decide))) ⟨hval.flat, hxb⟩)
        have hbel := (((hbelr).trans hbel2).trans hbel3).trans hbel4
        have hown := hown4
        clear hR ih
        go_wp2
        go_roundw
        case rel => exact Inner.next (q := q) (q' := qv) (add := (([44] ++ [32]) ++ x)) hq0 hk HF.out hil hadd (by first | omega | (simp; omega)) (by omega) hv2 (by first | omega | (simp; omega)) hown (by simp) hbel
        case measure => simp [intOf] <;> omega
    · go_wp2_with (at_builtin; refine wpList_append_one' rfl (.tmp 105) (.tmp 107) rfl base _ _ _ rfl hownr _ 1 rfl (by omega) (by have := hbelr.size; omega) ?_; intro g2 c2 x2 hown2 hbel2)
      go_ret2
      exact built_of (k := k1) (inner := inner) (.inl ⟨rfl, rfl⟩) hq0 hq2 (by omega) HF.out hil (by omega) hown2 (by simp) (hbelr.trans hbel2) rfl

set_option maxHeartbeats 4000000 in
theorem build_arr_no (k : Nat) (ih : BuildOk k) (w : World) (B base : Nat) (v0 : Value) (n : Nat) (ys zs : List Int) (b off : Nat) (len cap pos : Nat) (depth z : Int)
    (hkl : len - (pos + 1) ≤ k) (hown0 : w.ownsRow base 5 1 v0 n (cells ys)) (hR : Rd B w (some ⟨b, off, none⟩) len cap zs) (hB : B ≤ base) (hbase : base ≤ w.heap.size) (hpos : pos < len) (hlen : len ≤ 1000000000) (hbd : n + 23 * (len - pos) + 100 ≤ 1000000000000)
    (hc : w.cell? ⟨b, off + pos, none⟩ = some (.int .u8 z)) (hz0 : 0 ≤ z) (hz1 : z ≤ 255) (hd0 : 0 ≤ depth) (hd : depth < 32) (h4 : z % 4 = 2) (hsp : z < 128) :
    Calls Try.prog 33 #[.slice (some ⟨b, off, none⟩) len cap, .int .i64 pos, .int .i64 depth, v0] w (Built base n ys len pos w) := by
  have hN0 : 0 ≤ z / 4 % 4 := by omega
  have hN1 : z / 4 % 4 ≤ 3 := by omega
  have hdd : decide ((32 : Int) ≤ depth) = false := by simp; omega
  go_enter Try.func33, Try.ntmps33
  go_wp2_with (at_builtin; refine wpList_append_one' rfl (.tmp 62) (.tmp 64) rfl base _ _ _ rfl hown0 _ 1 rfl (by omega) hbase ?_; intro g1 c1 x1 hown1 hbel1)
  go_loopw [1, 3, 16] (fun pv v kv wr => Inner base n ys 91 w len pos (z / 4 % 4) pv v kv wr) (fun _ _ kv _ => 4 - (intOf kv).toNat)
  case atStart => exact Inner.start hpos hN0 hown1 hbel1
  case round =>
    obtain ⟨k1, q, g, c, inner, rfl, rfl, hq0, hq2, hkN, HF, hil, rfl, hownr, hbelr⟩ := hrel
    clear hown1 hbel1 hown0 hc
    by_cases hk : (k1 : Int) < z / 4 % 4
    · by_cases hk0 : k1 = 0
      · subst hk0
        go_wp2_with fail
        refine (ih _ B base _ _ _ zs _ _ _ q (depth + 1) (by omega) hownr (hR.below (hbelr) hB) hB (by have := hbelr.size; omega) (by omega) hlen (by omega) (by omega) (by omega)).mono ?_
        rintro e x2 hbuilt
        obtain ⟨g2, c2, x, qv, rfl, hv1, hv2, hxl, hval, hxb, hown2, hbel2⟩ := hbuilt
        have hadd : Plain.Flat (x) ∧ Bytes (x) := ⟨hval.flat, hxb⟩
        have hbel := (hbelr).trans hbel2
        have hown := hown2
        clear hR ih
        go_wp2
        go_roundw
        case rel => exact Inner.next (q := q) (q' := qv) (add := x) hq0 hk HF.out hil hadd (by first | omega | (simp; omega)) (by omega) hv2 (by first | omega | (simp; omega)) hown (by simp) hbel
        case measure => simp [intOf] <;> omega
      · have hkp : (0 : Int) < (k1 : Int) := by omega
        clear hk0
        go_wp2_with (first
          | (at_builtin; refine wpList_append_one' rfl (.tmp 73) (.tmp 74) rfl base _ _ _ rfl hownr _ 1 rfl (by omega) (by have := hbelr.size; omega) ?_; intro g2 c2 x2 hown2 hbel2))
        refine (ih _ B base _ _ _ zs _ _ _ q (depth + 1) (by omega) hown2 (hR.below ((hbelr).trans hbel2) hB) hB (by have := Nat.le_trans (hbelr.size) hbel2.size; omega) (by omega) hlen (by omega) (by omega) (by omega)).mono ?_
        rintro e x3 hbuilt
        obtain ⟨g3, c3, x, qv, rfl, hv1, hv2, hxl, hval, hxb, hown3, hbel3⟩ := hbuilt
        have hadd : Plain.Flat (([44] ++ x)) ∧ Bytes (([44] ++ x)) := (small_append (small_one (by decide)) ⟨hval.flat, hxb⟩)
        have hbel := ((hbelr).trans hbel2).trans hbel3
        have hown := hown3
        clear hR ih
        go_wp2
        go_roundw
        case rel => exact Inner.next (q := q) (q' := qv) (add := ([44] ++ x)) hq0 hk HF.out hil hadd (by first | omega | (simp; omega)) (by omega) hv2 (by first | omega | (simp; omega)) hown (by simp) hbel
        case measure => simp [intOf] <;> omega
    · go_wp2_with (at_builtin; refine wpList_append_one' rfl (.tmp 105) (.tmp 107) rfl base _ _ _ rfl hownr _ 1 rfl (by omega) (by have := hbelr.size; omega) ?_; intro g2 c2 x2 hown2 hbel2)
      go_ret2
      exact built_of (k := k1) (inner := inner) (.inl ⟨rfl, rfl⟩) hq0 hq2 (by omega) HF.out hil (by omega) hown2 (by simp) (hbelr.trans hbel2) rfl

set_option maxHeartbeats 4000000 in
theorem build_obj_sp (k : Nat) (ih : BuildOk k) (w : World) (B base : Nat) (v0 : Value) (n : Nat) (ys zs : List Int) (b off : Nat) (len cap pos : Nat) (depth z : Int)
    (hkl : len - (pos + 1) ≤ k) (hown0 : w.ownsRow base 5 1 v0 n (cells ys)) (hR : Rd B w (some ⟨b, off, none⟩) len cap zs) (hB : B ≤ base) (hbase : base ≤ w.heap.size) (hpos : pos < len) (hlen : len ≤ 1000000000) (hbd : n + 23 * (len - pos) + 100 ≤ 1000000000000)
    (hc : w.cell? ⟨b, off + pos, none⟩ = some (.int .u8 z)) (hz0 : 0 ≤ z) (hz1 : z ≤ 255) (hd0 : 0 ≤ depth) (hd : depth < 32) (h4 : z % 4 = 3) (hsp : 128 ≤ z) :
    Calls Try.prog 33 #[.slice (some ⟨b, off, none⟩) len cap, .int .i64 pos, .int .i64 depth, v0] w (Built base n ys len pos w) := by
  have hN0 : 0 ≤ z / 4 % 4 := by omega
  have hN1 : z / 4 % 4 ≤ 3 := by omega
  have hdd : decide ((32 : Int) ≤ depth) = false := by simp; omega
  go_enter Try.func33, Try.ntmps33
  go_wp2_with (at_builtin; refine wpList_append_one' rfl (.tmp 62) (.tmp 64) rfl base _ _ _ rfl hown0 _ 1 rfl (by omega) hbase ?_; intro g1 c1 x1 hown1 hbel1)
  go_loopw [1, 3, 16] (fun pv v kv wr => Inner base n ys 123 w len pos (z / 4 % 4) pv v kv wr) (fun _ _ kv _ => 4 - (intOf kv).toNat)
  case atStart => exact Inner.start hpos hN0 hown1 hbel1
  case round =>
    obtain ⟨k1, q, g, c, inner, rfl, rfl, hq0, hq2, hkN, HF, hil, rfl, hownr, hbelr⟩ := hrel
    clear hown1 hbel1 hown0 hc
    by_cases hk : (k1 : Int) < z / 4 % 4
    · by_cases hk0 : k1 = 0
      · subst hk0
        go_wp2_with (first
          | (at_builtin; refine wpList_append_one' rfl (.tmp 77) (.tmp 78) rfl base _ _ _ rfl hownr _ 1 rfl (by omega) (by have := hbelr.size; omega) ?_; intro g2 c2 x2 hown2 hbel2))
        refine (string_any _ B base _ _ _ _ _ _ q zs hown2 (hR.below ((hbelr).trans hbel2) hB) hB (by have := Nat.le_trans (hbelr.size) hbel2.size; omega) (by omega) hlen (by omega)).mono ?_
        rintro e x3 ⟨g3, c3, l, qs, rfl, hs1, hs2, hll, hsb, hown3, hbel3⟩
        have hel := Plain.enc_length l
        go_wp2_with (first
          | (at_builtin; refine wpList_append_one' rfl (.tmp 89) (.tmp 90) rfl base _ _ _ rfl hown3 _ 1 rfl (by omega) (by have := Nat.le_trans (Nat.le_trans (hbelr.size) hbel2.size) hbel3.size; omega) ?_; intro g4 c4 x4 hown4 hbel4)
          | (at_builtin; refine wpList_append_one' rfl (.tmp 93) (.tmp 94) rfl base _ _ _ rfl hown4 _ 1 rfl (by omega) (by have := Nat.le_trans (Nat.le_trans (Nat.le_trans (hbelr.size) hbel2.size) hbel3.size) hbel4.size; omega) ?_; intro g5 c5 x5 hown5 hbel5))
        refine (ih _ B base _ _ _ zs _ _ _ qs (depth + 1) (by omega) hown5 (hR.below (((((hbelr).trans hbel2).trans hbel3).trans hbel4).trans hbel5) hB) hB (by have := Nat.le_trans (Nat.le_trans (Nat.le_trans (Nat.le_trans (hbelr.size) hbel2.size) hbel3.size) hbel4.size) hbel5.size; omega) (by omega) hlen (by omega) (by omega) (by omega)).mono ?_
        rintro e x6 hbuilt
        obtain ⟨g6, c6, x, qv, rfl, hv1, hv2, hxl, hval, hxb, hown6, hbel6⟩ := hbuilt
        have hadd : Plain.Flat ((((([32] ++ (34 :: (Plain.enc l ++ [34]))) ++ [58]) ++ [32]) ++ x)) ∧ Bytes ((((([32] ++ (34 :: (Plain.enc l ++ [34]))) ++ [58]) ++ [32]) ++ x)) := (small_append (small_append (small_append (small_append (small_one (by decide)) (small_str hsb)) (small_one (by decide))) (small_one (by decide))) ⟨hval.flat, hxb⟩)
        have hbel := (((((hbelr).trans hbel2).trans hbel3).trans hbel4).trans hbel5).trans hbel6
        have hown := hown6
        clear hR ih
        go_wp2
        go_roundw
        case rel => exact Inner.next (q := q) (q' := qv) (add := (((([32] ++ (34 :: (Plain.enc l ++ [34]))) ++ [58]) ++ [32]) ++ x)) hq0 hk HF.out hil hadd (by first | omega | (simp; omega)) (by omega) hv2 (by first | omega | (simp; omega)) hown (by simp) hbel
        case measure => simp [intOf] <;> omega
      · have hkp : (0 : Int) < (k1 : Int) := by omega
        clear hk0
        go_wp2_with (first
          | (at_builtin; refine wpList_append_one' rfl (.tmp 73) (.tmp 74) rfl base _ _ _ rfl hownr _ 1 rfl (by omega) (by have := hbelr.size; omega) ?_; intro g2 c2 x2 hown2 hbel2)
          | (at_builtin; refine wpList_append_one' rfl (.tmp 77) (.tmp 78) rfl base _ _ _ rfl hown2 _ 1 rfl (by omega) (by have := Nat.le_trans (hbelr.size) hbel2.size; omega) ?_; intro g3 c3 x3 hown3 hbel3))
        refine (string_any _ B base _ _ _ _ _ _ q zs hown3 (hR.below (((hbelr).trans hbel2).trans hbel3) hB) hB (by have := Nat.le_trans (Nat.le_trans (hbelr.size) hbel2.size) hbel3.size; omega) (by omega) hlen (by omega)).mono ?_
        rintro e x4 ⟨g4, c4, l, qs, rfl, hs1, hs2, hll, hsb, hown4, hbel4⟩
        have hel := Plain.enc_length l
        go_wp2_with (first
          | (at_builtin; refine wpList_append_one' rfl (.tmp 89) (.tmp 90) rfl base _ _ _ rfl hown4 _ 1 rfl (by omega) (by have := Nat.le_trans (Nat.le_trans (Nat.le_trans (hbelr.size) hbel2.size) hbel3.size) hbel4.size; omega) ?_; intro g5 c5 x5 hown5 hbel5)
          | (at_builtin; refine wpList_append_one' rfl (.tmp 93) (.tmp 94) rfl base _ _ _ rfl hown5 _ 1 rfl (by omega) (by have := Nat.le_trans (Nat.le_trans (Nat.le_trans (Nat.le_trans (hbelr.size) hbel2.size) hbel3.size) hbel4.size) hbel5.size; omega) ?_; intro g6 c6 x6 hown6 hbel6))
        refine (ih _ B base _ _ _ zs _ _ _ qs (depth + 1) (by omega) hown6 (hR.below ((((((hbelr).trans hbel2).trans hbel3).trans hbel4).trans hbel5).trans hbel6) hB) hB (by have := Nat.le_trans (Nat.le_trans (Nat.le_trans (Nat.le_trans (Nat.le_trans (hbelr.size) hbel2.size) hbel3.size) hbel4.size) hbel5.size) hbel6.size; omega) (by omega) hlen (by omega) (by omega) (by omega)).mono ?_
        rintro e x7 hbuilt
        obtain ⟨g7, c7, x, qv, rfl, hv1, hv2, hxl, hval, hxb, hown7, hbel7⟩ := hbuilt
        have hadd : Plain.Flat (((((([44] ++ [32]) ++ (34 :: (Plain.enc l ++ [34]))) ++ [58]) ++ [32]) ++ x)) ∧ Bytes (((((([44] ++ [32]) ++ (34 :: (Plain.enc l ++ [34]))) ++ [58]) ++ [32]) ++ x)) := (small_append (small_append (small_append (small_append (small_append (small_one (by decide)) (small_one (by decide))) (small_str hsb)) (small_one (by decide))) (small_one (by decide))) ⟨hval.flat, hxb⟩)
        have hbel := ((((((hbelr).trans hbel2).trans hbel3).trans hbel4).trans hbel5).trans hbel6).trans hbel7
        have hown := hown7
        clear hR ih
        go_wp2
        go_roundw
        case rel => exact Inner.next (q := q) (q' := qv) (add := ((((([44] ++ [32]) ++ (34 :: (Plain.enc l ++ [34]))) ++ [58]) ++ [32]) ++ x)) hq0 hk HF.out hil hadd (by first | omega | (simp; omega)) (by omega) hv2 (by first | omega | (simp; omega)) hown (by simp) hbel
        case measure => simp [intOf] <;> omega
    · go_wp2_with (at_builtin; refine wpList_append_one' rfl (.tmp 105) (.tmp 107) rfl base _ _ _ rfl hownr _ 1 rfl (by omega) (by have := hbelr.size; omega) ?_; intro g2 c2 x2 hown2 hbel2)
      go_ret2
      exact built_of (k := k1) (inner := inner) (.inr ⟨rfl, rfl⟩) hq0 hq2 (by omega) HF.out hil (by omega) hown2 (by simp) (hbelr.trans hbel2) rfl

set_option maxHeartbeats 4000000 in
theorem build_obj_no (k : Nat) (ih : BuildOk k) (w : World) (B base : Nat) (v0 : Value) (n : Nat) (ys zs : List Int) (b off : Nat) (len cap pos : Nat) (depth z : Int)
    (hkl : len - (pos + 1) ≤ k) (hown0 : w.ownsRow base 5 1 v0 n (cells ys)) (hR : Rd B w (some ⟨b, off, none⟩) len cap zs) (hB : B ≤ base) (hbase : base ≤ w.heap.size) (hpos : pos < len) (hlen : len ≤ 1000000000) (hbd : n + 23 * (len - pos) + 100 ≤ 1000000000000)
    (hc : w.cell? ⟨b, off + pos, none⟩ = some (.int .u8 z)) (hz0 : 0 ≤ z) (hz1 : z ≤ 255) (hd0 : 0 ≤ depth) (hd : depth < 32) (h4 : z % 4 = 3) (hsp : z < 128) :
    Calls Try.prog 33 #[.slice (some ⟨b, off, none⟩) len cap, .int .i64 pos, .int .i64 depth, v0] w (Built base n ys len pos w) := by
  have hN0 : 0 ≤ z / 4 % 4 := by omega
  have hN1 : z / 4 % 4 ≤ 3 := by omega
  have hdd : decide ((32 : Int) ≤ depth) = false := by simp; omega
  go_enter Try.func33, Try.ntmps33
  go_wp2_with (at_builtin; refine wpList_append_one' rfl (.tmp 62) (.tmp 64) rfl base _ _ _ rfl hown0 _ 1 rfl (by omega) hbase ?_; intro g1 c1 x1 hown1 hbel1)
  go_loopw [1, 3, 16] (fun pv v kv wr => Inner base n ys 123 w len pos (z / 4 % 4) pv v kv wr) (fun _ _ kv _ => 4 - (intOf kv).toNat)
  case atStart => exact Inner.start hpos hN0 hown1 hbel1
  case round =>
    obtain ⟨k1, q, g, c, inner, rfl, rfl, hq0, hq2, hkN, HF, hil, rfl, hownr, hbelr⟩ := hrel
    clear hown1 hbel1 hown0 hc
    by_cases hk : (k1 : Int) < z / 4 % 4
    · by_cases hk0 : k1 = 0
      · subst hk0
        go_wp2_with fail
        refine (string_any _ B base _ _ _ _ _ _ q zs hownr (hR.below (hbelr) hB) hB (by have := hbelr.size; omega) (by omega) hlen (by omega)).mono ?_
        rintro e x2 ⟨g2, c2, l, qs, rfl, hs1, hs2, hll, hsb, hown2, hbel2⟩
        have hel := Plain.enc_length l
        go_wp2_with (first
          | (at_builtin; refine wpList_append_one' rfl (.tmp 89) (.tmp 90) rfl base _ _ _ rfl hown2 _ 1 rfl (by omega) (by have := Nat.le_trans (hbelr.size) hbel2.size; omega) ?_; intro g3 c3 x3 hown3 hbel3))
        refine (ih _ B base _ _ _ zs _ _ _ qs (depth + 1) (by omega) hown3 (hR.below (((hbelr).trans hbel2).trans hbel3) hB) hB (by have := Nat.le_trans (Nat.le_trans (hbelr.size) hbel2.size) hbel3.size; omega) (by omega) hlen (by omega) (by omega) (by omega)).mono ?_
        rintro e x4 hbuilt
        obtain ⟨g4, c4, x, qv, rfl, hv1, hv2, hxl, hval, hxb, hown4, hbel4⟩ := hbuilt
        have hadd : Plain.Flat ((((34 :: (Plain.enc l ++ [34])) ++ [58]) ++ x)) ∧ Bytes ((((34 :: (Plain.enc l ++ [34])) ++ [58]) ++ x)) := (small_append (small_append (small_str hsb) (small_one (by decide))) ⟨hval.flat, hxb⟩)
        have hbel := (((hbelr).trans hbel2).trans hbel3).trans hbel4
        have hown := hown4
        clear hR ih
        go_wp2
        go_roundw
        case rel => exact Inner.next (q := q) (q' := qv) (add := (((34 :: (Plain.enc l ++ [34])) ++ [58]) ++ x)) hq0 hk HF.out hil hadd (by first | omega | (simp; omega)) (by omega) hv2 (by first | omega | (simp; omega)) hown (by simp) hbel
        case measure => simp [intOf] <;> omega
      · have hkp : (0 : Int) < (k1 : Int) := by omega
        clear hk0
        go_wp2_with (first
          | (at_builtin; refine wpList_append_one' rfl (.tmp 73) (.tmp 74) rfl base _ _ _ rfl hownr _ 1 rfl (by omega) (by have := hbelr.size; omega) ?_; intro g2 c2 x2 hown2 hbel2))
        refine (string_any _ B base _ _ _ _ _ _ q zs hown2 (hR.below ((hbelr).trans hbel2) hB) hB (by have := Nat.le_trans (hbelr.size) hbel2.size; omega) (by omega) hlen (by omega)).mono ?_
        rintro e x3 ⟨g3, c3, l, qs, rfl, hs1, hs2, hll, hsb, hown3, hbel3⟩
        have hel := Plain.enc_length l
        go_wp2_with (first
          | (at_builtin; refine wpList_append_one' rfl (.tmp 89) (.tmp 90) rfl base _ _ _ rfl hown3 _ 1 rfl (by omega) (by have := Nat.le_trans (Nat.le_trans (hbelr.size) hbel2.size) hbel3.size; omega) ?_; intro g4 c4 x4 hown4 hbel4))
        refine (ih _ B base _ _ _ zs _ _ _ qs (depth + 1) (by omega) hown4 (hR.below ((((hbelr).trans hbel2).trans hbel3).trans hbel4) hB) hB (by have := Nat.le_trans (Nat.le_trans (Nat.le_trans (hbelr.size) hbel2.size) hbel3.size) hbel4.size; omega) (by omega) hlen (by omega) (by omega) (by omega)).mono ?_
        rintro e x5 hbuilt
        obtain ⟨g5, c5, x, qv, rfl, hv1, hv2, hxl, hval, hxb, hown5, hbel5⟩ := hbuilt
        have hadd : Plain.Flat (((([44] ++ (34 :: (Plain.enc l ++ [34]))) ++ [58]) ++ x)) ∧ Bytes (((([44] ++ (34 :: (Plain.enc l ++ [34]))) ++ [58]) ++ x)) := (small_append (small_append (small_append (small_one (by decide)) (small_str hsb)) (small_one (by decide))) ⟨hval.flat, hxb⟩)
        have hbel := ((((hbelr).trans hbel2).trans hbel3).trans hbel4).trans hbel5
        have hown := hown5
        clear hR ih
        go_wp2
        go_roundw
        case rel => exact Inner.next (q := q) (q' := qv) (add := ((([44] ++ (34 :: (Plain.enc l ++ [34]))) ++ [58]) ++ x)) hq0 hk HF.out hil hadd (by first | omega | (simp; omega)) (by omega) hv2 (by first | omega | (simp; omega)) hown (by simp) hbel
        case measure => simp [intOf] <;> omega
    · go_wp2_with (at_builtin; refine wpList_append_one' rfl (.tmp 105) (.tmp 107) rfl base _ _ _ rfl hownr _ 1 rfl (by omega) (by have := hbelr.size; omega) ?_; intro g2 c2 x2 hown2 hbel2)
      go_ret2
      exact built_of (k := k1) (inner := inner) (.inr ⟨rfl, rfl⟩) hq0 hq2 (by omega) HF.out hil (by omega) hown2 (by simp) (hbelr.trans hbel2) rfl

theorem build_any (k : Nat) : BuildOk k := by
  induction k with
  | zero =>
    intro w B base v0 n ys zs a len cap pos depth hk hown hR hB hbase hpos hlen hd0 hd hbd
    exact build_end w B base v0 n ys zs a len cap pos depth hown hbase (by omega) hlen hbd
  | succ k ih =>
    intro w B base v0 n ys zs a len cap pos depth hk hown hR hB hbase hpos hlen hd0 hd hbd
    by_cases hlt : pos < len
    · rcases hR.lie with h0 | ⟨b, off, rfl, hbB, hcell⟩
      · omega
      · have hc := hcell pos hlt
        have hz := hR.bytes.at pos
        by_cases hcase : depth = 32 ∨ zs.getD pos 0 % 4 = 0 ∨ zs.getD pos 0 % 4 = 1
        · exact build_plain w B base v0 n ys zs b off len cap pos depth _ hown hR hB hbase hlt hlen hbd hc hz.1 hz.2 hd0 hd hcase
        · have hd32 : depth < 32 := by omega
          rcases (show zs.getD pos 0 % 4 = 2 ∨ zs.getD pos 0 % 4 = 3 from by omega) with h4 | h4
          · by_cases hsp : 128 ≤ zs.getD pos 0
            · exact build_arr_sp k ih w B base v0 n ys zs b off len cap pos depth _ (by omega) hown hR hB hbase hlt hlen hbd hc hz.1 hz.2 hd0 hd32 h4 hsp
            · exact build_arr_no k ih w B base v0 n ys zs b off len cap pos depth _ (by omega) hown hR hB hbase hlt hlen hbd hc hz.1 hz.2 hd0 hd32 h4 (by omega)
          · by_cases hsp : 128 ≤ zs.getD pos 0
            · exact build_obj_sp k ih w B base v0 n ys zs b off len cap pos depth _ (by omega) hown hR hB hbase hlt hlen hbd hc hz.1 hz.2 hd0 hd32 h4 hsp
            · exact build_obj_no k ih w B base v0 n ys zs b off len cap pos depth _ (by omega) hown hR hB hbase hlt hlen hbd hc hz.1 hz.2 hd0 hd32 h4 (by omega)
    · exact build_end w B base v0 n ys zs a len cap pos depth hown hbase (by omega) hlen hbd

/-- zzValueOf: the value that the tape describes, in memory of its own. -/
theorem valueOf_any (w : World) (B : Nat) (zs : List Int) (a : Option Addr) (len cap : Nat) (hR : Rd B w a len cap zs) (hB : B ≤ w.heap.size) (hlen : len ≤ 1000000) :
    Calls Try.prog 23 #[.slice a len cap] w fun e w' => ∃ g c x, e = .returned (.slice (some ⟨g, 0, none⟩) x.length c) ∧ x.length ≤ 23 * len + 1 ∧ Plain.Val x ∧ Bytes x ∧
      w'.ownsRow w.heap.size 5 1 (.slice (some ⟨g, 0, none⟩) x.length c) x.length (cells x) ∧ Below w.heap.size w w' := by
  go_enter Try.func23, Try.ntmps23
  go_wp2_with fail
  refine (build_any len w B w.heap.size (.slice none 0 0) 0 [] zs a len cap 0 0 (by omega) (World.ownsRow_nil _ _ _ _) hR hB (Nat.le_refl _) (by omega) (by omega) (by omega) (by omega) (by omega)).mono ?_
  rintro e w1 hb
  obtain ⟨g, c, x, pos', rfl, h1, h2, h3, h4, h5, h6, h7⟩ := hb
  rw [Nat.zero_add, List.nil_append] at h6
  rw [Nat.zero_add]
  go_wp2
  go_ret
  exact ⟨g, c, x, rfl, by omega, h4, h5, h6, h7⟩
end Go.Proofs.Qxb6600131a
