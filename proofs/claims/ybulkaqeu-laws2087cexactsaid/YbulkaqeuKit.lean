/-
  Seat b2087a: ROWS OF BYTES IN MEMORY: 'Own w B v l': the slice value v owns a row, in a block from B on, that holds the numbers l; 'Row w v m': the slice value v reads as the numbers m; the appends.
-/
import Derived.Test.YbulkaqeuRows
import Derived.Test.YbulkaqeuPlain
import Derived.WalkKit
import Derived.WalkSpells
import Derived.Below
import Derived.Laws.AppendOwnNone
import Derived.Lib.AppendStr
import Derived.Shelf.Bytes.SlEqualAll
namespace Go.Proofs.Ybulkaqeu
open Go.RowKit

theorem info5 : (Yba.prog.info? 5).map (fun i => (i.zero, i.size, i.bytes)) = some (some (.int .u8 0), 1, 1) := by kernel_rfl

def Own (w : World) (B : Nat) (v : Value) (l : List Int) : Prop := w.ownsRow B 5 1 v l.length (cells l)

def Row (w : World) (v : Value) (m : List Int) : Prop :=
  ∃ (a : Option Addr) (c : Nat), v = .slice a m.length c ∧ (a = none → m = [] ∧ c = 0) ∧ ∀ ad, a = some ad → ∀ j z, m[j]? = some z → w.cell? (ad.add j) = some (.int .u8 z)

theorem Own.nil (w : World) (B : Nat) : Own w B (.slice none 0 0) [] := World.ownsRow_nil w B 5 1

theorem Own.alloc {w : World} {B : Nat} {v : Value} {l : List Int} (h : Own w B v l) (o : Obj) : Own (w.alloc o) B v l := World.ownsRow.alloc h o

theorem Own.lt {w : World} {B : Nat} {v : Value} {l : List Int} (h : Own w B v l) : ∀ k, v.ownBlock = some k → B ≤ k ∧ k < w.heap.size := World.ownsRow.lt h

theorem Own.base {w : World} {B B' : Nat} {v : Value} {l : List Int} (h : Own w B v l) (hB : B' ≤ B) : Own w B' v l := by
  refine ⟨h.1, ?_⟩
  rcases h.2 with hn | ⟨g, cap, cur, hv, hb, r⟩
  · exact .inl hn
  · exact .inr ⟨g, cap, cur, hv, Nat.le_trans hB hb, r⟩

/-- A block that is as it was. -/
theorem Own.same {w w' : World} {B : Nat} {v : Value} {l : List Int} (h : Own w B v l) (hs : ∀ k, v.ownBlock = some k → w'.heap[k]? = w.heap[k]?) : Own w' B v l := by
  refine ⟨h.1, ?_⟩
  rcases h.2 with hn | ⟨g, cap, cur, rfl, hb, hh, r⟩
  · exact .inl hn
  · exact .inr ⟨g, cap, cur, rfl, hb, by rw [hs g rfl]; exact hh, r⟩

theorem Own.later {w w' : World} {B : Nat} {v : Value} {l : List Int} (h : Own w B v l) (hb : Below w.heap.size w w') : Own w' B v l :=
  h.same fun k hk => hb.block k (h.lt k hk).2

theorem Own.grown {w w' : World} {B : Nat} {v : Value} {l : List Int} {row : Option Nat} (h : Own w B v l) (hg : w.grownBy w' row) (hne : ∀ k, v.ownBlock = some k → some k ≠ row) : Own w' B v l :=
  h.same fun k hk => hg.block k (h.lt k hk).2 (hne k hk)

theorem Own.shape {w : World} {B : Nat} {v : Value} {l : List Int} (h : Own w B v l) (hl : l ≠ []) : ∃ g cap, v = .slice (some ⟨g, 0, none⟩) l.length cap ∧ l.length ≤ cap ∧ cap ≤ 9223372036854775807 := by
  rcases h.2 with ⟨_, h0⟩ | ⟨g, cap, cur, rfl, _, _, hc, hm, _⟩
  · exact absurd (List.eq_nil_of_length_eq_zero h0) hl
  · exact ⟨g, cap, rfl, hc, by unfold maxLen at hm; omega⟩

theorem Own.shapeN {w : World} {B : Nat} {v : Value} {l : List Int} (h : Own w B v l) (n : Nat) (hn : l.length = n) (h0 : 0 < n) : ∃ g cap, v = .slice (some ⟨g, 0, none⟩) n cap ∧ n ≤ cap ∧ cap ≤ 9223372036854775807 := by
  subst hn
  exact h.shape (fun e => by rw [e] at h0; exact absurd h0 (Nat.lt_irrefl 0))

theorem Own.cell {w : World} {B g n cap : Nat} {l : List Int} (h : Own w B (.slice (some ⟨g, 0, none⟩) n cap) l) {j : Nat} {z : Int} (hj : l[j]? = some z) : w.cell? ⟨g, j, none⟩ = some (.int .u8 z) := by
  have hn : n = l.length := by
    rcases h.2 with ⟨h', _⟩ | ⟨g', cap', cur, h', _⟩
    · simp at h'
    · simp only [Value.slice.injEq] at h'; exact h'.2.1
  subst hn
  have hlt : j < l.length := (List.getElem?_eq_some_iff.1 hj).1
  rw [World.ownsRow.cellAt h j (by omega), cells_at, hj]
  rfl

theorem Own.row {w : World} {B : Nat} {v : Value} {l : List Int} (h : Own w B v l) : Row w v l := by
  rcases h.2 with ⟨rfl, h0⟩ | ⟨g, cap, cur, rfl, _, _, _⟩
  · exact ⟨none, 0, by rw [h0], fun _ => ⟨List.eq_nil_of_length_eq_zero h0, rfl⟩, fun ad had => by cases had⟩
  · refine ⟨some ⟨g, 0, none⟩, cap, rfl, fun h => (by cases h), fun ad had j z hj => ?_⟩
    cases had
    have hadd : (⟨g, 0, none⟩ : Addr).add j = ⟨g, j, none⟩ := by unfold Addr.add; split <;> simp_all
    rw [hadd]
    exact Own.cell h hj

theorem Row.later {w w' : World} {v : Value} {m : List Int} (h : Row w v m) (hb : Below w.heap.size w w') : Row w' v m := by
  obtain ⟨a, c, hv, hn, hc⟩ := h
  exact ⟨a, c, hv, hn, fun ad had j z hj => cell_later hb (hc ad had j z hj)⟩

theorem Row.alloc {w : World} {v : Value} {m : List Int} (h : Row w v m) (o : Obj) : Row (w.alloc o) v m := h.later ((Below.refl _ _).alloc (Nat.le_refl _) o)

theorem Own.bytes {w : World} {B g n cap : Nat} {l : List Int} (h : Own w B (.slice (some ⟨g, 0, none⟩) n cap) l) (hn : l.length = n) : Lib.BytesIn w (some ⟨g, 0, none⟩) n l := by
  intro _
  refine ⟨g, 0, rfl, fun i hi => ?_⟩
  rw [Nat.zero_add]
  refine Own.cell h ?_
  rw [List.getD_eq_getElem?_getD, List.getElem?_eq_getElem (by omega)]
  rfl

/-- A literal of one byte. -/
theorem row_one (w : World) (z : Int) : Row (w.alloc (.cells #[.int .u8 z] 5)) (.slice (some ⟨w.heap.size, 0, none⟩) 1 1) [z] := by
  refine ⟨some ⟨w.heap.size, 0, none⟩, 1, rfl, fun h => (by cases h), fun ad had j y hj => ?_⟩
  cases had
  match j, hj with
  | 0, hj => simp at hj; subst hj; simp [Addr.add]

theorem own_lit (w : World) (B : Nat) (l : List Int) (hB : B ≤ w.heap.size) (hl : l.length ≤ 1000) : Own (w.alloc (.cells (cells l).toArray 5)) B (.slice (some ⟨w.heap.size, 0, none⟩) l.length l.length) l := by
  have h := World.ownsRow_lit (base := B) (e := 5) (size := 1) w (cells l).toArray l.length hB (by unfold maxLen; omega) (by simp [cells_length])
  rw [List.toList_toArray] at h
  exact h

theorem Own.below {w w' : World} {B : Nat} {v : Value} {l : List Int} (h : Own w B v l) (hg : w.grownBy w' v.ownBlock) (hB : B ≤ w.heap.size) : Below B w w' :=
  (Below.refl _ _).grown hg hB (fun k hk => (h.lt k hk).1)

section
variable {ops : Array Oper} {rest : List Oper} {o : Oper} {a : Act} {Q : Exit → Act → World → Prop} {w : World}

/-- 'append(v, src...)'. -/
theorem append_row (hgd : o.guard = none) (s x : Operand) (ho : o.op = .call { callee := .builtin .append, args := #[s, x], argTypes := #[22, 22] })
    (B : Nat) (v src : Value) (l m : List Int) (hs : a.eval s = v) (hx : a.eval x = src) (hown : Own w B v l) (hrow : Row w src m) (hlim : l.length + m.length ≤ 1000000) (hB : B ≤ w.heap.size)
    (h : ∀ v' w', Own w' B v' (l ++ m) → w.grownBy w' v.ownBlock → Below B w w' → wpList Yba.prog ops Q rest (a.put o.dst v') w') : wpList Yba.prog ops Q (o :: rest) a w := by
  obtain ⟨i0, hi, hz0, hz1, hz2⟩ := info_parts info5
  obtain ⟨ad, c, hsrc, hnil, hc⟩ := hrow
  cases ad with
  | none =>
    obtain ⟨rfl, rfl⟩ := hnil rfl
    refine wpList_append_own_none hgd s x 22 ho B 5 i0 1 Yba.underlying22 hi v l.length (cells l) hs hown (hx.trans hsrc) ?_
    exact h v w (by simpa using hown) ⟨rfl, rfl, rfl, Nat.le_refl _, fun _ _ _ => rfl⟩ (Below.refl _ _)
  | some ad =>
    refine wpList_append_own w hgd s x 22 ho B 5 i0 (.int .u8 0) 1 1 Yba.underlying22 hi hz0 hz1 hz2 rfl (by decide) v l.length (cells l) hs hown ad m.length c (cells m) (hx.trans hsrc) (by simp [cells_length])
      (fun j u hj => ?_) (cells_one m) (by unfold maxLen; omega) (by omega) hB (fun v' w' h1 h2 _ => h v' w' ?_ h2 (Own.below hown h2 hB))
    · rw [cells_at] at hj
      cases hm : m[j]? with
      | none => rw [hm] at hj; cases hj
      | some z => rw [hm] at hj; cases hj; exact hc ad rfl j z hm
    · unfold Own
      rw [List.length_append, cells_append]
      exact h1

/-- 'append(v, s...)', s a string. -/
theorem append_str (hgd : o.guard = none) (s x : Operand) (ho : o.op = .call { callee := .builtin .append, args := #[s, x], argTypes := #[22, 9] })
    (B : Nat) (v : Value) (l : List Int) (t : ByteArray) (hs : a.eval s = v) (hx : a.eval x = .string t) (hown : Own w B v l) (hlim : l.length + t.size ≤ 1000000) (hB : B ≤ w.heap.size)
    (h : ∀ v' w', Own w' B v' (l ++ nums t) → Below B w w' → wpList Yba.prog ops Q rest (a.put o.dst v') w') : wpList Yba.prog ops Q (o :: rest) a w := by
  obtain ⟨i0, hi, hz0, hz1, hz2⟩ := info_parts info5
  refine Lib.wpList_append_own_string w hgd s x 22 9 ho B 5 i0 Yba.underlying22 Yba.underlying9 hi hz0 hz1 hz2 v l.length (cells l) hs hown t hx (by unfold maxLen; omega) (by omega) hB
    (fun v' w' h1 h2 _ => h v' w' ?_ (Own.below hown h2 hB))
  have e : Lib.strCells t = cells (nums t) := by simp [Lib.strCells, cells, nums]
  unfold Own
  rw [List.length_append, cells_append, nums_length, ← e]
  exact h1

/-- 'append(v, make([]byte, 32)...)': the translation hands append the number. v is a row that is there. -/
theorem run_append_zeros (w : World) (ty : TypeId) (B g n cap : Nat) (l : List Int) (hl : l.length = n) (hown : Own w B (.slice (some ⟨g, 0, none⟩) n cap) l) (hlim : n ≤ 1000) (hB : B ≤ w.heap.size) :
    ∃ v' w', (Builtin.append_ #[22, 3] ty #[.slice (some ⟨g, 0, none⟩) n cap, .int .i64 32]).run Yba.prog w = .ok v' w' ∧ Own w' B v' (l ++ zeros32) ∧ w.grownBy w' (some g) := by
  obtain ⟨i0, hi, hz0, hz1, hz2⟩ := info_parts info5
  subst hl
  have hz : (Builtin.zeroCells (Value.int IntKind.u8 0).cells 32) = (cells zeros32).toArray := by
    apply Array.ext'
    simp [Builtin.zeroCells, cells, Value.cells]
    rfl
  have hzl : (cells zeros32).length = 32 := rfl
  have hcm : cells (l ++ zeros32) = cells l ++ cells zeros32 := cells_append _ _
  have hll : (l ++ zeros32).length = l.length + 32 := by rw [List.length_append]; rfl
  have hw32 : IntKind.i64.wrap 32 = 32 := by decide
  have hu3 : Yba.prog.underlying 3 = some (.int .i64) := Yba.underlying3
  have hcl := cells_length l
  rcases hown.2 with ⟨h', _⟩ | ⟨g', cap', cur, hv, hbg, hg, hnc, hmx, hcs, htake⟩
  · simp at h'
  · simp only [Value.slice.injEq, Option.some.injEq, Addr.mk.injEq, and_true, true_and] at hv
    obtain ⟨rfl, rfl⟩ := hv
    rw [Nat.mul_one] at htake
    by_cases hroom : l.length + 32 ≤ cap
    · have hst := run_storeCells_at Yba.prog g l.length 5 (cells zeros32) 0 cur w hg (by rw [hzl, hcs]; omega) (cells_one _)
      simp only [Nat.add_zero, hzl] at hst
      refine ⟨.slice (some ⟨g, 0, none⟩) (l.length + 32) cap, w.setRow g (cur.toList.take l.length ++ cells zeros32 ++ cur.toList.drop (l.length + 32)).toArray, ?_, ?_, ?_⟩
      · simp [Builtin.append_, run_underlying Yba.underlying22, run_underlying hu3, sizeOf, typeInfo, zeroValue, hi, hz0, hz1, hz2, asInt, asIntOf, hw32, hroom, hz, Addr.add_lit, hst]
      · refine ⟨by simp [cells_length], .inr ⟨g, cap, _, by rw [hll], hbg, setRow_heap w g cur _ 5 _ hg, by rw [hll]; exact hroom, hmx, ?_, ?_⟩⟩
        · simp only [List.size_toArray, List.length_append, List.length_take, List.length_drop, Array.length_toList, hzl]
          omega
        · rw [htake, hcm, hll, Nat.mul_one]
          have e : l.length + 32 = (cells l ++ cells zeros32).length := by rw [List.length_append, hcl, hzl]
          rw [e]
          exact List.take_left
      · exact ⟨rfl, rfl, rfl, by simp, fun k _ hk => setRow_other w g k _ (fun e => hk (by simp [e]))⟩
    · have hn : ¬ (l.length + 32 ≤ cap) := hroom
      have hfits := growslice_fits (need := l.length + 32) (old := cap) (bytes := 1) (by omega) (by omega)
      have h48' : ¬ (281474976710656 < Builtin.nextslicecap (l.length + 32) cap) := by omega
      have holds : ∀ j u, (cells l)[j]? = some u → w.cell? ((⟨g, 0, none⟩ : Addr).add j) = some u := World.ownsRow.cells hown (g := g) rfl
      have hfo := run_firstCells_some (P := Yba.prog) w.drew 1 l.length ⟨g, 0, none⟩ l.length cap (cells l) (by rw [hcl, Nat.mul_one]) (by simpa using holds)
      have hge := grownCap_ge w (l.length + 32) cap 5
      have hcmx : grownCap w (l.length + 32) cap 5 ≤ maxLen := grownCap_le_maxLen w (l.length + 32) cap 5 (by unfold maxLen; omega)
      refine ⟨.slice (some ⟨w.heap.size, 0, none⟩) (l.length + 32) (grownCap w (l.length + 32) cap 5),
        w.drew.alloc (.cells ((cells l).toArray ++ (cells zeros32).toArray ++ Builtin.zeroCells (Value.int .u8 0).cells (grownCap w (l.length + 32) cap 5 - (l.length + 32))) 5), ?_, ?_, ?_⟩
      · simp [Builtin.append_, run_underlying Yba.underlying22, run_underlying hu3, sizeOf, typeInfo, zeroValue, hi, hz0, hz1, hz2, asInt, asIntOf, hw32, hn, h48', Question.forced, hz, hfo, newRow, grownCap]
        rw [if_neg (by omega)]
        congr 3
        apply Array.ext'
        simp [List.append_assoc]
      · refine ⟨by simp [cells_length], .inr ⟨w.heap.size, _, _, by rw [hll], hB, heap_alloc_new w.drew _, by rw [hll]; exact hge, hcmx, ?_, ?_⟩⟩
        · have hz1' : (Value.int IntKind.u8 0).cells.size = 1 := rfl
          simp only [Array.size_append, List.size_toArray, size_zeroCells, hz1', hcl, hzl]
          omega
        · simp only [Array.toList_append, List.append_assoc]
          rw [← List.append_assoc, hcm, hll, Nat.mul_one]
          have e : l.length + 32 = (cells l ++ cells zeros32).length := by rw [List.length_append, hcl, hzl]
          rw [e]
          exact List.take_left
      · exact ⟨rfl, rfl, rfl, by simp, fun k hk _ => Below.heap_alloc w.drew _ k hk⟩

/-- The same as a law for the walk. -/
theorem append_zeros (hgd : o.guard = none) (s x : Operand) (ho : o.op = .call { callee := .builtin .append, args := #[s, x], argTypes := #[22, 3] })
    (B : Nat) (v : Value) (l : List Int) (hs : a.eval s = v) (hx : a.eval x = .int .i64 32) (hown : Own w B v l) (hne : l ≠ []) (hlim : l.length ≤ 1000) (hB : B ≤ w.heap.size)
    (h : ∀ v' w', Own w' B v' (l ++ zeros32) → Below B w w' → wpList Yba.prog ops Q rest (a.put o.dst v') w') : wpList Yba.prog ops Q (o :: rest) a w := by
  obtain ⟨g, cap, rfl, _, _⟩ := hown.shape hne
  obtain ⟨v', w', hr, h1, h2⟩ := run_append_zeros w o.type B g l.length cap l rfl hown hlim hB
  refine wpList_plain hgd fun K hK => ?_
  unfold Oper.wp execOp
  simp only [ho, resolve, invoke, builtin, Sem.run_bind, Sem.run_pure, Result.andThen_ok, List.map_toArray, List.map_cons, List.map_nil, hs, hx, hr]
  exact hK _ _ (h v' w' h1 (Own.below hown h2 hB))

/-! The same laws with the new list behind a name: the walk's own rewriting leaves it alone. -/
theorem append_rowL (hgd : o.guard = none) (s x : Operand) (ho : o.op = .call { callee := .builtin .append, args := #[s, x], argTypes := #[22, 22] })
    (B : Nat) (v src : Value) (l m : List Int) (hs : a.eval s = v) (hx : a.eval x = src) (hown : Own w B v l) (hrow : Row w src m) (hlim : l.length + m.length ≤ 1000000) (hB : B ≤ w.heap.size)
    (h : ∀ v' w' L, Hid (L = l ++ m) → Own w' B v' L → w.grownBy w' v.ownBlock → Below B w w' → wpList Yba.prog ops Q rest (a.put o.dst v') w') : wpList Yba.prog ops Q (o :: rest) a w :=
  append_row hgd s x ho B v src l m hs hx hown hrow hlim hB fun v' w' h1 h2 h3 => h v' w' _ rfl h1 h2 h3

theorem append_strL (hgd : o.guard = none) (s x : Operand) (ho : o.op = .call { callee := .builtin .append, args := #[s, x], argTypes := #[22, 9] })
    (B : Nat) (v : Value) (l : List Int) (t : ByteArray) (hs : a.eval s = v) (hx : a.eval x = .string t) (hown : Own w B v l) (hlim : l.length + t.size ≤ 1000000) (hB : B ≤ w.heap.size)
    (h : ∀ v' w' L, Hid (L = l ++ nums t) → Own w' B v' L → Below B w w' → wpList Yba.prog ops Q rest (a.put o.dst v') w') : wpList Yba.prog ops Q (o :: rest) a w :=
  append_str hgd s x ho B v l t hs hx hown hlim hB fun v' w' h1 h2 => h v' w' _ rfl h1 h2

theorem append_zerosL (hgd : o.guard = none) (s x : Operand) (ho : o.op = .call { callee := .builtin .append, args := #[s, x], argTypes := #[22, 3] })
    (B : Nat) (v : Value) (l : List Int) (hs : a.eval s = v) (hx : a.eval x = .int .i64 32) (hown : Own w B v l) (hne : l ≠ []) (hlim : l.length ≤ 1000) (hB : B ≤ w.heap.size)
    (h : ∀ v' w' L, Hid (L = l ++ zeros32) → Own w' B v' L → Below B w w' → wpList Yba.prog ops Q rest (a.put o.dst v') w') : wpList Yba.prog ops Q (o :: rest) a w :=
  append_zeros hgd s x ho B v l hs hx hown hne hlim hB fun v' w' h1 h2 => h v' w' _ rfl h1 h2

theorem len_app {L l m : List Int} (h : Hid (L = l ++ m)) : L.length = l.length + m.length := by rw [h.out, List.length_append]
theorem ne_app {L l m : List Int} (h : Hid (L = l ++ m)) (hm : m ≠ []) : L ≠ [] := by rw [h.out]; simp [hm]
end
end Go.Proofs.Ybulkaqeu
