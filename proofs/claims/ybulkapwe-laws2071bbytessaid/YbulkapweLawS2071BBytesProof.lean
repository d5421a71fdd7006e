/-
  The proof of 'Rows.LawS2071BBytesSaid', over the kit's shell; the hole is filled.
-/
import Derived.Test.YbulkapweRows
import Derived.Test.YbulkapweWalks
import Derived.Laws.CopyOwn
import Derived.Deep.QuietTactic
import Derived.BigQuiet
import Derived.WalkSmall
import Derived.WalkKit
import Derived.ProofKit
import Derived.OpenShut
import Derived.ShutString
import Derived.ChangeOld
import Derived.Below
namespace Go.Proofs.Ybulkapwe.lawS2071BBytes
open Go.ChangeShapes Go.WideShapes Go.ChangeAt Go.RowKit
open Go.ChangeMaps (open_string shut_string)
set_option linter.unusedVariables false

theorem own : ownKnob Yba.prog.godebug = none := by kernel_rfl
theorem laidOut : laidOutB Yba.prog = true := by kernel_rfl

/-- WHAT THE WALK IS TOLD OF A SLICE OF INTEGERS THAT CAME IN: it is nil; or it leads to a row of 'cap' cells, the numbers 'zs' (the first 'len' are its elements, the rest its spare room), each fitting its kind. -/
def IsRow (k : IntKind) (w : World) (a : Option Addr) (len cap : Nat) (zs : List Int) : Prop :=
  (a = none ∧ len = 0 ∧ cap = 0 ∧ zs = []) ∨
  ∃ x, a = some x ∧ len ≤ cap ∧ cap ≤ maxLen ∧ zs.length = cap ∧ (∀ i, i < zs.length → w.cell? (x.add i) = some (.int k (zs.getD i 0))) ∧ ∀ n ∈ zs, (Lit.int k n).wf = true

/-! ### STEP 1: THE WALK: the Go text returns true, AND WRITES NOTHING THAT WAS THERE: 'Below w.heap.size w w'' (Derived/Below.lean: '.refl', '.alloc', '.drew', '.setCell' at a new block, '.trans'). Open each 'IsRow' by 'rcases' AHEAD of 'go_enter'; part every test ahead of the walk. -/
theorem size5 : (Yba.prog.info? 5).map (·.size) = some 1 := by kernel_rfl

theorem i64_and255 (n : Int) : bits .and .i64 n 255 = n % 256 := by
  have h255 : (BitVec.ofInt 64 255).toNat = 2 ^ 8 - 1 := by decide
  have key : (BitVec.ofInt 64 n &&& BitVec.ofInt 64 255).toNat = (n % ((2 ^ 64 : Nat) : Int)).toNat % 2 ^ 8 := by
    rw [BitVec.toNat_and, BitVec.toNat_ofInt, h255, Nat.and_two_pow_sub_one_eq_mod]
  show IntKind.i64.wrap ((BitVec.ofInt 64 n &&& BitVec.ofInt 64 255).toNat : Nat) = n % 256
  rw [key, IntKind.wrap_i64]
  omega

/-- The bytes of b, as cells. -/
def bcells (z : List Int) (n : Nat) : List Value := (z.take n).map (Value.int .u8)
theorem bcells_len (z : List Int) (n : Nat) (h : n ≤ z.length) : (bcells z n).length = n := by simp [bcells]; omega
theorem bcells_at (z : List Int) (n j : Nat) (h : n ≤ z.length) (hj : j < n) : (bcells z n)[j]? = some (.int .u8 (z.getD j 0)) := by
  have : j < z.length := by omega
  simp [bcells, hj, this]
theorem bcells_one (z : List Int) (n : Nat) : ∀ v ∈ bcells z n, v.oneCell' = true := by
  intro v hv
  simp only [bcells, List.mem_map] at hv
  obtain ⟨a, _, rfl⟩ := hv
  rfl

theorem row_of_own {w : World} {B g n : Nat} {xs : List Value} (h : w.ownsRow B 5 1 (.slice (some ⟨g, 0, none⟩) n n) n xs) : w.heap[g]? = some (.cells xs.toArray 5 (0, 0)) := by
  rcases h.2 with ⟨h', _⟩ | ⟨g', cap, cur, hv, _, hh, _, _, hcs, htake⟩
  · simp at h'
  · simp only [Value.slice.injEq, Option.some.injEq, Addr.mk.injEq, and_true, true_and] at hv
    obtain ⟨rfl, rfl⟩ := hv
    rw [hh, ← htake, List.take_of_length_le (by simp [hcs])]

theorem own_of_row {w : World} {B g n : Nat} {xs : List Value} (hx : xs.length = n) (hB : B ≤ g) (hm : n ≤ maxLen) (h : w.heap[g]? = some (.cells xs.toArray 5 (0, 0))) :
    w.ownsRow B 5 1 (.slice (some ⟨g, 0, none⟩) n n) n xs :=
  ⟨by simpa using hx, .inr ⟨g, n, xs.toArray, rfl, hB, h, Nat.le_refl _, hm, by simpa using hx, by simp [← hx]⟩⟩

theorem src_cells {w w1 : World} {x : Addr} {z0 : List Int} {len0 : Nat} {cs : List Value} (hb : Below w.heap.size w w1) (hcs : cs = bcells z0 len0) (hz : len0 ≤ z0.length)
    (hcell : ∀ i, i < z0.length → w.cell? (x.add i) = some (.int .u8 (z0.getD i 0))) : ∀ j v, cs[j]? = some v → w1.cell? (x.add j) = some v := by
  intro j v hj
  subst hcs
  have hlt : j < len0 := by
    have := (List.getElem?_eq_some_iff.1 hj).1
    rw [bcells_len _ _ hz] at this
    exact this
  rw [bcells_at _ _ _ hz hlt] at hj
  simp only [Option.some.injEq] at hj
  subst hj
  exact cell_later hb (hcell j (by omega))

/-- 'copy(in, b)' into the row that the call has just made: the row holds b's bytes. -/
theorem copy_run {w w1 : World} {x : Addr} {z0 : List Int} {len0 cap0 : Nat} {xs cs : List Value} (hb : Below w.heap.size w w1) (hcs : cs = bcells z0 len0) (hz : len0 ≤ z0.length) (hm : len0 ≤ 1024)
    (hcell : ∀ i, i < z0.length → w.cell? (x.add i) = some (.int .u8 (z0.getD i 0)))
    (hown : w1.ownsRow w.heap.size 5 1 (.slice (some ⟨w.heap.size, 0, none⟩) len0 len0) len0 xs) :
    ∃ w2, (∀ ty, (Builtin.copy_ #[22, 22] ty #[.slice (some ⟨w.heap.size, 0, none⟩) len0 len0, .slice (some x) len0 cap0]).run Yba.prog w1 = .ok (.int .i64 (len0 : Int)) w2) ∧
      w2.ownsRow w.heap.size 5 1 (.slice (some ⟨w.heap.size, 0, none⟩) len0 len0) len0 cs ∧ Below w.heap.size w w2 := by
  have hl : cs.length = len0 := by rw [hcs]; exact bcells_len _ _ hz
  have hxl : xs.length = len0 := by simpa using hown.1
  have hrow := row_of_own hown
  have hrun := fun ty => run_copy_row (P := Yba.prog) w1 22 22 ty 5 w.heap.size 0 len0 len0 x len0 cap0 xs.toArray 5 cs Yba.underlying22 size5 hrow (by rw [hl]; exact (Nat.min_self _).symm)
    (src_cells hb hcs hz hcell) (by simp [hl, hxl]) (by rw [hcs]; exact bcells_one _ _)
  refine ⟨_, fun ty => (hrun ty).trans (by rw [hl]; rfl), ?_, below_setRow hb (Nat.le_refl _) _⟩
  refine own_of_row hl (Nat.le_refl _) (by unfold maxLen; omega) ?_
  rw [setRow_heap w1 _ _ _ 5 _ hrow]
  simp [hxl]

set_option maxHeartbeats 400000 in
theorem walk_some (x : Addr) (len0 cap0 : Nat) (z0 : List Int) (a1 : Int) (a2 : Int) (w : World) (hl : len0 ≤ cap0) (hz : z0.length = cap0) (hlen : len0 ≤ 1024)
    (hcell : ∀ i, i < z0.length → w.cell? (x.add i) = some (.int .u8 (z0.getD i 0))) (hx : 0 < len0 → ∃ b off, x = ⟨b, off, none⟩) (b1 : 0 ≤ a1 ∧ a1 ≤ 255) :
    Calls Yba.prog 3 #[.slice (some x) len0 cap0, .int .u8 a1, .int .i64 a2] w fun e w' => e = .returned (.bool true) ∧ Below w.heap.size w w' := by
  have hnil := fun (W : World) => run_neq_slice_nil_any (P := Yba.prog) W 22 5 (some x) len0 cap0 0 0 Yba.underlying22
  obtain ⟨i0, hi, hz0, hz1, hz2⟩ := info_parts info5
  have t1 : decide (1024 < (len0 : Int)) = false := by simp; omega
  have HX : Hid (∀ i, i < z0.length → w.cell? (x.add i) = some (.int .u8 (z0.getD i 0))) := hcell
  obtain ⟨cs, hcs⟩ : ∃ cs, cs = bcells z0 len0 := ⟨_, rfl⟩
  have HC : Hid (cs = bcells z0 len0) := hcs
  clear hcell hcs
  go_enter Yba.func3, Yba.ntmps3
  go_wp2_with (at_make; refine wpList_make_full _ rfl (.tmp 19) (.tmp 19) 22 rfl w.heap.size 5 i0 (.int .u8 0) 1 Yba.underlying22 hi hz0 hz1 .i64 .i64 _ _ len0 rfl rfl rfl rfl (by rw [hz2]; omega) (by unfold maxLen; omega) (Nat.le_refl _) ?_; intro w1 hown1 hgrow1; obtain ⟨w2, hcopy, hown2, hb2⟩ := copy_run (cap0 := cap0) ((Below.refl _ _).grown hgrow1 (Nat.le_refl _) (by simp)) HC.out (by omega) hlen HX.out hown1; have hH := header_shape w.heap.size len0 a1 a2 _ cs w2 hown2 hb2.size hlen; clear hown1 hgrow1 hown2)
  refine hH.mono ?_
  rintro e w3 ⟨g, cap, rfl, hcap1, hcap2, hcells, hb3⟩
  have HB : Hid (Below w.heap.size w w3) := hb2.trans hb3
  have HO : Hid (∀ j, j < len0 → w3.cell? ⟨g, j, none⟩ = some (.int .u8 (z0.getD j 0))) := fun j hj => hcells j _ (by
    rw [List.getElem?_append_left (by rw [HC.out, bcells_len _ _ (by omega)]; exact hj), HC.out]
    exact bcells_at _ _ _ (by omega) hj)
  have HT : Hid (∀ j u, (head a1 a2)[j]? = some u → w3.cell? ⟨g, len0 + j, none⟩ = some u) := fun j u hj => hcells _ _ (by
    have hl : cs.length = len0 := by rw [HC.out]; exact bcells_len _ _ (by omega)
    rw [List.getElem?_append_right (by omega), show len0 + j - cs.length = j by omega]
    exact hj)
  have HI : Hid (∀ j, j < len0 → w3.cell? (x.add j) = some (.int .u8 (z0.getD j 0))) := fun j hj => cell_later HB.out (HX.out j (by omega))
  have HXX : Hid (0 < len0 → ∃ b off, x = ⟨b, off, none⟩) := hx
  clear hH hcells hb2 hb3 hcopy hx hnil
  go_wp2
  go_loopw [9] (fun i wr => ∃ (k nq : Nat), k ≤ len0 ∧ i = .int .i64 k ∧ wr = w3.drewN nq) (fun i _ => len0 - (intOf i).toNat)
  case atStart => exact ⟨0, 0, Nat.zero_le _, rfl, rfl⟩
  case round =>
    obtain ⟨k, nq, hk, rfl, rfl⟩ := hrel
    by_cases hlt : k < len0
    · obtain ⟨b, off, rfl⟩ := HXX.out (by omega)
      have hc1 := HO.out k hlt
      have hc2 : w3.cell? ⟨b, off + k, none⟩ = some (.int .u8 (z0.getD k 0)) := by have h := HI.out k hlt; rw [add_plain] at h; exact h
      have hlt2 : (k : Int) < (len0 : Int) := by omega
      have hlt3 : (k : Int) < (len0 : Int) + 6 := by omega
      go_wp2_with fail
      go_quiet (fail)
      go_wp2
      go_roundw
      case rel => exact ⟨k + 1, _, by omega, by go_num, rfl⟩
      case measure => simp [intOf]; omega
    · obtain rfl : k = len0 := by omega
      have h0 : w3.cell? ⟨g, k, none⟩ = some (.int .u8 109) := HT.out 0 _ rfl
      have h1 : w3.cell? ⟨g, k + 1, none⟩ = some (.int .u8 114) := HT.out 1 _ rfl
      have h2 : w3.cell? ⟨g, k + 2, none⟩ = some (.int .u8 3) := HT.out 2 _ rfl
      have h3 : w3.cell? ⟨g, k + 3, none⟩ = some (.int .u8 a1) := HT.out 3 _ rfl
      have h4 : w3.cell? ⟨g, k + 4, none⟩ = some (.int .u8 (a2 / 256 % 256)) := HT.out 4 _ rfl
      have h5 : w3.cell? ⟨g, k + 5, none⟩ = some (.int .u8 (a2 % 256)) := HT.out 5 _ rfl
      have e1 := i64_and255 (a2 / 256)
      have e2 := i64_and255 a2
      go_wp2
      go_ret
      exact ⟨rfl, below_drewN HB.out nq⟩

set_option maxHeartbeats 400000 in
theorem walk_nil (a1 : Int) (a2 : Int) (w : World) (b1 : 0 ≤ a1 ∧ a1 ≤ 255) :
    Calls Yba.prog 3 #[.slice none 0 0, .int .u8 a1, .int .i64 a2] w fun e w' => e = .returned (.bool true) ∧ Below w.heap.size w w' := by
  have hnil := fun (W : World) => run_neq_slice_nil_any (P := Yba.prog) W 22 5 none 0 0 0 0 Yba.underlying22
  have hH := header_shape w.heap.size 0 a1 a2 (.slice none 0 0) [] w (World.ownsRow_nil _ _ _ _) (Nat.le_refl _) (by omega)
  go_enter Yba.func3, Yba.ntmps3
  go_wp2_with fail
  refine hH.mono ?_
  rintro e w3 ⟨g, cap, rfl, hcap1, hcap2, hcells, hb3⟩
  have HB : Hid (Below w.heap.size w w3) := hb3
  have h0 : w3.cell? ⟨g, 0, none⟩ = some (.int .u8 109) := hcells 0 _ rfl
  have h1 : w3.cell? ⟨g, 1, none⟩ = some (.int .u8 114) := hcells 1 _ rfl
  have h2 : w3.cell? ⟨g, 2, none⟩ = some (.int .u8 3) := hcells 2 _ rfl
  have h3 : w3.cell? ⟨g, 3, none⟩ = some (.int .u8 a1) := hcells 3 _ rfl
  have h4 : w3.cell? ⟨g, 4, none⟩ = some (.int .u8 (a2 / 256 % 256)) := hcells 4 _ rfl
  have h5 : w3.cell? ⟨g, 5, none⟩ = some (.int .u8 (a2 % 256)) := hcells 5 _ rfl
  have e1 := i64_and255 (a2 / 256)
  have e2 := i64_and255 a2
  clear hH hcells hb3 hnil
  go_wp2
  refine wp_loop_rounds 1 ?_
  rw [rounds_succ]
  go_wp2
  go_ret
  exact ⟨rfl, HB.out⟩

theorem walk (a0 : Option Addr) (len0 cap0 : Nat) (z0 : List Int) (a1 : Int) (a2 : Int) (w : World) (w0 : IsRow .u8 w a0 len0 cap0 z0) (w1 : (Lit.int .u8 a1).wf = true) (w2 : (Lit.int .i64 a2).wf = true) :
    Calls Yba.prog 3 #[.slice a0 len0 cap0, .int .u8 a1, .int .i64 a2] w fun e w' => e = .returned (.bool true) ∧ Below w.heap.size w w' := by
  have b1 := bounds_u8 w1
  rcases w0 with ⟨rfl, rfl, rfl, rfl⟩ | ⟨x, rfl, hl, hm, hz, hcell, hwf⟩
  · exact walk_nil a1 a2 w (by omega)
  · by_cases hlen : len0 ≤ 1024
    · refine walk_some x len0 cap0 z0 a1 a2 w hl hz hlen hcell (fun h => ?_) (by omega)
      obtain ⟨b, off, spot⟩ := x
      have hspot : spot = none := by simpa [Addr.add] using World.cell?_spot (hcell 0 (by omega))
      subst hspot
      exact ⟨b, off, rfl⟩
    · have ht : 1024 < (len0 : Int) := by omega
      clear hcell hwf hz b1 w1 w2
      unfold maxLen at hm
      go_enter Yba.func3, Yba.ntmps3
      go_wp2
      go_ret
      exact ⟨rfl, Below.refl _ _⟩

/-! ### THE ROW's STEP: WRITTEN OUT: LEAVE IT -/
set_option maxRecDepth 100000 in
theorem lifted (os : Os) (started : os.Started) (H : Type) (enc : TypeId × Value → H) :
    ReturnsInHanded {} Yba.checked os 3 .any (Rows.lawS2071BBytesSpec.pre6 enc Yba.prog Yba.f3 Rows.lawS2071BBytesRow.domain false) (Rows.lawS2071BBytesSpec.post enc Yba.prog Yba.f3 false true false false) := by
  refine returnsInHanded_of_change (C := Yba.checked) own started (by kernel_rfl) Yba.func3
    (ChangeSpec.witness6 (enc := enc) (C := Yba.checked) false ⟨#[], #[.slice none 0 0, .int .u8 0, .int .i64 0], []⟩ 8 (by kernel_rfl) (by kernel_rfl) (by kernel_rfl) (by kernel_rfl)) ?_
  intro W base args ds gs before hval0 hW hcnd _
  have hval : ∀ (j : Nat) t v, Yba.f3.params[j]? = some t → args[j]? = some v → Value.okWide Yba.prog W .any base t v := hval0
  have hW' := hW
  obtain ⟨p, q, hA0, hV, rfl, hfz, hnd⟩ := hW
  have hA : DataW.TrodAll enc Yba.prog W 0 (fun _ => true) true Yba.f3.params.toList args.toList ds p := hA0
  rw [Yba.params3] at hA hval
  obtain ⟨v0, vs0, d0, ds0, p0, q0, hargs, rfl, rfl, h0, r0⟩ := trodAll_cons hA
  obtain ⟨v1, vs1, d1, ds1, p1, q1, rfl, rfl, rfl, h1, r1⟩ := trodAll_cons r0
  obtain ⟨v2, vs2, d2, ds2, p2, q2, rfl, rfl, rfl, h2, r2⟩ := trodAll_cons r1
  obtain ⟨rfl, rfl, rfl⟩ := trodAll_nil r2
  obtain rfl : args = #[v0, v1, v2] := by cases args; simp_all
  obtain ⟨rfl, rfl⟩ := trodVars_none hV
  obtain ⟨a0, len0, cap0, rfl⟩ := okWide_slice Yba.underlying22 (hval 0 22 v0 rfl rfl)
  have k0 := h0
  have lt0 : ∀ x ∈ p0, x.block < W.heap.size := by obtain ⟨m, hm⟩ := k0; exact DataW.trod_lt m _ _ _ hm
  obtain ⟨z0, w0⟩ : ∃ zs, IsRow .u8 W a0 len0 cap0 zs := by
    obtain ⟨fuel, hf⟩ := h0
    rcases open_ints Yba.underlying22 Yba.underlying5 (by kernel_rfl) hf with ⟨hcs, _⟩ | ⟨x, l, c, zs, hcs, _, hl, hm, hz, _, hcell, hwz⟩
    · simp [Value.cells] at hcs
      obtain ⟨rfl, rfl, rfl⟩ := hcs
      exact ⟨[], .inl ⟨rfl, rfl, rfl, rfl⟩⟩
    · simp [Value.cells] at hcs
      obtain ⟨rfl, rfl, rfl⟩ := hcs
      exact ⟨zs, .inr ⟨_, rfl, hl, hm, by simpa using hz, hcell, hwz⟩⟩
  obtain ⟨a1, rfl, rfl, rfl, w1⟩ := open_int Yba.underlying5 (hval 1 5 v1 rfl rfl) h1
  obtain ⟨a2, rfl, rfl, rfl, w2⟩ := open_int Yba.underlying3 (hval 2 3 v2 rfl rfl) h2
  clear hA0 hval0
  refine (walk a0 len0 cap0 z0 a1 a2 W w0 w1 w2).mono fun e W' ⟨he, bel⟩ => ?_
  subst he
  exact ⟨_, rfl, _, _, _, [], _, [], hW', trodAll_mk1 (shut_bool Yba.underlying4 _), (trodAll_cons_mk (Below.trod laidOut (by kernel_rfl) (of_decide_eq_true (by kernel_rfl)) k0 bel lt0) (trodAll_cons_mk (shut_int Yba.underlying5 w1) (trodAll_cons_mk (shut_int Yba.underlying3 w2) trodAll_mk0))), rfl, bel.frame _, fun h => by cases h⟩

theorem over : Rows.lawS2071BBytesRow.holds Yba.pinned (OpenSpec.ofChange Rows.lawS2071BBytesSpec) :=
  OpenClaim.holds_of_wide 3 Yba.f3 rfl rfl rfl rfl rfl rfl rfl ⟨rfl, rfl, rfl, rfl, rfl⟩ rfl rfl rfl rfl rfl (by kernel_rfl) Yba.func3 (by kernel_rfl)
    (of_decide_eq_true (by kernel_rfl)) (by unfold Func.isWrapper; first | (rw [if_pos (by decide +kernel)]; kernel_rfl) | (rw [if_neg (by decide +kernel)]; exact ⟨rfl, rfl⟩))
    (fun os started H enc _ => lifted os started H enc)

/-- ████ THE STATEMENT ████ -/
theorem proved : Rows.LawS2071BBytesSaid := over
#print axioms proved
end Go.Proofs.Ybulkapwe.lawS2071BBytes
