/-
  The proof of 'Rows.LawS2068AUniformSaid', over the kit's shell; the hole is filled; the row's step ends by 'Below' (as the kit's shell for slices does).
-/
import Derived.Test.YbulkapuoRows
import Derived.Test.YbulkapuoWalks
import Derived.Below
import Derived.WalkKit
import Derived.ProofKit
import Derived.OpenShut
import Derived.ShutString
namespace Go.Proofs.Ybulkapuo.lawS2068AUniform
open Go.ChangeShapes Go.WideShapes Go.ChangeAt Go.RowKit
open Go.ChangeMaps (open_string shut_string)
set_option linter.unusedVariables false      -- a walk need not use every 'w<i>' (that an integer argument fits its kind)

theorem own : ownKnob Yba.prog.godebug = none := by kernel_rfl

theorem info5 : (Yba.prog.info? 5).map (fun i => (i.zero, i.size, i.bytes)) = some (some (.int .u8 0), 1, 1) := by kernel_rfl

theorem store_step {w wr : World} {B m k : Nat} {xs : List Value} {c : Int} (hk : k < m)
    (hown : wr.ownsRow B 5 1 (.slice (some ⟨B, 0, none⟩) m m) m xs) (hx : ∀ j, j < k → xs[j]? = some (.int .u8 c)) (hb : Below B w wr) :
    (wr.setCell ⟨B, k, none⟩ (.int .u8 c)).ownsRow B 5 1 (.slice (some ⟨B, 0, none⟩) m m) m (xs.set k (.int .u8 c)) ∧
    (∀ j, j < k + 1 → (xs.set k (.int .u8 c))[j]? = some (.int .u8 c)) ∧ Below B w (wr.setCell ⟨B, k, none⟩ (.int .u8 c)) := by
  refine ⟨(hown.stored k _).1, ?_, hb.setCell (Nat.le_refl _) _⟩
  intro j hj
  have hl : xs.length = m := by simpa using hown.1
  by_cases h : j = k
  · subst h; simp [hl, hk]
  · rw [List.getElem?_set_ne (by omega)]; exact hx j (by omega)

theorem cell_there {wr : World} {B m k : Nat} {xs : List Value} (hk : k < m) (hown : wr.ownsRow B 5 1 (.slice (some ⟨B, 0, none⟩) m m) m xs) :
    ∃ v, wr.cell? ⟨B, k, none⟩ = some v := by
  have hl : xs.length = m := by simpa using hown.1
  exact ⟨xs[k], by rw [hown.cellAt k (by omega)]; simp [hl, hk]⟩

/-! ### STEP 1: THE WALK -/
set_option maxHeartbeats 400000 in
theorem walk (a0 : Int) (a1 : Int) (w0 : (Lit.int .u8 a0).wf = true) (w1 : (Lit.int .u8 a1).wf = true) (w : World) :
    Calls Yba.prog 4 #[.int .u8 a0, .int .u8 a1] w fun e w' => e = .returned (.bool true) ∧ Below w.heap.size w w' := by
  have b0 := bounds_u8 w0
  have b1 := bounds_u8 w1
  clear w0 w1
  obtain ⟨m, hm⟩ : ∃ m : Nat, a1 % 8 + 1 = (m : Int) := ⟨(a1 % 8 + 1).toNat, by omega⟩
  have hm1 : 1 ≤ m := by omega
  have hm2 : m ≤ 8 := by omega
  obtain ⟨i0, hi, hz0, hz1, hz2⟩ := info_parts info5
  go_enter Yba.func4, Yba.ntmps4
  go_wp2_with (at_make; refine wpList_make_full _ rfl (.tmp 12) (.tmp 12) 22 rfl w.heap.size 5 i0 (.int .u8 0) 1 Yba.underlying22 hi hz0 hz1 .i64 .i64 _ _ m rfl rfl (by omega) (by omega) (by rw [hz2]; omega) (by unfold maxLen; omega) (Nat.le_refl _) ?_; intro w1 hown1 hgrow1)
  have hbel : Below w.heap.size w w1 := (Below.refl _ _).grown hgrow1 (Nat.le_refl _) (by simp)
  clear hgrow1
  go_loopw [7] (fun i wr => ∃ (k : Nat) (xs : List Value), k ≤ m ∧ i = .int .i64 k ∧ wr.ownsRow w.heap.size 5 1 (.slice (some ⟨w.heap.size, 0, none⟩) m m) m xs ∧ (∀ j, j < k → xs[j]? = some (.int .u8 a0)) ∧ Below w.heap.size w wr)
    (fun i _ => m - (intOf i).toNat)
  case atStart => exact ⟨0, _, Nat.zero_le _, rfl, hown1, fun j hj => absurd hj (by omega), hbel⟩
  case round =>
    obtain ⟨k, xs, hk, rfl, hown, hx, hb⟩ := hrel
    by_cases hlt : k < m
    · have R := store_step hlt hown hx hb
      have HR : Hid _ := R
      obtain ⟨v, hv⟩ := cell_there hlt hown
      have hfz := hown.frozenAt k
      have HM : Hid (a1 % 8 + 1 = (m : Int)) := hm
      have ht : (k : Int) < a1 % 8 + 1 := by omega
      clear R hown hx hown1 hbel hm
      go_wp2
      go_roundw
      case rel => exact ⟨k + 1, _, by omega, by go_num, HR.out.1, HR.out.2.1, HR.out.2.2⟩
      case measure => simp [intOf]; omega
    · obtain rfl : k = m := by omega
      have hR : Calls Yba.prog 5 #[.slice (some ⟨w.heap.size, 0, none⟩) k k] wr fun e w' => e = .returned (.int .u64 (a0 * 72340172838076673)) ∧ Below wr.heap.size wr w' := by
        have hlen : xs.length = k := by simpa using hown.1
        have h := readWord_any w.heap.size 0 k k (List.replicate k a0) wr hm1 (by simp) (by omega) (fun z hz => by have := List.eq_of_mem_replicate hz; omega)
          (fun j hj => by
            have hj' : j < k := by simpa using hj
            rw [Nat.zero_add, hown.cellAt j (by omega), hx j hj']
            simp [hj'])
        rw [word_same a0 (by omega) _ k hm1 (fun j hj => by simp [hj])] at h
        exact h
      have hsz := hb.size
      clear hown hx hown1 hbel
      have HM : Hid (a1 % 8 + 1 = (k : Int)) := hm
      have ht : ¬ (k : Int) < a1 % 8 + 1 := by omega
      clear hm
      go_wp2_with (go_at_call 5; refine hR.mono ?_; rintro e w2 ⟨rfl, hb2⟩)
      go_ret
      exact ⟨by simp, hb.trans (hb2.mono hsz)⟩

/-! ### THE ROW's STEP: WRITTEN OUT: LEAVE IT -/
set_option maxRecDepth 100000 in
theorem lifted (os : Os) (started : os.Started) (H : Type) (enc : TypeId × Value → H) :
    ReturnsInHanded {} Yba.checked os 4 .any (Rows.lawS2068AUniformSpec.pre6 enc Yba.prog Yba.f4 Rows.lawS2068AUniformRow.domain false) (Rows.lawS2068AUniformSpec.post enc Yba.prog Yba.f4 false true false false) := by
  refine returnsInHanded_of_change (C := Yba.checked) own started (by kernel_rfl) Yba.func4
    (ChangeSpec.witness6 (enc := enc) (C := Yba.checked) false ⟨#[], #[.int .u8 0, .int .u8 0], []⟩ 8 (by kernel_rfl) (by kernel_rfl) (by kernel_rfl) (by kernel_rfl)) ?_
  intro W base args ds gs before hval0 hW hcnd _
  have hval : ∀ (j : Nat) t v, Yba.f4.params[j]? = some t → args[j]? = some v → Value.okWide Yba.prog W .any base t v := hval0
  have hW' := hW
  obtain ⟨p, q, hA0, hV, rfl, hfz, hnd⟩ := hW
  have hA : DataW.TrodAll enc Yba.prog W 0 (fun _ => true) true Yba.f4.params.toList args.toList ds p := hA0
  rw [Yba.params4] at hA hval
  obtain ⟨v0, vs0, d0, ds0, p0, q0, hargs, rfl, rfl, h0, r0⟩ := trodAll_cons hA
  obtain ⟨v1, vs1, d1, ds1, p1, q1, rfl, rfl, rfl, h1, r1⟩ := trodAll_cons r0
  obtain ⟨rfl, rfl, rfl⟩ := trodAll_nil r1
  obtain rfl : args = #[v0, v1] := by cases args; simp_all
  obtain ⟨rfl, rfl⟩ := trodVars_none hV
  obtain ⟨a0, rfl, rfl, rfl, w0⟩ := open_int Yba.underlying5 (hval 0 5 v0 rfl rfl) h0
  obtain ⟨a1, rfl, rfl, rfl, w1⟩ := open_int Yba.underlying5 (hval 1 5 v1 rfl rfl) h1
  clear hA0 hval0
  simp only [List.append_nil] at hW'
  refine (walk a0 a1 w0 w1 W).mono fun e W' ⟨he, bel⟩ => ?_
  subst he
  exact ⟨_, rfl, _, _, _, [], _, [], hW', trodAll_mk1 (shut_bool Yba.underlying4 _), (trodAll_cons_mk (shut_int Yba.underlying5 w0) (trodAll_cons_mk (shut_int Yba.underlying5 w1) trodAll_mk0)), rfl, bel.frame _, fun h => by cases h⟩

theorem over : Rows.lawS2068AUniformRow.holds Yba.pinned (OpenSpec.ofChange Rows.lawS2068AUniformSpec) :=
  OpenClaim.holds_of_wide 4 Yba.f4 rfl rfl rfl rfl rfl rfl rfl ⟨rfl, rfl, rfl, rfl, rfl⟩ rfl rfl rfl rfl rfl (by kernel_rfl) Yba.func4 (by kernel_rfl)
    (of_decide_eq_true (by kernel_rfl)) (by unfold Func.isWrapper; first | (rw [if_pos (by decide +kernel)]; kernel_rfl) | (rw [if_neg (by decide +kernel)]; exact ⟨rfl, rfl⟩))
    (fun os started H enc _ => lifted os started H enc)

/-- ████ THE STATEMENT ████ -/
theorem proved : Rows.LawS2068AUniformSaid :=
  over
#print axioms proved
end Go.Proofs.Ybulkapuo.lawS2068AUniform
