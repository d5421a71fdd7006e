/-
  The proof of 'Rows.LawS2071BRoundTripSaid', over the kit's shell; the hole is filled; the row's step ends by 'Below' (as the kit's shell for slices does).
-/
import Derived.Test.YbulkapweRows
import Derived.Test.YbulkapweWalks
import Derived.Below
import Derived.Laws.BytesArg
import Derived.Deep.RegionWith
import Derived.WalkSmall
import Derived.Lib.EndianBits
import Derived.WalkKit
import Derived.ProofKit
import Derived.OpenShut
import Derived.ShutString
namespace Go.Proofs.Ybulkapwe.lawS2071BRoundTrip
open Go.ChangeShapes Go.WideShapes Go.ChangeAt Go.RowKit
open Go.ChangeMaps (open_string shut_string)
set_option linter.unusedVariables false      -- a walk need not use every 'w<i>' (that an integer argument fits its kind)

theorem own : ownKnob Yba.prog.godebug = none := by kernel_rfl

/-! ### STEP 1: THE WALK -/
theorem conv_two (W : World) (g cap : Nat) (h0 : W.cell? ⟨g, 0, none⟩ = some (.int .u8 109)) (h1 : W.cell? ⟨g, 1, none⟩ = some (.int .u8 114)) :
    (convert 22 9 (.slice (some ⟨g, 0, none⟩) 2 cap)).run Yba.prog W = .ok (.string { data := #[109, 114] }) W :=
  run_convert_bytes_arg W 22 5 Yba.underlying22 Yba.underlying5 g 0 2 cap [109, 114] rfl (fun i hi => by
    have : i = 0 ∨ i = 1 := by omega
    rcases this with rfl | rfl
    · exact h0
    · exact h1) 9 Yba.underlying9

theorem read16 (W : World) (g cap u : Nat) (n : Int) (hu : n % 65536 = (u : Int)) (h4 : W.cell? ⟨g, 4, none⟩ = some (.int .u8 (n / 256 % 256))) (h5 : W.cell? ⟨g, 5, none⟩ = some (.int .u8 (n % 256))) :
    Calls Yba.prog 6 #[.agg #[], .slice (some ⟨g, 4, none⟩) 2 cap] W fun e w' => e = .returned (.int .u16 (u : Int)) ∧ Below W.heap.size W w' := by
  have h := Yba.binary_BE_Uint16_z ⟨g, 4, none⟩ 2 cap [n / 256 % 256, n % 256] W (Nat.le_refl _) (by simp) (fun i hi => by
    have hi' : i < 2 := by simpa using hi
    have : i = 0 ∨ i = 1 := by omega
    rcases this with rfl | rfl
    · rw [add_plain]; exact h4
    · rw [add_plain]; exact h5) (fun z hz => by
    simp only [List.mem_cons, List.not_mem_nil, or_false] at hz
    rcases hz with rfl | rfl <;> exact WalkArith.wf_u8 (by omega))
  have e : Lib.beZ (List.take 2 [n / 256 % 256, n % 256]) = (u : Int) := by
    simp [Lib.beZ, Lib.beFromZ]
    omega
  rw [e] at h
  exact h

set_option maxHeartbeats 400000 in
theorem walk (a0 : Int) (a1 : Int) (w0 : (Lit.int .u8 a0).wf = true) (w1 : (Lit.int .i64 a1).wf = true) (w : World) :
    Calls Yba.prog 4 #[.int .u8 a0, .int .i64 a1] w fun e w' => e = .returned (.bool true) ∧ Below w.heap.size w w' := by
  have b0 := bounds_u8 w0
  clear w0 w1
  obtain ⟨u, hu⟩ : ∃ u : Nat, a1 % 65536 = (u : Int) := ⟨(a1 % 65536).toNat, by omega⟩
  have HU : Hid (a1 % 65536 = (u : Int)) := hu
  have hw16 : IntKind.u16.wrap a1 = (u : Int) := by rw [IntKind.wrap_u16]; exact hu
  clear hu
  have hH := header_shape w.heap.size 0 a0 a1 (.slice none 0 0) [] w (World.ownsRow_nil _ _ _ _) (Nat.le_refl _) (by omega)
  go_enter Yba.func4, Yba.ntmps4
  go_wp2_with fail
  refine hH.mono ?_
  rintro e w3 ⟨g, cap, rfl, hcap1, hcap2, hcells, hb3⟩
  have HB : Hid (Below w.heap.size w w3) := hb3
  have h0 : w3.cell? ⟨g, 0, none⟩ = some (.int .u8 109) := hcells 0 _ rfl
  have h1 : w3.cell? ⟨g, 1, none⟩ = some (.int .u8 114) := hcells 1 _ rfl
  have h2 : w3.cell? ⟨g, 2, none⟩ = some (.int .u8 3) := hcells 2 _ rfl
  have h3 : w3.cell? ⟨g, 3, none⟩ = some (.int .u8 a0) := hcells 3 _ rfl
  have h4 : w3.cell? ⟨g, 4, none⟩ = some (.int .u8 (a1 / 256 % 256)) := hcells 4 _ rfl
  have h5 : w3.cell? ⟨g, 5, none⟩ = some (.int .u8 (a1 % 256)) := hcells 5 _ rfl
  clear hH hcells hb3
  go_wp2
  go_region_with (go_at_call 6; refine (read16 _ g _ u a1 HU.out ?_ ?_).mono ?_; exact h4; exact h5; rintro e w4 ⟨rfl, hb4⟩; have c0 : w4.cell? ⟨g, 0, none⟩ = some (.int .u8 109) := cell_later hb4 h0; have c1 : w4.cell? ⟨g, 1, none⟩ = some (.int .u8 114) := cell_later hb4 h1; have c2 : w4.cell? ⟨g, 2, none⟩ = some (.int .u8 3) := cell_later hb4 h2; have c3 : w4.cell? ⟨g, 3, none⟩ = some (.int .u8 a0) := cell_later hb4 h3; have hcv := fun cap => conv_two w4 g cap c0 c1)
  all_goals
    go_wp2
    go_ret
    exact ⟨rfl, HB.out.drew.trans (hb4.mono HB.out.size)⟩

/-! ### THE ROW's STEP: WRITTEN OUT: LEAVE IT -/
set_option maxRecDepth 100000 in
theorem lifted (os : Os) (started : os.Started) (H : Type) (enc : TypeId × Value → H) :
    ReturnsInHanded {} Yba.checked os 4 .any (Rows.lawS2071BRoundTripSpec.pre6 enc Yba.prog Yba.f4 Rows.lawS2071BRoundTripRow.domain false) (Rows.lawS2071BRoundTripSpec.post enc Yba.prog Yba.f4 false true false false) := by
  refine returnsInHanded_of_change (C := Yba.checked) own started (by kernel_rfl) Yba.func4
    (ChangeSpec.witness6 (enc := enc) (C := Yba.checked) false ⟨#[], #[.int .u8 0, .int .i64 0], []⟩ 8 (by kernel_rfl) (by kernel_rfl) (by kernel_rfl) (by kernel_rfl)) ?_
  intro W base args ds gs before hval0 hW hcnd _
  have hval : ∀ (j : Nat) t v, Yba.f4.params[j]? = some t → args[j]? = some v → Value.okWide Yba.prog W .any base t v := hval0
  have hW' := hW
  obtain ⟨p, q, hA0, hV, rfl, hfz, hnd⟩ := hW
  have hA : DataW.TrodAll enc Yba.prog W 0 (fun _ => true) true Yba.f4.params.toList args.toList ds p := hA0
  rw [Yba.params4] at hA hval
  obtain ⟨v0, vs0, d0, ds0, p0, q0, hargs, rfl, rfl, h0, r0⟩ := trodAll_cons hA
  obtain ⟨v1, vs1, d1, ds1, p1, q1, rfl, rfl, rfl, h1, r1⟩ := trodAll_cons r0
  obtain ⟨rfl, rfl, rfl⟩ := trodAll_nil r1
  obtain rfl : args = #[v0, v1] := by cases args; simp_all
  obtain ⟨rfl, rfl⟩ := trodVars_none hV
  obtain ⟨a0, rfl, rfl, rfl, w0⟩ := open_int Yba.underlying5 (hval 0 5 v0 rfl rfl) h0
  obtain ⟨a1, rfl, rfl, rfl, w1⟩ := open_int Yba.underlying3 (hval 1 3 v1 rfl rfl) h1
  clear hA0 hval0
  simp only [List.append_nil] at hW'
  refine (walk a0 a1 w0 w1 W).mono fun e W' ⟨he, bel⟩ => ?_
  subst he
  exact ⟨_, rfl, _, _, _, [], _, [], hW', trodAll_mk1 (shut_bool Yba.underlying4 _), (trodAll_cons_mk (shut_int Yba.underlying5 w0) (trodAll_cons_mk (shut_int Yba.underlying3 w1) trodAll_mk0)), rfl, bel.frame _, fun h => by cases h⟩

theorem over : Rows.lawS2071BRoundTripRow.holds Yba.pinned (OpenSpec.ofChange Rows.lawS2071BRoundTripSpec) :=
  OpenClaim.holds_of_wide 4 Yba.f4 rfl rfl rfl rfl rfl rfl rfl ⟨rfl, rfl, rfl, rfl, rfl⟩ rfl rfl rfl rfl rfl (by kernel_rfl) Yba.func4 (by kernel_rfl)
    (of_decide_eq_true (by kernel_rfl)) (by unfold Func.isWrapper; first | (rw [if_pos (by decide +kernel)]; kernel_rfl) | (rw [if_neg (by decide +kernel)]; exact ⟨rfl, rfl⟩))
    (fun os started H enc _ => lifted os started H enc)

/-- ████ THE STATEMENT ████ -/
theorem proved : Rows.LawS2071BRoundTripSaid :=
  over
#print axioms proved
end Go.Proofs.Ybulkapwe.lawS2071BRoundTrip
