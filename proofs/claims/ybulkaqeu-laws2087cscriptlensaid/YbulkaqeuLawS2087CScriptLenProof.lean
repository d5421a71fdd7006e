/-
  The proof of 'Rows.LawS2087CScriptLenSaid', over the kit's shell; the hole is filled; the row's step ends by 'Below' (as the kit's shell for slices does).
-/
import Derived.Test.YbulkaqeuRows
import Derived.Test.YbulkaqeuSplit
import Derived.Below
import Derived.WalkKit
import Derived.ProofKit
import Derived.OpenShut
import Derived.ShutString
namespace Go.Proofs.Ybulkaqeu.lawS2087CScriptLen
open Go.ChangeShapes Go.WideShapes Go.ChangeAt Go.RowKit
open Go.ChangeMaps (open_string shut_string)
set_option linter.unusedVariables false      -- a walk need not use every 'w<i>' (that an integer argument fits its kind)

theorem own : ownKnob Yba.prog.godebug = none := by kernel_rfl

/-! ### THE PLAIN LAW: the script's length is one byte, and it is what it says -/
theorem slen_plain (h e : Int) (n : Nat) (he : 0 ≤ e) (he2 : e ≤ 200) (hn : n ≤ 32) :
    slen h e n = (push h).length + 5 + e + (if n = 0 then 0 else 1 + (n : Int)) ∧ 0 ≤ slen h e n ∧ slen h e n < 253 := by
  have hp := push_le h
  unfold slen
  split <;> omega

theorem sigs_len (s : ByteArray) : ((sigs s).length : Int) = if s.size = 0 then 0 else 1 + (s.size : Int) := by
  unfold sigs
  split
  · simp
  · simp [nums_length]; omega

theorem one_shape (h e : Int) (s : ByteArray) (he : 0 ≤ e) (he2 : e ≤ 200) (hn : s.size ≤ 32) : ∃ N : Nat, (one h e s).length = N ∧ 43 ≤ N ∧ N ≤ 90 ∧ (N : Int) - 42 + 4 + e < 253 ∧
    (one h e s)[41]? = some ((N : Int) - 42 + 4 + e) ∧ (one h e s)[N - 1]? = some (4 + e) := by
  obtain ⟨h1, h2, h3⟩ := slen_plain h e s.size he he2 hn
  have hs := sigs_len s
  have hp := push_le h
  have hc : csz (slen h e s.size) = [slen h e s.size] := by rw [csz, if_pos h3]
  have hlen : (one h e s).length = 42 + (push h).length + (sigs s).length + 1 := by
    simp only [one, hc, List.length_append, le_length, List.length_cons, List.length_nil, zeros32, List.length_replicate]
  have hslen : slen h e s.size = (push h).length + 5 + e + (sigs s).length := by rw [h1, hs]
  have hpos : ((sigs s).length : Int) ≤ 33 := by rw [hs]; split <;> omega
  refine ⟨_, hlen, by omega, by omega, by omega, ?_, ?_⟩
  · have e1 : one h e s = (le 4 1 ++ [1] ++ zeros32 ++ le 4 4294967295) ++ (slen h e s.size :: (push h ++ sigs s ++ [(4 + e) % 256])) := by
      simp only [one, hc, List.append_assoc, List.cons_append, List.nil_append]
    have e2 : (le 4 1 ++ [1] ++ zeros32 ++ le 4 4294967295).length = 41 := rfl
    rw [e1, List.getElem?_append_right (by rw [e2]; exact Nat.le_refl _), e2]
    simp only [Nat.sub_self, List.getElem?_cons_zero]
    congr 1
    omega
  · have e1 : one h e s = (le 4 1 ++ [1] ++ zeros32 ++ le 4 4294967295 ++ csz (slen h e s.size) ++ push h ++ sigs s) ++ [(4 + e) % 256] := rfl
    have e2 : (le 4 1 ++ [1] ++ zeros32 ++ le 4 4294967295 ++ csz (slen h e s.size) ++ push h ++ sigs s).length = 42 + (push h).length + (sigs s).length := by
      simp only [hc, List.length_append, le_length, List.length_cons, List.length_nil, zeros32, List.length_replicate]
    rw [e1, List.getElem?_append_right (by rw [e2]; omega), e2, show 42 + (push h).length + (sigs s).length + 1 - 1 - (42 + (push h).length + (sigs s).length) = 0 by omega]
    simp only [List.getElem?_cons_zero]
    congr 1
    omega

/-! ### STEP 1: THE WALK -/
set_option maxHeartbeats 400000 in
theorem walk_short (a0 : ByteArray) (h e val er : Int) (hs : a0.size ≤ 32) (hh : h < 9223372036854775808) (her : 0 ≤ er ∧ er ≤ 255) (hee : er % 201 = e) (w : World) :
    Calls Yba.prog 4 #[.string a0, .int .i64 h, .int .u8 er, .int .i64 val] w fun r w' => r = .returned (.bool true) ∧ Below w.heap.size w w' := by
  have he0 : 0 ≤ e := by omega
  have he1 : e ≤ 200 := by omega
  obtain ⟨N, hN, hN1, hN2, hN3, h41, hlast⟩ := one_shape h e a0 he0 he1 hs
  have H41 : Hid ((one h e a0)[41]? = some ((N : Int) - 42 + 4 + e)) := h41
  have HLA : Hid ((one h e a0)[N - 1]? = some (4 + e)) := hlast
  have HN : Hid ((one h e a0).length = N) := hN
  have hSP := fun W hr => split_any (some ⟨w.heap.size, 0, none⟩) none 1 1 0 0 a0 h e val [81] [] W hh (by omega) rfl rfl (by omega) (by omega) hr ⟨none, 0, rfl, fun _ => ⟨rfl, rfl⟩, fun ad had => by cases had⟩
  clear hh h41 hlast hN
  go_enter Yba.func4, Yba.ntmps4
  go_wp2_with fail
  refine (hSP _ ((row_one w 81).alloc _)).mono ?_
  rintro r w1 ⟨v1, v2, rfl, o1, o2, b1⟩
  obtain ⟨g, cap, rfl, hcap, hcap2⟩ := o1.shapeN N HN.out (by omega)
  have c41 := o1.cell H41.out
  have clast := o1.cell HLA.out
  have HB : Hid (Below w.heap.size w w1) := (((Below.refl _ _).alloc (Nat.le_refl _) _).alloc (by simp) _).trans (b1.mono (by simp; omega))
  clear hSP o1 o2 b1
  go_wp2
  go_ret
  exact ⟨rfl, HB.out⟩

theorem walk (a0 : ByteArray) (a1 : Int) (a2 : Int) (a3 : Int) (w0 : a0.size ≤ maxLen) (w1 : (Lit.int .i64 a1).wf = true) (w2 : (Lit.int .u8 a2).wf = true) (w3 : (Lit.int .i64 a3).wf = true) (w : World) :
    Calls Yba.prog 4 #[.string a0, .int .i64 a1, .int .u8 a2, .int .i64 a3] w fun e w' => e = .returned (.bool true) ∧ Below w.heap.size w w' := by
  by_cases hs : a0.size ≤ 32
  · have b1 := bounds_i64 w1
    have b2 := bounds_u8 w2
    exact walk_short a0 a1 (a2 % 201) a3 a2 hs (by omega) (by omega) rfl w
  · have ht : (32 : Int) < (a0.size : Int) := by omega
    unfold maxLen at w0
    clear w1 w2 w3
    go_enter Yba.func4, Yba.ntmps4
    go_wp2
    go_ret
    exact ⟨rfl, Below.refl _ _⟩

/-! ### THE ROW's STEP: WRITTEN OUT: LEAVE IT -/
set_option maxRecDepth 100000 in
theorem lifted (os : Os) (started : os.Started) (H : Type) (enc : TypeId × Value → H) :
    ReturnsInHanded {} Yba.checked os 4 .any (Rows.lawS2087CScriptLenSpec.pre6 enc Yba.prog Yba.f4 Rows.lawS2087CScriptLenRow.domain false) (Rows.lawS2087CScriptLenSpec.post enc Yba.prog Yba.f4 false true false false) := by
  refine returnsInHanded_of_change (C := Yba.checked) own started (by kernel_rfl) Yba.func4
    (ChangeSpec.witness6 (enc := enc) (C := Yba.checked) false ⟨#[], #[.string ByteArray.empty, .int .i64 0, .int .u8 0, .int .i64 0], []⟩ 8 (by kernel_rfl) (by kernel_rfl) (by kernel_rfl) (by kernel_rfl)) ?_
  intro W base args ds gs before hval0 hW hcnd _
  have hval : ∀ (j : Nat) t v, Yba.f4.params[j]? = some t → args[j]? = some v → Value.okWide Yba.prog W .any base t v := hval0
  have hW' := hW
  obtain ⟨p, q, hA0, hV, rfl, hfz, hnd⟩ := hW
  have hA : DataW.TrodAll enc Yba.prog W 0 (fun _ => true) true Yba.f4.params.toList args.toList ds p := hA0
  rw [Yba.params4] at hA hval
  obtain ⟨v0, vs0, d0, ds0, p0, q0, hargs, rfl, rfl, h0, r0⟩ := trodAll_cons hA
  obtain ⟨v1, vs1, d1, ds1, p1, q1, rfl, rfl, rfl, h1, r1⟩ := trodAll_cons r0
  obtain ⟨v2, vs2, d2, ds2, p2, q2, rfl, rfl, rfl, h2, r2⟩ := trodAll_cons r1
  obtain ⟨v3, vs3, d3, ds3, p3, q3, rfl, rfl, rfl, h3, r3⟩ := trodAll_cons r2
  obtain ⟨rfl, rfl, rfl⟩ := trodAll_nil r3
  obtain rfl : args = #[v0, v1, v2, v3] := by cases args; simp_all
  obtain ⟨rfl, rfl⟩ := trodVars_none hV
  obtain ⟨a0, rfl, rfl, rfl, w0⟩ := open_string Yba.underlying9 (hval 0 9 v0 rfl rfl) h0
  obtain ⟨a1, rfl, rfl, rfl, w1⟩ := open_int Yba.underlying2 (hval 1 2 v1 rfl rfl) h1
  obtain ⟨a2, rfl, rfl, rfl, w2⟩ := open_int Yba.underlying5 (hval 2 5 v2 rfl rfl) h2
  obtain ⟨a3, rfl, rfl, rfl, w3⟩ := open_int Yba.underlying2 (hval 3 2 v3 rfl rfl) h3
  clear hA0 hval0
  simp only [List.append_nil] at hW'
  refine (walk a0 a1 a2 a3 w0 w1 w2 w3 W).mono fun e W' ⟨he, bel⟩ => ?_
  subst he
  exact ⟨_, rfl, _, _, _, [], _, [], hW', trodAll_mk1 (shut_bool Yba.underlying4 _), (trodAll_cons_mk (shut_string Yba.underlying9 w0) (trodAll_cons_mk (shut_int Yba.underlying2 w1) (trodAll_cons_mk (shut_int Yba.underlying5 w2) (trodAll_cons_mk (shut_int Yba.underlying2 w3) trodAll_mk0)))), rfl, bel.frame _, fun h => by cases h⟩

theorem over : Rows.lawS2087CScriptLenRow.holds Yba.pinned (OpenSpec.ofChange Rows.lawS2087CScriptLenSpec) :=
  OpenClaim.holds_of_wide 4 Yba.f4 rfl rfl rfl rfl rfl rfl rfl ⟨rfl, rfl, rfl, rfl, rfl⟩ rfl rfl rfl rfl rfl (by kernel_rfl) Yba.func4 (by kernel_rfl)
    (of_decide_eq_true (by kernel_rfl)) (by unfold Func.isWrapper; first | (rw [if_pos (by decide +kernel)]; kernel_rfl) | (rw [if_neg (by decide +kernel)]; exact ⟨rfl, rfl⟩))
    (fun os started H enc _ => lifted os started H enc)

/-- ████ THE STATEMENT ████ -/
theorem proved : Rows.LawS2087CScriptLenSaid :=
  over
#print axioms proved
end Go.Proofs.Ybulkaqeu.lawS2087CScriptLen
