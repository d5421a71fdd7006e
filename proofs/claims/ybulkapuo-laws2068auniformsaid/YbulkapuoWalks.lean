/-
  Seat b2068a: THE CONTRACTS: readWord (5), zzs2068aexpect (6).
-/
import Derived.Test.YbulkapuoRows
import Derived.Test.YbulkapuoShelf
import Derived.Test.YbulkapuoPlain
import Derived.WalkKit
import Derived.WalkSpells
import Derived.Below
import Derived.Laws.Shifts
import Derived.WideShapes
namespace Go.Proofs.Ybulkapuo
open Go.RowKit

theorem ret_u64 {a b : Int} (h : a = b) : Ending.returned (.int .u64 a) = .returned (.int .u64 b) := by rw [h]

theorem shl_all (len : Nat) (h : 8 < len) : Op.shift .shl .u64 1 .i64 (8 * (len : Int)) = pure (.int .u64 0) := by
  rw [shift_shl_any _ _ _ _ (by omega)]
  have : min (8 * (len : Int)).toNat IntKind.u64.bits = 64 := by
    have : IntKind.u64.bits = 64 := rfl
    omega
  rw [this, IntKind.wrap_u64]
  rfl

theorem long_fin (zs : List Int) (hz : Bytes zs) (len : Nat) (h : 8 ≤ len) (hl : len ≤ zs.length) (x : Int) :
    bits .or .u64 (acc (zs.take len) 0) (bits .andNot .u64 (IntKind.u64.wrap x) (IntKind.u64.wrap (-1))) = word zs len := by
  have e : IntKind.u64.wrap (-1) = 18446744073709551615 := by rw [IntKind.wrap_u64]; rfl
  rw [e]
  exact word_long' zs hz len h hl _ (by rw [IntKind.wrap_u64]; omega) (by rw [IntKind.wrap_u64]; omega)

set_option maxHeartbeats 400000 in
theorem readWord_loop (b off len cap : Nat) (zs : List Int) (w : World) (h1 : 1 ≤ len) (h8 : ((len : Int) == 8) = false) (hz : len ≤ zs.length) (hbig : len ≤ 1024) (hB : Bytes zs)
    (hc : ∀ j, j < zs.length → w.cell? ⟨b, off + j, none⟩ = some (.int .u8 (zs.getD j 0))) :
    Calls Yba.prog 5 #[.slice (some ⟨b, off, none⟩) len cap] w fun e w' => e = .returned (.int .u64 (word zs len)) ∧ w' = w := by
  have HB : Hid (Bytes zs) := hB
  clear hB
  go_enter Yba.func5, Yba.ntmps5
  go_wp2
  go_loop [3, 4] (fun t i => ∃ k : Nat, k ≤ len ∧ i = .int .i64 ((k : Int) - 1) ∧ t = .int .u64 (acc (zs.take len) k)) (fun _ i => (intOf i + 1).toNat)
  case atStart => exact ⟨len, Nat.le_refl _, rfl, by rw [acc_end _ _ (by simp; omega)]⟩
  case round =>
    obtain ⟨k, hk, rfl, rfl⟩ := hrel
    have hcell : 0 < k → w.cell? ⟨b, off + (k - 1), none⟩ = some (.int .u8 (zs.getD (k - 1) 0)) := fun _ => hc _ (by omega)
    have hcell0 : w.cell? ⟨b, off, none⟩ = some (.int .u8 (zs.getD 0 0)) := hc 0 (by omega)
    by_cases hk0 : 0 < k
    · have HS : Hid (bits .or .u64 (IntKind.u64.wrap (acc (zs.take len) k * 256)) (IntKind.u64.wrap (zs[k - 1]?.getD 0)) = acc (zs.take len) (k - 1)) := by
        have h := acc_step (zs.take len) (take_bytes HB.out len) (k - 1) (by simp; omega)
        rw [show k - 1 + 1 = k by omega] at h
        rw [List.getD_eq_getElem?_getD, List.getElem?_take_of_lt (by omega)] at h
        exact h
      go_wp2
      go_round
      case rel => exact ⟨k - 1, by omega, by go_num, by rw [HS.out]⟩
      case measure => simp [intOf]; omega
    · obtain rfl : k = 0 := by omega
      by_cases h9 : 8 < len
      · have hs := shl_all len h9
        go_wp2
        go_ret
        refine ⟨ret_u64 ?_, rfl⟩
        exact long_fin zs HB.out len (by omega) hz _
      · have hl : len = 1 ∨ len = 2 ∨ len = 3 ∨ len = 4 ∨ len = 5 ∨ len = 6 ∨ len = 7 := by
          have : (len : Int) ≠ 8 := by simpa using h8
          omega
        rcases hl with rfl | rfl | rfl | rfl | rfl | rfl | rfl
        all_goals
          go_wp2
          go_ret
          refine ⟨ret_u64 ?_, rfl⟩
        · exact word_fin1 zs HB.out hz
        · exact word_fin2 zs HB.out hz
        · exact word_fin3 zs HB.out hz
        · exact word_fin4 zs HB.out hz
        · exact word_fin5 zs HB.out hz
        · exact word_fin6 zs HB.out hz
        · exact word_fin7 zs HB.out hz

theorem wf_bytes {zs : List Int} (h : Bytes zs) : ∀ z ∈ zs, (Lit.int .u8 z).wf = true := fun z hz => WalkArith.wf_u8 (by have := h z hz; omega)

set_option maxHeartbeats 400000 in
theorem readWord_eight (b off cap : Nat) (zs : List Int) (w : World) (hz : 8 ≤ zs.length) (hB : Bytes zs)
    (hc : ∀ j, j < zs.length → w.cell? ⟨b, off + j, none⟩ = some (.int .u8 (zs.getD j 0))) :
    Calls Yba.prog 5 #[.slice (some ⟨b, off, none⟩) 8 cap] w fun e w' => e = .returned (.int .u64 (word zs 8)) ∧ Below w.heap.size w w' := by
  have hE := Yba.binary_LE_Uint64_z ⟨b, off, none⟩ 8 cap zs w (Nat.le_refl _) hz (fun i hi => by rw [WideShapes.add_plain]; exact hc i hi) (wf_bytes hB)
  rw [word_leZ zs hB hz] at hE
  clear hc hB
  go_enter Yba.func5, Yba.ntmps5
  go_wp2_with (go_at_call 7; refine hE.mono ?_; rintro e w' ⟨rfl, hb⟩)
  go_ret
  exact ⟨rfl, hb⟩

set_option maxHeartbeats 400000 in
theorem expect_any (b off len cap : Nat) (zs : List Int) (w : World) (h1 : 1 ≤ len) (hz : len ≤ zs.length) (hbig : len ≤ 1024) (hB : Bytes zs)
    (hc : ∀ j, j < zs.length → w.cell? ⟨b, off + j, none⟩ = some (.int .u8 (zs.getD j 0))) :
    Calls Yba.prog 6 #[.slice (some ⟨b, off, none⟩) len cap] w fun e w' => e = .returned (.int .u64 (word zs len)) ∧ w' = w := by
  have HB : Hid (Bytes zs) := hB
  clear hB
  go_enter Yba.func6, Yba.ntmps6
  go_wp2
  go_loop [3, 4] (fun t i => ∃ k : Nat, k ≤ 8 ∧ i = .int .i64 ((k : Int) - 1) ∧ t = .int .u64 (acc (picks zs len) k)) (fun _ i => (intOf i + 1).toNat)
  case atStart => exact ⟨8, Nat.le_refl _, rfl, by rw [acc_end _ _ (by simp [picks_len])]⟩
  case round =>
    obtain ⟨k, hk, rfl, rfl⟩ := hrel
    have hcell : 0 < k → k - 1 < len → w.cell? ⟨b, off + (k - 1), none⟩ = some (.int .u8 (zs.getD (k - 1) 0)) := fun _ _ => hc _ (by omega)
    have hcell0 : w.cell? ⟨b, off, none⟩ = some (.int .u8 (zs.getD 0 0)) := hc 0 (by omega)
    by_cases hk0 : 0 < k
    · have HS : Hid (bits .or .u64 (IntKind.u64.wrap (acc (picks zs len) k * 256)) (IntKind.u64.wrap (pick zs len (k - 1))) = acc (picks zs len) (k - 1)) := by
        have h := acc_step (picks zs len) (picks_bytes HB.out len) (k - 1) (by rw [picks_len]; omega)
        rw [show k - 1 + 1 = k by omega, picks_getD zs len (k - 1) (by omega)] at h
        exact h
      by_cases hlt : k - 1 < len
      · have HP : Hid (pick zs len (k - 1) = zs[k - 1]?.getD 0) := by unfold pick; rw [if_pos hlt, List.getD_eq_getElem?_getD]; exact rfl
        go_wp2
        go_round
        case rel => exact ⟨k - 1, by omega, by go_num, by rw [← HS.out, HP.out]⟩
        case measure => simp [intOf]; omega
      · have HP : Hid (pick zs len (k - 1) = zs[0]?.getD 0) := by unfold pick; rw [if_neg hlt, List.getD_eq_getElem?_getD]; exact rfl
        go_wp2
        go_round
        case rel => exact ⟨k - 1, by omega, by go_num, by rw [← HS.out, HP.out]⟩
        case measure => simp [intOf]; omega
    · obtain rfl : k = 0 := by omega
      go_wp2
      go_ret
      exact ⟨rfl, rfl⟩

theorem readWord_any (b off len cap : Nat) (zs : List Int) (w : World) (h1 : 1 ≤ len) (hz : len ≤ zs.length) (hbig : len ≤ 1024) (hB : Bytes zs)
    (hc : ∀ j, j < zs.length → w.cell? ⟨b, off + j, none⟩ = some (.int .u8 (zs.getD j 0))) :
    Calls Yba.prog 5 #[.slice (some ⟨b, off, none⟩) len cap] w fun e w' => e = .returned (.int .u64 (word zs len)) ∧ Below w.heap.size w w' := by
  by_cases h8 : len = 8
  · subst h8
    exact readWord_eight b off cap zs w hz hB hc
  · refine (readWord_loop b off len cap zs w h1 (by simp; omega) hz hbig hB hc).mono ?_
    rintro e w' ⟨he, rfl⟩
    exact ⟨he, Below.refl _ _⟩
end Go.Proofs.Ybulkapuo
