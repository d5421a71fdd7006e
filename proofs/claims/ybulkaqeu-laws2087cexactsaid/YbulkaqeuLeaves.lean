/-
  Seat b2087a: THE CONTRACTS, the leaves: AppendUint16 | 32 | 64 (14, 11, 15) in the kit's own words; compactSize (12); scriptNumber (10); appendOutput (13).
-/
import Derived.Test.YbulkaqeuKit
import Derived.Test.YbulkaqeuShelf
import Derived.Lib.EndianBits
namespace Go.Proofs.Ybulkaqeu
open Go.RowKit

theorem app16 (B u : Nat) (hu : u < 65536) (v : Value) (l : List Int) (w : World) (hown : Own w B v l) (hB : B ≤ w.heap.size) (hl : l.length ≤ 100000) :
    Calls Yba.prog 14 #[.agg #[], v, .int .u16 (u : Int)] w fun e w' => ∃ v', e = .returned v' ∧ Own w' B v' (l ++ le 2 u) ∧ Below B w w' := by
  refine (Yba.binary_LE_AppendUint16 B l.length u hu v (cells l) w hown hB (by omega)).mono ?_
  rintro e w' ⟨v', he, h1, hb⟩
  exact ⟨v', he, by unfold Own; rw [List.length_append, cells_append, le_length, ← le_cells]; exact h1, hb⟩

theorem app32 (B u : Nat) (hu : u < 4294967296) (v : Value) (l : List Int) (w : World) (hown : Own w B v l) (hB : B ≤ w.heap.size) (hl : l.length ≤ 100000) :
    Calls Yba.prog 11 #[.agg #[], v, .int .u32 (u : Int)] w fun e w' => ∃ v', e = .returned v' ∧ Own w' B v' (l ++ le 4 u) ∧ Below B w w' := by
  refine (Yba.binary_LE_AppendUint32 B l.length u hu v (cells l) w hown hB (by omega)).mono ?_
  rintro e w' ⟨v', he, h1, hb⟩
  exact ⟨v', he, by unfold Own; rw [List.length_append, cells_append, le_length, ← le_cells]; exact h1, hb⟩

theorem app64 (B u : Nat) (hu : u < 18446744073709551616) (v : Value) (l : List Int) (w : World) (hown : Own w B v l) (hB : B ≤ w.heap.size) (hl : l.length ≤ 100000) :
    Calls Yba.prog 15 #[.agg #[], v, .int .u64 (u : Int)] w fun e w' => ∃ v', e = .returned v' ∧ Own w' B v' (l ++ le 8 u) ∧ Below B w w' := by
  refine (Yba.binary_LE_AppendUint64 B l.length u hu v (cells l) w hown hB (by omega)).mono ?_
  rintro e w' ⟨v', he, h1, hb⟩
  exact ⟨v', he, by unfold Own; rw [List.length_append, cells_append, le_length, ← le_cells]; exact h1, hb⟩

/-- What a function leaves that hands back a row of its own. -/
def Fresh (w : World) (L : List Int) (e : Ending) (w' : World) : Prop := ∃ v', e = .returned v' ∧ Own w' w.heap.size v' L ∧ Below w.heap.size w w'

theorem own_one (w : World) (B : Nat) (z : Int) (hB : B ≤ w.heap.size) : Own (w.alloc (.cells #[.int .u8 z] 5)) B (.slice (some ⟨w.heap.size, 0, none⟩) 1 1) [z] := own_lit w B [z] hB (by simp)

theorem cs_small (n : Nat) (h : n < 253) (w : World) : Calls Yba.prog 12 #[.int .u64 (n : Int)] w (Fresh w (csz n)) := by
  have h' : (n : Int) < 253 := by omega
  go_enter Yba.func12, Yba.ntmps12
  go_wp2
  go_ret
  refine ⟨_, rfl, ?_, (Below.refl _ _).alloc (Nat.le_refl _) _⟩
  rw [csz, if_pos h']
  exact own_one w _ _ (Nat.le_refl _)

theorem cs_two (n : Nat) (h : ¬ n < 253) (h2 : n ≤ 65535) (w : World) : Calls Yba.prog 12 #[.int .u64 (n : Int)] w (Fresh w (csz n)) := by
  have HC : Hid (csz n = [253] ++ le 2 n) := by unfold Hid; rw [csz, if_neg (by omega), if_pos (by omega)]; rfl
  have h' : ¬ (n : Int) < 253 := by omega
  have h2' : (n : Int) ≤ 65535 := by omega
  have hA := app16 w.heap.size n (by omega) _ [253] (w.alloc (.cells #[.int .u8 253] 5)) (own_one w _ _ (Nat.le_refl _)) (by simp) (by simp)
  go_enter Yba.func12, Yba.ntmps12
  go_wp2_with fail
  refine hA.mono ?_
  rintro e w' ⟨v', rfl, h1, hb⟩
  go_wp2
  go_ret
  exact ⟨v', rfl, by rw [HC.out]; exact h1, ((Below.refl _ _).alloc (Nat.le_refl _) _).trans hb⟩

theorem cs_four (n : Nat) (h : ¬ n ≤ 65535) (h2 : n ≤ 4294967295) (w : World) : Calls Yba.prog 12 #[.int .u64 (n : Int)] w (Fresh w (csz n)) := by
  have HC : Hid (csz n = [254] ++ le 4 n) := by unfold Hid; rw [csz, if_neg (by omega), if_neg (by omega), if_pos (by omega)]; rfl
  have h0 : ¬ (n : Int) < 253 := by omega
  have h' : ¬ (n : Int) ≤ 65535 := by omega
  have h2' : (n : Int) ≤ 4294967295 := by omega
  have hA := app32 w.heap.size n (by omega) _ [254] (w.alloc (.cells #[.int .u8 254] 5)) (own_one w _ _ (Nat.le_refl _)) (by simp) (by simp)
  go_enter Yba.func12, Yba.ntmps12
  go_wp2_with fail
  refine hA.mono ?_
  rintro e w' ⟨v', rfl, h1, hb⟩
  go_wp2
  go_ret
  exact ⟨v', rfl, by rw [HC.out]; exact h1, ((Below.refl _ _).alloc (Nat.le_refl _) _).trans hb⟩

theorem cs_eight (n : Nat) (h : ¬ n ≤ 4294967295) (h2 : n < 18446744073709551616) (w : World) : Calls Yba.prog 12 #[.int .u64 (n : Int)] w (Fresh w (csz n)) := by
  have HC : Hid (csz n = [255] ++ le 8 n) := by unfold Hid; rw [csz, if_neg (by omega), if_neg (by omega), if_neg (by omega)]; rfl
  have h0 : ¬ (n : Int) < 253 := by omega
  have h1 : ¬ (n : Int) ≤ 65535 := by omega
  have h' : ¬ (n : Int) ≤ 4294967295 := by omega
  have hA := app64 w.heap.size n h2 _ [255] (w.alloc (.cells #[.int .u8 255] 5)) (own_one w _ _ (Nat.le_refl _)) (by simp) (by simp)
  clear h2
  go_enter Yba.func12, Yba.ntmps12
  go_wp2_with fail
  refine hA.mono ?_
  rintro e w' ⟨v', rfl, h1, hb⟩
  go_wp2
  go_ret
  exact ⟨v', rfl, by rw [HC.out]; exact h1, ((Below.refl _ _).alloc (Nat.le_refl _) _).trans hb⟩

theorem cs_any (n : Nat) (h : n < 18446744073709551616) (w : World) : Calls Yba.prog 12 #[.int .u64 (n : Int)] w (Fresh w (csz n)) := by
  by_cases h1 : n < 253
  · exact cs_small n h1 w
  · by_cases h2 : n ≤ 65535
    · exact cs_two n h1 h2 w
    · by_cases h3 : n ≤ 4294967295
      · exact cs_four n h2 h3 w
      · exact cs_eight n h3 h w

set_option maxHeartbeats 400000 in
/-- appendOutput, onto a row that the call owns; the script lies below it. -/
theorem output_any (B u : Nat) (hu : u < 18446744073709551616) (val : Int) (hval : IntKind.u64.wrap val = (u : Int)) (v : Value) (l m : List Int) (sa : Option Addr) (n sc : Nat) (w : World)
    (hn : m.length = n) (hm : n ≤ 1024) (hown : Own w B v l) (hB : B ≤ w.heap.size) (hl : l.length ≤ 10000) (hrow : ∀ w', Below B w w' → Row w' (.slice sa n sc) m) :
    Calls Yba.prog 13 #[v, .int .i64 val, .slice sa n sc] w fun e w' => ∃ v', e = .returned v' ∧ Own w' B v' (l ++ le 8 u ++ csz n ++ m) ∧ Below B w w' := by
  have hA := app64 B u hu v l w hown hB (by omega)
  have HN : Hid (m.length = n) := hn
  have HO : Hid (∀ w', Below B w w' → Row w' (.slice sa n sc) m) := hrow
  clear hrow hown hn hu
  go_enter Yba.func13, Yba.ntmps13
  go_wp2_with fail
  refine hA.mono ?_
  rintro e w1 ⟨v1, rfl, h1, hb1⟩
  have hB1 := Nat.le_trans hB hb1.size
  clear hA
  have hC := cs_any n (by omega) w1
  go_wp2_with fail
  refine hC.mono ?_
  rintro e w2 ⟨v2, rfl, h2, hb2⟩
  have h1' := h1.later hb2
  have hb2' := hb2.mono hB1
  have hB2 := Nat.le_trans hB1 hb2.size
  have c1 := csz_le n
  have c2 := le_length 8 u
  have HL : Hid ((l ++ le 8 u ++ csz n).length ≤ 10017) := by unfold Hid; simp only [List.length_append]; omega
  clear hC
  go_wp2_with (first | (at_builtin; refine append_row rfl (.tmp 12) (.tmp 16) rfl B v1 v2 _ _ rfl rfl h1' h2.row (by simp only [List.length_append]; omega) hB2 ?_; intro v3 w3 h3 _ hb3; have hb3' := (hb1.trans hb2').trans hb3; have hr3 := HO.out w3 hb3'; have hB3 := Nat.le_trans hB2 hb3.size) | (at_builtin; refine append_row rfl (.tmp 18) (.tmp 19) rfl B v3 _ _ _ rfl rfl h3 hr3 (by have := HL.out; have := HN.out; omega) hB3 ?_; intro v4 w4 h4 _ hb4))
  go_ret
  exact ⟨v4, rfl, h4, hb3'.trans hb4⟩

theorem number_small (h : Int) (h16 : h ≤ 16) (w : World) : Calls Yba.prog 10 #[.int .i64 h] w (Fresh w (push h)) := by
  have HP : Hid (push h = [(80 + h) % 256]) := by unfold Hid; rw [push, if_pos h16]
  go_enter Yba.func10, Yba.ntmps10
  go_wp2
  go_ret
  exact ⟨_, rfl, by rw [HP.out]; exact own_one w _ _ (Nat.le_refl _), (Below.refl _ _).alloc (Nat.le_refl _) _⟩

theorem and_top : ∀ z : Fin 256, (bits .and .u8 (z.val : Int) 128 != 0) = decide (128 ≤ z.val) := by decide +kernel

theorem and_top' (z : Int) (h : 0 ≤ z ∧ z ≤ 255) : (bits .and .u8 z 128 != 0) = decide (128 ≤ z) := by
  have h1 := and_top ⟨z.toNat, by omega⟩
  have e : ((z.toNat : Nat) : Int) = z := by omega
  simp only [e] at h1
  rw [h1]
  congr 1
  apply propext
  omega

theorem last_of (l : List Int) (h : l ≠ []) : l[l.length - 1]? = some (l.getLastD 0) := by
  rw [← List.getLast?_eq_getElem?, List.getLastD_eq_getLast?]
  cases h' : l.getLast? with
  | none => exact absurd (List.getLast?_eq_none_iff.1 h') h
  | some a => rfl

theorem last_in (l : List Int) (h : l ≠ []) : l.getLastD 0 ∈ l := List.mem_of_getElem? (last_of l h)

theorem push_pad (h : Int) (h16 : ¬ h ≤ 16) (d : List Int) (hd : d = digs 8 h) (hz : 128 ≤ d.getLastD 0) : push h = [(d.length : Int) + 1] ++ (d ++ [0]) := by
  rw [push, if_neg h16, ← hd, pad, if_pos hz]
  simp

theorem push_bare (h : Int) (h16 : ¬ h ≤ 16) (d : List Int) (hd : d = digs 8 h) (hz : ¬ 128 ≤ d.getLastD 0) : push h = [(d.length : Int)] ++ d := by
  rw [push, if_neg h16, ← hd, pad, if_neg hz]
  simp

/-- What the loops leave: the digits, a row that is there, its last cell. -/
theorem digits_left {h y : Int} {f : Nat} {done : List Int} {wr : World} {B : Nat} {nv : Value} (h17 : 16 < h) (hdig : Dig h f done y) (hy : ¬ 0 < y) (hown : Own wr B nv done) :
    ∃ g cap, nv = .slice (some ⟨g, 0, none⟩) done.length cap ∧ cap ≤ 9223372036854775807 ∧ done = digs 8 h ∧ 1 ≤ done.length ∧ done.length ≤ 8 ∧ (0 ≤ done.getLastD 0 ∧ done.getLastD 0 ≤ 255) ∧
      wr.cell? ⟨g, done.length - 1, none⟩ = some (.int .u8 (done.getLastD 0)) := by
  have hd := hdig.stop hy
  have hne : done ≠ [] := by rw [hd]; exact digs_ne 7 h (by omega)
  obtain ⟨g, cap, rfl, _, hcap⟩ := hown.shape hne
  have hlast : 0 ≤ done.getLastD 0 ∧ done.getLastD 0 ≤ 255 := by
    have hm := last_in done hne
    rw [hd] at hm
    rw [hd]
    exact digs_range 8 h _ hm
  have hlen : 1 ≤ done.length := by cases done with | nil => exact absurd rfl hne | cons _ _ => simp
  exact ⟨g, cap, rfl, hcap, hd, hlen, hdig.len, hlast, hown.cell (last_of done hne)⟩

set_option maxHeartbeats 400000 in
theorem number_loop (h : Int) (h16 : ¬ h ≤ 16) (hmax : h < 9223372036854775808) (w : World) : Calls Yba.prog 10 #[.int .i64 h] w (Fresh w (push h)) := by
  have hd := Dig.start h (by omega) hmax
  have h17 : 16 < h := by omega
  have hm2 : h ≤ 9223372036854775807 := by omega
  clear hmax
  go_enter Yba.func10, Yba.ntmps10
  go_wp2
  go_loopw [3, 4] (fun nv x wr => ∃ (f : Nat) (done : List Int) (y : Int), x = .int .i64 y ∧ y ≤ h ∧ Dig h f done y ∧ Own wr w.heap.size nv done ∧ Below w.heap.size w wr) (fun _ x _ => (intOf x).toNat)
  case atStart => exact ⟨8, [], h, rfl, Int.le_refl _, hd, Own.nil _ _, Below.refl _ _⟩
  case round =>
    obtain ⟨f, done, y, rfl, hyh, hdig, hown, hb⟩ := hrel
    have hB := hb.size
    by_cases hy : 0 < y
    · obtain ⟨f', rfl, hdig'⟩ := hdig.step hy
      have hlen := hdig.len
      clear hd hdig
      go_wp2_with (at_builtin; refine append_row rfl (.tmp 16) (.tmp 19) rfl w.heap.size _ _ done [y % 256] rfl rfl (hown.alloc _) (row_one wr _) (by simp; omega) (by simp; omega) ?_; intro v2 w2 h2 _ hb2)
      go_roundw
      case rel => exact ⟨f', _, _, rfl, by omega, hdig', h2, (hb.alloc hB _).trans hb2⟩
      case measure => simp [intOf]; omega
    · obtain ⟨g, cap, rfl, hcap, hdd, hl1, hl8, hz, hcell⟩ := digits_left h17 hdig hy hown
      have HD : Hid (done = digs 8 h) := hdd
      obtain ⟨z, hzz⟩ : ∃ z, z = done.getLastD 0 := ⟨_, rfl⟩
      rw [← hzz] at hz hcell
      have HZ : Hid (z = done.getLastD 0) := hzz
      have ht := and_top' z hz
      clear hd hdig hdd hzz
      by_cases h128 : 128 ≤ z
      · have htt : (bits .and .u8 z 128 != 0) = true := by rw [ht]; simpa using h128
        clear ht
        go_wp2_with (first | (at_builtin; refine append_row rfl (.tmp 29) (.tmp 30) rfl w.heap.size _ _ done [0] rfl rfl (hown.alloc _) (row_one wr _) (by simp; omega) (by simp; omega) ?_; intro v2 w2 h2 _ hb2; have hb2' := (hb.alloc hB _).trans hb2; have hB2 := hb2'.size; obtain ⟨g2, cap2, rfl, _, hcap2⟩ := h2.shapeN (done.length + 1) (by simp) (by omega)) | (at_builtin; refine append_row rfl (.tmp 35) (.tmp 36) rfl w.heap.size _ _ [(done.length : Int) + 1] (done ++ [0]) rfl rfl (own_one w2 _ _ hB2) (h2.row.alloc _) (by simp; omega) (by simp; omega) ?_; intro v3 w3 h3 _ hb3))
        go_ret
        exact ⟨v3, rfl, by rw [push_pad h (by omega) done HD.out (by rw [← HZ.out]; omega)]; exact h3, (hb2'.alloc hB2 _).trans hb3⟩
      · have htt : (bits .and .u8 z 128 != 0) = false := by rw [ht]; simpa using h128
        clear ht
        go_wp2_with (at_builtin; refine append_row rfl (.tmp 35) (.tmp 36) rfl w.heap.size _ _ [(done.length : Int)] done rfl rfl (own_one wr _ _ hB) (hown.row.alloc _) (by simp; omega) (by simp; omega) ?_; intro v3 w3 h3 _ hb3)
        go_ret
        exact ⟨v3, rfl, by rw [push_bare h (by omega) done HD.out (by rw [← HZ.out]; omega)]; exact h3, (hb.alloc hB _).trans hb3⟩

theorem number_any (h : Int) (hmax : h < 9223372036854775808) (w : World) : Calls Yba.prog 10 #[.int .i64 h] w (Fresh w (push h)) := by
  by_cases h16 : h ≤ 16
  · exact number_small h h16 w
  · exact number_loop h h16 hmax w

/-! The same over Int's numbers, as the walk writes them. -/
theorem app32z (B : Nat) (z : Int) (h0 : 0 ≤ z) (h1 : z < 4294967296) (v : Value) (l : List Int) (w : World) (hown : Own w B v l) (hB : B ≤ w.heap.size) (hl : l.length ≤ 100000) :
    Calls Yba.prog 11 #[.agg #[], v, .int .u32 z] w fun e w' => ∃ v', e = .returned v' ∧ Own w' B v' (l ++ le 4 z) ∧ Below B w w' := by
  obtain ⟨u, rfl⟩ := Int.eq_ofNat_of_zero_le h0
  exact app32 B u (by omega) v l w hown hB hl

theorem cs_z (z : Int) (h0 : 0 ≤ z) (h1 : z < 18446744073709551616) (w : World) : Calls Yba.prog 12 #[.int .u64 z] w (Fresh w (csz z)) := by
  obtain ⟨u, rfl⟩ := Int.eq_ofNat_of_zero_le h0
  exact cs_any u (by omega) w

theorem output_z (B : Nat) (val : Int) (v : Value) (l m : List Int) (sa : Option Addr) (n sc : Nat) (w : World)
    (hn : m.length = n) (hm : n ≤ 1024) (hown : Own w B v l) (hB : B ≤ w.heap.size) (hl : l.length ≤ 10000) (hrow : ∀ w', Below B w w' → Row w' (.slice sa n sc) m) :
    Calls Yba.prog 13 #[v, .int .i64 val, .slice sa n sc] w fun e w' => ∃ v', e = .returned v' ∧ Own w' B v' (l ++ le 8 (val % 18446744073709551616) ++ csz n ++ m) ∧ Below B w w' := by
  obtain ⟨u, hu⟩ := Int.eq_ofNat_of_zero_le (show 0 ≤ val % 18446744073709551616 by omega)
  rw [hu]
  exact output_any B u (by omega) val (by rw [IntKind.wrap_u64, hu]) v l m sa n sc w hn hm hown hB hl hrow
end Go.Proofs.Ybulkaqeu
