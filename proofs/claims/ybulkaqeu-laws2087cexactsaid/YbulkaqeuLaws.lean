/-
  Seat b2087a: THE CONTRACTS of the law's own helpers: zzs2087cle (6), zzs2087ccs (8), zzs2087cpush (7).
-/
import Derived.Test.YbulkaqeuLeaves
namespace Go.Proofs.Ybulkaqeu
open Go.RowKit

theorem nameL (l : List Int) : ∃ L, Hid (L = l) := ⟨l, Eq.refl l⟩

theorem pow256 (n : Nat) : (256 : Int) ^ n = 2 ^ (8 * n) := by rw [Int.pow_mul]; rfl

set_option maxHeartbeats 400000 in
theorem le_any (B k : Nat) (hk : k ≤ 8) (v : Int) (_hv0 : 0 ≤ v) (_hv1 : v ≤ 18446744073709551615) (b : Value) (l : List Int) (w : World) (hown : Own w B b l) (hB : B ≤ w.heap.size) (hl : l.length ≤ 100000) :
    Calls Yba.prog 6 #[b, .int .u64 v, .int .i64 (k : Int)] w fun e w' => ∃ v', e = .returned v' ∧ Own w' B v' (l ++ le k v) ∧ Below B w w' := by
  go_enter Yba.func6, Yba.ntmps6
  go_wp2
  go_loopw [0, 7] (fun bv i wr => ∃ n : Nat, n ≤ k ∧ i = .int .i64 n ∧ Own wr B bv (l ++ le n v) ∧ Below B w wr) (fun _ i _ => k - (intOf i).toNat)
  case atStart => exact ⟨0, Nat.zero_le _, rfl, by simpa [le] using hown, Below.refl _ _⟩
  case round =>
    obtain ⟨n, hn, rfl, ho, hb⟩ := hrel
    have hBr := Nat.le_trans hB hb.size
    by_cases hlt : n < k
    · obtain ⟨L, HL⟩ := nameL (l ++ le n v)
      rw [← HL.out] at ho
      have hlen : L.length ≤ 100008 := by rw [HL.out, List.length_append, le_length]; omega
      clear hown
      go_wp2_with (at_builtin; refine append_rowL rfl (.tmp 13) (.tmp 20) rfl B _ _ L [_] rfl rfl (ho.alloc _) (row_one wr _) (by simp; omega) (by simp; omega) ?_; intro v2 w2 L2 H2 h2 _ hb2)
      go_roundw
      case rel => exact ⟨n + 1, by omega, by go_num, by rw [le_snoc, pow256 n, ← List.append_assoc, ← HL.out, ← H2.out]; exact h2, (hb.alloc hBr _).trans hb2⟩
      case measure => simp [intOf]; omega
    · obtain rfl : n = k := by omega
      go_wp2
      go_ret
      exact ⟨_, rfl, ho, hb⟩

theorem le_two (B : Nat) (v : Int) (hv0 : 0 ≤ v) (hv1 : v ≤ 18446744073709551615) (b : Value) (l : List Int) (w : World) (hown : Own w B b l) (hB : B ≤ w.heap.size) (hl : l.length ≤ 100000) :
    Calls Yba.prog 6 #[b, .int .u64 v, .int .i64 2] w fun e w' => ∃ v', e = .returned v' ∧ Own w' B v' (l ++ le 2 v) ∧ Below B w w' := le_any B 2 (by omega) v hv0 hv1 b l w hown hB hl
theorem le_four (B : Nat) (v : Int) (hv0 : 0 ≤ v) (hv1 : v ≤ 18446744073709551615) (b : Value) (l : List Int) (w : World) (hown : Own w B b l) (hB : B ≤ w.heap.size) (hl : l.length ≤ 100000) :
    Calls Yba.prog 6 #[b, .int .u64 v, .int .i64 4] w fun e w' => ∃ v', e = .returned v' ∧ Own w' B v' (l ++ le 4 v) ∧ Below B w w' := le_any B 4 (by omega) v hv0 hv1 b l w hown hB hl
theorem le_eight (B : Nat) (v : Int) (hv0 : 0 ≤ v) (hv1 : v ≤ 18446744073709551615) (b : Value) (l : List Int) (w : World) (hown : Own w B b l) (hB : B ≤ w.heap.size) (hl : l.length ≤ 100000) :
    Calls Yba.prog 6 #[b, .int .u64 v, .int .i64 8] w fun e w' => ∃ v', e = .returned v' ∧ Own w' B v' (l ++ le 8 v) ∧ Below B w w' := le_any B 8 (by omega) v hv0 hv1 b l w hown hB hl

theorem ccs_small (n : Int) (h0 : 0 ≤ n) (h : n < 253) (w : World) : Calls Yba.prog 8 #[.int .u64 n] w (Fresh w (csz n)) := by
  have HC : Hid (csz n = [n]) := by unfold Hid; rw [csz, if_pos h]
  go_enter Yba.func8, Yba.ntmps8
  go_wp2
  go_ret
  exact ⟨_, rfl, by rw [HC.out]; exact own_one w _ _ (Nat.le_refl _), (Below.refl _ _).alloc (Nat.le_refl _) _⟩

theorem ccs_two (n : Int) (h : ¬ n < 253) (h2 : n ≤ 65535) (w : World) : Calls Yba.prog 8 #[.int .u64 n] w (Fresh w (csz n)) := by
  have HC : Hid (csz n = [253] ++ le 2 n) := by unfold Hid; rw [csz, if_neg h, if_pos h2]; rfl
  have hA := le_two w.heap.size n (by omega) (by omega) _ [253] (w.alloc (.cells #[.int .u8 253] 5)) (own_one w _ _ (Nat.le_refl _)) (by simp) (by simp)
  go_enter Yba.func8, Yba.ntmps8
  go_wp2_with fail
  refine hA.mono ?_
  rintro e w' ⟨v', rfl, h1, hb⟩
  go_wp2
  go_ret
  exact ⟨v', rfl, by rw [HC.out]; exact h1, ((Below.refl _ _).alloc (Nat.le_refl _) _).trans hb⟩

theorem ccs_four (n : Int) (h : ¬ n ≤ 65535) (h2 : n ≤ 4294967295) (w : World) : Calls Yba.prog 8 #[.int .u64 n] w (Fresh w (csz n)) := by
  have HC : Hid (csz n = [254] ++ le 4 n) := by unfold Hid; rw [csz, if_neg (by omega), if_neg h, if_pos h2]; rfl
  have h0 : ¬ n < 253 := by omega
  have hA := le_four w.heap.size n (by omega) (by omega) _ [254] (w.alloc (.cells #[.int .u8 254] 5)) (own_one w _ _ (Nat.le_refl _)) (by simp) (by simp)
  go_enter Yba.func8, Yba.ntmps8
  go_wp2_with fail
  refine hA.mono ?_
  rintro e w' ⟨v', rfl, h1, hb⟩
  go_wp2
  go_ret
  exact ⟨v', rfl, by rw [HC.out]; exact h1, ((Below.refl _ _).alloc (Nat.le_refl _) _).trans hb⟩

theorem ccs_eight (n : Int) (h : ¬ n ≤ 4294967295) (h2 : n < 18446744073709551616) (w : World) : Calls Yba.prog 8 #[.int .u64 n] w (Fresh w (csz n)) := by
  have HC : Hid (csz n = [255] ++ le 8 n) := by unfold Hid; rw [csz, if_neg (by omega), if_neg (by omega), if_neg h]; rfl
  have h0 : ¬ n < 253 := by omega
  have h1 : ¬ n ≤ 65535 := by omega
  have hA := le_eight w.heap.size n (by omega) (by omega) _ [255] (w.alloc (.cells #[.int .u8 255] 5)) (own_one w _ _ (Nat.le_refl _)) (by simp) (by simp)
  clear h2
  go_enter Yba.func8, Yba.ntmps8
  go_wp2_with fail
  refine hA.mono ?_
  rintro e w' ⟨v', rfl, h1, hb⟩
  go_wp2
  go_ret
  exact ⟨v', rfl, by rw [HC.out]; exact h1, ((Below.refl _ _).alloc (Nat.le_refl _) _).trans hb⟩

theorem ccs_any (n : Int) (h0 : 0 ≤ n) (h : n < 18446744073709551616) (w : World) : Calls Yba.prog 8 #[.int .u64 n] w (Fresh w (csz n)) := by
  by_cases h1 : n < 253
  · exact ccs_small n h0 h1 w
  · by_cases h2 : n ≤ 65535
    · exact ccs_two n h1 h2 w
    · by_cases h3 : n ≤ 4294967295
      · exact ccs_four n h2 h3 w
      · exact ccs_eight n h3 h w

theorem cpush_small (h : Int) (h16 : h ≤ 16) (w : World) : Calls Yba.prog 7 #[.int .i64 h] w (Fresh w (push h)) := by
  have HP : Hid (push h = [(80 + h) % 256]) := by unfold Hid; rw [push, if_pos h16]
  go_enter Yba.func7, Yba.ntmps7
  go_wp2
  go_ret
  exact ⟨_, rfl, by rw [HP.out]; exact own_one w _ _ (Nat.le_refl _), (Below.refl _ _).alloc (Nat.le_refl _) _⟩

set_option maxHeartbeats 400000 in
theorem cpush_loop (h : Int) (h16 : ¬ h ≤ 16) (hmax : h < 9223372036854775808) (w : World) : Calls Yba.prog 7 #[.int .i64 h] w (Fresh w (push h)) := by
  have hd := Dig.start h (by omega) hmax
  have h17 : 16 < h := by omega
  have hm2 : h ≤ 9223372036854775807 := by omega
  clear hmax
  go_enter Yba.func7, Yba.ntmps7
  go_wp2
  go_loopw [3, 4] (fun nv x wr => ∃ (f : Nat) (done : List Int) (y : Int), x = .int .i64 y ∧ y ≤ h ∧ Dig h f done y ∧ Own wr w.heap.size nv done ∧ Below w.heap.size w wr) (fun _ x _ => (intOf x).toNat)
  case atStart => exact ⟨8, [], h, rfl, Int.le_refl _, hd, Own.nil _ _, Below.refl _ _⟩
  case round =>
    obtain ⟨f, done, y, rfl, hyh, hdig, hown, hb⟩ := hrel
    have hB := hb.size
    by_cases hy : 0 < y
    · obtain ⟨f', rfl, hdig'⟩ := hdig.step hy
      have hlen := hdig.len
      clear hd hdig
      go_wp2_with (at_builtin; refine append_row rfl (.tmp 17) (.tmp 21) rfl w.heap.size _ _ done [y % 256] rfl rfl (hown.alloc _) (row_one wr _) (by simp; omega) (by simp; omega) ?_; intro v2 w2 h2 _ hb2)
      go_roundw
      case rel => exact ⟨f', _, _, rfl, by omega, hdig', h2, (hb.alloc hB _).trans hb2⟩
      case measure => simp [intOf]; omega
    · obtain ⟨g, cap, rfl, hcap, hdd, hl1, hl8, hz, hcell⟩ := digits_left h17 hdig hy hown
      have HD : Hid (done = digs 8 h) := hdd
      obtain ⟨z, hzz⟩ : ∃ z, z = done.getLastD 0 := ⟨_, rfl⟩
      rw [← hzz] at hz hcell
      have HZ : Hid (z = done.getLastD 0) := hzz
      clear hd hdig hdd hzz
      by_cases h128 : 128 ≤ z
      · go_wp2_with (first | (at_builtin; refine append_row rfl (.tmp 30) (.tmp 31) rfl w.heap.size _ _ done [0] rfl rfl (hown.alloc _) (row_one wr _) (by simp; omega) (by simp; omega) ?_; intro v2 w2 h2 _ hb2; have hb2' := (hb.alloc hB _).trans hb2; have hB2 := hb2'.size; obtain ⟨g2, cap2, rfl, _, hcap2⟩ := h2.shapeN (done.length + 1) (by simp) (by omega)) | (at_builtin; refine append_row rfl (.tmp 37) (.tmp 38) rfl w.heap.size _ _ [(done.length : Int) + 1] (done ++ [0]) rfl rfl (own_one w2 _ _ hB2) (h2.row.alloc _) (by simp; omega) (by simp; omega) ?_; intro v3 w3 h3 _ hb3))
        go_ret
        exact ⟨v3, rfl, by rw [push_pad h (by omega) done HD.out (by rw [← HZ.out]; omega)]; exact h3, (hb2'.alloc hB2 _).trans hb3⟩
      · go_wp2_with (at_builtin; refine append_row rfl (.tmp 37) (.tmp 38) rfl w.heap.size _ _ [(done.length : Int)] done rfl rfl (own_one wr _ _ hB) (hown.row.alloc _) (by simp; omega) (by simp; omega) ?_; intro v3 w3 h3 _ hb3)
        go_ret
        exact ⟨v3, rfl, by rw [push_bare h (by omega) done HD.out (by rw [← HZ.out]; omega)]; exact h3, (hb.alloc hB _).trans hb3⟩

theorem cpush_any (h : Int) (hmax : h < 9223372036854775808) (w : World) : Calls Yba.prog 7 #[.int .i64 h] w (Fresh w (push h)) := by
  by_cases h16 : h ≤ 16
  · exact cpush_small h h16 w
  · exact cpush_loop h h16 hmax w
end Go.Proofs.Ybulkaqeu
