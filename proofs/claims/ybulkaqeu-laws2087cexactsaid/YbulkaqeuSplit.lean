/-
  Seat b2087a: THE CONTRACT of split (5), in four ways: the signature empty or not, the commitment empty or not.
-/
import Derived.Test.YbulkaqeuLeaves
namespace Go.Proofs.Ybulkaqeu
open Go.RowKit

theorem str_ne (s : ByteArray) (h : 0 < s.size) : s.toList.isEmpty = false := by
  rw [Lib.toList_data]
  have : s.data.toList.length = s.size := by rw [Array.length_toList]; rfl
  cases hl : s.data.toList with
  | nil => rw [hl] at this; simp at this; omega
  | cons a t => rfl

theorem str_e (s : ByteArray) (h : s.size = 0) : s.toList.isEmpty = true := by
  rw [Lib.toList_data]
  have : s.data.toList.length = s.size := by rw [Array.length_toList]; rfl
  cases hl : s.data.toList with
  | nil => rfl
  | cons a t => rw [hl] at this; simp at this; omega

theorem wrap_mod (x : Int) : wrap64 x % 256 = x % 256 := by unfold wrap64; omega

theorem named (l : List Int) : ∃ L, Hid (L = l) := ⟨l, Eq.refl l⟩

theorem slen_n (h e : Int) : IntKind.u64.wrap (wrap64 (((push h).length : Int) + 1 + 4 + e)) = slen h e 0 := by
  rw [IntKind.wrap_u64, slen, if_pos rfl]
  unfold wrap64
  omega

theorem slen_s (h e : Int) (n : Nat) (hn : 0 < n) : IntKind.u64.wrap (wrap64 (wrap64 (((push h).length : Int) + 1 + 4 + e) + (1 + (n : Int)))) = slen h e n := by
  rw [IntKind.wrap_u64, slen, if_neg (by omega)]
  unfold wrap64
  omega

set_option maxHeartbeats 1000000 in
theorem split_sc (pa ca : Option Addr) (pn pc cn cc : Nat) (sig : ByteArray) (h e val : Int) (P C : List Int) (w : World)
    (hh : h < 9223372036854775808) (hsig : sig.size ≤ 1024) (hpn : P.length = pn) (hcn : C.length = cn) (hp : pn ≤ 1024) (hc : cn ≤ 1024)
    (hP : Row w (.slice pa pn pc) P) (hC : Row w (.slice ca cn cc) C) (hs0 : 0 < sig.size) (hc0 : 0 < cn) :
    Calls Yba.prog 5 #[.agg #[.slice pa pn pc, .string sig], .int .i64 h, .int .i64 e, .int .i64 val, .slice ca cn cc] w fun r w' =>
      ∃ v1 v2, r = .returned (.tuple #[v1, v2]) ∧ Own w' w.heap.size v1 (one h e sig) ∧ Own w' w.heap.size v2 (two val P C) ∧ Below w.heap.size w w' := by
  have hN := number_any h hh (w.alloc (.cells #[.slice pa pn pc, .string sig] 24))
  have hpl := push_le h
  have hpne := push_ne h
  have hCS := fun W => cs_z (slen h e sig.size) (slen_bd h e sig.size).1 (slen_bd h e sig.size).2 W
  have HP : Hid (Row w (.slice pa pn pc) P) := hP
  have HC : Hid (Row w (.slice ca cn cc) C) := hC
  have HPN : Hid (P.length = pn) := hpn
  have HCN : Hid (C.length = cn) := hcn
  have hse : sig.toList.isEmpty = false := str_ne sig hs0
  have hS := slen_s h e sig.size hs0
  have cl := csz_le (slen h e sig.size)
  have cp := csz_le pn
  have cc' := csz_le cn
  clear hh hP hC hpn hcn
  go_enter Yba.func5, Yba.ntmps5
  go_wp2_with fail
  refine hN.mono ?_
  rintro r wA ⟨vh, rfl, oh, bA⟩
  obtain ⟨gh, ch, rfl, _, hch⟩ := oh.shape hpne
  have s1 : wA.cell? ⟨w.heap.size, 1, none⟩ = some (.string sig) := cell_later bA (by simp)
  have s0 : wA.cell? ⟨w.heap.size, 0, none⟩ = some (.slice pa pn pc) := cell_later bA (by simp)
  have HA : Hid (Below w.heap.size w wA) := ((Below.refl _ _).alloc (Nat.le_refl _) _).trans (bA.mono (by simp))
  have HS1 : Hid (wA.cell? ⟨w.heap.size, 1, none⟩ = some (.string sig)) := s1
  have HS2 : Hid (wA.cell? ⟨w.heap.size, 0, none⟩ = some (.slice pa pn pc)) := s0
  clear hN hpne s0 bA
  go_wp2_with fail
  refine (app32z wA.heap.size 1 (by omega) (by omega) (.slice none 0 0) [] wA (Own.nil _ _) (Nat.le_refl _) (by simp)).mono ?_
  rintro r wB ⟨v1, rfl, o1, b1⟩
  obtain ⟨L1, H1⟩ : ∃ L, Hid (L = [] ++ le 4 1) := named _
  rw [← H1.out] at o1
  have n1 : L1.length = 4 := len_app H1
  have k1 := b1.size
  clear s1
  go_wp2_with (first | (at_builtin; refine append_rowL rfl (.tmp 34) (.tmp 35) rfl wA.heap.size v1 _ L1 [1] rfl rfl (o1.alloc _) (row_one wB _) (by simp; omega) (by simp; omega) ?_; intro v2 w2 L2 H2 o2 _ b2; have n2 : L2.length = 5 := (len_app H2).trans (by rw [n1]; rfl); have k2 := b2.size; have b2' := (b1.alloc k1 _).trans b2) | (at_builtin; refine append_zerosL rfl (.tmp 37) (.const (.int .i64 32)) rfl wA.heap.size v2 L2 rfl rfl o2 (ne_app H2 (by simp)) (by omega) b2'.size ?_; intro v3 w3 L3 H3 o3 b3; have n3 : L3.length = 37 := (len_app H3).trans (by rw [n2]; rfl); have b3' := b2'.trans b3))
  clear n1 n2 k2 k1 o1 b1 o2 b2 b3
  refine (app32z wA.heap.size 4294967295 (by omega) (by omega) v3 L3 w3 o3 b3'.size (by omega)).mono ?_
  rintro r w4 ⟨v4, rfl, o4, b4⟩
  obtain ⟨L4, H4⟩ : ∃ L, Hid (L = L3 ++ le 4 4294967295) := named _
  rw [← H4.out] at o4
  have n4 : L4.length = 41 := (len_app H4).trans (by rw [n3]; rfl)
  have b4' := b3'.trans b4
  clear n3 o3 b3' b4 b2'
  go_wp2_with fail
  refine (hCS w4).mono ?_
  rintro r w5 ⟨v5, rfl, o5, b5⟩
  have o4' := o4.later b5
  have b5' := b4'.trans (b5.mono b4'.size)
  have k5 := b5'.size
  clear hCS b5 b4' o4 hS
  go_wp2_with (first | (at_builtin; refine append_rowL rfl (.tmp 42) (.tmp 45) rfl wA.heap.size v4 v5 L4 (csz (slen h e sig.size)) rfl rfl o4' o5.row (by omega) k5 ?_; intro v6 w6 L6 H6 o6 _ b6; have b6' := b5'.trans b6; have n6 : L6.length ≤ 50 := (by rw [len_app H6]; omega)) | (at_builtin; refine append_rowL rfl (.tmp 47) (.tmp 48) rfl wA.heap.size v6 _ L6 (push h) rfl rfl o6 (oh.row.later b6') (by omega) b6'.size ?_; intro v7 w7 L7 H7 o7 _ b7; have b7' := b6'.trans b7; have k7 := b7'.size; have n7 : L7.length ≤ 60 := (by rw [len_app H7]; omega); have s7 := cell_later b7' HS1.out) | (at_builtin; refine append_rowL rfl (.tmp 53) (.tmp 58) rfl wA.heap.size v7 _ L7 [(sig.size : Int) % 256] rfl rfl (o7.alloc _) (row_one w7 _) (by simp; omega) (by simp; omega) ?_; intro v8 w8 L8 H8 o8 _ b8; have b8' := (b7'.alloc k7 _).trans b8; have n8 : L8.length ≤ 61 := (by rw [len_app H8]; simp; omega); have s8 := cell_later b8' HS1.out) | (at_builtin; refine append_strL rfl (.tmp 60) (.tmp 62) rfl wA.heap.size v8 L8 sig rfl rfl o8 (by omega) b8'.size ?_; intro v9 w9 L9 H9 o9 b9; have b9' := b8'.trans b9; have k9 := b9'.size; have n9 : L9.length ≤ 1085 := (by rw [len_app H9, nums_length]; omega)) | (at_builtin; refine append_rowL rfl (.tmp 64) (.tmp 68) rfl wA.heap.size v9 _ L9 [wrap64 (4 + e) % 256] rfl rfl (o9.alloc _) (row_one w9 _) (by simp; omega) (by simp; omega) ?_; intro v10 w10 L10 H10 o10 _ b10; have b10' := (b9'.alloc k9 _).trans b10))
  have HONE : Hid (L10 = one h e sig) := by
    unfold Hid
    rw [H10.out, wrap_mod, H9.out, H8.out, H7.out, H6.out, H4.out, H3.out, H2.out, H1.out, one, sigs, if_neg (by omega)]
    simp only [List.nil_append, List.append_assoc]
  have HO : Hid (Own w10 wA.heap.size v10 L10) := o10
  have HB10 : Hid (Below wA.heap.size wA w10) := b10'
  have s10 := cell_later b10' HS2.out
  clear n4 o4' o5 b5' k5 n6 o6 b6 b6' n7 k7 s7 o7 b7 b7' b10 o10 cl n8 s8 o8 b8 b8' n9 k9 o9 b9 b9' b10'
  refine (app32z w10.heap.size 4294967295 (by omega) (by omega) (.slice none 0 0) [] w10 (Own.nil _ _) (Nat.le_refl _) (by simp)).mono ?_
  rintro r w11 ⟨v11, rfl, o11, b11⟩
  obtain ⟨L11, H11⟩ : ∃ L, Hid (L = [] ++ le 4 4294967295) := named _
  rw [← H11.out] at o11
  have n11 : L11.length = 4 := len_app H11
  have k11 := b11.size
  go_wp2_with (at_builtin; refine append_rowL rfl (.tmp 77) (.tmp 80) rfl w10.heap.size v11 _ L11 [2] rfl rfl (o11.alloc _) (row_one w11 _) (by simp; omega) (by simp; omega) ?_; intro v12 w12 L12 H12 o12 _ b12; have n12 : L12.length = 5 := (len_app H12).trans (by rw [n11]; rfl); have b12' := (b11.alloc k11 _).trans b12; have s12 := cell_later b12' s10)
  have HRP : Hid (∀ w', Below w10.heap.size w12 w' → Row w' (.slice pa pn pc) P) := fun w' hb => HP.out.later (HA.out.trans ((HB10.out.trans ((b12'.trans hb).mono HB10.out.size)).mono HA.out.size))
  refine (output_z w10.heap.size val v12 L12 P pa pn pc w12 HPN.out hp o12 b12'.size (by omega) HRP.out).mono ?_
  rintro r w13 ⟨v13, rfl, o13, b13⟩
  obtain ⟨L13, H13⟩ : ∃ L, Hid (L = L12 ++ le 8 (val % 18446744073709551616) ++ csz pn ++ P) := named _
  rw [← H13.out] at o13
  have n13 : L13.length ≤ 1046 := by rw [H13.out]; simp only [List.length_append, le_length, HPN.out]; omega
  have b13' := b12'.trans b13
  clear n11 n12 k11 o11 b11 b12 s12 o12 b12' b13 s10 HRP
  go_wp2_with fail
  have HRC : Hid (∀ w', Below w10.heap.size w13 w' → Row w' (.slice ca cn cc) C) := fun w' hb => HC.out.later (HA.out.trans ((HB10.out.trans ((b13'.trans hb).mono HB10.out.size)).mono HA.out.size))
  refine (output_z w10.heap.size 0 v13 L13 C ca cn cc w13 HCN.out hc o13 b13'.size (by omega) HRC.out).mono ?_
  rintro r w14 ⟨v14, rfl, o14, b14⟩
  obtain ⟨L14, H14⟩ : ∃ L, Hid (L = L13 ++ le 8 (0 % 18446744073709551616) ++ csz cn ++ C) := named _
  rw [← H14.out] at o14
  have n14 : L14.length ≤ 2100 := by rw [H14.out]; simp only [List.length_append, le_length, HCN.out]; omega
  have b14' := b13'.trans b14
  clear HRC o13 b13' b14
  go_wp2_with fail
  refine (app32z w10.heap.size 0 (by omega) (by omega) v14 L14 w14 o14 b14'.size (by omega)).mono ?_
  rintro r w15 ⟨v15, rfl, o15, b15⟩
  have HTWO : Hid (L14 ++ le 4 0 = two val P C) := by
    unfold Hid
    rw [H14.out, H13.out, H12.out, H11.out, two, HCN.out, HPN.out, if_neg (by omega), if_neg (by omega)]
    simp only [List.nil_append, List.append_assoc, Int.zero_emod]
  rw [HTWO.out] at o15
  have HB15 : Hid (Below w10.heap.size w10 w15) := b14'.trans b15
  go_wp2
  go_ret2
  refine ⟨v10, v15, rfl, ?_, o15.base (Nat.le_trans HA.out.size HB10.out.size), HA.out.trans ((HB10.out.trans (HB15.out.mono HB10.out.size)).mono HA.out.size)⟩
  have h10 := HO.out
  rw [HONE.out] at h10
  exact (h10.later HB15.out).base HA.out.size

set_option maxHeartbeats 1000000 in
theorem split_sn (pa ca : Option Addr) (pn pc cn cc : Nat) (sig : ByteArray) (h e val : Int) (P C : List Int) (w : World)
    (hh : h < 9223372036854775808) (hsig : sig.size ≤ 1024) (hpn : P.length = pn) (hcn : C.length = cn) (hp : pn ≤ 1024) (hc : cn ≤ 1024)
    (hP : Row w (.slice pa pn pc) P) (hC : Row w (.slice ca cn cc) C) (hs0 : 0 < sig.size) (hc0 : cn = 0) :
    Calls Yba.prog 5 #[.agg #[.slice pa pn pc, .string sig], .int .i64 h, .int .i64 e, .int .i64 val, .slice ca cn cc] w fun r w' =>
      ∃ v1 v2, r = .returned (.tuple #[v1, v2]) ∧ Own w' w.heap.size v1 (one h e sig) ∧ Own w' w.heap.size v2 (two val P C) ∧ Below w.heap.size w w' := by
  have hN := number_any h hh (w.alloc (.cells #[.slice pa pn pc, .string sig] 24))
  have hpl := push_le h
  have hpne := push_ne h
  have hCS := fun W => cs_z (slen h e sig.size) (slen_bd h e sig.size).1 (slen_bd h e sig.size).2 W
  have HP : Hid (Row w (.slice pa pn pc) P) := hP
  have HC : Hid (Row w (.slice ca cn cc) C) := hC
  have HPN : Hid (P.length = pn) := hpn
  have HCN : Hid (C.length = cn) := hcn
  have hse : sig.toList.isEmpty = false := str_ne sig hs0
  have hS := slen_s h e sig.size hs0
  subst hc0
  have cl := csz_le (slen h e sig.size)
  have cp := csz_le pn
  clear hc
  clear hh hP hC hpn hcn
  go_enter Yba.func5, Yba.ntmps5
  go_wp2_with fail
  refine hN.mono ?_
  rintro r wA ⟨vh, rfl, oh, bA⟩
  obtain ⟨gh, ch, rfl, _, hch⟩ := oh.shape hpne
  have s1 : wA.cell? ⟨w.heap.size, 1, none⟩ = some (.string sig) := cell_later bA (by simp)
  have s0 : wA.cell? ⟨w.heap.size, 0, none⟩ = some (.slice pa pn pc) := cell_later bA (by simp)
  have HA : Hid (Below w.heap.size w wA) := ((Below.refl _ _).alloc (Nat.le_refl _) _).trans (bA.mono (by simp))
  have HS1 : Hid (wA.cell? ⟨w.heap.size, 1, none⟩ = some (.string sig)) := s1
  have HS2 : Hid (wA.cell? ⟨w.heap.size, 0, none⟩ = some (.slice pa pn pc)) := s0
  clear hN hpne s0 bA
  go_wp2_with fail
  refine (app32z wA.heap.size 1 (by omega) (by omega) (.slice none 0 0) [] wA (Own.nil _ _) (Nat.le_refl _) (by simp)).mono ?_
  rintro r wB ⟨v1, rfl, o1, b1⟩
  obtain ⟨L1, H1⟩ : ∃ L, Hid (L = [] ++ le 4 1) := named _
  rw [← H1.out] at o1
  have n1 : L1.length = 4 := len_app H1
  have k1 := b1.size
  clear s1
  go_wp2_with (first | (at_builtin; refine append_rowL rfl (.tmp 34) (.tmp 35) rfl wA.heap.size v1 _ L1 [1] rfl rfl (o1.alloc _) (row_one wB _) (by simp; omega) (by simp; omega) ?_; intro v2 w2 L2 H2 o2 _ b2; have n2 : L2.length = 5 := (len_app H2).trans (by rw [n1]; rfl); have k2 := b2.size; have b2' := (b1.alloc k1 _).trans b2) | (at_builtin; refine append_zerosL rfl (.tmp 37) (.const (.int .i64 32)) rfl wA.heap.size v2 L2 rfl rfl o2 (ne_app H2 (by simp)) (by omega) b2'.size ?_; intro v3 w3 L3 H3 o3 b3; have n3 : L3.length = 37 := (len_app H3).trans (by rw [n2]; rfl); have b3' := b2'.trans b3))
  clear n1 n2 k2 k1 o1 b1 o2 b2 b3
  refine (app32z wA.heap.size 4294967295 (by omega) (by omega) v3 L3 w3 o3 b3'.size (by omega)).mono ?_
  rintro r w4 ⟨v4, rfl, o4, b4⟩
  obtain ⟨L4, H4⟩ : ∃ L, Hid (L = L3 ++ le 4 4294967295) := named _
  rw [← H4.out] at o4
  have n4 : L4.length = 41 := (len_app H4).trans (by rw [n3]; rfl)
  have b4' := b3'.trans b4
  clear n3 o3 b3' b4 b2'
  go_wp2_with fail
  refine (hCS w4).mono ?_
  rintro r w5 ⟨v5, rfl, o5, b5⟩
  have o4' := o4.later b5
  have b5' := b4'.trans (b5.mono b4'.size)
  have k5 := b5'.size
  clear hCS b5 b4' o4 hS
  go_wp2_with (first | (at_builtin; refine append_rowL rfl (.tmp 42) (.tmp 45) rfl wA.heap.size v4 v5 L4 (csz (slen h e sig.size)) rfl rfl o4' o5.row (by omega) k5 ?_; intro v6 w6 L6 H6 o6 _ b6; have b6' := b5'.trans b6; have n6 : L6.length ≤ 50 := (by rw [len_app H6]; omega)) | (at_builtin; refine append_rowL rfl (.tmp 47) (.tmp 48) rfl wA.heap.size v6 _ L6 (push h) rfl rfl o6 (oh.row.later b6') (by omega) b6'.size ?_; intro v7 w7 L7 H7 o7 _ b7; have b7' := b6'.trans b7; have k7 := b7'.size; have n7 : L7.length ≤ 60 := (by rw [len_app H7]; omega); have s7 := cell_later b7' HS1.out) | (at_builtin; refine append_rowL rfl (.tmp 53) (.tmp 58) rfl wA.heap.size v7 _ L7 [(sig.size : Int) % 256] rfl rfl (o7.alloc _) (row_one w7 _) (by simp; omega) (by simp; omega) ?_; intro v8 w8 L8 H8 o8 _ b8; have b8' := (b7'.alloc k7 _).trans b8; have n8 : L8.length ≤ 61 := (by rw [len_app H8]; simp; omega); have s8 := cell_later b8' HS1.out) | (at_builtin; refine append_strL rfl (.tmp 60) (.tmp 62) rfl wA.heap.size v8 L8 sig rfl rfl o8 (by omega) b8'.size ?_; intro v9 w9 L9 H9 o9 b9; have b9' := b8'.trans b9; have k9 := b9'.size; have n9 : L9.length ≤ 1085 := (by rw [len_app H9, nums_length]; omega)) | (at_builtin; refine append_rowL rfl (.tmp 64) (.tmp 68) rfl wA.heap.size v9 _ L9 [wrap64 (4 + e) % 256] rfl rfl (o9.alloc _) (row_one w9 _) (by simp; omega) (by simp; omega) ?_; intro v10 w10 L10 H10 o10 _ b10; have b10' := (b9'.alloc k9 _).trans b10))
  have HONE : Hid (L10 = one h e sig) := by
    unfold Hid
    rw [H10.out, wrap_mod, H9.out, H8.out, H7.out, H6.out, H4.out, H3.out, H2.out, H1.out, one, sigs, if_neg (by omega)]
    simp only [List.nil_append, List.append_assoc]
  have HO : Hid (Own w10 wA.heap.size v10 L10) := o10
  have HB10 : Hid (Below wA.heap.size wA w10) := b10'
  have s10 := cell_later b10' HS2.out
  clear n4 o4' o5 b5' k5 n6 o6 b6 b6' n7 k7 s7 o7 b7 b7' b10 o10 cl n8 s8 o8 b8 b8' n9 k9 o9 b9 b9' b10'
  refine (app32z w10.heap.size 4294967295 (by omega) (by omega) (.slice none 0 0) [] w10 (Own.nil _ _) (Nat.le_refl _) (by simp)).mono ?_
  rintro r w11 ⟨v11, rfl, o11, b11⟩
  obtain ⟨L11, H11⟩ : ∃ L, Hid (L = [] ++ le 4 4294967295) := named _
  rw [← H11.out] at o11
  have n11 : L11.length = 4 := len_app H11
  have k11 := b11.size
  go_wp2_with (at_builtin; refine append_rowL rfl (.tmp 77) (.tmp 80) rfl w10.heap.size v11 _ L11 [1] rfl rfl (o11.alloc _) (row_one w11 _) (by simp; omega) (by simp; omega) ?_; intro v12 w12 L12 H12 o12 _ b12; have n12 : L12.length = 5 := (len_app H12).trans (by rw [n11]; rfl); have b12' := (b11.alloc k11 _).trans b12; have s12 := cell_later b12' s10)
  have HRP : Hid (∀ w', Below w10.heap.size w12 w' → Row w' (.slice pa pn pc) P) := fun w' hb => HP.out.later (HA.out.trans ((HB10.out.trans ((b12'.trans hb).mono HB10.out.size)).mono HA.out.size))
  refine (output_z w10.heap.size val v12 L12 P pa pn pc w12 HPN.out hp o12 b12'.size (by omega) HRP.out).mono ?_
  rintro r w13 ⟨v13, rfl, o13, b13⟩
  obtain ⟨L13, H13⟩ : ∃ L, Hid (L = L12 ++ le 8 (val % 18446744073709551616) ++ csz pn ++ P) := named _
  rw [← H13.out] at o13
  have n13 : L13.length ≤ 1046 := by rw [H13.out]; simp only [List.length_append, le_length, HPN.out]; omega
  have b13' := b12'.trans b13
  clear n11 n12 k11 o11 b11 b12 s12 o12 b12' b13 s10 HRP
  go_wp2_with fail
  refine (app32z w10.heap.size 0 (by omega) (by omega) v13 L13 w13 o13 b13'.size (by omega)).mono ?_
  rintro r w15 ⟨v15, rfl, o15, b15⟩
  have HTWO : Hid (L13 ++ le 4 0 = two val P C) := by
    unfold Hid
    rw [H13.out, H12.out, H11.out, two, HCN.out, HPN.out, if_pos rfl, if_pos rfl]
    simp only [List.nil_append, List.append_assoc]
  rw [HTWO.out] at o15
  have HB15 : Hid (Below w10.heap.size w10 w15) := b13'.trans b15
  go_wp2
  go_ret2
  refine ⟨v10, v15, rfl, ?_, o15.base (Nat.le_trans HA.out.size HB10.out.size), HA.out.trans ((HB10.out.trans (HB15.out.mono HB10.out.size)).mono HA.out.size)⟩
  have h10 := HO.out
  rw [HONE.out] at h10
  exact (h10.later HB15.out).base HA.out.size

set_option maxHeartbeats 1000000 in
theorem split_nc (pa ca : Option Addr) (pn pc cn cc : Nat) (sig : ByteArray) (h e val : Int) (P C : List Int) (w : World)
    (hh : h < 9223372036854775808) (_hsig : sig.size ≤ 1024) (hpn : P.length = pn) (hcn : C.length = cn) (hp : pn ≤ 1024) (hc : cn ≤ 1024)
    (hP : Row w (.slice pa pn pc) P) (hC : Row w (.slice ca cn cc) C) (hs0 : sig.size = 0) (hc0 : 0 < cn) :
    Calls Yba.prog 5 #[.agg #[.slice pa pn pc, .string sig], .int .i64 h, .int .i64 e, .int .i64 val, .slice ca cn cc] w fun r w' =>
      ∃ v1 v2, r = .returned (.tuple #[v1, v2]) ∧ Own w' w.heap.size v1 (one h e sig) ∧ Own w' w.heap.size v2 (two val P C) ∧ Below w.heap.size w w' := by
  have hN := number_any h hh (w.alloc (.cells #[.slice pa pn pc, .string sig] 24))
  have hpl := push_le h
  have hpne := push_ne h
  have hCS := fun W => cs_z (slen h e sig.size) (slen_bd h e sig.size).1 (slen_bd h e sig.size).2 W
  have HP : Hid (Row w (.slice pa pn pc) P) := hP
  have HC : Hid (Row w (.slice ca cn cc) C) := hC
  have HPN : Hid (P.length = pn) := hpn
  have HCN : Hid (C.length = cn) := hcn
  have hse : sig.toList.isEmpty = true := str_e sig hs0
  have hS := slen_n h e
  have HS0 : Hid (sig.size = 0) := hs0
  rw [hs0] at hCS
  have cl := csz_le (slen h e 0)
  have cp := csz_le pn
  have cc' := csz_le cn
  clear hh hP hC hpn hcn hs0
  go_enter Yba.func5, Yba.ntmps5
  go_wp2_with fail
  refine hN.mono ?_
  rintro r wA ⟨vh, rfl, oh, bA⟩
  obtain ⟨gh, ch, rfl, _, hch⟩ := oh.shape hpne
  have s1 : wA.cell? ⟨w.heap.size, 1, none⟩ = some (.string sig) := cell_later bA (by simp)
  have s0 : wA.cell? ⟨w.heap.size, 0, none⟩ = some (.slice pa pn pc) := cell_later bA (by simp)
  have HA : Hid (Below w.heap.size w wA) := ((Below.refl _ _).alloc (Nat.le_refl _) _).trans (bA.mono (by simp))
  have HS1 : Hid (wA.cell? ⟨w.heap.size, 1, none⟩ = some (.string sig)) := s1
  have HS2 : Hid (wA.cell? ⟨w.heap.size, 0, none⟩ = some (.slice pa pn pc)) := s0
  clear hN hpne s0 bA
  go_wp2_with fail
  refine (app32z wA.heap.size 1 (by omega) (by omega) (.slice none 0 0) [] wA (Own.nil _ _) (Nat.le_refl _) (by simp)).mono ?_
  rintro r wB ⟨v1, rfl, o1, b1⟩
  obtain ⟨L1, H1⟩ : ∃ L, Hid (L = [] ++ le 4 1) := named _
  rw [← H1.out] at o1
  have n1 : L1.length = 4 := len_app H1
  have k1 := b1.size
  clear s1
  go_wp2_with (first | (at_builtin; refine append_rowL rfl (.tmp 34) (.tmp 35) rfl wA.heap.size v1 _ L1 [1] rfl rfl (o1.alloc _) (row_one wB _) (by simp; omega) (by simp; omega) ?_; intro v2 w2 L2 H2 o2 _ b2; have n2 : L2.length = 5 := (len_app H2).trans (by rw [n1]; rfl); have k2 := b2.size; have b2' := (b1.alloc k1 _).trans b2) | (at_builtin; refine append_zerosL rfl (.tmp 37) (.const (.int .i64 32)) rfl wA.heap.size v2 L2 rfl rfl o2 (ne_app H2 (by simp)) (by omega) b2'.size ?_; intro v3 w3 L3 H3 o3 b3; have n3 : L3.length = 37 := (len_app H3).trans (by rw [n2]; rfl); have b3' := b2'.trans b3))
  clear n1 n2 k2 k1 o1 b1 o2 b2 b3
  refine (app32z wA.heap.size 4294967295 (by omega) (by omega) v3 L3 w3 o3 b3'.size (by omega)).mono ?_
  rintro r w4 ⟨v4, rfl, o4, b4⟩
  obtain ⟨L4, H4⟩ : ∃ L, Hid (L = L3 ++ le 4 4294967295) := named _
  rw [← H4.out] at o4
  have n4 : L4.length = 41 := (len_app H4).trans (by rw [n3]; rfl)
  have b4' := b3'.trans b4
  clear n3 o3 b3' b4 b2'
  go_wp2_with fail
  refine (hCS w4).mono ?_
  rintro r w5 ⟨v5, rfl, o5, b5⟩
  have o4' := o4.later b5
  have b5' := b4'.trans (b5.mono b4'.size)
  have k5 := b5'.size
  clear hCS b5 b4' o4 hS
  go_wp2_with (first | (at_builtin; refine append_rowL rfl (.tmp 42) (.tmp 45) rfl wA.heap.size v4 v5 L4 (csz (slen h e 0)) rfl rfl o4' o5.row (by omega) k5 ?_; intro v6 w6 L6 H6 o6 _ b6; have b6' := b5'.trans b6; have n6 : L6.length ≤ 50 := (by rw [len_app H6]; omega)) | (at_builtin; refine append_rowL rfl (.tmp 47) (.tmp 48) rfl wA.heap.size v6 _ L6 (push h) rfl rfl o6 (oh.row.later b6') (by omega) b6'.size ?_; intro v7 w7 L7 H7 o7 _ b7; have b7' := b6'.trans b7; have k7 := b7'.size; have n7 : L7.length ≤ 60 := (by rw [len_app H7]; omega); have s7 := cell_later b7' HS1.out) | (at_builtin; refine append_rowL rfl (.tmp 64) (.tmp 68) rfl wA.heap.size v7 _ L7 [wrap64 (4 + e) % 256] rfl rfl (o7.alloc _) (row_one w7 _) (by simp; omega) (by simp; omega) ?_; intro v10 w10 L10 H10 o10 _ b10; have b10' := (b7'.alloc k7 _).trans b10))
  have HONE : Hid (L10 = one h e sig) := by
    unfold Hid
    rw [H10.out, wrap_mod, H7.out, H6.out, H4.out, H3.out, H2.out, H1.out, one, sigs, HS0.out, if_pos rfl]
    simp only [List.nil_append, List.append_assoc, List.append_nil]
  have HO : Hid (Own w10 wA.heap.size v10 L10) := o10
  have HB10 : Hid (Below wA.heap.size wA w10) := b10'
  have s10 := cell_later b10' HS2.out
  clear n4 o4' o5 b5' k5 n6 o6 b6 b6' n7 k7 s7 o7 b7 b7' b10 o10 cl b10'
  refine (app32z w10.heap.size 4294967295 (by omega) (by omega) (.slice none 0 0) [] w10 (Own.nil _ _) (Nat.le_refl _) (by simp)).mono ?_
  rintro r w11 ⟨v11, rfl, o11, b11⟩
  obtain ⟨L11, H11⟩ : ∃ L, Hid (L = [] ++ le 4 4294967295) := named _
  rw [← H11.out] at o11
  have n11 : L11.length = 4 := len_app H11
  have k11 := b11.size
  go_wp2_with (at_builtin; refine append_rowL rfl (.tmp 77) (.tmp 80) rfl w10.heap.size v11 _ L11 [2] rfl rfl (o11.alloc _) (row_one w11 _) (by simp; omega) (by simp; omega) ?_; intro v12 w12 L12 H12 o12 _ b12; have n12 : L12.length = 5 := (len_app H12).trans (by rw [n11]; rfl); have b12' := (b11.alloc k11 _).trans b12; have s12 := cell_later b12' s10)
  have HRP : Hid (∀ w', Below w10.heap.size w12 w' → Row w' (.slice pa pn pc) P) := fun w' hb => HP.out.later (HA.out.trans ((HB10.out.trans ((b12'.trans hb).mono HB10.out.size)).mono HA.out.size))
  refine (output_z w10.heap.size val v12 L12 P pa pn pc w12 HPN.out hp o12 b12'.size (by omega) HRP.out).mono ?_
  rintro r w13 ⟨v13, rfl, o13, b13⟩
  obtain ⟨L13, H13⟩ : ∃ L, Hid (L = L12 ++ le 8 (val % 18446744073709551616) ++ csz pn ++ P) := named _
  rw [← H13.out] at o13
  have n13 : L13.length ≤ 1046 := by rw [H13.out]; simp only [List.length_append, le_length, HPN.out]; omega
  have b13' := b12'.trans b13
  clear n11 n12 k11 o11 b11 b12 s12 o12 b12' b13 s10 HRP
  go_wp2_with fail
  have HRC : Hid (∀ w', Below w10.heap.size w13 w' → Row w' (.slice ca cn cc) C) := fun w' hb => HC.out.later (HA.out.trans ((HB10.out.trans ((b13'.trans hb).mono HB10.out.size)).mono HA.out.size))
  refine (output_z w10.heap.size 0 v13 L13 C ca cn cc w13 HCN.out hc o13 b13'.size (by omega) HRC.out).mono ?_
  rintro r w14 ⟨v14, rfl, o14, b14⟩
  obtain ⟨L14, H14⟩ : ∃ L, Hid (L = L13 ++ le 8 (0 % 18446744073709551616) ++ csz cn ++ C) := named _
  rw [← H14.out] at o14
  have n14 : L14.length ≤ 2100 := by rw [H14.out]; simp only [List.length_append, le_length, HCN.out]; omega
  have b14' := b13'.trans b14
  clear HRC o13 b13' b14
  go_wp2_with fail
  refine (app32z w10.heap.size 0 (by omega) (by omega) v14 L14 w14 o14 b14'.size (by omega)).mono ?_
  rintro r w15 ⟨v15, rfl, o15, b15⟩
  have HTWO : Hid (L14 ++ le 4 0 = two val P C) := by
    unfold Hid
    rw [H14.out, H13.out, H12.out, H11.out, two, HCN.out, HPN.out, if_neg (by omega), if_neg (by omega)]
    simp only [List.nil_append, List.append_assoc, Int.zero_emod]
  rw [HTWO.out] at o15
  have HB15 : Hid (Below w10.heap.size w10 w15) := b14'.trans b15
  go_wp2
  go_ret2
  refine ⟨v10, v15, rfl, ?_, o15.base (Nat.le_trans HA.out.size HB10.out.size), HA.out.trans ((HB10.out.trans (HB15.out.mono HB10.out.size)).mono HA.out.size)⟩
  have h10 := HO.out
  rw [HONE.out] at h10
  exact (h10.later HB15.out).base HA.out.size

set_option maxHeartbeats 1000000 in
theorem split_nn (pa ca : Option Addr) (pn pc cn cc : Nat) (sig : ByteArray) (h e val : Int) (P C : List Int) (w : World)
    (hh : h < 9223372036854775808) (_hsig : sig.size ≤ 1024) (hpn : P.length = pn) (hcn : C.length = cn) (hp : pn ≤ 1024) (hc : cn ≤ 1024)
    (hP : Row w (.slice pa pn pc) P) (hC : Row w (.slice ca cn cc) C) (hs0 : sig.size = 0) (hc0 : cn = 0) :
    Calls Yba.prog 5 #[.agg #[.slice pa pn pc, .string sig], .int .i64 h, .int .i64 e, .int .i64 val, .slice ca cn cc] w fun r w' =>
      ∃ v1 v2, r = .returned (.tuple #[v1, v2]) ∧ Own w' w.heap.size v1 (one h e sig) ∧ Own w' w.heap.size v2 (two val P C) ∧ Below w.heap.size w w' := by
  have hN := number_any h hh (w.alloc (.cells #[.slice pa pn pc, .string sig] 24))
  have hpl := push_le h
  have hpne := push_ne h
  have hCS := fun W => cs_z (slen h e sig.size) (slen_bd h e sig.size).1 (slen_bd h e sig.size).2 W
  have HP : Hid (Row w (.slice pa pn pc) P) := hP
  have HC : Hid (Row w (.slice ca cn cc) C) := hC
  have HPN : Hid (P.length = pn) := hpn
  have HCN : Hid (C.length = cn) := hcn
  have hse : sig.toList.isEmpty = true := str_e sig hs0
  have hS := slen_n h e
  have HS0 : Hid (sig.size = 0) := hs0
  rw [hs0] at hCS
  subst hc0
  have cl := csz_le (slen h e 0)
  have cp := csz_le pn
  clear hc
  clear hh hP hC hpn hcn hs0
  go_enter Yba.func5, Yba.ntmps5
  go_wp2_with fail
  refine hN.mono ?_
  rintro r wA ⟨vh, rfl, oh, bA⟩
  obtain ⟨gh, ch, rfl, _, hch⟩ := oh.shape hpne
  have s1 : wA.cell? ⟨w.heap.size, 1, none⟩ = some (.string sig) := cell_later bA (by simp)
  have s0 : wA.cell? ⟨w.heap.size, 0, none⟩ = some (.slice pa pn pc) := cell_later bA (by simp)
  have HA : Hid (Below w.heap.size w wA) := ((Below.refl _ _).alloc (Nat.le_refl _) _).trans (bA.mono (by simp))
  have HS1 : Hid (wA.cell? ⟨w.heap.size, 1, none⟩ = some (.string sig)) := s1
  have HS2 : Hid (wA.cell? ⟨w.heap.size, 0, none⟩ = some (.slice pa pn pc)) := s0
  clear hN hpne s0 bA
  go_wp2_with fail
  refine (app32z wA.heap.size 1 (by omega) (by omega) (.slice none 0 0) [] wA (Own.nil _ _) (Nat.le_refl _) (by simp)).mono ?_
  rintro r wB ⟨v1, rfl, o1, b1⟩
  obtain ⟨L1, H1⟩ : ∃ L, Hid (L = [] ++ le 4 1) := named _
  rw [← H1.out] at o1
  have n1 : L1.length = 4 := len_app H1
  have k1 := b1.size
  clear s1
  go_wp2_with (first | (at_builtin; refine append_rowL rfl (.tmp 34) (.tmp 35) rfl wA.heap.size v1 _ L1 [1] rfl rfl (o1.alloc _) (row_one wB _) (by simp; omega) (by simp; omega) ?_; intro v2 w2 L2 H2 o2 _ b2; have n2 : L2.length = 5 := (len_app H2).trans (by rw [n1]; rfl); have k2 := b2.size; have b2' := (b1.alloc k1 _).trans b2) | (at_builtin; refine append_zerosL rfl (.tmp 37) (.const (.int .i64 32)) rfl wA.heap.size v2 L2 rfl rfl o2 (ne_app H2 (by simp)) (by omega) b2'.size ?_; intro v3 w3 L3 H3 o3 b3; have n3 : L3.length = 37 := (len_app H3).trans (by rw [n2]; rfl); have b3' := b2'.trans b3))
  clear n1 n2 k2 k1 o1 b1 o2 b2 b3
  refine (app32z wA.heap.size 4294967295 (by omega) (by omega) v3 L3 w3 o3 b3'.size (by omega)).mono ?_
  rintro r w4 ⟨v4, rfl, o4, b4⟩
  obtain ⟨L4, H4⟩ : ∃ L, Hid (L = L3 ++ le 4 4294967295) := named _
  rw [← H4.out] at o4
  have n4 : L4.length = 41 := (len_app H4).trans (by rw [n3]; rfl)
  have b4' := b3'.trans b4
  clear n3 o3 b3' b4 b2'
  go_wp2_with fail
  refine (hCS w4).mono ?_
  rintro r w5 ⟨v5, rfl, o5, b5⟩
  have o4' := o4.later b5
  have b5' := b4'.trans (b5.mono b4'.size)
  have k5 := b5'.size
  clear hCS b5 b4' o4 hS
  go_wp2_with (first | (at_builtin; refine append_rowL rfl (.tmp 42) (.tmp 45) rfl wA.heap.size v4 v5 L4 (csz (slen h e 0)) rfl rfl o4' o5.row (by omega) k5 ?_; intro v6 w6 L6 H6 o6 _ b6; have b6' := b5'.trans b6; have n6 : L6.length ≤ 50 := (by rw [len_app H6]; omega)) | (at_builtin; refine append_rowL rfl (.tmp 47) (.tmp 48) rfl wA.heap.size v6 _ L6 (push h) rfl rfl o6 (oh.row.later b6') (by omega) b6'.size ?_; intro v7 w7 L7 H7 o7 _ b7; have b7' := b6'.trans b7; have k7 := b7'.size; have n7 : L7.length ≤ 60 := (by rw [len_app H7]; omega); have s7 := cell_later b7' HS1.out) | (at_builtin; refine append_rowL rfl (.tmp 64) (.tmp 68) rfl wA.heap.size v7 _ L7 [wrap64 (4 + e) % 256] rfl rfl (o7.alloc _) (row_one w7 _) (by simp; omega) (by simp; omega) ?_; intro v10 w10 L10 H10 o10 _ b10; have b10' := (b7'.alloc k7 _).trans b10))
  have HONE : Hid (L10 = one h e sig) := by
    unfold Hid
    rw [H10.out, wrap_mod, H7.out, H6.out, H4.out, H3.out, H2.out, H1.out, one, sigs, HS0.out, if_pos rfl]
    simp only [List.nil_append, List.append_assoc, List.append_nil]
  have HO : Hid (Own w10 wA.heap.size v10 L10) := o10
  have HB10 : Hid (Below wA.heap.size wA w10) := b10'
  have s10 := cell_later b10' HS2.out
  clear n4 o4' o5 b5' k5 n6 o6 b6 b6' n7 k7 s7 o7 b7 b7' b10 o10 cl b10'
  refine (app32z w10.heap.size 4294967295 (by omega) (by omega) (.slice none 0 0) [] w10 (Own.nil _ _) (Nat.le_refl _) (by simp)).mono ?_
  rintro r w11 ⟨v11, rfl, o11, b11⟩
  obtain ⟨L11, H11⟩ : ∃ L, Hid (L = [] ++ le 4 4294967295) := named _
  rw [← H11.out] at o11
  have n11 : L11.length = 4 := len_app H11
  have k11 := b11.size
  go_wp2_with (at_builtin; refine append_rowL rfl (.tmp 77) (.tmp 80) rfl w10.heap.size v11 _ L11 [1] rfl rfl (o11.alloc _) (row_one w11 _) (by simp; omega) (by simp; omega) ?_; intro v12 w12 L12 H12 o12 _ b12; have n12 : L12.length = 5 := (len_app H12).trans (by rw [n11]; rfl); have b12' := (b11.alloc k11 _).trans b12; have s12 := cell_later b12' s10)
  have HRP : Hid (∀ w', Below w10.heap.size w12 w' → Row w' (.slice pa pn pc) P) := fun w' hb => HP.out.later (HA.out.trans ((HB10.out.trans ((b12'.trans hb).mono HB10.out.size)).mono HA.out.size))
  refine (output_z w10.heap.size val v12 L12 P pa pn pc w12 HPN.out hp o12 b12'.size (by omega) HRP.out).mono ?_
  rintro r w13 ⟨v13, rfl, o13, b13⟩
  obtain ⟨L13, H13⟩ : ∃ L, Hid (L = L12 ++ le 8 (val % 18446744073709551616) ++ csz pn ++ P) := named _
  rw [← H13.out] at o13
  have n13 : L13.length ≤ 1046 := by rw [H13.out]; simp only [List.length_append, le_length, HPN.out]; omega
  have b13' := b12'.trans b13
  clear n11 n12 k11 o11 b11 b12 s12 o12 b12' b13 s10 HRP
  go_wp2_with fail
  refine (app32z w10.heap.size 0 (by omega) (by omega) v13 L13 w13 o13 b13'.size (by omega)).mono ?_
  rintro r w15 ⟨v15, rfl, o15, b15⟩
  have HTWO : Hid (L13 ++ le 4 0 = two val P C) := by
    unfold Hid
    rw [H13.out, H12.out, H11.out, two, HCN.out, HPN.out, if_pos rfl, if_pos rfl]
    simp only [List.nil_append, List.append_assoc]
  rw [HTWO.out] at o15
  have HB15 : Hid (Below w10.heap.size w10 w15) := b13'.trans b15
  go_wp2
  go_ret2
  refine ⟨v10, v15, rfl, ?_, o15.base (Nat.le_trans HA.out.size HB10.out.size), HA.out.trans ((HB10.out.trans (HB15.out.mono HB10.out.size)).mono HA.out.size)⟩
  have h10 := HO.out
  rw [HONE.out] at h10
  exact (h10.later HB15.out).base HA.out.size

theorem split_any (pa ca : Option Addr) (pn pc cn cc : Nat) (sig : ByteArray) (h e val : Int) (P C : List Int) (w : World)
    (hh : h < 9223372036854775808) (hsig : sig.size ≤ 1024) (hpn : P.length = pn) (hcn : C.length = cn) (hp : pn ≤ 1024) (hc : cn ≤ 1024)
    (hP : Row w (.slice pa pn pc) P) (hC : Row w (.slice ca cn cc) C) :
    Calls Yba.prog 5 #[.agg #[.slice pa pn pc, .string sig], .int .i64 h, .int .i64 e, .int .i64 val, .slice ca cn cc] w fun r w' =>
      ∃ v1 v2, r = .returned (.tuple #[v1, v2]) ∧ Own w' w.heap.size v1 (one h e sig) ∧ Own w' w.heap.size v2 (two val P C) ∧ Below w.heap.size w w' := by
  by_cases h1 : sig.size = 0
  · by_cases h2 : cn = 0
    · exact split_nn pa ca pn pc cn cc sig h e val P C w hh hsig hpn hcn hp hc hP hC h1 h2
    · exact split_nc pa ca pn pc cn cc sig h e val P C w hh hsig hpn hcn hp hc hP hC h1 (by omega)
  · by_cases h2 : cn = 0
    · exact split_sn pa ca pn pc cn cc sig h e val P C w hh hsig hpn hcn hp hc hP hC (by omega) h2
    · exact split_sc pa ca pn pc cn cc sig h e val P C w hh hsig hpn hcn hp hc hP hC (by omega) (by omega)
end Go.Proofs.Ybulkaqeu
